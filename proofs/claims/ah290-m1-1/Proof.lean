import JvmDerived
import JvmDerived.Pilot.@@N@@Statement
import JvmDerived.Pilot.@@N@@Code
set_option linter.unusedVariables false
set_option linter.unusedSimpArgs false
namespace Jvm.RoadKit
open Sem ClassFile Op Lib Jvm.Stand Jvm.Free Jvm.LawKit
/-- own: from A the walk comes to its end, and there R holds -/
def OwnGo (tb : Tables) (e : Env) (below : List Frame) (R : State → Outcome → Prop) (A : State) : Prop := ∃ s₂ o, Steps tb e below A s₂ ∧ s₂.status = .running ∧ Ended s₂ below o ∧ R s₂ o
theorem OwnGo.fwd {tb : Tables} {e : Env} {below : List Frame} {R : State → Outcome → Prop} {A B : State} (h : ∀ t, Steps tb e below B t → Steps tb e below A t) (k : OwnGo tb e below R B) : OwnGo tb e below R A := by
  obtain ⟨s, o, h1, h2⟩ := k
  exact ⟨s, o, h s h1, h2⟩
theorem OwnGo.thru {tb : Tables} {e : Env} {below : List Frame} {R : State → Outcome → Prop} {A B : State} (h : Steps tb e below A B) (k : OwnGo tb e below R B) : OwnGo tb e below R A := k.fwd fun _ q => h.trans q
/-- own: what a body leaves -/
def OwnEnd (s : State) (Q : Option Value → Heap → List Loc → Prop) (k n : Nat) : State → Outcome → Prop := fun U o => ∃ v L, o = .returned v ∧ Q v U.heap L ∧ FrameEnd s o U L k n
section OwnLeaf
variable {p : Program} {l : Launch} {e : Env} {R : Room} {s : State} {m : MethodId} {args : Array Value} {below : List Frame} {meth : Method} {c : Code} {T : State} {locs : List Loc} {cells slots : Nat} {Z : State} {a0 : Array Value} {h : Heap} {Q : Option Value → Heap → List Loc → Prop} {k n : Nat}
theorem own_leaf (X : Stand p l e R s m args below meth c T locs cells slots) (hlk : meth.locks = false) {v : Option Value} (hv : meth.sig.returnType = none → v = none) {g : JFrame} (hc : cells ≤ k) (hs : slots ≤ n) (eT : T.heap = h) (hQ : Q v h locs)
    (hl : ∀ fs, (∀ (f : JFrame) (acts : List Action), f.method = m → f.locked = none → f.entered = [] → (doReturn e (T.setTop f) acts v).1 = T.setFrames fs) → Steps p.tables e below (T.setTop g) (T.setFrames fs)) :
    OwnGo p.tables e below (OwnEnd s Q k n) (T.setTop g) := by
  obtain ⟨fs, hr, hrun, hended, hW, hsame⟩ := X.leave (v := v) hv hlk
  refine ⟨_, _, hl fs hr, hrun, hended, _, _, rfl, ?_, ⟨_, rfl⟩, hW, hsame.mono hc hs⟩
  show Q v T.heap locs
  rw [eT]; exact hQ
theorem own_retI (X : Stand p l e R s m args below meth c T locs cells slots) (hlk : meth.locks = false) (hx : p.tables.exec = Jvm.exec) {pc : Nat} {Ls : Array Slot} {z : Int32} {rest : List Value} (hret : meth.sig.returnType = some .int) (hd : decode c.code pc = .ok (.ireturn, 1)) (hc : cells ≤ k) (hs : slots ≤ n) (eT : T.heap = h) (hQ : Q (some (.int z)) h locs) :
    OwnGo p.tables e below (OwnEnd s Q k n) (T.setTop (mkF m pc Ls (.int z :: rest))) := by
  refine own_leaf X hlk (fun q => by rw [hret] at q; cases q) hc hs eT hQ fun fs hl => ?_
  have hm' : T.vm.method? m = some meth := X.method'
  have hn : narrow .int (.int z) = .int z := rfl
  show Steps p.tables e below (T.setTop { method := m, pc := pc, locals := Ls, stack := _ :: rest, locked := none }) _
  jvm_step X.here [X.here.top, hx, hd, hm', hret, hn]
  first | (intro acts; rw [hl _ acts rfl rfl rfl]) | rw [hl _ _ rfl rfl rfl]
  exact Steps.refl _
theorem own_retZ (X : Stand p l e R s m args below meth c T locs cells slots) (hlk : meth.locks = false) (hx : p.tables.exec = Jvm.exec) {pc : Nat} {Ls : Array Slot} {z : Int32} {rest : List Value} (hret : meth.sig.returnType = some .boolean) (hd : decode c.code pc = .ok (.ireturn, 1)) (hc : cells ≤ k) (hs : slots ≤ n) (eT : T.heap = h) (hQ : Q (some (.int (nar .boolean z))) h locs) :
    OwnGo p.tables e below (OwnEnd s Q k n) (T.setTop (mkF m pc Ls (.int z :: rest))) :=
  own_leaf X hlk (fun q => by rw [hret] at q; cases q) hc hs eT hQ fun fs hl => retN X hx (t := .boolean) hret (by simp) hd hl
theorem own_retJ (X : Stand p l e R s m args below meth c T locs cells slots) (hlk : meth.locks = false) (hx : p.tables.exec = Jvm.exec) {pc : Nat} {Ls : Array Slot} {z : Int64} (hret : meth.sig.returnType = some .long) (hd : decode c.code pc = .ok (.lreturn, 1)) (hc : cells ≤ k) (hs : slots ≤ n) (eT : T.heap = h) (hQ : Q (some (.long z)) h locs) :
    OwnGo p.tables e below (OwnEnd s Q k n) (T.setTop (mkF m pc Ls [.long z])) :=
  own_leaf X hlk (fun q => by rw [hret] at q; cases q) hc hs eT hQ fun fs hl => X.lreturnOut hx hret hd hl
theorem own_retV (X : Stand p l e R s m args below meth c T locs cells slots) (hlk : meth.locks = false) (hx : p.tables.exec = Jvm.exec) {pc : Nat} {Ls : Array Slot} (hret : meth.sig.returnType = none) (hd : decode c.code pc = .ok (.return_, 1)) (hc : cells ≤ k) (hs : slots ≤ n) (eT : T.heap = h) (hQ : Q none h locs) :
    OwnGo p.tables e below (OwnEnd s Q k n) (T.setTop (mkF m pc Ls [])) :=
  own_leaf X hlk (fun _ => rfl) hc hs eT hQ fun fs hl => X.returnOut hx hret hd hl
theorem own_retA (X : Stand p l e R s m args below meth c T locs cells slots) (hlk : meth.locks = false) (hx : p.tables.exec = Jvm.exec) {pc : Nat} {Ls : Array Slot} {w : Value} {rest : List Value} {t : FieldType} (hret : meth.sig.returnType = some t) (ht : t.isReference = true) (hw : w.isRef = true) (hd : decode c.code pc = .ok (.areturn, 1)) (hc : cells ≤ k) (hs : slots ≤ n) (eT : T.heap = h) (hQ : Q (some w) h locs) :
    OwnGo p.tables e below (OwnEnd s Q k n) (T.setTop (mkF m pc Ls (w :: rest))) :=
  own_leaf X hlk (fun q => by rw [hret] at q; cases q) hc hs eT hQ fun fs hl => retOut X hx hret (by cases t <;> first | (cases ht; done) | rfl) (Or.inr (Or.inr (Or.inr (Or.inr ⟨rfl, ht, hw⟩)))) hd hl
theorem own_retD (X : Stand p l e R s m args below meth c T locs cells slots) (hlk : meth.locks = false) (hx : p.tables.exec = Jvm.exec) {pc : Nat} {Ls : Array Slot} {z : UInt64} {rest : List Value} (hret : meth.sig.returnType = some .double) (hd : decode c.code pc = .ok (.dreturn, 1)) (hc : cells ≤ k) (hs : slots ≤ n) (eT : T.heap = h) (hQ : Q (some (.double z)) h locs) :
    OwnGo p.tables e below (OwnEnd s Q k n) (T.setTop (mkF m pc Ls (.double z :: rest))) :=
  own_leaf X hlk (fun q => by rw [hret] at q; cases q) hc hs eT hQ fun fs hl => retOut X hx hret rfl (Or.inr (Or.inr (Or.inl ⟨rfl, rfl, _, rfl⟩))) hd hl
/-! own: int arrays, by a function of the place -/
def OwnIA (Z : State) (h : Heap) (a : Addr) (n : Nat) (f : Nat → Int32) : Prop := ∃ c : Cell, Arr Z h a c .int ∧ c.slots.size = n ∧ n < 2147483648 ∧ ∀ i, i < n → c.slots[i]? = some (.int (f i))
theorem OwnIA.lt {a : Addr} {n : Nat} {f : Nat → Int32} (F : OwnIA Z h a n f) : a < h.size := by obtain ⟨c, A, -⟩ := F; exact A.lt
theorem OwnIA.ext {h' : Heap} {a : Addr} {n : Nat} {f : Nat → Int32} (F : OwnIA Z h a n f) (E : Ext h h') : OwnIA Z h' a n f := by obtain ⟨c, A, r⟩ := F; exact ⟨c, A.ext E, r⟩
theorem OwnIA.other {h' : Heap} {a b : Addr} {n sl : Nat} {v : Value} {f : Nat → Int32} (F : OwnIA Z h b n f) (W : Wr h h' a sl v) (q : b ≠ a) : OwnIA Z h' b n f := by obtain ⟨c, A, r⟩ := F; exact ⟨c, A.other W q, r⟩
theorem OwnIA.keep {h' : Heap} {ws : List Addr} {a : Addr} {n : Nat} {f : Nat → Int32} (F : OwnIA Z h a n f) (K : Keep h h' ws) (q : a ∉ ws) : OwnIA Z h' a n f := by obtain ⟨c, A, r⟩ := F; exact ⟨c, ⟨K.2.1 a c A.1 q, A.2⟩, r⟩
theorem OwnIA.eqv {a : Addr} {n : Nat} {f f' : Nat → Int32} (F : OwnIA Z h a n f) (q : ∀ i, i < n → f i = f' i) : OwnIA Z h a n f' := by obtain ⟨c, A, r1, r2, r3⟩ := F; exact ⟨c, A, r1, r2, fun i hi => by rw [r3 i hi, q i hi]⟩
theorem own_clamp {j : Int32} {i : Nat} (hj : j.toInt = i) : j.toNatClampNeg = i := by simp only [Int32.toNatClampNeg]; omega
theorem own_inb {c : Cell} {j : Int32} {i n : Nat} (S : c.slots.size = n) (hj : j.toInt = i) (hi : i < n) : ¬ (j < 0 ∨ c.slots.size ≤ j.toNatClampNeg) := by
  rw [own_clamp hj, S]; simp only [Int32.lt_iff_toInt_lt, Int32.reduceToInt]; omega
theorem OwnIA.new {a : Addr} {k : ClassId} {z : Int32} {i : Nat} (A : Arr Z h a (newA k .int z) .int) (hz : z.toInt = i) : OwnIA Z h a i (fun _ => 0) := by
  have q := own_clamp hz
  have r := rng32 z
  exact ⟨_, A, by rw [sz_new]; exact q, by omega, fun j hj => by simp [newA, q, hj, defaultValue]⟩
theorem own_len (X : Stand p l e R s m args below meth c T locs cells slots) (hx : p.tables.exec = Jvm.exec) (hZ : Z.Warmed39 s.vm) (eT : T.heap = h) {a : Addr} {n : Nat} {f : Nat → Int32} (V : OwnIA Z h a n f) {g : JFrame} (hg : g.method = m) {rest : List Value} (hs : g.stack = .ref a :: rest) (hd : decode c.code g.pc = .ok (.arraylength, 1)) :
    ∀ target, Steps p.tables e below (T.setTop { g with pc := g.pc + 1, stack := .int (Int32.ofNat n) :: rest }) target → Steps p.tables e below (T.setTop g) target := by
  obtain ⟨cl, A, S, -⟩ := V
  subst S
  exact X.arraylength hx (by rw [eT]; exact A.1) (State.isArrayOf_alike hZ.alike A.2.1) hg hs hd
theorem own_iaload (X : Stand p l e R s m args below meth c T locs cells slots) (hx : p.tables.exec = Jvm.exec) (hZ : Z.Warmed39 s.vm) (eT : T.heap = h) {a : Addr} {n : Nat} {f : Nat → Int32} (V : OwnIA Z h a n f) {j : Int32} {i : Nat} (hj : j.toInt = i) (hi : i < n) {g : JFrame} (hg : g.method = m) {rest : List Value} (hs : g.stack = .int j :: .ref a :: rest) (hd : decode c.code g.pc = .ok (.iaload, 1)) :
    ∀ target, Steps p.tables e below (T.setTop { g with pc := g.pc + 1, stack := .int (f i) :: rest }) target → Steps p.tables e below (T.setTop g) target := by
  obtain ⟨cl, A, S, -, H⟩ := V
  exact X.iaload hx (by rw [eT]; exact A.1) (State.isArrayOf_alike hZ.alike A.2.1) A.2.2 (own_inb S hj hi) (by rw [own_clamp hj]; exact H i hi) hg hs hd
theorem own_iastore (X : Stand p l e R s m args below meth c T locs cells slots) (hx : p.tables.exec = Jvm.exec) (hZ : Z.Warmed39 s.vm) (eT : T.heap = h) {a : Addr} {n : Nat} {f : Nat → Int32} (V : OwnIA Z h a n f) {j x : Int32} {i : Nat} (hj : j.toInt = i) (hi : i < n) {g : JFrame} (hg : g.method = m) {rest : List Value} (hs : g.stack = .int x :: .int j :: .ref a :: rest) (hd : decode c.code g.pc = .ok (.iastore, 1)) :
    ∃ T' h', Stand p l e R s m args below meth c T' (locs ++ [⟨a, i⟩]) cells slots ∧ T'.heap = h' ∧ Wr h h' a i (.int x) ∧ OwnIA Z h' a n (fun k => if k = i then x else f k) ∧ ∀ target, Steps p.tables e below (T'.setTop { g with pc := g.pc + 1, stack := rest }) target → Steps p.tables e below (T.setTop g) target := by
  obtain ⟨cl, A, S, N, H⟩ := V
  obtain ⟨T', h', X', e', W, st⟩ := stI X hx hZ eT A (own_inb S hj hi) hg hs hd
  rw [own_clamp hj] at X' W
  refine ⟨T', h', X', e', W, ⟨_, A.same W, by rw [sz_set]; exact S, N, fun k hk => ?_⟩, st⟩
  by_cases q : k = i
  · subst q; simp [Cell.setSlot, S, hk]
  · simp only [Cell.setSlot, if_neg q]; rw [Array.getElem?_setIfInBounds_ne (Ne.symm q)]; exact H k hk
theorem own_newI (X : Stand p l e R s m args below meth c T locs cells slots) (hx : p.tables.exec = Jvm.exec) (hZ : Z.Warmed39 s.vm) (w : (Cond.arrayClass .int).before a0 Z = true) (eT : T.heap = h) {g : JFrame} (hg : g.method = m) (hd : decode c.code g.pc = .ok (.newarray .int, 2)) {z : Int32} {i : Nat} {rest : List Value} (hs : g.stack = .int z :: rest)
    (hz : z.toInt = i) {cap : Nat} (hcap : i ≤ cap) (hb : cap * 8 ≤ 536870912) (hc : cells + 1 ≤ R.cells) (hl : slots + cap ≤ R.slots) :
    ∃ T' h' a, Stand p l e R s m args below meth c T' locs (cells + 1) (slots + cap) ∧ T'.heap = h' ∧ Ext h h' ∧ a = h.size ∧ OwnIA Z h' a i (fun _ => 0) ∧ ∀ target, Steps p.tables e below (T'.setTop { g with pc := g.pc + 2, stack := .ref a :: rest }) target → Steps p.tables e below (T.setTop g) target := by
  have q := own_clamp hz
  obtain ⟨T', h', cA, X', e', E, A, st⟩ := newP X hx hZ (aty := .int) w eT hg hd hs (by simp only [Int32.lt_iff_toInt_lt, Int32.reduceToInt]; omega) (cap := cap) (by omega) hb hc hl
  exact ⟨T', h', _, X', e', E, rfl, OwnIA.new A hz, st⟩
end OwnLeaf
/-! own: branches, by the ints' own numbers -/
theorem own_blt {x y : Int32} {a b : Int} (hx : x.toInt = a) (hy : y.toInt = b) (h : a < b) : if_icmp.holds .lt x y = true ∧ if_icmp.holds .ge x y = false ∧ if_icmp.holds .gt y x = true ∧ if_icmp.holds .le y x = false := tlt (by rw [Int32.lt_iff_toInt_lt]; omega)
theorem own_bnlt {x y : Int32} {a b : Int} (hx : x.toInt = a) (hy : y.toInt = b) (h : ¬ a < b) : if_icmp.holds .lt x y = false ∧ if_icmp.holds .ge x y = true ∧ if_icmp.holds .gt y x = false ∧ if_icmp.holds .le y x = true := flt (by rw [Int32.lt_iff_toInt_lt]; omega)
theorem own_beq {x y : Int32} {a b : Int} (hx : x.toInt = a) (hy : y.toInt = b) (h : a = b) : if_icmp.holds .eq x y = true ∧ if_icmp.holds .ne x y = false := teq (Int32.toInt_inj.mp (by omega))
theorem own_bneq {x y : Int32} {a b : Int} (hx : x.toInt = a) (hy : y.toInt = b) (h : ¬ a = b) : if_icmp.holds .eq x y = false ∧ if_icmp.holds .ne x y = true := feq fun q => h (by rw [← hx, ← hy, q])
theorem own_Llt {x y : Int64} {a b : Int} (hx : x.toInt = a) (hy : y.toInt = b) (h : a < b) : ifCond.holds .lt (lcmpW x y) = true ∧ ifCond.holds .ge (lcmpW x y) = false := by
  have q : x < y := by rw [Int64.lt_iff_toInt_lt]; omega
  rw [if0, if0]; exact ⟨(tlt ((lw_lt x y).mpr q)).1, (tlt ((lw_lt x y).mpr q)).2.1⟩
theorem own_Lnlt {x y : Int64} {a b : Int} (hx : x.toInt = a) (hy : y.toInt = b) (h : ¬ a < b) : ifCond.holds .lt (lcmpW x y) = false ∧ ifCond.holds .ge (lcmpW x y) = true := by
  have q : ¬ x < y := by rw [Int64.lt_iff_toInt_lt]; omega
  rw [if0, if0]; exact ⟨(flt (fun r => q ((lw_lt x y).mp r))).1, (flt (fun r => q ((lw_lt x y).mp r))).2.1⟩
theorem own_Lgt {x y : Int64} {a b : Int} (hx : x.toInt = a) (hy : y.toInt = b) (h : b < a) : ifCond.holds .gt (lcmpW x y) = true ∧ ifCond.holds .le (lcmpW x y) = false := by
  have q : y < x := by rw [Int64.lt_iff_toInt_lt]; omega
  rw [if0, if0]; exact ⟨(tlt ((lw_gt x y).mpr q)).2.2.1, (tlt ((lw_gt x y).mpr q)).2.2.2⟩
theorem own_Lngt {x y : Int64} {a b : Int} (hx : x.toInt = a) (hy : y.toInt = b) (h : ¬ b < a) : ifCond.holds .gt (lcmpW x y) = false ∧ ifCond.holds .le (lcmpW x y) = true := by
  have q : ¬ y < x := by rw [Int64.lt_iff_toInt_lt]; omega
  rw [if0, if0]; exact ⟨(flt (fun r => q ((lw_gt x y).mp r))).2.2.1, (flt (fun r => q ((lw_gt x y).mp r))).2.2.2⟩
theorem own_Leq {x y : Int64} {a b : Int} (hx : x.toInt = a) (hy : y.toInt = b) (h : a = b) : ifCond.holds .eq (lcmpW x y) = true ∧ ifCond.holds .ne (lcmpW x y) = false := by
  have q : x = y := Int64.toInt_inj.mp (by omega)
  rw [if0, if0]; exact teq ((lw_eq x y).mpr q)
theorem own_Lneq {x y : Int64} {a b : Int} (hx : x.toInt = a) (hy : y.toInt = b) (h : ¬ a = b) : ifCond.holds .eq (lcmpW x y) = false ∧ ifCond.holds .ne (lcmpW x y) = true := by
  have q : ¬ x = y := fun r => h (by rw [← hx, ← hy, r])
  rw [if0, if0]; exact feq fun r => q ((lw_eq x y).mp r)
theorem own_ofNat {i : Nat} (h : i < 2147483648) : (Int32.ofNat i).toInt = (i : Int) := Int32.toInt_ofNat_small h
theorem own_ofNatS (i : Nat) : Int32.ofNat i + 1 = Int32.ofNat (i + 1) := (Int32.ofNat_add i 1).symm
theorem own_fieldInt {args : Array Value} {s : State} {t : Term} {C n d : String} {k : Int32} {w : Addr} (ht : t.eval args s none [] s = some (.ref w)) (h : (Jvm.Cond.eq (.field t C n d) (.int k)).value args s none s [] = some true) : Fld s s.heap w C n d (.int k) := by
  apply Fld.start
  obtain ⟨x, y, hx, hy, -, k2⟩ := cmp_v (Or.inl h)
  have hy' : y = .int k := Option.some.inj (hy.symm.trans (Term.int_eval k))
  subst hy'
  obtain ⟨z, rfl⟩ : ∃ z, x = .int z := k2
  have q := gotT (Cond.eq_ints hx hy) h
  subst q
  rw [← fld_at ht]; exact hx
end Jvm.RoadKit
namespace Jvm.RoadKit
open Sem ClassFile Op Lib Jvm.Stand Jvm.Free Jvm.LawKit
/-- own: the cache of small Integers, as the heap holds it -/
def OwnIC (Z : State) (h : Heap) : Prop := ∃ (ca : Addr) (cl : Cell), Sta Z h "java/lang/Integer$IntegerCache" "high" "I" (.int 127) ∧ Sta Z h "java/lang/Integer$IntegerCache" "cache" "[Ljava/lang/Integer;" (.ref ca) ∧ Arr Z h ca cl (.object "java/lang/Integer") ∧ cl.slots.size = 256 ∧ ∀ i, i < 256 → ∃ r, cl.slots[i]? = some (.ref r) ∧ Exa Z h r "java/lang/Integer"
theorem OwnIC.ext {Z : State} {h h' : Heap} (F : OwnIC Z h) (E : Ext h h') : OwnIC Z h' := by
  obtain ⟨ca, cl, S1, S2, A, sz, el⟩ := F
  exact ⟨ca, cl, S1.ext E, S2.ext E, A.ext E, sz, fun i hi => by obtain ⟨r, e, X⟩ := el i hi; exact ⟨r, e, X.ext E⟩⟩
theorem own_kext {h0 h : Heap} (K : Keep h0 h []) : Ext h0 h := ⟨K.1, fun x c q => K.2.1 x c q nin0⟩
theorem own_evInt {args : Array Value} {s : State} {t : Term} {k : Int32} (h : (Jvm.Cond.eq t (.int k)).value args s none s [] = some true) : t.eval args s none [] s = some (.int k) := by
  obtain ⟨x, y, hx, hy, -, k2⟩ := cmp_v (Or.inl h)
  have hy' : y = .int k := Option.some.inj (hy.symm.trans (Term.int_eval k))
  subst hy'
  obtain ⟨z, rfl⟩ : ∃ z, x = .int z := k2
  have q := gotT (Cond.eq_ints hx hy) h
  subst q
  exact hx
theorem own_ICstart {args : Array Value} {s : State} (h1 : (Jvm.Cond.initializedFor "java/lang/Integer$IntegerCache" "high" "I").before args s = true) (h2 : (Jvm.Cond.laysStatic "java/lang/Integer$IntegerCache" "cache" "[Ljava/lang/Integer;").before args s = true) (h3 : (Jvm.Cond.eq (.static "java/lang/Integer$IntegerCache" "high" "I") (.int 127)).before args s = true)
    (h4 : (Jvm.Cond.arrayOf (.static "java/lang/Integer$IntegerCache" "cache" "[Ljava/lang/Integer;") (.object "java/lang/Integer")).before args s = true) (h6 : (Jvm.Cond.eq (.length (.static "java/lang/Integer$IntegerCache" "cache" "[Ljava/lang/Integer;")) (.int 256)).before args s = true)
    {c2 : Jvm.Cond} (h7 : (Jvm.Cond.all (.static "java/lang/Integer$IntegerCache" "cache" "[Ljava/lang/Integer;") (.and (.exactly (.elem (.static "java/lang/Integer$IntegerCache" "cache" "[Ljava/lang/Integer;") (.index 0)) "java/lang/Integer") c2)).before args s = true) (hi : (Jvm.Cond.initialized "java/lang/Integer$IntegerCache").before args s = true) : OwnIC s s.heap := by
  have e3 := own_evInt (Cond.before_iff.mp h3)
  obtain ⟨ca, ev⟩ := arr_v (Cond.before_iff.mp h4)
  obtain ⟨cl, A⟩ := Arr.start ev (Cond.before_iff.mp h4)
  obtain ⟨l1, l2⟩ := IntBox.length_fwd h6 ev A.1 A.2.1 A.2.2
  have at' := IntBox.arrayAt_of A.1 A.2.1 A.2.2
  have sz : cl.slots.size = 256 := by
    have q := congrArg Int32.toInt l2
    rw [len_toInt l1] at q
    have e : (256 : Int32).toInt = 256 := by decide
    omega
  refine ⟨ca, cl, Sta.start e3 (Or.inl h1), Sta.start ev (Or.inr ⟨hi, h2⟩), A, sz, fun i hi' => ?_⟩
  have q := (and_e (Cond.all_elim ev at' (Cond.before_iff.mp h7) i (by omega))).1
  have ei : (Term.index 0).eval args s none (i :: []) s = some (.int i.toInt32) := rfl
  obtain ⟨a', c', cell, k, e1, e2, e3', e4, e5, e6, e7⟩ := Cond.exactly_spec (beq_iff_eq.mpr q : (Cond.exactly _ _).holds args s none s (i :: []) = true)
  have evI : (Term.static "java/lang/Integer$IntegerCache" "cache" "[Ljava/lang/Integer;").eval args s none (i :: []) s = some (.ref ca) := ev
  obtain ⟨c3, g1, g2, g3⟩ := elem_at e1 evI ei
  cases A.1.symm.trans g1
  refine ⟨a', ?_, ⟨cell, k, e3', e6 ▸ e2, e6 ▸ e4, e5, e7⟩⟩
  have ix : i.toInt32.toNatClampNeg = i := own_clamp (len_toInt (by omega))
  rw [ix] at g3; exact g3
/-- own: no object of C is one of the ordinary class K -/
theorem own_NSroot {Z : State} {a0 : Array Value} {O K : String} {n : Nat} (w : (Cond.noSuperclass O).before a0 Z = true) (wk : (Cond.instantiable K n).before a0 Z = true) (hn : O ≠ K) : NS Z O K := by
  obtain ⟨c, k, h1, h2, h3, -, -⟩ := Cond.noSuperclass_spec w
  obtain ⟨t, _, g1, -⟩ := Cond.instantiable_spec wk
  have ne := ids_ne h1 g1 hn
  refine ⟨c, t, h1, g1, fun fuel => ?_⟩
  cases fuel with
  | zero => rfl
  | succ f => simp [Vm.isSubclassAux, ne, h2, h3]
theorem own_NSno {Z : State} {a0 : Array Value} {C S K : String} {n : Nat} (w : (Cond.superclass C S).before a0 Z = true) (wk : (Cond.instantiable K n).before a0 Z = true) (nn : NS Z C K) (hn : C ≠ K) : ∃ c t, Z.vm.findClass C = some c ∧ Z.vm.findClass K = some t ∧ Z.vm.assignable c t = false := by
  obtain ⟨c, t, h0, g0, n3⟩ := nn
  obtain ⟨p, k, kp, h1, h2, h3, h4, h5, -, h7⟩ := Cond.superclass_spec h0 w
  obtain ⟨t', k', g1, g2, g3, g4, -⟩ := Cond.instantiable_spec wk
  cases g0.symm.trans g1
  have ne := ids_ne h0 g0 hn
  have g7 : k'.isInterface = false := by simp only [Bool.or_eq_false_iff] at g4; exact g4.1
  refine ⟨c, t, h0, g0, ?_⟩
  show Z.vm.assignableAux (255 + 1) c t = false
  simp [Vm.assignableAux, ne, h2, g2, h5, g3, g7, Vm.isSubclass, n3]
end Jvm.RoadKit
namespace Jvm.RoadKit
open Sem ClassFile Op Lib Jvm.Stand Jvm.Free Jvm.LawKit
theorem own_selp {s : State} {args : Array Value} {y : MethodName} {kk : Nat} (wi : (Cond.instantiable y.cls kk).before args s = true) (hp : s.PrivateAt y) (win : (Cond.instanceMethod y).before args s = true) (hy : y.cls ≠ "java/lang/invoke/MethodHandle" ∧ y.cls ≠ "java/lang/invoke/VarHandle") : (Cond.selects y.cls y y).before args s = true := by
  obtain ⟨c, k, h1, h2, -, h4, -⟩ := Cond.instantiable_spec wi
  exact selects_self_of_private h1 h2 (by simp only [Bool.or_eq_false_iff] at h4; exact h4.1) hp win hy
end Jvm.RoadKit
namespace Jvm.RoadKit
open Sem ClassFile Op Lib Jvm.Stand Jvm.Free Jvm.LawKit
section OwnMore
variable {p : Program} {l : Launch} {e : Env} {R : Room} {s : State} {m : MethodId} {args : Array Value} {below : List Frame} {meth : Method} {c : Code} {T : State} {locs : List Loc} {cells slots : Nat} {Z : State} {a0 : Array Value} {h h' : Heap} {Q : Option Value → Heap → List Loc → Prop} {k n : Nat}
/-! own: arrays of chars and of bytes, by a function of the place -/
def OwnPA (Z : State) (h : Heap) (a : Addr) (ty : FieldType) (n : Nat) (f : Nat → Int32) : Prop := ∃ c : Cell, Arr Z h a c ty ∧ c.slots.size = n ∧ n < 2147483648 ∧ ∀ i, i < n → c.slots[i]? = some (.int (f i))
variable {a b : Addr} {ty : FieldType} {f : Nat → Int32}
theorem OwnPA.lt (F : OwnPA Z h a ty n f) : a < h.size := by obtain ⟨c, A, -⟩ := F; exact A.lt
theorem OwnPA.ext (F : OwnPA Z h a ty n f) (E : Ext h h') : OwnPA Z h' a ty n f := by obtain ⟨c, A, r⟩ := F; exact ⟨c, A.ext E, r⟩
theorem OwnPA.other {sl : Nat} {v : Value} (F : OwnPA Z h b ty n f) (W : Wr h h' a sl v) (q : b ≠ a) : OwnPA Z h' b ty n f := by obtain ⟨c, A, r⟩ := F; exact ⟨c, A.other W q, r⟩
theorem OwnPA.keep {ws : List Addr} (F : OwnPA Z h a ty n f) (K : Keep h h' ws) (q : a ∉ ws) : OwnPA Z h' a ty n f := by obtain ⟨c, A, r⟩ := F; exact ⟨c, ⟨K.2.1 a c A.1 q, A.2⟩, r⟩
theorem own_lenP (X : Stand p l e R s m args below meth c T locs cells slots) (hx : p.tables.exec = Jvm.exec) (hZ : Z.Warmed39 s.vm) (eT : T.heap = h) (V : OwnPA Z h a ty n f) {g : JFrame} (hg : g.method = m) {rest : List Value} (hs : g.stack = .ref a :: rest) (hd : decode c.code g.pc = .ok (.arraylength, 1)) :
    ∀ target, Steps p.tables e below (T.setTop { g with pc := g.pc + 1, stack := .int (Int32.ofNat n) :: rest }) target → Steps p.tables e below (T.setTop g) target := by
  obtain ⟨cl, A, S, -⟩ := V
  subst S
  exact X.arraylength hx (by rw [eT]; exact A.1) (State.isArrayOf_alike hZ.alike A.2.1) hg hs hd
theorem own_caload (X : Stand p l e R s m args below meth c T locs cells slots) (hx : p.tables.exec = Jvm.exec) (hZ : Z.Warmed39 s.vm) (eT : T.heap = h) (V : OwnPA Z h a .char n f) {j : Int32} {i : Nat} (hj : j.toInt = i) (hi : i < n) {g : JFrame} (hg : g.method = m) {rest : List Value} (hs : g.stack = .int j :: .ref a :: rest) (hd : decode c.code g.pc = .ok (.caload, 1)) :
    ∀ target, Steps p.tables e below (T.setTop { g with pc := g.pc + 1, stack := .int (f i) :: rest }) target → Steps p.tables e below (T.setTop g) target := by
  obtain ⟨cl, A, S, -, H⟩ := V
  exact X.caload hx (by rw [eT]; exact A.1) (State.isArrayOf_alike hZ.alike A.2.1) A.2.2 (own_inb S hj hi) (by rw [own_clamp hj]; exact H i hi) hg hs hd
theorem own_paset {x y : Int32} {j : Int32} {i : Nat} {cl : Cell} (A : Arr Z h a cl ty) (S : cl.slots.size = n) (N : n < 2147483648) (H : ∀ i, i < n → cl.slots[i]? = some (.int (f i))) (hj : j.toInt = i) (hi : i < n) (W : Wr h h' a j.toNatClampNeg (.int y)) : OwnPA Z h' a ty n (fun k => if k = i then y else f k) := by
  rw [own_clamp hj] at W
  refine ⟨_, A.same W, by rw [sz_set]; exact S, N, fun k hk => ?_⟩
  by_cases q : k = i
  · subst q; simp [Cell.setSlot, S, hk]
  · simp only [Cell.setSlot, if_neg q]; rw [Array.getElem?_setIfInBounds_ne (Ne.symm q)]; exact H k hk
theorem own_castore (X : Stand p l e R s m args below meth c T locs cells slots) (hx : p.tables.exec = Jvm.exec) (hZ : Z.Warmed39 s.vm) (eT : T.heap = h) (V : OwnPA Z h a .char n f) {j x : Int32} {i : Nat} (hj : j.toInt = i) (hi : i < n) {g : JFrame} (hg : g.method = m) {rest : List Value} (hs : g.stack = .int x :: .int j :: .ref a :: rest) (hd : decode c.code g.pc = .ok (.castore, 1)) :
    ∃ T' h', Stand p l e R s m args below meth c T' (locs ++ [⟨a, i⟩]) cells slots ∧ T'.heap = h' ∧ Wr h h' a i (.int (nar .char x)) ∧ OwnPA Z h' a .char n (fun k => if k = i then nar .char x else f k) ∧ ∀ target, Steps p.tables e below (T'.setTop { g with pc := g.pc + 1, stack := rest }) target → Steps p.tables e below (T.setTop g) target := by
  obtain ⟨cl, A, S, N, H⟩ := V
  obtain ⟨T', h', X', e', W, st⟩ := stC X hx hZ eT A (own_inb S hj hi) hg hs hd
  have P := own_paset (x := x) A S N H hj hi W
  rw [own_clamp hj] at X' W
  exact ⟨T', h', X', e', W, P, st⟩
theorem own_bastore (X : Stand p l e R s m args below meth c T locs cells slots) (hx : p.tables.exec = Jvm.exec) (hZ : Z.Warmed39 s.vm) (eT : T.heap = h) (V : OwnPA Z h a .byte n f) {j x : Int32} {i : Nat} (hj : j.toInt = i) (hi : i < n) {g : JFrame} (hg : g.method = m) {rest : List Value} (hs : g.stack = .int x :: .int j :: .ref a :: rest) (hd : decode c.code g.pc = .ok (.bastore, 1)) :
    ∃ T' h', Stand p l e R s m args below meth c T' (locs ++ [⟨a, i⟩]) cells slots ∧ T'.heap = h' ∧ Wr h h' a i (.int (nar .byte x)) ∧ OwnPA Z h' a .byte n (fun k => if k = i then nar .byte x else f k) ∧ ∀ target, Steps p.tables e below (T'.setTop { g with pc := g.pc + 1, stack := rest }) target → Steps p.tables e below (T.setTop g) target := by
  obtain ⟨cl, A, S, N, H⟩ := V
  obtain ⟨T', h', X', e', W, st⟩ := stB X hx hZ eT A (own_inb S hj hi) hg hs hd
  have P := own_paset (x := x) A S N H hj hi W
  rw [own_clamp hj] at X' W
  exact ⟨T', h', X', e', W, P, st⟩
theorem own_newP (X : Stand p l e R s m args below meth c T locs cells slots) (hx : p.tables.exec = Jvm.exec) (hZ : Z.Warmed39 s.vm) {aty : ArrayType} (w : (Cond.arrayClass (newarray.typeOf aty)).before a0 Z = true) (eT : T.heap = h) {g : JFrame} (hg : g.method = m) (hd : decode c.code g.pc = .ok (.newarray aty, 2)) {z : Int32} {i : Nat} {rest : List Value} (hs : g.stack = .int z :: rest)
    (hz : z.toInt = i) (hty : newarray.typeOf aty = ty) (hdv : defaultValue ty = .int 0) {cap : Nat} (hcap : i ≤ cap) (hb : cap * 8 ≤ 536870912) (hc : cells + 1 ≤ R.cells) (hl : slots + cap ≤ R.slots) :
    ∃ T' h' a, Stand p l e R s m args below meth c T' locs (cells + 1) (slots + cap) ∧ T'.heap = h' ∧ Ext h h' ∧ a = h.size ∧ OwnPA Z h' a ty i (fun _ => 0) ∧ ∀ target, Steps p.tables e below (T'.setTop { g with pc := g.pc + 2, stack := .ref a :: rest }) target → Steps p.tables e below (T.setTop g) target := by
  have q := own_clamp hz
  have r := rng32 z
  obtain ⟨T', h', cA, X', e', E, A, st⟩ := newP X hx hZ (aty := aty) w eT hg hd hs (by simp only [Int32.lt_iff_toInt_lt, Int32.reduceToInt]; omega) (cap := cap) (by omega) hb hc hl
  subst hty
  exact ⟨T', h', _, X', e', E, rfl, ⟨_, A, by rw [sz_new]; exact q, by omega, fun j hj => by simp [newA, q, hj, hdv]⟩, st⟩
/-! own: arrays of Objects whose components are null or Longs -/
def OwnEl (Z : State) (h : Heap) (v : Value) : Prop := v = .null ∨ ∃ r, v = .ref r ∧ Exa Z h r "java/lang/Long"
theorem OwnEl.ext {v : Value} (F : OwnEl Z h v) (E : Ext h h') : OwnEl Z h' v := F.imp id fun ⟨r, e, X⟩ => ⟨r, e, X.ext E⟩
theorem OwnEl.wr {v w : Value} {sl : Nat} (F : OwnEl Z h v) (W : Wr h h' a sl w) : OwnEl Z h' v := F.imp id fun ⟨r, e, X⟩ => ⟨r, e, X.wr W⟩
theorem OwnEl.keep {v : Value} {ws : List Addr} (F : OwnEl Z h v) (K : Keep h h' ws) : OwnEl Z h' v := F.imp id fun ⟨r, e, X⟩ => ⟨r, e, X.keep K⟩
def OwnOA (Z : State) (h : Heap) (a : Addr) (n : Nat) : Prop := ∃ (k : ClassId) (vs : List Value), Arv Z h a k (.object "java/lang/Object") (Int32.ofNat n) vs .null ∧ vs.length = n ∧ n < 2147483648 ∧ (n = 0 ∨ Ovr Z k "java/lang/Object") ∧ Exa Z h a "[Ljava/lang/Object;" ∧ ∀ v ∈ vs, OwnEl Z h v
theorem OwnOA.lt (F : OwnOA Z h a n) : a < h.size := by obtain ⟨_, _, A, -⟩ := F; exact A.lt
theorem OwnOA.ext (F : OwnOA Z h a n) (E : Ext h h') : OwnOA Z h' a n := by obtain ⟨k, vs, A, r1, r2, r3, X, r4⟩ := F; exact ⟨k, vs, A.ext E, r1, r2, r3, X.ext E, fun v hv => (r4 v hv).ext E⟩
theorem OwnOA.other {sl : Nat} {v : Value} (F : OwnOA Z h b n) (W : Wr h h' a sl v) (q : b ≠ a) : OwnOA Z h' b n := by obtain ⟨k, vs, A, r1, r2, r3, X, r4⟩ := F; exact ⟨k, vs, A.other W q, r1, r2, r3, X.wr W, fun v hv => (r4 v hv).wr W⟩
theorem OwnOA.keep {ws : List Addr} (F : OwnOA Z h a n) (K : Keep h h' ws) (q : a ∉ ws) : OwnOA Z h' a n := by obtain ⟨k, vs, A, r1, r2, r3, X, r4⟩ := F; exact ⟨k, vs, A.keep K q, r1, r2, r3, X.keep K, fun v hv => (r4 v hv).keep K⟩
theorem OwnOA.exa (F : OwnOA Z h a n) : Exa Z h a "[Ljava/lang/Object;" := by obtain ⟨_, _, -, -, -, -, X, -⟩ := F; exact X
theorem own_lenO (X : Stand p l e R s m args below meth c T locs cells slots) (hx : p.tables.exec = Jvm.exec) (hZ : Z.Warmed39 s.vm) (eT : T.heap = h) (V : OwnOA Z h a n) {g : JFrame} (hg : g.method = m) {rest : List Value} (hs : g.stack = .ref a :: rest) (hd : decode c.code g.pc = .ok (.arraylength, 1)) :
    ∀ target, Steps p.tables e below (T.setTop { g with pc := g.pc + 1, stack := .int (Int32.ofNat n) :: rest }) target → Steps p.tables e below (T.setTop g) target := by
  obtain ⟨k, vs, ⟨cl, A, -, S, hn, -⟩, -, hlt, -⟩ := V
  rw [← len_of S hn]
  exact X.arraylength hx (by rw [eT]; exact A.1) (State.isArrayOf_alike hZ.alike A.2.1) hg hs hd
theorem own_clampN {n : Nat} (q : n < 2147483648) : (Int32.ofNat n).toNatClampNeg = n := own_clamp (own_ofNat q)
theorem own_nneg {n : Nat} (q : n < 2147483648) : ¬ Int32.ofNat n < 0 := by
  have e0 : (0 : Int32).toInt = 0 := rfl
  rw [Int32.lt_iff_toInt_lt, own_ofNat q, e0]; omega
theorem own_newO (X : Stand p l e R s m args below meth c T locs cells slots) (hx : p.tables.exec = Jvm.exec) (hZ : Z.Warmed39 s.vm) {own : String} {index : Nat} (hown : s.vm.findClass own = some m.cls) (w1 : (Cond.classLink own index "java/lang/Object").before a0 Z = true) (w2 : (Cond.arrayOver (.object "java/lang/Object")).before a0 Z = true)
    (eT : T.heap = h) {g : JFrame} (hg : g.method = m) (hd : decode c.code g.pc = .ok (.anewarray index, 3)) {z : Int32} {rest : List Value} (hs : g.stack = .int z :: rest) (hz : z = Int32.ofNat n) {cap : Nat} (hcap : n ≤ cap) (hb : cap * 8 ≤ 536870912) (hc : cells + 1 ≤ R.cells) (hl : slots + cap ≤ R.slots) :
    ∃ T' h' b, Stand p l e R s m args below meth c T' locs (cells + 1) (slots + cap) ∧ T'.heap = h' ∧ Ext h h' ∧ b = h.size ∧ OwnOA Z h' b n ∧ ∀ target, Steps p.tables e below (T'.setTop { g with pc := g.pc + 3, stack := .ref b :: rest }) target → Steps p.tables e below (T.setTop g) target := by
  subst hz
  have hlt : n < 2147483648 := by omega
  obtain ⟨T', h', cA, X', e', E, A, Ex, O, st⟩ := newRE X hx hZ hown w1 w2 eT hg hd hs (own_nneg hlt) (cap := cap) (by rw [own_clampN hlt]; exact hcap) hb hc hl (ad := "[Ljava/lang/Object;") rfl
  refine ⟨T', h', _, X', e', E, rfl, ⟨cA, List.replicate n .null, (Arv.new A (own_nneg hlt)).pad (pad_rep [] _ n), by simp, hlt, Or.inr O, Ex, fun v hv => Or.inl (List.eq_of_mem_replicate hv)⟩, st⟩
theorem own_stO (X : Stand p l e R s m args below meth c T locs cells slots) (hx : p.tables.exec = Jvm.exec) (hZ : Z.Warmed39 s.vm) (wc : (Cond.castable "java/lang/Long" "java/lang/Object").before a0 Z = true) (eT : T.heap = h) (V : OwnOA Z h a n) {j : Int32} {i : Nat} {v : Value} (hj : j.toInt = i) (hi : i < n) (F : OwnEl Z h v)
    {g : JFrame} (hg : g.method = m) {rest : List Value} (hs : g.stack = v :: .int j :: .ref a :: rest) (hd : decode c.code g.pc = .ok (.aastore, 1)) :
    ∃ T' h', Stand p l e R s m args below meth c T' (locs ++ [⟨a, i⟩]) cells slots ∧ T'.heap = h' ∧ Wr h h' a i v ∧ OwnOA Z h' a n ∧ ∀ target, Steps p.tables e below (T'.setTop { g with pc := g.pc + 1, stack := rest }) target → Steps p.tables e below (T.setTop g) target := by
  obtain ⟨k, vs, ⟨cl, A, q1, S, q3, H, G⟩, r1, r2, r3, Ex, r4⟩ := V
  rw [own_clampN r2] at S
  have O : Ovr Z k "java/lang/Object" := r3.resolve_left (by omega)
  have F' : Sto Z h a v := F.elim Or.inl fun ⟨r, e, E⟩ => e ▸ Sto.of A (q1 ▸ O) (Ins.of_exa E wc)
  have hv : fits (.object "java/lang/Object") v = true := by rcases F with rfl | ⟨r, rfl, -⟩ <;> rfl
  obtain ⟨T', h', X', e', W, st⟩ := stR X hx hZ eT A (own_inb S hj hi) rfl F' hg hs hd
  have P := Arv.set A q1 (z := Int32.ofNat n) (by rw [own_clampN r2]; exact S) q3 H G hv W i (own_clamp hj) (by omega)
  rw [own_clamp hj] at X' W
  refine ⟨T', h', X', e', W, ⟨k, _, P, by rw [List.length_set]; exact r1, r2, r3, Ex.wr W, fun u hu => ?_⟩, st⟩
  rcases List.mem_or_eq_of_mem_set hu with hu | rfl
  · exact (r4 u hu).wr W
  · exact F.wr W
theorem own_StoL {cl : Cell} {us : List Value} (A : Arr Z h a cl ty) (O : Ovr Z cl.cls "java/lang/Object") (wc : (Cond.castable "java/lang/Long" "java/lang/Object").before a0 Z = true) (H : ∀ v ∈ us, OwnEl Z h v) : StoL Z h a us := by
  induction us with
  | nil => trivial
  | cons v r ih => exact ⟨(H v (List.mem_cons_self ..)).elim Or.inl fun ⟨x, e, E⟩ => e ▸ Sto.of A O (Ins.of_exa E wc), ih fun u hu => H u (List.mem_cons_of_mem _ hu)⟩
theorem own_cpO (X : Stand p l e R s m args below meth c T locs cells slots) (hx : p.tables.exec = Jvm.exec) (hZ : Z.Warmed39 s.vm) {own : String} {index : Nat} (hown : s.vm.findClass own = some m.cls)
    (w1 : (Cond.methodLink own index Jvm.Stand.acN).before a0 Z = true) (w2 : (Cond.native Jvm.Stand.acN).before a0 Z = true) (w3 : (Cond.static Jvm.Stand.acN).before a0 Z = true) (w4 : (Cond.initialized "java/lang/System").before a0 Z = true) (wc : (Cond.castable "java/lang/Long" "java/lang/Object").before a0 Z = true) (eT : T.heap = h)
    {n1 n2 q : Nat} (A : OwnOA Z h a n1) (B : OwnOA Z h b n2) (h1 : q ≤ n1) (h2 : q ≤ n2) {n0 : Nat} (N : Fr n0 locs) (ge : n0 ≤ b)
    {g : JFrame} (hg : g.method = m) (hsize : g.locals.size = c.maxLocals) {rest : List Value} (hs : g.stack = .int (Int32.ofNat q) :: .int 0 :: .ref b :: .int 0 :: .ref a :: rest) (hd : decode c.code g.pc = .ok (.invokestatic index, 3))
    (hf : 1 ≤ R.frames) {W : Nat} (hW : 2 * g.monitorRoom + (rest.map fun v => v.category).sum ≤ W) (hlo : W + (nativeFrameWords "java/lang/System" "arraycopy" 5 + 11) ≤ R.locals) :
    ∃ T' h' L, Stand p l e R s m args below meth c T' L cells slots ∧ T'.heap = h' ∧ Fr n0 L ∧ Keep h h' [b] ∧ OwnOA Z h' b n2 ∧
      ∀ target, Steps p.tables e below (T'.setTop { g with pc := g.pc + 3, stack := rest }) target → Steps p.tables e below (T.setTop g) target := by
  obtain ⟨k, vs, A, r1, r2, r3, Ex, r4⟩ := A
  obtain ⟨k', vd, B, t1, t2, t3, Ey, t4⟩ := B
  have hq : q < 2147483648 := by omega
  have us : ∀ v ∈ (List.range q).map (fun i => vs.getD ((0 : Int32).toNatClampNeg + i) .null), OwnEl Z h v := fun v hv => by
    obtain ⟨i, -, rfl⟩ := List.mem_map.mp hv
    by_cases hi : (0 : Int32).toNatClampNeg + i < vs.length
    · rw [List.getD_eq_getElem?_getD, List.getElem?_eq_getElem hi]; exact r4 _ (List.getElem_mem hi)
    · rw [List.getD_eq_getElem?_getD, List.getElem?_eq_none (by omega)]; exact Or.inl rfl
  have e0 : (0 : Int32).toNatClampNeg = 0 := rfl
  have hty : (FieldType.object "java/lang/Object" = FieldType.object "java/lang/Object" ∧ refKind (.object "java/lang/Object") = false) ∨ (refKind (.object "java/lang/Object") = true ∧ refKind (.object "java/lang/Object") = true ∧ StoL Z h b ((List.range q).map (fun i => vs.getD ((0 : Int32).toNatClampNeg + i) .null))) := by
    refine Or.inr ⟨rfl, rfl, ?_⟩
    by_cases z0 : n2 = 0
    · have : q = 0 := by omega
      subst this; trivial
    · obtain ⟨cb, Ab, qb, -⟩ := B
      exact own_StoL Ab (qb ▸ t3.resolve_left z0) wc us
  obtain ⟨T', h', L, X', e', N', K, P, st⟩ := cpA X hx hZ hown w1 w2 w3 w4 eT (sp := 0) (dp := 0) (nn := Int32.ofNat q) A B hty (by decide) (by decide) (own_nneg hq) (by rw [own_clampN hq, own_clampN r2, e0]; omega) (by rw [own_clampN hq, own_clampN t2, e0]; omega)
    (by rw [own_clampN hq]) (by rw [own_clampN hq, e0]; omega) N ge hg hsize hs hd hf hW hlo
  refine ⟨T', h', L, X', e', N', K, ⟨k', _, P, ?_, t2, t3, Ey.keep K, fun v hv => ?_⟩, st⟩
  · rw [own_clampN hq, e0]; simp [t1]; omega
  · rw [e0, own_clampN hq] at hv
    simp only [List.take_zero, List.nil_append, List.mem_append] at hv
    rcases hv with hv | hv
    · exact (us v hv).keep K
    · exact (t4 v (List.mem_of_mem_drop hv)).keep K
/-- own: an empty array of Objects that a static holds -/
theorem own_OAstart {args : Array Value} {s : State} {t : Term} {w : Addr} (hf : Fit s) (ev : t.eval args s none [] s = some (.ref w)) (h1 : (Jvm.Cond.arrayOf t (.object "java/lang/Object")).before args s = true) (h2 : (Jvm.Cond.exactly t "[Ljava/lang/Object;").before args s = true) (h3 : (Jvm.Cond.eq (.length t) (.int 0)).before args s = true) : OwnOA s s.heap w 0 := by
  obtain ⟨cl, A⟩ := Arr.start ev (Cond.before_iff.mp h1)
  obtain ⟨l1, l2⟩ := IntBox.length_fwd h3 ev A.1 A.2.1 A.2.2
  obtain ⟨a', c', cell, k, e1, e2, e3', e4, e5, e6, e7⟩ := Cond.exactly_spec h2
  cases ev.symm.trans e1
  refine ⟨cl.cls, [], Arv.start hf A l1 l2 (by decide) rfl trivial, rfl, by decide, Or.inl rfl, ⟨cell, k, e3', e6 ▸ e2, e6 ▸ e4, e5, e7⟩, fun v hv => nomatch hv⟩
/-! own: the cache of small Longs -/
def OwnLC (Z : State) (h : Heap) : Prop := ∃ (ca : Addr) (cl : Cell), Sta Z h "java/lang/Long$LongCache" "cache" "[Ljava/lang/Long;" (.ref ca) ∧ Arr Z h ca cl (.object "java/lang/Long") ∧ cl.slots.size = 256 ∧ ∀ i, i < 256 → ∃ r, cl.slots[i]? = some (.ref r) ∧ Exa Z h r "java/lang/Long"
theorem OwnLC.ext (F : OwnLC Z h) (E : Ext h h') : OwnLC Z h' := by
  obtain ⟨ca, cl, S2, A, sz, el⟩ := F
  exact ⟨ca, cl, S2.ext E, A.ext E, sz, fun i hi => by obtain ⟨r, e, X⟩ := el i hi; exact ⟨r, e, X.ext E⟩⟩
theorem own_LCstart {args : Array Value} {s : State} (h2 : (Jvm.Cond.initializedFor "java/lang/Long$LongCache" "cache" "[Ljava/lang/Long;").before args s = true)
    (h4 : (Jvm.Cond.arrayOf (.static "java/lang/Long$LongCache" "cache" "[Ljava/lang/Long;") (.object "java/lang/Long")).before args s = true) (h6 : (Jvm.Cond.eq (.length (.static "java/lang/Long$LongCache" "cache" "[Ljava/lang/Long;")) (.int 256)).before args s = true)
    {c2 : Jvm.Cond} (h7 : (Jvm.Cond.all (.static "java/lang/Long$LongCache" "cache" "[Ljava/lang/Long;") (.and (.exactly (.elem (.static "java/lang/Long$LongCache" "cache" "[Ljava/lang/Long;") (.index 0)) "java/lang/Long") c2)).before args s = true) : OwnLC s s.heap := by
  obtain ⟨ca, ev⟩ := arr_v (Cond.before_iff.mp h4)
  obtain ⟨cl, A⟩ := Arr.start ev (Cond.before_iff.mp h4)
  obtain ⟨l1, l2⟩ := IntBox.length_fwd h6 ev A.1 A.2.1 A.2.2
  have at' := IntBox.arrayAt_of A.1 A.2.1 A.2.2
  have sz : cl.slots.size = 256 := by
    have q := congrArg Int32.toInt l2
    rw [len_toInt l1] at q
    have e : (256 : Int32).toInt = 256 := by decide
    omega
  refine ⟨ca, cl, Sta.start ev (Or.inl h2), A, sz, fun i hi' => ?_⟩
  have q := (and_e (Cond.all_elim ev at' (Cond.before_iff.mp h7) i (by omega))).1
  have ei : (Term.index 0).eval args s none (i :: []) s = some (.int i.toInt32) := rfl
  obtain ⟨a', c', cell, k, e1, e2, e3', e4, e5, e6, e7⟩ := Cond.exactly_spec (beq_iff_eq.mpr q : (Cond.exactly _ _).holds args s none s (i :: []) = true)
  have evI : (Term.static "java/lang/Long$LongCache" "cache" "[Ljava/lang/Long;").eval args s none (i :: []) s = some (.ref ca) := ev
  obtain ⟨c3, g1, g2, g3⟩ := elem_at e1 evI ei
  cases A.1.symm.trans g1
  refine ⟨a', ?_, ⟨cell, k, e3', e6 ▸ e2, e6 ▸ e4, e5, e7⟩⟩
  have ix : i.toInt32.toNatClampNeg = i := own_clamp (len_toInt (by omega))
  rw [ix] at g3; exact g3
/-- own: a static stays over a call that writes objects -/
theorem own_stK {C n d : String} {v : Value} {ws : List Addr} (S : Sta Z h C n d v) (K : Keep h h' ws) (q : ∀ x ∈ ws, ∃ D, Exa Z h x D) : Sta Z h' C n d v := by
  obtain ⟨cf, i, k, f, st, cell, h1, h2, h3, h4, h5, h6, r⟩ := S
  refine ⟨cf, i, k, f, st, cell, h1, h2, h3, h4, K.2.1 _ _ h5 fun hm => ?_, h6, r⟩
  obtain ⟨D, cl, _, g1, -, -, g4, -⟩ := q _ hm
  cases h5.symm.trans g1
  rw [g4] at h6; cases h6
/-- own: getClass by way of an interface, and a Class constant -/
theorem own_gclsI (X : Stand p l e R s m args below meth c T locs cells slots) (hx : p.tables.exec = Jvm.exec) (hZ : Z.Warmed39 s.vm) {own C I : String} {index count : Nat} (hown : s.vm.findClass own = some m.cls)
    (w1 : (Cond.methodLink own index ⟨I, "getClass", "()Ljava/lang/Class;"⟩).before args s = true) (w2 : (Cond.declares ⟨"java/lang/Object", "getClass", "()Ljava/lang/Class;"⟩).before args s = true) (w3 : (Cond.interfaceMethod I "java/lang/Object" "getClass" "()Ljava/lang/Class;").before args s = true) (w4 : (Cond.selects C ⟨I, "getClass", "()Ljava/lang/Class;"⟩ ⟨"java/lang/Object", "getClass", "()Ljava/lang/Class;"⟩).before args s = true)
    (w5 : (Cond.instanceMethod ⟨"java/lang/Object", "getClass", "()Ljava/lang/Class;"⟩).before args s = true) (w6 : (Cond.publicMethod ⟨"java/lang/Object", "getClass", "()Ljava/lang/Class;"⟩).before args s = true) (w7 : (Cond.unhidden C "getClass" "()Ljava/lang/Class;").before args s = true) (w8 : (Cond.castable C I).before args s = true) (w9 : (Cond.native ⟨"java/lang/Object", "getClass", "()Ljava/lang/Class;"⟩).before args s = true)
    (hI : (I ≠ "java/lang/invoke/MethodHandle" ∧ I ≠ "java/lang/invoke/VarHandle") ∧ I ≠ "java/lang/Object") (eT : T.heap = h) (E : Exa Z h a C) {mr : Addr} (M : Mir Z C mr)
    {g : JFrame} (hg : g.method = m) (hsize : g.locals.size = c.maxLocals) {rest : List Value} (hs : g.stack = .ref a :: rest) (hd : decode c.code g.pc = .ok (.invokeinterface index count, 5)) (hf : 1 ≤ R.frames) {W : Nat} (hW : 2 * g.monitorRoom + (rest.map fun v => v.category).sum ≤ W) (hl : W + (nativeFrameWords "java/lang/Object" "getClass" 1 + 11) ≤ R.locals) :
    ∃ T', Stand p l e R s m args below meth c T' locs cells slots ∧ T'.heap = h ∧ ∀ target, Steps p.tables e below (T'.setTop { g with pc := g.pc + 5, stack := .ref mr :: rest }) target → Steps p.tables e below (T.setTop g) target := by
  obtain ⟨cB, kB, i1, i2, i3⟩ := isOf hZ eT E
  obtain ⟨cc, kc, m1, m2, m3, -⟩ := M
  rw [hZ.alike.findClass] at i1
  cases i1.symm.trans m1
  obtain ⟨k', q, ek⟩ := hZ.alike.2.2 _ _ m2
  obtain ⟨vm', X', st⟩ := X.getClassOfI hx (xi := ⟨I, "getClass", "()Ljava/lang/Class;"⟩) hown w1 w2 w3 w4 w5 w6 w7 w8 w9 hI.1 hI.2 rfl rfl (by rw [hZ.alike.findClass]; exact m1) q i3 (by rw [ek]; exact m3) hg hsize hs hd hf (by omega)
  exact ⟨_, X', eT, st⟩
theorem own_ldcM (X : Stand p l e R s m args below meth c T locs cells slots) (hx : p.tables.exec = Jvm.exec) (hZ : Z.Warmed39 s.vm) {own C : String} {index : Nat} (hown : s.vm.findClass own = some m.cls) (w1 : (Cond.classLink own index C).before a0 Z = true) (eT : T.heap = h) {mr : Addr} (M : Mir Z C mr)
    {g : JFrame} (hg : g.method = m) (hd : decode c.code g.pc = .ok (.ldc index, 2)) :
    ∃ T', Stand p l e R s m args below meth c T' locs cells slots ∧ T'.heap = h ∧ ∀ target, Steps p.tables e below (T'.setTop { g with pc := g.pc + 2, stack := .ref mr :: g.stack }) target → Steps p.tables e below (T.setTop g) target := by
  obtain ⟨cc, kc, m1, m2, m3, -⟩ := M
  obtain ⟨k', q, ek⟩ := hZ.alike.2.2 _ _ m2
  have q2 : k'.mirror = some mr := by rw [ek]; exact m3
  obtain ⟨vm', X', st⟩ := X.ldcMirror hx hown (mv hZ w1) (a := mr) (by simp [Term.eval, hZ.alike.findClass, m1, q, q2]) hg hd
  exact ⟨_, X', eT, st⟩
theorem Mir.same {C : String} {m1 m2 : Addr} (F : Mir Z C m1) (G : Mir Z C m2) : m1 = m2 := by
  obtain ⟨c, k, f1, f2, f3, -⟩ := F
  obtain ⟨c', k', g1, g2, g3, -⟩ := G
  cases f1.symm.trans g1; cases f2.symm.trans g2; exact Option.some.inj (f3.symm.trans g3)
/-! own: wide ends (a String constant may have been interned) -/
def OwnEndW (s : State) (Q : Option Value → Heap → List Loc → Prop) (k n : Nat) : State → Outcome → Prop := fun U o => ∃ v L, o = .returned v ∧ Q v U.heap L ∧ ReturnedEndW s o U L k n
theorem OwnGo.wide {tb : Tables} {A : State} (G : OwnGo tb e below (OwnEnd s Q k n) A) : OwnGo tb e below (OwnEndW s Q k n) A := by
  obtain ⟨s2, o, h1, h2, h3, v, L, h4, h5, h6⟩ := G
  exact ⟨s2, o, h1, h2, h3, v, L, h4, h5, RoadKit.wide h6⟩
theorem own_leafW {vm0 : Vm} {k0 : Nat} (X : Stand p l e R (s.setVm vm0) m args below meth c T locs cells slots) (hS : s.Since vm0 k0) (hk : k0 ≤ h.size) (hlk : meth.locks = false) {v : Option Value} (hv : meth.sig.returnType = none → v = none) {g : JFrame} (hc : cells ≤ k) (hs : slots ≤ n) (eT : T.heap = h) (hQ : Q v h locs)
    (hl : ∀ fs, (∀ (f : JFrame) (acts : List Action), f.method = m → f.locked = none → f.entered = [] → (doReturn e (T.setTop f) acts v).1 = T.setFrames fs) → Steps p.tables e below (T.setTop g) (T.setFrames fs)) :
    OwnGo p.tables e below (OwnEndW s Q k n) (T.setTop g) := by
  obtain ⟨fs, hr, hrun, hended, e1, e2, e3, e4⟩ := X.leaveW hS (by rw [eT]; exact hk) (v := v) hv hlk
  refine ⟨_, _, hl fs hr, hrun, hended, _, _, rfl, ?_, e1, e2, e3, e4.mono hc hs⟩
  show Q v T.heap locs
  rw [eT]; exact hQ
theorem own_retVW {vm0 : Vm} {k0 : Nat} (X : Stand p l e R (s.setVm vm0) m args below meth c T locs cells slots) (hS : s.Since vm0 k0) (hk : k0 ≤ h.size) (hlk : meth.locks = false) (hx : p.tables.exec = Jvm.exec) {pc : Nat} {Ls : Array Slot} (hret : meth.sig.returnType = none) (hd : decode c.code pc = .ok (.return_, 1)) (hc : cells ≤ k) (hs : slots ≤ n) (eT : T.heap = h) (hQ : Q none h locs) :
    OwnGo p.tables e below (OwnEndW s Q k n) (T.setTop (mkF m pc Ls [])) :=
  own_leafW X hS hk hlk (fun _ => rfl) hc hs eT hQ fun fs hl => X.returnOut hx hret hd hl
theorem own_retZW {vm0 : Vm} {k0 : Nat} (X : Stand p l e R (s.setVm vm0) m args below meth c T locs cells slots) (hS : s.Since vm0 k0) (hk : k0 ≤ h.size) (hlk : meth.locks = false) (hx : p.tables.exec = Jvm.exec) {pc : Nat} {Ls : Array Slot} {z : Int32} {rest : List Value} (hret : meth.sig.returnType = some .boolean) (hd : decode c.code pc = .ok (.ireturn, 1)) (hc : cells ≤ k) (hs : slots ≤ n) (eT : T.heap = h) (hQ : Q (some (.int (nar .boolean z))) h locs) :
    OwnGo p.tables e below (OwnEndW s Q k n) (T.setTop (mkF m pc Ls (.int z :: rest))) :=
  own_leafW X hS hk hlk (fun q => by rw [hret] at q; cases q) hc hs eT hQ fun fs hl => retN X hx (t := .boolean) hret (by simp) hd hl
/-- own: a callee that may intern, called where nothing has been interned since the case's start -/
theorem own_backW {y : MethodName} {bytes : ByteArray} {maxL : Nat} {ret : Option FieldType} {rm : Room} {len W : Nat} {as' : Array Value}
    (hM : MetFree l y (head1 [Cond.code y bytes maxL ret] rm) (fun a U => a = as' ∧ Z.Warmed39 U.vm ∧ U.heap = h ∧ U.vm.interned = Z.vm.interned) (fun _ _ _ _ _ => True) (fun _ U o U' => ∃ v L, o = .returned v ∧ Q v U'.heap L ∧ ReturnedEndW U o U' L rm.cells rm.slots))
    (hZ : Z.Warmed39 s.vm) (hi : s.vm.interned = Z.vm.interned) (wc : (Cond.code y bytes maxL ret).before a0 Z = true) (wz : (Cond.initialized y.cls).before a0 Z = true) (hf : rm.frames + 1 ≤ R.frames) (hl : W + (maxL + 11) + rm.locals ≤ R.locals) :
    BackS l R p e below s args y len W (fun A a => a = as' ∧ A.U.heap = h ∧ A.cells + rm.cells ≤ R.cells ∧ A.slots + rm.slots ≤ R.slots)
      (fun A _ v B => ∃ L, Q v B.U.heap L ∧ B.locs = A.locs ++ L ∧ B.cells = A.cells + rm.cells ∧ B.slots = A.slots + rm.slots) :=
  BackS.of_freeW (bytes := bytes) (maxL := maxL) (ret := ret) (E := fun _ _ o t L k n => k = rm.cells ∧ n = rm.slots ∧ ∃ v, o = .returned v ∧ Q v t.heap L) hM hf hl
    (fun m meth c A a Y hp => have hU : Z.Warmed39 A.U.vm := wtrans hZ Y.warmed
      ⟨by show (Cond.and _ .tt).before a A.U = true; rw [Cond.before_and, mv hU wc]; rfl, mv hU wc, mv hU wz, hp.2.2.1, hp.2.2.2⟩)
    (fun m meth c A a g mk Y hp => ⟨hp.1, wtrans hZ Y.warmed, hp.2.1, Y.warmed.interned_eq.trans hi⟩) (fun _ _ _ _ _ _ _ _ _ => trivial)
    (fun _ _ _ _ ⟨v, L, h1, h2, h3⟩ => ⟨L, _, _, h3, rfl, rfl, v, h1, h2⟩)
    (fun m meth c A a g mk v t L k n Y hp _ _ ⟨e1, e2, v', e3, e4⟩ => by cases e3; subst e1 e2; exact ⟨L, e4, rfl, rfl, rfl⟩)
end OwnMore
end Jvm.RoadKit
namespace Jvm.RoadKit
open Sem ClassFile Op Lib Jvm.Stand Jvm.Free Jvm.LawKit
theorem own_rot {A B D E : Prop} (h : A ∧ B ∧ D ∧ E) : B ∧ D ∧ A ∧ E := ⟨h.2.1, h.2.2.1, h.1, h.2.2.2⟩
theorem own_l2i128 {x : Int64} (h1 : -128 ≤ x.toInt) (h2 : x.toInt ≤ 127) : (x.toInt32 + (128 : Int32)).toInt = x.toInt + 128 := by
  have q := c_iadd x.toInt32 (128 : Int32)
  have e1 : (128 : Int32).toInt = 128 := by decide
  have e2 : x.toInt32.toInt = x.toInt := by rw [Int64.toInt_toInt32]; exact Int.bmod_eq_of_le (by omega) (by omega)
  have r1 := rng32 (x.toInt32 + (128 : Int32))
  omega
theorem own_ch {c x : Int32} (h : c = (x &&& (255 : Int32)).toUInt32.toUInt16.toUInt32.toInt32) : (nar .char c).toInt ≤ 255 := by
  subst h
  rw [i2c_mask]
  show ((x &&& 255).toUInt32.toUInt16.toUInt32.toInt32).toInt ≤ 255
  rw [i2c_mask]
  exact (c_and x 255 (by decide)).2
theorem own_le1 {c : Int32} (h : (nar .char c).toInt ≤ 255) : ∀ i, i < 1 → ((fun k => if k = 0 then nar .char c else (fun _ => (0 : Int32)) k) i).toInt ≤ 255 := fun i hi => by
  have : i = 0 := by omega
  subst this; exact h
theorem own_le2 {c d : Int32} (h : (nar .char c).toInt ≤ 255) (g : (nar .char d).toInt ≤ 255) : ∀ i, i < 2 → ((fun k => if k = 1 then nar .char d else (fun k => if k = 0 then nar .char c else (fun _ => (0 : Int32)) k) k) i).toInt ≤ 255 := fun i hi => by
  by_cases q : i = 1
  · subst q; exact g
  · have : i = 0 := by omega
    subst this; exact h
/-- own: the list that the law makes -/
def OwnLst (Z : State) (h : Heap) (a : Addr) : Prop := Exa Z h a "java/util/ArrayList" ∧ ∃ (d : Addr) (u n : Nat), Fld Z h a "java/util/ArrayList" "elementData" "[Ljava/lang/Object;" (.ref d) ∧ Fld Z h a "java/util/ArrayList" "size" "I" (.int (Int32.ofNat n)) ∧ OwnOA Z h d u ∧ n ≤ u ∧ n ≤ 2 ∧ u ≤ 10
end Jvm.RoadKit
namespace Jvm.Pilot.@@N@@
open Jvm Jvm.ClassFile Sem Op Lib Jvm.Free Jvm.Stand Jvm.LawKit Jvm.RoadKit Bundle Jvm.Pilot.@@N@@.Jvm.D
theorem pd_0 : parseMethodDescriptor "()V" = some ⟨[], none⟩ := by decide +kernel
theorem pd_1 : parseMethodDescriptor "(Ljava/lang/Object;)Lcom/example/rolestack/rolestack/ValueKind;" = some ⟨[(.object "java/lang/Object")], some (.object "com/example/rolestack/rolestack/ValueKind")⟩ := by decide +kernel
theorem pd_2 : parseMethodDescriptor "([C)V" = some ⟨[(.array .char)], none⟩ := by decide +kernel
theorem pd_3 : parseMethodDescriptor "([CIILjava/lang/Void;)V" = some ⟨[(.array .char), .int, .int, (.object "java/lang/Void")], none⟩ := by decide +kernel
theorem pd_4 : parseMethodDescriptor "(J)Ljava/lang/Long;" = some ⟨[.long], some (.object "java/lang/Long")⟩ := by decide +kernel
theorem pd_5 : parseMethodDescriptor "(J)V" = some ⟨[.long], none⟩ := by decide +kernel
theorem pd_6 : parseMethodDescriptor "(Ljava/lang/Object;)Z" = some ⟨[(.object "java/lang/Object")], some .boolean⟩ := by decide +kernel
theorem pd_7 : parseMethodDescriptor "(Ljava/lang/Object;[Ljava/lang/Object;I)V" = some ⟨[(.object "java/lang/Object"), (.array (.object "java/lang/Object")), .int], none⟩ := by decide +kernel
theorem pd_8 : parseMethodDescriptor "()[Ljava/lang/Object;" = some ⟨[], some (.array (.object "java/lang/Object"))⟩ := by decide +kernel
theorem pd_9 : parseMethodDescriptor "(I)[Ljava/lang/Object;" = some ⟨[.int], some (.array (.object "java/lang/Object"))⟩ := by decide +kernel
theorem pd_10 : parseMethodDescriptor "(II)I" = some ⟨[.int, .int], some .int⟩ := by decide +kernel
theorem pd_11 : parseMethodDescriptor "(Lcom/example/rolestack/rolestack/Database;I)V" = some ⟨[(.object "com/example/rolestack/rolestack/Database"), .int], none⟩ := by decide +kernel
theorem pd_12 : parseMethodDescriptor "(I)Ljava/lang/Integer;" = some ⟨[.int], some (.object "java/lang/Integer")⟩ := by decide +kernel
theorem pd_13 : parseMethodDescriptor "(I)V" = some ⟨[.int], none⟩ := by decide +kernel
theorem pd_14 : parseMethodDescriptor "(Ljava/util/List;)V" = some ⟨[(.object "java/util/List")], none⟩ := by decide +kernel
theorem pd_15 : parseMethodDescriptor "(Ljava/util/Collection;)V" = some ⟨[(.object "java/util/Collection")], none⟩ := by decide +kernel
theorem pd_16 : parseMethodDescriptor "([Ljava/lang/Object;I)[Ljava/lang/Object;" = some ⟨[(.array (.object "java/lang/Object")), .int], some (.array (.object "java/lang/Object"))⟩ := by decide +kernel
theorem pd_17 : parseMethodDescriptor "([Ljava/lang/Object;ILjava/lang/Class;)[Ljava/lang/Object;" = some ⟨[(.array (.object "java/lang/Object")), .int, (.object "java/lang/Class")], some (.array (.object "java/lang/Object"))⟩ := by decide +kernel
theorem pd_18 : parseMethodDescriptor "(Ljava/util/List;)Ljava/util/List;" = some ⟨[(.object "java/util/List")], some (.object "java/util/List")⟩ := by decide +kernel
theorem pd_19 : parseMethodDescriptor "(D)Ljava/lang/Double;" = some ⟨[.double], some (.object "java/lang/Double")⟩ := by decide +kernel
theorem pd_20 : parseMethodDescriptor "(D)V" = some ⟨[.double], none⟩ := by decide +kernel
theorem pd_21 : parseMethodDescriptor "([CII)[B" = some ⟨[(.array .char), .int, .int], some (.array .byte)⟩ := by decide +kernel
theorem pd_22 : parseMethodDescriptor "([CI[BII)I" = some ⟨[(.array .char), .int, (.array .byte), .int, .int], some .int⟩ := by decide +kernel
theorem pd_23 : parseMethodDescriptor "([BI)B" = some ⟨[(.array .byte), .int], some .byte⟩ := by decide +kernel
theorem pd_24 : parseMethodDescriptor "()Ljava/lang/Class;" = some ⟨[], some (.object "java/lang/Class")⟩ := by decide +kernel
theorem pd_25 : parseMethodDescriptor "(Ljava/lang/Object;ILjava/lang/Object;II)V" = some ⟨[(.object "java/lang/Object"), .int, (.object "java/lang/Object"), .int, .int], none⟩ := by decide +kernel
theorem d3_0 : decode jdk_22_method_1_code 0 = .ok (.aload_n 0, 1) := by decide +kernel
theorem d3_1 : decode jdk_22_method_1_code 1 = .ok (.invokespecial 1, 3) := by decide +kernel
theorem d3_4 : decode jdk_22_method_1_code 4 = .ok (.return_, 1) := by decide +kernel
theorem pn_3 : plainFor (⟨"java/util/AbstractCollection", "<init>", "()V"⟩ : MethodName) = true := plainFor_of_name (by first | (simp [plainName, overriddenIn]; done) | decide +kernel)
theorem ef_3 (m : MethodId) (x0 : Addr) : entryFrame m #[(.ref x0)] 1 = mkF m 0 #[.val (.ref x0)] [] := by first | (simp [entryFrame, mkF, argsToLocals, Value.category, maxLocals]; done) | rfl
def Q3 (Z : State) (a : Addr) (h0 : Heap) (n0 : Nat) (v : Option Value) (h : Heap) (L : List Loc) : Prop := v = none ∧ Fr n0 L ∧ h = h0
set_option maxRecDepth 65536 in
set_option maxHeartbeats 40000000 in
theorem rm3 (l : Launch) (Z : State) (a0 : Array Value) (hw : ∀ d ∈ tables_1, d.before a0 Z = true) (ws : List Jvm.Cond) (a : Addr) (h0 : Heap) (n0 : Nat) (Z0 : n0 ≤ h0.size) :
    MetFree l (⟨"java/util/AbstractCollection", "<init>", "()V"⟩ : MethodName) (head1 (Jvm.Cond.code (⟨"java/util/AbstractCollection", "<init>", "()V"⟩ : MethodName) jdk_22_method_1_code 1 none :: ws) ({ frames := 1, cells := 0, slots := 0, locals := 12 } : Room)) (fun arr' U => arr' = #[(.ref a)] ∧ Z.Warmed39 U.vm ∧ U.heap = h0) (fun _ _ _ _ _ => True) (fun _ U o U' => ∃ v L, o = .returned v ∧ (Q3 Z a h0 n0) v U'.heap L ∧ FrameEnd U o U' L ({ frames := 1, cells := 0, slots := 0, locals := 12 } : Room).cells ({ frames := 1, cells := 0, slots := 0, locals := 12 } : Room).slots) := by
  refine MetFree.of_bodySF pn_3 hisR ?_
  intro p e s m args below meth c s₁ Bd hml0 hP hK
  obtain ⟨rfl, hZ, hh⟩ := hP
  have hx := Bd.exec
  have hby := Bd.bytes
  have hlk : meth.locks = false := BodyLoose.notSynchronized Bd
  have hml : c.maxLocals = 1 := hml0
  have hown : s.vm.findClass "java/util/AbstractCollection" = some m.cls := findClass_of_methodNamed Bd.named
  have hnm := (name_of_methodNamed Bd.named Bd.method).1
  have X0 : Stand p l e ({ frames := 1, cells := 0, slots := 0, locals := 12 } : Room) s m #[(.ref a)] below meth c s₁ [] 0 0 := Stand.of_body Bd
  have e0 : s₁.heap = h0 := by rw [← hh, Bd.state]; rfl
  have N := Fr.nil n0
  have Zs := Z0
  change OwnGo p.tables e below (OwnEnd s (Q3 Z a h0 n0) ({ frames := 1, cells := 0, slots := 0, locals := 12 } : Room).cells ({ frames := 1, cells := 0, slots := 0, locals := 12 } : Room).slots) _
  refine OwnGo.fwd (fun tq' kq' => castTop (ef_3 m a) kq') ?_
  show OwnGo _ _ _ _ (s₁.setTop (mkF m 0 #[.val (.ref a)] []))
  refine OwnGo.fwd (fun tq' kq' => XS.aloadN X0.here hx rfl (hb hby d3_0) rfl rfl kq') ?_
  show OwnGo _ _ _ _ (s₁.setTop (mkF m 1 #[.val (.ref a)] [(.ref a)]))
  obtain ⟨T1, X1, e1, st1⟩ := initO X0 hx hZ hown (hw _ (List.mem_of_getElem? (i := 18) rfl)) (hw _ (List.mem_of_getElem? (i := 19) rfl)) (hw _ (List.mem_of_getElem? (i := 20) rfl)) e0 (g := (mkF m 1 #[.val (.ref a)] [(.ref a)])) rfl (by rw [hml]; rfl) rfl (hb hby d3_1) (by decide) (W := 0) (by show 2 * 0 + _ ≤ _; exact Nat.le_of_eq rfl) (by decide)
  refine OwnGo.fwd st1 ?_
  show OwnGo _ _ _ _ (T1.setTop (mkF m 4 #[.val (.ref a)] []))
  exact own_retV X1 hlk hx Bd.returns (hb hby d3_4) (by decide) (by decide) e1 ⟨rfl, N, rfl⟩
theorem d10_0 : decode jdk_18_method_1_code 0 = .ok (.aload_n 0, 1) := by decide +kernel
theorem d10_1 : decode jdk_18_method_1_code 1 = .ok (.invokespecial 1, 3) := by decide +kernel
theorem d10_4 : decode jdk_18_method_1_code 4 = .ok (.return_, 1) := by decide +kernel
theorem pn_10 : plainFor (⟨"java/lang/Number", "<init>", "()V"⟩ : MethodName) = true := plainFor_of_name (by first | (simp [plainName, overriddenIn]; done) | decide +kernel)
theorem ef_10 (m : MethodId) (x0 : Addr) : entryFrame m #[(.ref x0)] 1 = mkF m 0 #[.val (.ref x0)] [] := by first | (simp [entryFrame, mkF, argsToLocals, Value.category, maxLocals]; done) | rfl
def Q10 (Z : State) (a : Addr) (h0 : Heap) (n0 : Nat) (v : Option Value) (h : Heap) (L : List Loc) : Prop := v = none ∧ Fr n0 L ∧ h = h0
set_option maxRecDepth 65536 in
set_option maxHeartbeats 40000000 in
theorem rm10 (l : Launch) (Z : State) (a0 : Array Value) (hw : ∀ d ∈ tables_1, d.before a0 Z = true) (ws : List Jvm.Cond) (a : Addr) (h0 : Heap) (n0 : Nat) (Z0 : n0 ≤ h0.size) :
    MetFree l (⟨"java/lang/Number", "<init>", "()V"⟩ : MethodName) (head1 (Jvm.Cond.code (⟨"java/lang/Number", "<init>", "()V"⟩ : MethodName) jdk_18_method_1_code 1 none :: ws) ({ frames := 1, cells := 0, slots := 0, locals := 12 } : Room)) (fun arr' U => arr' = #[(.ref a)] ∧ Z.Warmed39 U.vm ∧ U.heap = h0) (fun _ _ _ _ _ => True) (fun _ U o U' => ∃ v L, o = .returned v ∧ (Q10 Z a h0 n0) v U'.heap L ∧ FrameEnd U o U' L ({ frames := 1, cells := 0, slots := 0, locals := 12 } : Room).cells ({ frames := 1, cells := 0, slots := 0, locals := 12 } : Room).slots) := by
  refine MetFree.of_bodySF pn_10 hisR ?_
  intro p e s m args below meth c s₁ Bd hml0 hP hK
  obtain ⟨rfl, hZ, hh⟩ := hP
  have hx := Bd.exec
  have hby := Bd.bytes
  have hlk : meth.locks = false := BodyLoose.notSynchronized Bd
  have hml : c.maxLocals = 1 := hml0
  have hown : s.vm.findClass "java/lang/Number" = some m.cls := findClass_of_methodNamed Bd.named
  have hnm := (name_of_methodNamed Bd.named Bd.method).1
  have X0 : Stand p l e ({ frames := 1, cells := 0, slots := 0, locals := 12 } : Room) s m #[(.ref a)] below meth c s₁ [] 0 0 := Stand.of_body Bd
  have e0 : s₁.heap = h0 := by rw [← hh, Bd.state]; rfl
  have N := Fr.nil n0
  have Zs := Z0
  change OwnGo p.tables e below (OwnEnd s (Q10 Z a h0 n0) ({ frames := 1, cells := 0, slots := 0, locals := 12 } : Room).cells ({ frames := 1, cells := 0, slots := 0, locals := 12 } : Room).slots) _
  refine OwnGo.fwd (fun tq' kq' => castTop (ef_10 m a) kq') ?_
  show OwnGo _ _ _ _ (s₁.setTop (mkF m 0 #[.val (.ref a)] []))
  refine OwnGo.fwd (fun tq' kq' => XS.aloadN X0.here hx rfl (hb hby d10_0) rfl rfl kq') ?_
  show OwnGo _ _ _ _ (s₁.setTop (mkF m 1 #[.val (.ref a)] [(.ref a)]))
  obtain ⟨T1, X1, e1, st1⟩ := initO X0 hx hZ hown (hw _ (List.mem_of_getElem? (i := 80) rfl)) (hw _ (List.mem_of_getElem? (i := 19) rfl)) (hw _ (List.mem_of_getElem? (i := 20) rfl)) e0 (g := (mkF m 1 #[.val (.ref a)] [(.ref a)])) rfl (by rw [hml]; rfl) rfl (hb hby d10_1) (by decide) (W := 0) (by show 2 * 0 + _ ≤ _; exact Nat.le_of_eq rfl) (by decide)
  refine OwnGo.fwd st1 ?_
  show OwnGo _ _ _ _ (T1.setTop (mkF m 4 #[.val (.ref a)] []))
  exact own_retV X1 hlk hx Bd.returns (hb hby d10_4) (by decide) (by decide) e1 ⟨rfl, N, rfl⟩
theorem d20_0 : decode jdk_30_method_1_code 0 = .ok (.aload_n 0, 1) := by decide +kernel
theorem d20_1 : decode jdk_30_method_1_code 1 = .ok (.invokespecial 1, 3) := by decide +kernel
theorem d20_4 : decode jdk_30_method_1_code 4 = .ok (.return_, 1) := by decide +kernel
theorem pn_20 : plainFor (⟨"java/lang/Record", "<init>", "()V"⟩ : MethodName) = true := plainFor_of_name (by first | (simp [plainName, overriddenIn]; done) | decide +kernel)
theorem ef_20 (m : MethodId) (x0 : Addr) : entryFrame m #[(.ref x0)] 1 = mkF m 0 #[.val (.ref x0)] [] := by first | (simp [entryFrame, mkF, argsToLocals, Value.category, maxLocals]; done) | rfl
def Q20 (Z : State) (a : Addr) (h0 : Heap) (n0 : Nat) (v : Option Value) (h : Heap) (L : List Loc) : Prop := v = none ∧ Fr n0 L ∧ h = h0
set_option maxRecDepth 65536 in
set_option maxHeartbeats 40000000 in
theorem rm20 (l : Launch) (Z : State) (a0 : Array Value) (hw : ∀ d ∈ tables_1, d.before a0 Z = true) (ws : List Jvm.Cond) (a : Addr) (h0 : Heap) (n0 : Nat) (Z0 : n0 ≤ h0.size) :
    MetFree l (⟨"java/lang/Record", "<init>", "()V"⟩ : MethodName) (head1 (Jvm.Cond.code (⟨"java/lang/Record", "<init>", "()V"⟩ : MethodName) jdk_30_method_1_code 1 none :: ws) ({ frames := 1, cells := 0, slots := 0, locals := 12 } : Room)) (fun arr' U => arr' = #[(.ref a)] ∧ Z.Warmed39 U.vm ∧ U.heap = h0) (fun _ _ _ _ _ => True) (fun _ U o U' => ∃ v L, o = .returned v ∧ (Q20 Z a h0 n0) v U'.heap L ∧ FrameEnd U o U' L ({ frames := 1, cells := 0, slots := 0, locals := 12 } : Room).cells ({ frames := 1, cells := 0, slots := 0, locals := 12 } : Room).slots) := by
  refine MetFree.of_bodySF pn_20 hisR ?_
  intro p e s m args below meth c s₁ Bd hml0 hP hK
  obtain ⟨rfl, hZ, hh⟩ := hP
  have hx := Bd.exec
  have hby := Bd.bytes
  have hlk : meth.locks = false := BodyLoose.notSynchronized Bd
  have hml : c.maxLocals = 1 := hml0
  have hown : s.vm.findClass "java/lang/Record" = some m.cls := findClass_of_methodNamed Bd.named
  have hnm := (name_of_methodNamed Bd.named Bd.method).1
  have X0 : Stand p l e ({ frames := 1, cells := 0, slots := 0, locals := 12 } : Room) s m #[(.ref a)] below meth c s₁ [] 0 0 := Stand.of_body Bd
  have e0 : s₁.heap = h0 := by rw [← hh, Bd.state]; rfl
  have N := Fr.nil n0
  have Zs := Z0
  change OwnGo p.tables e below (OwnEnd s (Q20 Z a h0 n0) ({ frames := 1, cells := 0, slots := 0, locals := 12 } : Room).cells ({ frames := 1, cells := 0, slots := 0, locals := 12 } : Room).slots) _
  refine OwnGo.fwd (fun tq' kq' => castTop (ef_20 m a) kq') ?_
  show OwnGo _ _ _ _ (s₁.setTop (mkF m 0 #[.val (.ref a)] []))
  refine OwnGo.fwd (fun tq' kq' => XS.aloadN X0.here hx rfl (hb hby d20_0) rfl rfl kq') ?_
  show OwnGo _ _ _ _ (s₁.setTop (mkF m 1 #[.val (.ref a)] [(.ref a)]))
  obtain ⟨T1, X1, e1, st1⟩ := initO X0 hx hZ hown (hw _ (List.mem_of_getElem? (i := 170) rfl)) (hw _ (List.mem_of_getElem? (i := 19) rfl)) (hw _ (List.mem_of_getElem? (i := 20) rfl)) e0 (g := (mkF m 1 #[.val (.ref a)] [(.ref a)])) rfl (by rw [hml]; rfl) rfl (hb hby d20_1) (by decide) (W := 0) (by show 2 * 0 + _ ≤ _; exact Nat.le_of_eq rfl) (by decide)
  refine OwnGo.fwd st1 ?_
  show OwnGo _ _ _ _ (T1.setTop (mkF m 4 #[.val (.ref a)] []))
  exact own_retV X1 hlk hx Bd.returns (hb hby d20_4) (by decide) (by decide) e1 ⟨rfl, N, rfl⟩
theorem d2_0 : decode jdk_39_method_1_code 0 = .ok (.aload_n 0, 1) := by decide +kernel
theorem d2_1 : decode jdk_39_method_1_code 1 = .ok (.invokespecial 1, 3) := by decide +kernel
theorem d2_4 : decode jdk_39_method_1_code 4 = .ok (.aload_n 0, 1) := by decide +kernel
theorem d2_5 : decode jdk_39_method_1_code 5 = .ok (.iconst 0, 1) := by decide +kernel
theorem d2_6 : decode jdk_39_method_1_code 6 = .ok (.putfield 7, 3) := by decide +kernel
theorem d2_9 : decode jdk_39_method_1_code 9 = .ok (.return_, 1) := by decide +kernel
theorem pn_2 : plainFor (⟨"java/util/AbstractList", "<init>", "()V"⟩ : MethodName) = true := plainFor_of_name (by first | (simp [plainName, overriddenIn]; done) | decide +kernel)
theorem ef_2 (m : MethodId) (x0 : Addr) : entryFrame m #[(.ref x0)] 1 = mkF m 0 #[.val (.ref x0)] [] := by first | (simp [entryFrame, mkF, argsToLocals, Value.category, maxLocals]; done) | rfl
def Q2 (Z : State) (a : Addr) (h0 : Heap) (n0 : Nat) (v : Option Value) (h : Heap) (L : List Loc) : Prop := v = none ∧ Fr n0 L ∧ Keep h0 h [a] ∧ Exa Z h a "java/util/ArrayList" ∧ Fld Z h a "java/util/AbstractList" "modCount" "I" (.int (0 : Int32)) ∧ Fld Z h a "java/util/ArrayList" "elementData" "[Ljava/lang/Object;" .null ∧ Fld Z h a "java/util/ArrayList" "size" "I" (.int (0 : Int32))
set_option maxRecDepth 65536 in
set_option maxHeartbeats 40000000 in
theorem rm2 (l : Launch) (Z : State) (a0 : Array Value) (hw : ∀ d ∈ tables_1, d.before a0 Z = true) (ws : List Jvm.Cond) (a : Addr) (h0 : Heap) (n0 : Nat) (Z0 : n0 ≤ h0.size) (E_a : Exa Z h0 a "java/util/ArrayList") (F_modCount_a : Fld Z h0 a "java/util/AbstractList" "modCount" "I" (.int (0 : Int32))) (F_elementData_a : Fld Z h0 a "java/util/ArrayList" "elementData" "[Ljava/lang/Object;" .null) (F_size_a : Fld Z h0 a "java/util/ArrayList" "size" "I" (.int (0 : Int32))) (g_a : n0 ≤ a) :
    MetFree l (⟨"java/util/AbstractList", "<init>", "()V"⟩ : MethodName) (head1 (Jvm.Cond.code (⟨"java/util/AbstractList", "<init>", "()V"⟩ : MethodName) jdk_39_method_1_code 1 none :: ws) ({ frames := 2, cells := 0, slots := 0, locals := 24 } : Room)) (fun arr' U => arr' = #[(.ref a)] ∧ Z.Warmed39 U.vm ∧ U.heap = h0) (fun _ _ _ _ _ => True) (fun _ U o U' => ∃ v L, o = .returned v ∧ (Q2 Z a h0 n0) v U'.heap L ∧ FrameEnd U o U' L ({ frames := 2, cells := 0, slots := 0, locals := 24 } : Room).cells ({ frames := 2, cells := 0, slots := 0, locals := 24 } : Room).slots) := by
  refine MetFree.of_bodySF pn_2 hisR ?_
  intro p e s m args below meth c s₁ Bd hml0 hP hK
  obtain ⟨rfl, hZ, hh⟩ := hP
  have hx := Bd.exec
  have hby := Bd.bytes
  have hlk : meth.locks = false := BodyLoose.notSynchronized Bd
  have hml : c.maxLocals = 1 := hml0
  have hown : s.vm.findClass "java/util/AbstractList" = some m.cls := findClass_of_methodNamed Bd.named
  have hnm := (name_of_methodNamed Bd.named Bd.method).1
  have X0 : Stand p l e ({ frames := 2, cells := 0, slots := 0, locals := 24 } : Room) s m #[(.ref a)] below meth c s₁ [] 0 0 := Stand.of_body Bd
  have e0 : s₁.heap = h0 := by rw [← hh, Bd.state]; rfl
  have N := Fr.nil n0
  have Zs := Z0
  change OwnGo p.tables e below (OwnEnd s (Q2 Z a h0 n0) ({ frames := 2, cells := 0, slots := 0, locals := 24 } : Room).cells ({ frames := 2, cells := 0, slots := 0, locals := 24 } : Room).slots) _
  refine OwnGo.fwd (fun tq' kq' => castTop (ef_2 m a) kq') ?_
  show OwnGo _ _ _ _ (s₁.setTop (mkF m 0 #[.val (.ref a)] []))
  have K : Keep h0 h0 [a] := Keep.refl _ _
  have E0_a := E_a
  refine OwnGo.fwd (fun tq' kq' => XS.aloadN X0.here hx rfl (hb hby d2_0) rfl rfl kq') ?_
  show OwnGo _ _ _ _ (s₁.setTop (mkF m 1 #[.val (.ref a)] [(.ref a)]))
  obtain ⟨_, _, ⟨T1, L1, k1, n1⟩, -, X1, ⟨Lc1, hQ1, l1, y1, z1⟩, st1⟩ := X0.specialBack hx (y := (⟨"java/util/AbstractCollection", "<init>", "()V"⟩ : MethodName)) rfl hown (mvT hZ (hw _ (List.mem_of_getElem? (i := 12) rfl))) (mvT hZ (hw _ (List.mem_of_getElem? (i := 13) rfl))) (mvT hZ (hw _ (List.mem_of_getElem? (i := 17) rfl))) (by decide) (backOf (W := 0) (rm3 l Z a0 hw [] a h0 n0 Zs) hZ (hw _ (List.mem_of_getElem? (i := 17) rfl)) (hw _ (List.mem_of_getElem? (i := 16) rfl)) (by decide) (by decide)) (g := (mkF m 1 #[.val (.ref a)] [(.ref a)])) rfl (by rw [hml]; rfl) (Steps.refl _) (a := a) (argsL := []) (rest := []) (lenOf pd_0 rfl) rfl (by show 2 * 0 + _ ≤ _; exact Nat.le_of_eq rfl) (hb hby d2_1) (fun _ _ => ⟨rfl, e0, (by decide : 0 + 0 ≤ _), (by decide : 0 + 0 ≤ _)⟩)
  dsimp only [Pt.U, Pt.locs, Pt.cells, Pt.slots] at X1 l1 y1 z1 st1 hQ1
  subst l1 y1 z1
  obtain ⟨rfl, N1q, e1⟩ := hQ1
  have N := Fr.app N N1q
  refine OwnGo.thru st1 ?_
  show OwnGo _ _ _ _ (T1.setTop (mkF m 4 #[.val (.ref a)] []))
  refine OwnGo.fwd (fun tq' kq' => XS.aloadN X1.here hx rfl (hb hby d2_4) rfl rfl kq') ?_
  show OwnGo _ _ _ _ (T1.setTop (mkF m 5 #[.val (.ref a)] [(.ref a)]))
  refine OwnGo.fwd (fun tq' kq' => XS.iconst X1.here hx rfl (hb hby d2_5) kq') ?_
  show OwnGo _ _ _ _ (T1.setTop (mkF m 6 #[.val (.ref a)] [(.int (0 : Int32)), (.ref a)]))
  obtain ⟨T2, h2, X2, e2, W2, st2⟩ := putF X1 hx hZ hown (host := "") (Or.inl (hw _ (List.mem_of_getElem? (i := 21) rfl))) Via.refl e1 F_modCount_a E_a (Or.inl (hw _ (List.mem_of_getElem? (i := 22) rfl))) (hw _ (List.mem_of_getElem? (i := 1) rfl)) (ty := .int) (by decide) rfl rfl (g := (mkF m 6 #[.val (.ref a)] [(.int (0 : Int32)), (.ref a)])) rfl rfl (hb hby d2_6)
  have E_a := E_a.wr W2
  have F_modCount_a := F_modCount_a.same W2
  have F_elementData_a := F_elementData_a.other W2 (Or.inr (slot_ne (Or.inl (hw _ (List.mem_of_getElem? (i := 25) rfl))) (Or.inl (hw _ (List.mem_of_getElem? (i := 22) rfl))) (by decide) (t := (.array (.object "java/lang/Object"))) (t' := .int) (by decide) (by decide)))
  have F_size_a := F_size_a.other W2 (Or.inr (slot_ne (Or.inl (hw _ (List.mem_of_getElem? (i := 91) rfl))) (Or.inl (hw _ (List.mem_of_getElem? (i := 22) rfl))) (by decide) (t := .int) (t' := .int) (by decide) (by decide)))
  have K := K.wr W2 (Or.inl (List.mem_of_getElem? (i := 0) rfl))
  have Zs := Nat.le_trans Zs (Keep.of_wr W2).1
  have N := Fr.snoc X2 N g_a
  refine OwnGo.fwd st2 ?_
  show OwnGo _ _ _ _ (T2.setTop (mkF m 9 #[.val (.ref a)] []))
  exact own_retV X2 hlk hx Bd.returns (hb hby d2_9) (by decide) (by decide) e2 ⟨rfl, N, K, E_a, F_modCount_a, F_elementData_a, F_size_a⟩
theorem d1_0 : decode jdk_38_method_2_code 0 = .ok (.aload_n 0, 1) := by decide +kernel
theorem d1_1 : decode jdk_38_method_2_code 1 = .ok (.invokespecial 1, 3) := by decide +kernel
theorem d1_4 : decode jdk_38_method_2_code 4 = .ok (.aload_n 0, 1) := by decide +kernel
theorem d1_5 : decode jdk_38_method_2_code 5 = .ok (.getstatic 39, 3) := by decide +kernel
theorem d1_8 : decode jdk_38_method_2_code 8 = .ok (.putfield 9, 3) := by decide +kernel
theorem d1_11 : decode jdk_38_method_2_code 11 = .ok (.return_, 1) := by decide +kernel
theorem pn_1 : plainFor (⟨"java/util/ArrayList", "<init>", "()V"⟩ : MethodName) = true := plainFor_of_name (by first | (simp [plainName, overriddenIn]; done) | decide +kernel)
theorem ef_1 (m : MethodId) (x0 : Addr) : entryFrame m #[(.ref x0)] 1 = mkF m 0 #[.val (.ref x0)] [] := by first | (simp [entryFrame, mkF, argsToLocals, Value.category, maxLocals]; done) | rfl
def Q1 (Z : State) (a : Addr) (dc : Addr) (h0 : Heap) (n0 : Nat) (v : Option Value) (h : Heap) (L : List Loc) : Prop := v = none ∧ Fr n0 L ∧ Keep h0 h [a] ∧ Exa Z h a "java/util/ArrayList" ∧ Fld Z h a "java/util/AbstractList" "modCount" "I" (.int (0 : Int32)) ∧ Fld Z h a "java/util/ArrayList" "elementData" "[Ljava/lang/Object;" (.ref dc) ∧ Fld Z h a "java/util/ArrayList" "size" "I" (.int (0 : Int32))
set_option maxRecDepth 65536 in
set_option maxHeartbeats 40000000 in
theorem rm1 (l : Launch) (Z : State) (a0 : Array Value) (hw : ∀ d ∈ tables_1, d.before a0 Z = true) (ws : List Jvm.Cond) (a : Addr) (dc : Addr) (h0 : Heap) (n0 : Nat) (Z0 : n0 ≤ h0.size) (E_a : Exa Z h0 a "java/util/ArrayList") (F_modCount_a : Fld Z h0 a "java/util/AbstractList" "modCount" "I" (.int (0 : Int32))) (F_elementData_a : Fld Z h0 a "java/util/ArrayList" "elementData" "[Ljava/lang/Object;" .null) (F_size_a : Fld Z h0 a "java/util/ArrayList" "size" "I" (.int (0 : Int32))) (g_a : n0 ≤ a) (S0_DEFAULTCAPACITY_EMPTY_ELEMENTDATA : Sta Z h0 "java/util/ArrayList" "DEFAULTCAPACITY_EMPTY_ELEMENTDATA" "[Ljava/lang/Object;" (.ref dc)) :
    MetFree l (⟨"java/util/ArrayList", "<init>", "()V"⟩ : MethodName) (head1 (Jvm.Cond.code (⟨"java/util/ArrayList", "<init>", "()V"⟩ : MethodName) jdk_38_method_2_code 1 none :: ws) ({ frames := 3, cells := 0, slots := 0, locals := 36 } : Room)) (fun arr' U => arr' = #[(.ref a)] ∧ Z.Warmed39 U.vm ∧ U.heap = h0) (fun _ _ _ _ _ => True) (fun _ U o U' => ∃ v L, o = .returned v ∧ (Q1 Z a dc h0 n0) v U'.heap L ∧ FrameEnd U o U' L ({ frames := 3, cells := 0, slots := 0, locals := 36 } : Room).cells ({ frames := 3, cells := 0, slots := 0, locals := 36 } : Room).slots) := by
  refine MetFree.of_bodySF pn_1 hisR ?_
  intro p e s m args below meth c s₁ Bd hml0 hP hK
  obtain ⟨rfl, hZ, hh⟩ := hP
  have hx := Bd.exec
  have hby := Bd.bytes
  have hlk : meth.locks = false := BodyLoose.notSynchronized Bd
  have hml : c.maxLocals = 1 := hml0
  have hown : s.vm.findClass "java/util/ArrayList" = some m.cls := findClass_of_methodNamed Bd.named
  have hnm := (name_of_methodNamed Bd.named Bd.method).1
  have X0 : Stand p l e ({ frames := 3, cells := 0, slots := 0, locals := 36 } : Room) s m #[(.ref a)] below meth c s₁ [] 0 0 := Stand.of_body Bd
  have e0 : s₁.heap = h0 := by rw [← hh, Bd.state]; rfl
  have N := Fr.nil n0
  have Zs := Z0
  change OwnGo p.tables e below (OwnEnd s (Q1 Z a dc h0 n0) ({ frames := 3, cells := 0, slots := 0, locals := 36 } : Room).cells ({ frames := 3, cells := 0, slots := 0, locals := 36 } : Room).slots) _
  refine OwnGo.fwd (fun tq' kq' => castTop (ef_1 m a) kq') ?_
  show OwnGo _ _ _ _ (s₁.setTop (mkF m 0 #[.val (.ref a)] []))
  have K : Keep h0 h0 [a] := Keep.refl _ _
  have E0_a := E_a
  refine OwnGo.fwd (fun tq' kq' => XS.aloadN X0.here hx rfl (hb hby d1_0) rfl rfl kq') ?_
  show OwnGo _ _ _ _ (s₁.setTop (mkF m 1 #[.val (.ref a)] [(.ref a)]))
  obtain ⟨_, _, ⟨T1, L1, k1, n1⟩, -, X1, ⟨Lc1, hQ1, l1, y1, z1⟩, st1⟩ := X0.specialBack hx (y := (⟨"java/util/AbstractList", "<init>", "()V"⟩ : MethodName)) rfl hown (mvT hZ (hw _ (List.mem_of_getElem? (i := 6) rfl))) (mvT hZ (hw _ (List.mem_of_getElem? (i := 7) rfl))) (mvT hZ (hw _ (List.mem_of_getElem? (i := 11) rfl))) (by decide) (backOf (W := 0) (rm2 l Z a0 hw [] a h0 n0 Zs E_a F_modCount_a F_elementData_a F_size_a g_a) hZ (hw _ (List.mem_of_getElem? (i := 11) rfl)) (hw _ (List.mem_of_getElem? (i := 10) rfl)) (by decide) (by decide)) (g := (mkF m 1 #[.val (.ref a)] [(.ref a)])) rfl (by rw [hml]; rfl) (Steps.refl _) (a := a) (argsL := []) (rest := []) (lenOf pd_0 rfl) rfl (by show 2 * 0 + _ ≤ _; exact Nat.le_of_eq rfl) (hb hby d1_1) (fun _ _ => ⟨rfl, e0, (by decide : 0 + 0 ≤ _), (by decide : 0 + 0 ≤ _)⟩)
  dsimp only [Pt.U, Pt.locs, Pt.cells, Pt.slots] at X1 l1 y1 z1 st1 hQ1
  subst l1 y1 z1
  obtain ⟨h1, eh1⟩ : ∃ z, z = T1.heap := ⟨_, rfl⟩
  rw [← eh1] at hQ1
  obtain ⟨rfl, N1q, K1, E_a, F_modCount_a, F_elementData_a, F_size_a⟩ := hQ1
  have N := Fr.app N N1q
  have Zs := Nat.le_trans Zs K1.1
  have K := K.trans K1 (allS (Or.inl (List.mem_of_getElem? (i := 0) rfl)) all0)
  refine OwnGo.thru st1 ?_
  show OwnGo _ _ _ _ (T1.setTop (mkF m 4 #[.val (.ref a)] []))
  refine OwnGo.fwd (fun tq' kq' => XS.aloadN X1.here hx rfl (hb hby d1_4) rfl rfl kq') ?_
  show OwnGo _ _ _ _ (T1.setTop (mkF m 5 #[.val (.ref a)] [(.ref a)]))
  have S_DEFAULTCAPACITY_EMPTY_ELEMENTDATA := own_stK S0_DEFAULTCAPACITY_EMPTY_ELEMENTDATA K (allS ⟨_, E0_a⟩ all0)
  obtain ⟨T2, X2, e2, st2⟩ := getS2 X1 hx hZ hown (host := "") (Or.inl (hw _ (List.mem_of_getElem? (i := 23) rfl))) Via.refl eh1.symm S_DEFAULTCAPACITY_EMPTY_ELEMENTDATA (g := (mkF m 5 #[.val (.ref a)] [(.ref a)])) rfl (hb hby d1_5)
  refine OwnGo.fwd st2 ?_
  show OwnGo _ _ _ _ (T2.setTop (mkF m 8 #[.val (.ref a)] [(.ref dc), (.ref a)]))
  obtain ⟨T3, h3, X3, e3, W3, st3⟩ := putF X2 hx hZ hown (host := "") (Or.inl (hw _ (List.mem_of_getElem? (i := 24) rfl))) Via.refl e2 F_elementData_a E_a (Or.inl (hw _ (List.mem_of_getElem? (i := 25) rfl))) (hw _ (List.mem_of_getElem? (i := 1) rfl)) (ty := (.array (.object "java/lang/Object"))) (by decide) rfl rfl (g := (mkF m 8 #[.val (.ref a)] [(.ref dc), (.ref a)])) rfl rfl (hb hby d1_8)
  have E_a := E_a.wr W3
  have F_modCount_a := F_modCount_a.other W3 (Or.inr (slot_ne (Or.inl (hw _ (List.mem_of_getElem? (i := 22) rfl))) (Or.inl (hw _ (List.mem_of_getElem? (i := 25) rfl))) (by decide) (t := .int) (t' := (.array (.object "java/lang/Object"))) (by decide) (by decide)))
  have F_elementData_a := F_elementData_a.same W3
  have F_size_a := F_size_a.other W3 (Or.inr (slot_ne (Or.inl (hw _ (List.mem_of_getElem? (i := 91) rfl))) (Or.inl (hw _ (List.mem_of_getElem? (i := 25) rfl))) (by decide) (t := .int) (t' := (.array (.object "java/lang/Object"))) (by decide) (by decide)))
  have K := K.wr W3 (Or.inl (List.mem_of_getElem? (i := 0) rfl))
  have Zs := Nat.le_trans Zs (Keep.of_wr W3).1
  have N := Fr.snoc X3 N g_a
  refine OwnGo.fwd st3 ?_
  show OwnGo _ _ _ _ (T3.setTop (mkF m 11 #[.val (.ref a)] []))
  exact own_retV X3 hlk hx Bd.returns (hb hby d1_11) (by decide) (by decide) e3 ⟨rfl, N, K, E_a, F_modCount_a, F_elementData_a, F_size_a⟩
theorem d9_0 : decode jdk_35_method_26_code 0 = .ok (.aload_n 0, 1) := by decide +kernel
theorem d9_1 : decode jdk_35_method_26_code 1 = .ok (.invokespecial 270, 3) := by decide +kernel
theorem d9_4 : decode jdk_35_method_26_code 4 = .ok (.aload_n 0, 1) := by decide +kernel
theorem d9_5 : decode jdk_35_method_26_code 5 = .ok (.lload_n 1, 1) := by decide +kernel
theorem d9_6 : decode jdk_35_method_26_code 6 = .ok (.putfield 273, 3) := by decide +kernel
theorem d9_9 : decode jdk_35_method_26_code 9 = .ok (.return_, 1) := by decide +kernel
theorem pn_9 : plainFor (⟨"java/lang/Long", "<init>", "(J)V"⟩ : MethodName) = true := plainFor_of_name (by first | (simp [plainName, overriddenIn]; done) | decide +kernel)
theorem ef_9 (m : MethodId) (x0 : Addr) (x1 : Int64) : entryFrame m #[(.ref x0), (.long x1)] 3 = mkF m 0 #[.val (.ref x0), .val (.long x1), .second] [] := by first | (simp [entryFrame, mkF, argsToLocals, Value.category, maxLocals]; done) | rfl
def Q9 (Z : State) (a : Addr) (x : Int64) (h0 : Heap) (n0 : Nat) (v : Option Value) (h : Heap) (L : List Loc) : Prop := v = none ∧ Fr n0 L ∧ Keep h0 h [a] ∧ Exa Z h a "java/lang/Long" ∧ Fld Z h a "java/lang/Long" "value" "J" (.long x)
set_option maxRecDepth 65536 in
set_option maxHeartbeats 40000000 in
theorem rm9 (l : Launch) (Z : State) (a0 : Array Value) (hw : ∀ d ∈ tables_1, d.before a0 Z = true) (ws : List Jvm.Cond) (a : Addr) (x : Int64) (h0 : Heap) (n0 : Nat) (Z0 : n0 ≤ h0.size) (E_a : Exa Z h0 a "java/lang/Long") (F_value_a : Fld Z h0 a "java/lang/Long" "value" "J" (.long (0 : Int64))) (g_a : n0 ≤ a) :
    MetFree l (⟨"java/lang/Long", "<init>", "(J)V"⟩ : MethodName) (head1 (Jvm.Cond.code (⟨"java/lang/Long", "<init>", "(J)V"⟩ : MethodName) jdk_35_method_26_code 3 none :: ws) ({ frames := 2, cells := 0, slots := 0, locals := 24 } : Room)) (fun arr' U => arr' = #[(.ref a), (.long x)] ∧ Z.Warmed39 U.vm ∧ U.heap = h0) (fun _ _ _ _ _ => True) (fun _ U o U' => ∃ v L, o = .returned v ∧ (Q9 Z a x h0 n0) v U'.heap L ∧ FrameEnd U o U' L ({ frames := 2, cells := 0, slots := 0, locals := 24 } : Room).cells ({ frames := 2, cells := 0, slots := 0, locals := 24 } : Room).slots) := by
  refine MetFree.of_bodySF pn_9 hisR ?_
  intro p e s m args below meth c s₁ Bd hml0 hP hK
  obtain ⟨rfl, hZ, hh⟩ := hP
  have hx := Bd.exec
  have hby := Bd.bytes
  have hlk : meth.locks = false := BodyLoose.notSynchronized Bd
  have hml : c.maxLocals = 3 := hml0
  have hown : s.vm.findClass "java/lang/Long" = some m.cls := findClass_of_methodNamed Bd.named
  have hnm := (name_of_methodNamed Bd.named Bd.method).1
  have X0 : Stand p l e ({ frames := 2, cells := 0, slots := 0, locals := 24 } : Room) s m #[(.ref a), (.long x)] below meth c s₁ [] 0 0 := Stand.of_body Bd
  have e0 : s₁.heap = h0 := by rw [← hh, Bd.state]; rfl
  have N := Fr.nil n0
  have Zs := Z0
  change OwnGo p.tables e below (OwnEnd s (Q9 Z a x h0 n0) ({ frames := 2, cells := 0, slots := 0, locals := 24 } : Room).cells ({ frames := 2, cells := 0, slots := 0, locals := 24 } : Room).slots) _
  refine OwnGo.fwd (fun tq' kq' => castTop (ef_9 m a x) kq') ?_
  show OwnGo _ _ _ _ (s₁.setTop (mkF m 0 #[.val (.ref a), .val (.long x), .second] []))
  have K : Keep h0 h0 [a] := Keep.refl _ _
  have E0_a := E_a
  refine OwnGo.fwd (fun tq' kq' => XS.aloadN X0.here hx rfl (hb hby d9_0) rfl rfl kq') ?_
  show OwnGo _ _ _ _ (s₁.setTop (mkF m 1 #[.val (.ref a), .val (.long x), .second] [(.ref a)]))
  obtain ⟨_, _, ⟨T1, L1, k1, n1⟩, -, X1, ⟨Lc1, hQ1, l1, y1, z1⟩, st1⟩ := X0.specialBack hx (y := (⟨"java/lang/Number", "<init>", "()V"⟩ : MethodName)) rfl hown (mvT hZ (hw _ (List.mem_of_getElem? (i := 74) rfl))) (mvT hZ (hw _ (List.mem_of_getElem? (i := 75) rfl))) (mvT hZ (hw _ (List.mem_of_getElem? (i := 79) rfl))) (by decide) (backOf (W := 0) (rm10 l Z a0 hw [] a h0 n0 Zs) hZ (hw _ (List.mem_of_getElem? (i := 79) rfl)) (hw _ (List.mem_of_getElem? (i := 78) rfl)) (by decide) (by decide)) (g := (mkF m 1 #[.val (.ref a), .val (.long x), .second] [(.ref a)])) rfl (by rw [hml]; rfl) (Steps.refl _) (a := a) (argsL := []) (rest := []) (lenOf pd_0 rfl) rfl (by show 2 * 0 + _ ≤ _; exact Nat.le_of_eq rfl) (hb hby d9_1) (fun _ _ => ⟨rfl, e0, (by decide : 0 + 0 ≤ _), (by decide : 0 + 0 ≤ _)⟩)
  dsimp only [Pt.U, Pt.locs, Pt.cells, Pt.slots] at X1 l1 y1 z1 st1 hQ1
  subst l1 y1 z1
  obtain ⟨rfl, N1q, e1⟩ := hQ1
  have N := Fr.app N N1q
  refine OwnGo.thru st1 ?_
  show OwnGo _ _ _ _ (T1.setTop (mkF m 4 #[.val (.ref a), .val (.long x), .second] []))
  refine OwnGo.fwd (fun tq' kq' => XS.aloadN X1.here hx rfl (hb hby d9_4) rfl rfl kq') ?_
  show OwnGo _ _ _ _ (T1.setTop (mkF m 5 #[.val (.ref a), .val (.long x), .second] [(.ref a)]))
  refine OwnGo.fwd (fun tq' kq' => XS.lloadN X1.here hx rfl (hb hby d9_5) rfl kq') ?_
  show OwnGo _ _ _ _ (T1.setTop (mkF m 6 #[.val (.ref a), .val (.long x), .second] [(.long x), (.ref a)]))
  obtain ⟨T2, h2, X2, e2, W2, st2⟩ := putF X1 hx hZ hown (host := "") (Or.inl (hw _ (List.mem_of_getElem? (i := 81) rfl))) Via.refl e1 F_value_a E_a (Or.inr ⟨(hw _ (List.mem_of_getElem? (i := 82) rfl)), rfl, hnm⟩) (hw _ (List.mem_of_getElem? (i := 69) rfl)) (ty := .long) (by decide) rfl rfl (g := (mkF m 6 #[.val (.ref a), .val (.long x), .second] [(.long x), (.ref a)])) rfl rfl (hb hby d9_6)
  have E_a := E_a.wr W2
  have F_value_a := F_value_a.same W2
  have K := K.wr W2 (Or.inl (List.mem_of_getElem? (i := 0) rfl))
  have Zs := Nat.le_trans Zs (Keep.of_wr W2).1
  have N := Fr.snoc X2 N g_a
  refine OwnGo.fwd st2 ?_
  show OwnGo _ _ _ _ (T2.setTop (mkF m 9 #[.val (.ref a), .val (.long x), .second] []))
  exact own_retV X2 hlk hx Bd.returns (hb hby d9_9) (by decide) (by decide) e2 ⟨rfl, N, K, E_a, F_value_a⟩
theorem d18_0 : decode jdk_33_method_23_code 0 = .ok (.aload_n 0, 1) := by decide +kernel
theorem d18_1 : decode jdk_33_method_23_code 1 = .ok (.invokespecial 202, 3) := by decide +kernel
theorem d18_4 : decode jdk_33_method_23_code 4 = .ok (.aload_n 0, 1) := by decide +kernel
theorem d18_5 : decode jdk_33_method_23_code 5 = .ok (.iload_n 1, 1) := by decide +kernel
theorem d18_6 : decode jdk_33_method_23_code 6 = .ok (.putfield 205, 3) := by decide +kernel
theorem d18_9 : decode jdk_33_method_23_code 9 = .ok (.return_, 1) := by decide +kernel
theorem pn_18 : plainFor (⟨"java/lang/Integer", "<init>", "(I)V"⟩ : MethodName) = true := plainFor_of_name (by first | (simp [plainName, overriddenIn]; done) | decide +kernel)
theorem ef_18 (m : MethodId) (x0 : Addr) (x1 : Int32) : entryFrame m #[(.ref x0), (.int x1)] 2 = mkF m 0 #[.val (.ref x0), .val (.int x1)] [] := by first | (simp [entryFrame, mkF, argsToLocals, Value.category, maxLocals]; done) | rfl
def Q18 (Z : State) (a : Addr) (x : Int32) (h0 : Heap) (n0 : Nat) (v : Option Value) (h : Heap) (L : List Loc) : Prop := v = none ∧ Fr n0 L ∧ Keep h0 h [a] ∧ Exa Z h a "java/lang/Integer" ∧ Fld Z h a "java/lang/Integer" "value" "I" (.int x)
set_option maxRecDepth 65536 in
set_option maxHeartbeats 40000000 in
theorem rm18 (l : Launch) (Z : State) (a0 : Array Value) (hw : ∀ d ∈ tables_1, d.before a0 Z = true) (ws : List Jvm.Cond) (a : Addr) (x : Int32) (h0 : Heap) (n0 : Nat) (Z0 : n0 ≤ h0.size) (E_a : Exa Z h0 a "java/lang/Integer") (F_value_a : Fld Z h0 a "java/lang/Integer" "value" "I" (.int (0 : Int32))) (g_a : n0 ≤ a) :
    MetFree l (⟨"java/lang/Integer", "<init>", "(I)V"⟩ : MethodName) (head1 (Jvm.Cond.code (⟨"java/lang/Integer", "<init>", "(I)V"⟩ : MethodName) jdk_33_method_23_code 2 none :: ws) ({ frames := 2, cells := 0, slots := 0, locals := 24 } : Room)) (fun arr' U => arr' = #[(.ref a), (.int x)] ∧ Z.Warmed39 U.vm ∧ U.heap = h0) (fun _ _ _ _ _ => True) (fun _ U o U' => ∃ v L, o = .returned v ∧ (Q18 Z a x h0 n0) v U'.heap L ∧ FrameEnd U o U' L ({ frames := 2, cells := 0, slots := 0, locals := 24 } : Room).cells ({ frames := 2, cells := 0, slots := 0, locals := 24 } : Room).slots) := by
  refine MetFree.of_bodySF pn_18 hisR ?_
  intro p e s m args below meth c s₁ Bd hml0 hP hK
  obtain ⟨rfl, hZ, hh⟩ := hP
  have hx := Bd.exec
  have hby := Bd.bytes
  have hlk : meth.locks = false := BodyLoose.notSynchronized Bd
  have hml : c.maxLocals = 2 := hml0
  have hown : s.vm.findClass "java/lang/Integer" = some m.cls := findClass_of_methodNamed Bd.named
  have hnm := (name_of_methodNamed Bd.named Bd.method).1
  have X0 : Stand p l e ({ frames := 2, cells := 0, slots := 0, locals := 24 } : Room) s m #[(.ref a), (.int x)] below meth c s₁ [] 0 0 := Stand.of_body Bd
  have e0 : s₁.heap = h0 := by rw [← hh, Bd.state]; rfl
  have N := Fr.nil n0
  have Zs := Z0
  change OwnGo p.tables e below (OwnEnd s (Q18 Z a x h0 n0) ({ frames := 2, cells := 0, slots := 0, locals := 24 } : Room).cells ({ frames := 2, cells := 0, slots := 0, locals := 24 } : Room).slots) _
  refine OwnGo.fwd (fun tq' kq' => castTop (ef_18 m a x) kq') ?_
  show OwnGo _ _ _ _ (s₁.setTop (mkF m 0 #[.val (.ref a), .val (.int x)] []))
  have K : Keep h0 h0 [a] := Keep.refl _ _
  have E0_a := E_a
  refine OwnGo.fwd (fun tq' kq' => XS.aloadN X0.here hx rfl (hb hby d18_0) rfl rfl kq') ?_
  show OwnGo _ _ _ _ (s₁.setTop (mkF m 1 #[.val (.ref a), .val (.int x)] [(.ref a)]))
  obtain ⟨_, _, ⟨T1, L1, k1, n1⟩, -, X1, ⟨Lc1, hQ1, l1, y1, z1⟩, st1⟩ := X0.specialBack hx (y := (⟨"java/lang/Number", "<init>", "()V"⟩ : MethodName)) rfl hown (mvT hZ (hw _ (List.mem_of_getElem? (i := 155) rfl))) (mvT hZ (hw _ (List.mem_of_getElem? (i := 75) rfl))) (mvT hZ (hw _ (List.mem_of_getElem? (i := 79) rfl))) (by decide) (backOf (W := 0) (rm10 l Z a0 hw [] a h0 n0 Zs) hZ (hw _ (List.mem_of_getElem? (i := 79) rfl)) (hw _ (List.mem_of_getElem? (i := 78) rfl)) (by decide) (by decide)) (g := (mkF m 1 #[.val (.ref a), .val (.int x)] [(.ref a)])) rfl (by rw [hml]; rfl) (Steps.refl _) (a := a) (argsL := []) (rest := []) (lenOf pd_0 rfl) rfl (by show 2 * 0 + _ ≤ _; exact Nat.le_of_eq rfl) (hb hby d18_1) (fun _ _ => ⟨rfl, e0, (by decide : 0 + 0 ≤ _), (by decide : 0 + 0 ≤ _)⟩)
  dsimp only [Pt.U, Pt.locs, Pt.cells, Pt.slots] at X1 l1 y1 z1 st1 hQ1
  subst l1 y1 z1
  obtain ⟨rfl, N1q, e1⟩ := hQ1
  have N := Fr.app N N1q
  refine OwnGo.thru st1 ?_
  show OwnGo _ _ _ _ (T1.setTop (mkF m 4 #[.val (.ref a), .val (.int x)] []))
  refine OwnGo.fwd (fun tq' kq' => XS.aloadN X1.here hx rfl (hb hby d18_4) rfl rfl kq') ?_
  show OwnGo _ _ _ _ (T1.setTop (mkF m 5 #[.val (.ref a), .val (.int x)] [(.ref a)]))
  refine OwnGo.fwd (fun tq' kq' => XS.iloadN X1.here hx rfl (hb hby d18_5) rfl kq') ?_
  show OwnGo _ _ _ _ (T1.setTop (mkF m 6 #[.val (.ref a), .val (.int x)] [(.int x), (.ref a)]))
  obtain ⟨T2, h2, X2, e2, W2, st2⟩ := putF X1 hx hZ hown (host := "") (Or.inl (hw _ (List.mem_of_getElem? (i := 157) rfl))) Via.refl e1 F_value_a E_a (Or.inr ⟨(hw _ (List.mem_of_getElem? (i := 158) rfl)), rfl, hnm⟩) (hw _ (List.mem_of_getElem? (i := 150) rfl)) (ty := .int) (by decide) rfl rfl (g := (mkF m 6 #[.val (.ref a), .val (.int x)] [(.int x), (.ref a)])) rfl rfl (hb hby d18_6)
  have E_a := E_a.wr W2
  have F_value_a := F_value_a.same W2
  have K := K.wr W2 (Or.inl (List.mem_of_getElem? (i := 0) rfl))
  have Zs := Nat.le_trans Zs (Keep.of_wr W2).1
  have N := Fr.snoc X2 N g_a
  refine OwnGo.fwd st2 ?_
  show OwnGo _ _ _ _ (T2.setTop (mkF m 9 #[.val (.ref a), .val (.int x)] []))
  exact own_retV X2 hlk hx Bd.returns (hb hby d18_9) (by decide) (by decide) e2 ⟨rfl, N, K, E_a, F_value_a⟩
theorem d31_0 : decode jdk_117_method_9_code 0 = .ok (.aload_n 0, 1) := by decide +kernel
theorem d31_1 : decode jdk_117_method_9_code 1 = .ok (.invokespecial 113, 3) := by decide +kernel
theorem d31_4 : decode jdk_117_method_9_code 4 = .ok (.aload_n 0, 1) := by decide +kernel
theorem d31_5 : decode jdk_117_method_9_code 5 = .ok (.dload_n 1, 1) := by decide +kernel
theorem d31_6 : decode jdk_117_method_9_code 6 = .ok (.putfield 118, 3) := by decide +kernel
theorem d31_9 : decode jdk_117_method_9_code 9 = .ok (.return_, 1) := by decide +kernel
theorem pn_31 : plainFor (⟨"java/lang/Double", "<init>", "(D)V"⟩ : MethodName) = true := plainFor_of_name (by first | (simp [plainName, overriddenIn]; done) | decide +kernel)
theorem ef_31 (m : MethodId) (x0 : Addr) (x1 : UInt64) : entryFrame m #[(.ref x0), (.double x1)] 3 = mkF m 0 #[.val (.ref x0), .val (.double x1), .second] [] := by first | (simp [entryFrame, mkF, argsToLocals, Value.category, maxLocals]; done) | rfl
def Q31 (Z : State) (a : Addr) (x : UInt64) (h0 : Heap) (n0 : Nat) (v : Option Value) (h : Heap) (L : List Loc) : Prop := v = none ∧ Fr n0 L ∧ Keep h0 h [a] ∧ Exa Z h a "java/lang/Double" ∧ Fld Z h a "java/lang/Double" "value" "D" (.double x)
set_option maxRecDepth 65536 in
set_option maxHeartbeats 40000000 in
theorem rm31 (l : Launch) (Z : State) (a0 : Array Value) (hw : ∀ d ∈ tables_1, d.before a0 Z = true) (ws : List Jvm.Cond) (a : Addr) (x : UInt64) (h0 : Heap) (n0 : Nat) (Z0 : n0 ≤ h0.size) (E_a : Exa Z h0 a "java/lang/Double") (F_value_a : Fld Z h0 a "java/lang/Double" "value" "D" (.double (0 : UInt64))) (g_a : n0 ≤ a) :
    MetFree l (⟨"java/lang/Double", "<init>", "(D)V"⟩ : MethodName) (head1 (Jvm.Cond.code (⟨"java/lang/Double", "<init>", "(D)V"⟩ : MethodName) jdk_117_method_9_code 3 none :: ws) ({ frames := 2, cells := 0, slots := 0, locals := 24 } : Room)) (fun arr' U => arr' = #[(.ref a), (.double x)] ∧ Z.Warmed39 U.vm ∧ U.heap = h0) (fun _ _ _ _ _ => True) (fun _ U o U' => ∃ v L, o = .returned v ∧ (Q31 Z a x h0 n0) v U'.heap L ∧ FrameEnd U o U' L ({ frames := 2, cells := 0, slots := 0, locals := 24 } : Room).cells ({ frames := 2, cells := 0, slots := 0, locals := 24 } : Room).slots) := by
  refine MetFree.of_bodySF pn_31 hisR ?_
  intro p e s m args below meth c s₁ Bd hml0 hP hK
  obtain ⟨rfl, hZ, hh⟩ := hP
  have hx := Bd.exec
  have hby := Bd.bytes
  have hlk : meth.locks = false := BodyLoose.notSynchronized Bd
  have hml : c.maxLocals = 3 := hml0
  have hown : s.vm.findClass "java/lang/Double" = some m.cls := findClass_of_methodNamed Bd.named
  have hnm := (name_of_methodNamed Bd.named Bd.method).1
  have X0 : Stand p l e ({ frames := 2, cells := 0, slots := 0, locals := 24 } : Room) s m #[(.ref a), (.double x)] below meth c s₁ [] 0 0 := Stand.of_body Bd
  have e0 : s₁.heap = h0 := by rw [← hh, Bd.state]; rfl
  have N := Fr.nil n0
  have Zs := Z0
  change OwnGo p.tables e below (OwnEnd s (Q31 Z a x h0 n0) ({ frames := 2, cells := 0, slots := 0, locals := 24 } : Room).cells ({ frames := 2, cells := 0, slots := 0, locals := 24 } : Room).slots) _
  refine OwnGo.fwd (fun tq' kq' => castTop (ef_31 m a x) kq') ?_
  show OwnGo _ _ _ _ (s₁.setTop (mkF m 0 #[.val (.ref a), .val (.double x), .second] []))
  have K : Keep h0 h0 [a] := Keep.refl _ _
  have E0_a := E_a
  refine OwnGo.fwd (fun tq' kq' => XS.aloadN X0.here hx rfl (hb hby d31_0) rfl rfl kq') ?_
  show OwnGo _ _ _ _ (s₁.setTop (mkF m 1 #[.val (.ref a), .val (.double x), .second] [(.ref a)]))
  obtain ⟨_, _, ⟨T1, L1, k1, n1⟩, -, X1, ⟨Lc1, hQ1, l1, y1, z1⟩, st1⟩ := X0.specialBack hx (y := (⟨"java/lang/Number", "<init>", "()V"⟩ : MethodName)) rfl hown (mvT hZ (hw _ (List.mem_of_getElem? (i := 265) rfl))) (mvT hZ (hw _ (List.mem_of_getElem? (i := 75) rfl))) (mvT hZ (hw _ (List.mem_of_getElem? (i := 79) rfl))) (by decide) (backOf (W := 0) (rm10 l Z a0 hw [] a h0 n0 Zs) hZ (hw _ (List.mem_of_getElem? (i := 79) rfl)) (hw _ (List.mem_of_getElem? (i := 78) rfl)) (by decide) (by decide)) (g := (mkF m 1 #[.val (.ref a), .val (.double x), .second] [(.ref a)])) rfl (by rw [hml]; rfl) (Steps.refl _) (a := a) (argsL := []) (rest := []) (lenOf pd_0 rfl) rfl (by show 2 * 0 + _ ≤ _; exact Nat.le_of_eq rfl) (hb hby d31_1) (fun _ _ => ⟨rfl, e0, (by decide : 0 + 0 ≤ _), (by decide : 0 + 0 ≤ _)⟩)
  dsimp only [Pt.U, Pt.locs, Pt.cells, Pt.slots] at X1 l1 y1 z1 st1 hQ1
  subst l1 y1 z1
  obtain ⟨rfl, N1q, e1⟩ := hQ1
  have N := Fr.app N N1q
  refine OwnGo.thru st1 ?_
  show OwnGo _ _ _ _ (T1.setTop (mkF m 4 #[.val (.ref a), .val (.double x), .second] []))
  refine OwnGo.fwd (fun tq' kq' => XS.aloadN X1.here hx rfl (hb hby d31_4) rfl rfl kq') ?_
  show OwnGo _ _ _ _ (T1.setTop (mkF m 5 #[.val (.ref a), .val (.double x), .second] [(.ref a)]))
  refine OwnGo.fwd (fun tq' kq' => XS.dloadN X1.here hx rfl (hb hby d31_5) rfl kq') ?_
  show OwnGo _ _ _ _ (T1.setTop (mkF m 6 #[.val (.ref a), .val (.double x), .second] [(.double x), (.ref a)]))
  obtain ⟨T2, h2, X2, e2, W2, st2⟩ := putF X1 hx hZ hown (host := "") (Or.inl (hw _ (List.mem_of_getElem? (i := 267) rfl))) Via.refl e1 F_value_a E_a (Or.inr ⟨(hw _ (List.mem_of_getElem? (i := 268) rfl)), rfl, hnm⟩) (hw _ (List.mem_of_getElem? (i := 260) rfl)) (ty := .double) (by decide) rfl rfl (g := (mkF m 6 #[.val (.ref a), .val (.double x), .second] [(.double x), (.ref a)])) rfl rfl (hb hby d31_6)
  have E_a := E_a.wr W2
  have F_value_a := F_value_a.same W2
  have K := K.wr W2 (Or.inl (List.mem_of_getElem? (i := 0) rfl))
  have Zs := Nat.le_trans Zs (Keep.of_wr W2).1
  have N := Fr.snoc X2 N g_a
  refine OwnGo.fwd st2 ?_
  show OwnGo _ _ _ _ (T2.setTop (mkF m 9 #[.val (.ref a), .val (.double x), .second] []))
  exact own_retV X2 hlk hx Bd.returns (hb hby d31_9) (by decide) (by decide) e2 ⟨rfl, N, K, E_a, F_value_a⟩
theorem d30_0 : decode jdk_117_method_4_code 0 = .ok (.new 1, 3) := by decide +kernel
theorem d30_3 : decode jdk_117_method_4_code 3 = .ok (.dup, 1) := by decide +kernel
theorem d30_4 : decode jdk_117_method_4_code 4 = .ok (.dload_n 0, 1) := by decide +kernel
theorem d30_5 : decode jdk_117_method_4_code 5 = .ok (.invokespecial 105, 3) := by decide +kernel
theorem d30_8 : decode jdk_117_method_4_code 8 = .ok (.areturn, 1) := by decide +kernel
theorem pn_30 : plainFor (⟨"java/lang/Double", "valueOf", "(D)Ljava/lang/Double;"⟩ : MethodName) = true := plainFor_of_name (by first | (simp [plainName, overriddenIn]; done) | decide +kernel)
theorem ef_30 (m : MethodId) (x0 : UInt64) : entryFrame m #[(.double x0)] 2 = mkF m 0 #[.val (.double x0), .second] [] := by first | (simp [entryFrame, mkF, argsToLocals, Value.category, maxLocals]; done) | rfl
def Q30 (Z : State) (x : UInt64) (h0 : Heap) (n0 : Nat) (v : Option Value) (h : Heap) (L : List Loc) : Prop := Fr n0 L ∧ Keep h0 h [] ∧ ∃ r, v = some (.ref r) ∧ Exa Z h r "java/lang/Double"
set_option maxRecDepth 65536 in
set_option maxHeartbeats 40000000 in
theorem rm30 (l : Launch) (Z : State) (a0 : Array Value) (hw : ∀ d ∈ tables_1, d.before a0 Z = true) (ws : List Jvm.Cond) (x : UInt64) (h0 : Heap) (n0 : Nat) (Z0 : n0 ≤ h0.size) :
    MetFree l (⟨"java/lang/Double", "valueOf", "(D)Ljava/lang/Double;"⟩ : MethodName) (head1 (Jvm.Cond.code (⟨"java/lang/Double", "valueOf", "(D)Ljava/lang/Double;"⟩ : MethodName) jdk_117_method_4_code 2 (some (.object "java/lang/Double")) :: ws) ({ frames := 3, cells := 1, slots := 1, locals := 40 } : Room)) (fun arr' U => arr' = #[(.double x)] ∧ Z.Warmed39 U.vm ∧ U.heap = h0) (fun _ _ _ _ _ => True) (fun _ U o U' => ∃ v L, o = .returned v ∧ (Q30 Z x h0 n0) v U'.heap L ∧ FrameEnd U o U' L ({ frames := 3, cells := 1, slots := 1, locals := 40 } : Room).cells ({ frames := 3, cells := 1, slots := 1, locals := 40 } : Room).slots) := by
  refine MetFree.of_bodySF pn_30 hisR ?_
  intro p e s m args below meth c s₁ Bd hml0 hP hK
  obtain ⟨rfl, hZ, hh⟩ := hP
  have hx := Bd.exec
  have hby := Bd.bytes
  have hlk : meth.locks = false := BodyLoose.notSynchronized Bd
  have hml : c.maxLocals = 2 := hml0
  have hown : s.vm.findClass "java/lang/Double" = some m.cls := findClass_of_methodNamed Bd.named
  have hnm := (name_of_methodNamed Bd.named Bd.method).1
  have X0 : Stand p l e ({ frames := 3, cells := 1, slots := 1, locals := 40 } : Room) s m #[(.double x)] below meth c s₁ [] 0 0 := Stand.of_body Bd
  have e0 : s₁.heap = h0 := by rw [← hh, Bd.state]; rfl
  have N := Fr.nil n0
  have Zs := Z0
  change OwnGo p.tables e below (OwnEnd s (Q30 Z x h0 n0) ({ frames := 3, cells := 1, slots := 1, locals := 40 } : Room).cells ({ frames := 3, cells := 1, slots := 1, locals := 40 } : Room).slots) _
  refine OwnGo.fwd (fun tq' kq' => castTop (ef_30 m x) kq') ?_
  show OwnGo _ _ _ _ (s₁.setTop (mkF m 0 #[.val (.double x), .second] []))
  have K : Keep h0 h0 [] := Keep.refl _ _
  obtain ⟨T1, h1, X1, e1, E1, A1, D1, -, st1⟩ := newO X0 hx hZ hown (hw _ (List.mem_of_getElem? (i := 259) rfl)) (hw _ (List.mem_of_getElem? (i := 260) rfl)) (hw _ (List.mem_of_getElem? (i := 257) rfl)) e0 (g := (mkF m 0 #[.val (.double x), .second] [])) rfl (hb hby d30_0) (by decide) (by decide)
  obtain ⟨b1, g1⟩ : ∃ z, z = h0.size := ⟨_, rfl⟩
  rw [← g1] at A1 D1 st1
  have g_b1 : n0 ≤ b1 := Nat.le_trans Zs (Nat.le_of_eq g1.symm)
  have sz_b1 : h0.size ≤ b1 := Nat.le_trans K.1 (Nat.le_of_eq g1.symm)
  have K := K.ext E1
  have Zs := Nat.le_trans Zs E1.1
  have E_b1 := A1
  have F_value_b1 : Fld Z h1 b1 "java/lang/Double" "value" "D" (.double (0 : UInt64)) := D1 (Or.inr (hw _ (List.mem_of_getElem? (i := 268) rfl))) (ty := .double) (by decide)
  refine OwnGo.fwd st1 ?_
  show OwnGo _ _ _ _ (T1.setTop (mkF m 3 #[.val (.double x), .second] [(.ref b1)]))
  refine OwnGo.fwd (fun tq' kq' => XS.dup X1.here hx rfl (hb hby d30_3) rfl rfl kq') ?_
  show OwnGo _ _ _ _ (T1.setTop (mkF m 4 #[.val (.double x), .second] [(.ref b1), (.ref b1)]))
  refine OwnGo.fwd (fun tq' kq' => XS.dloadN X1.here hx rfl (hb hby d30_4) rfl kq') ?_
  show OwnGo _ _ _ _ (T1.setTop (mkF m 5 #[.val (.double x), .second] [(.double x), (.ref b1), (.ref b1)]))
  obtain ⟨_, _, ⟨T2, L2, k2, n2⟩, -, X2, ⟨Lc2, hQ2, l2, y2, z2⟩, st2⟩ := X1.specialBack hx (y := (⟨"java/lang/Double", "<init>", "(D)V"⟩ : MethodName)) rfl hown (mvT hZ (hw _ (List.mem_of_getElem? (i := 261) rfl))) (mvT hZ (hw _ (List.mem_of_getElem? (i := 262) rfl))) (mvT hZ (hw _ (List.mem_of_getElem? (i := 264) rfl))) (by decide) (backOf (W := 1) (rm31 l Z a0 hw [] b1 x h1 n0 Zs E_b1 F_value_b1 g_b1) hZ (hw _ (List.mem_of_getElem? (i := 264) rfl)) (hw _ (List.mem_of_getElem? (i := 257) rfl)) (by decide) (by decide)) (g := (mkF m 5 #[.val (.double x), .second] [(.double x), (.ref b1), (.ref b1)])) rfl (by rw [hml]; rfl) (Steps.refl _) (a := b1) (argsL := [(.double x)]) (rest := [(.ref b1)]) (lenOf pd_20 rfl) rfl (by show 2 * 0 + _ ≤ _; exact Nat.le_of_eq rfl) (hb hby d30_5) (fun _ _ => ⟨rfl, e1, (by decide : 1 + 0 ≤ _), (by decide : 1 + 0 ≤ _)⟩)
  dsimp only [Pt.U, Pt.locs, Pt.cells, Pt.slots] at X2 l2 y2 z2 st2 hQ2
  subst l2 y2 z2
  obtain ⟨h2, eh2⟩ : ∃ z, z = T2.heap := ⟨_, rfl⟩
  rw [← eh2] at hQ2
  obtain ⟨rfl, N2q, K2, E_b1, F_value_b1⟩ := hQ2
  have N := Fr.app N N2q
  have Zs := Nat.le_trans Zs K2.1
  have K := K.trans K2 (allS (Or.inr sz_b1) all0)
  refine OwnGo.thru st2 ?_
  show OwnGo _ _ _ _ (T2.setTop (mkF m 8 #[.val (.double x), .second] [(.ref b1)]))
  exact own_retA X2 hlk hx Bd.returns rfl rfl (hb hby d30_8) (by decide) (by decide) eh2.symm ⟨N, K, b1, rfl, E_b1⟩
theorem d17_0 : decode jdk_33_method_22_code 0 = .ok (.iload_n 0, 1) := by decide +kernel
theorem d17_1 : decode jdk_33_method_22_code 1 = .ok (.bipush (-128), 2) := by decide +kernel
theorem d17_3 : decode jdk_33_method_22_code 3 = .ok (.if_icmp .lt 20, 3) := by decide +kernel
theorem d17_6 : decode jdk_33_method_22_code 6 = .ok (.iload_n 0, 1) := by decide +kernel
theorem d17_7 : decode jdk_33_method_22_code 7 = .ok (.getstatic 191, 3) := by decide +kernel
theorem d17_10 : decode jdk_33_method_22_code 10 = .ok (.if_icmp .gt 13, 3) := by decide +kernel
theorem d17_13 : decode jdk_33_method_22_code 13 = .ok (.getstatic 195, 3) := by decide +kernel
theorem d17_16 : decode jdk_33_method_22_code 16 = .ok (.iload_n 0, 1) := by decide +kernel
theorem d17_17 : decode jdk_33_method_22_code 17 = .ok (.sipush 128, 3) := by decide +kernel
theorem d17_20 : decode jdk_33_method_22_code 20 = .ok (.iadd, 1) := by decide +kernel
theorem d17_21 : decode jdk_33_method_22_code 21 = .ok (.aaload, 1) := by decide +kernel
theorem d17_22 : decode jdk_33_method_22_code 22 = .ok (.areturn, 1) := by decide +kernel
theorem d17_23 : decode jdk_33_method_22_code 23 = .ok (.new 1, 3) := by decide +kernel
theorem d17_26 : decode jdk_33_method_22_code 26 = .ok (.dup, 1) := by decide +kernel
theorem d17_27 : decode jdk_33_method_22_code 27 = .ok (.iload_n 0, 1) := by decide +kernel
theorem d17_28 : decode jdk_33_method_22_code 28 = .ok (.invokespecial 199, 3) := by decide +kernel
theorem d17_31 : decode jdk_33_method_22_code 31 = .ok (.areturn, 1) := by decide +kernel
theorem pn_17 : plainFor (⟨"java/lang/Integer", "valueOf", "(I)Ljava/lang/Integer;"⟩ : MethodName) = true := plainFor_of_name (by first | (simp [plainName, overriddenIn]; done) | decide +kernel)
theorem ef_17 (m : MethodId) (x0 : Int32) : entryFrame m #[(.int x0)] 1 = mkF m 0 #[.val (.int x0)] [] := by first | (simp [entryFrame, mkF, argsToLocals, Value.category, maxLocals]; done) | rfl
def Q17 (Z : State) (x : Int32) (h0 : Heap) (n0 : Nat) (v : Option Value) (h : Heap) (L : List Loc) : Prop := Fr n0 L ∧ Keep h0 h [] ∧ ∃ r, v = some (.ref r) ∧ Exa Z h r "java/lang/Integer"
set_option maxRecDepth 65536 in
set_option maxHeartbeats 40000000 in
theorem rm17 (l : Launch) (Z : State) (a0 : Array Value) (hw : ∀ d ∈ tables_1, d.before a0 Z = true) (ws : List Jvm.Cond) (x : Int32) (h0 : Heap) (n0 : Nat) (Z0 : n0 ≤ h0.size) (C0 : OwnIC Z h0) :
    MetFree l (⟨"java/lang/Integer", "valueOf", "(I)Ljava/lang/Integer;"⟩ : MethodName) (head1 (Jvm.Cond.code (⟨"java/lang/Integer", "valueOf", "(I)Ljava/lang/Integer;"⟩ : MethodName) jdk_33_method_22_code 1 (some (.object "java/lang/Integer")) :: ws) ({ frames := 3, cells := 1, slots := 1, locals := 45 } : Room)) (fun arr' U => arr' = #[(.int x)] ∧ Z.Warmed39 U.vm ∧ U.heap = h0) (fun _ _ _ _ _ => True) (fun _ U o U' => ∃ v L, o = .returned v ∧ (Q17 Z x h0 n0) v U'.heap L ∧ FrameEnd U o U' L ({ frames := 3, cells := 1, slots := 1, locals := 45 } : Room).cells ({ frames := 3, cells := 1, slots := 1, locals := 45 } : Room).slots) := by
  refine MetFree.of_bodySF pn_17 hisR ?_
  intro p e s m args below meth c s₁ Bd hml0 hP hK
  obtain ⟨rfl, hZ, hh⟩ := hP
  have hx := Bd.exec
  have hby := Bd.bytes
  have hlk : meth.locks = false := BodyLoose.notSynchronized Bd
  have hml : c.maxLocals = 1 := hml0
  have hown : s.vm.findClass "java/lang/Integer" = some m.cls := findClass_of_methodNamed Bd.named
  have hnm := (name_of_methodNamed Bd.named Bd.method).1
  have X0 : Stand p l e ({ frames := 3, cells := 1, slots := 1, locals := 45 } : Room) s m #[(.int x)] below meth c s₁ [] 0 0 := Stand.of_body Bd
  have e0 : s₁.heap = h0 := by rw [← hh, Bd.state]; rfl
  have N := Fr.nil n0
  have Zs := Z0
  change OwnGo p.tables e below (OwnEnd s (Q17 Z x h0 n0) ({ frames := 3, cells := 1, slots := 1, locals := 45 } : Room).cells ({ frames := 3, cells := 1, slots := 1, locals := 45 } : Room).slots) _
  refine OwnGo.fwd (fun tq' kq' => castTop (ef_17 m x) kq') ?_
  show OwnGo _ _ _ _ (s₁.setTop (mkF m 0 #[.val (.int x)] []))
  obtain ⟨ca, cl, S_high, S_cache, A_ca, hsz, hel⟩ := C0
  have K : Keep h0 h0 [] := Keep.refl _ _
  refine OwnGo.fwd (fun tq' kq' => XS.iloadN X0.here hx rfl (hb hby d17_0) rfl kq') ?_
  show OwnGo _ _ _ _ (s₁.setTop (mkF m 1 #[.val (.int x)] [(.int x)]))
  refine OwnGo.fwd (fun tq' kq' => XS.bipush X0.here hx rfl (hb hby d17_1) kq') ?_
  show OwnGo _ _ _ _ (s₁.setTop (mkF m 3 #[.val (.int x)] [(.int (-128 : Int32)), (.int x)]))
  by_cases hc3_1 : x.toInt < -128
  · refine OwnGo.fwd (fun tq' kq' => XS.icmpYes X0.here hx rfl (pc0 := 3) (pc' := 23) rfl (hb hby d17_3) rfl (own_blt rfl (by decide) hc3_1).1 (by decide) (by decide) kq') ?_
    show OwnGo _ _ _ _ (s₁.setTop (mkF m 23 #[.val (.int x)] []))
    obtain ⟨T2, h2, X2, e2, E2, A2, D2, -, st2⟩ := newO X0 hx hZ hown (hw _ (List.mem_of_getElem? (i := 149) rfl)) (hw _ (List.mem_of_getElem? (i := 150) rfl)) (hw _ (List.mem_of_getElem? (i := 142) rfl)) e0 (g := (mkF m 23 #[.val (.int x)] [])) rfl (hb hby d17_23) (by decide) (by decide)
    obtain ⟨b2, g2⟩ : ∃ z, z = h0.size := ⟨_, rfl⟩
    rw [← g2] at A2 D2 st2
    have g_b2 : n0 ≤ b2 := Nat.le_trans Zs (Nat.le_of_eq g2.symm)
    have sz_b2 : h0.size ≤ b2 := Nat.le_trans K.1 (Nat.le_of_eq g2.symm)
    have K := K.ext E2
    have Zs := Nat.le_trans Zs E2.1
    have S_high := S_high.ext E2
    have S_cache := S_cache.ext E2
    have E_b2 := A2
    have F_value_b2 : Fld Z h2 b2 "java/lang/Integer" "value" "I" (.int (0 : Int32)) := D2 (Or.inr (hw _ (List.mem_of_getElem? (i := 158) rfl))) (ty := .int) (by decide)
    refine OwnGo.fwd st2 ?_
    show OwnGo _ _ _ _ (T2.setTop (mkF m 26 #[.val (.int x)] [(.ref b2)]))
    refine OwnGo.fwd (fun tq' kq' => XS.dup X2.here hx rfl (hb hby d17_26) rfl rfl kq') ?_
    show OwnGo _ _ _ _ (T2.setTop (mkF m 27 #[.val (.int x)] [(.ref b2), (.ref b2)]))
    refine OwnGo.fwd (fun tq' kq' => XS.iloadN X2.here hx rfl (hb hby d17_27) rfl kq') ?_
    show OwnGo _ _ _ _ (T2.setTop (mkF m 28 #[.val (.int x)] [(.int x), (.ref b2), (.ref b2)]))
    obtain ⟨_, _, ⟨T3, L3, k3, n3⟩, -, X3, ⟨Lc3, hQ3, l3, y3, z3⟩, st3⟩ := X2.specialBack hx (y := (⟨"java/lang/Integer", "<init>", "(I)V"⟩ : MethodName)) rfl hown (mvT hZ (hw _ (List.mem_of_getElem? (i := 151) rfl))) (mvT hZ (hw _ (List.mem_of_getElem? (i := 152) rfl))) (mvT hZ (hw _ (List.mem_of_getElem? (i := 154) rfl))) (by decide) (backOf (W := 1) (rm18 l Z a0 hw [] b2 x h2 n0 Zs E_b2 F_value_b2 g_b2) hZ (hw _ (List.mem_of_getElem? (i := 154) rfl)) (hw _ (List.mem_of_getElem? (i := 142) rfl)) (by decide) (by decide)) (g := (mkF m 28 #[.val (.int x)] [(.int x), (.ref b2), (.ref b2)])) rfl (by rw [hml]; rfl) (Steps.refl _) (a := b2) (argsL := [(.int x)]) (rest := [(.ref b2)]) (lenOf pd_13 rfl) rfl (by show 2 * 0 + _ ≤ _; exact Nat.le_of_eq rfl) (hb hby d17_28) (fun _ _ => ⟨rfl, e2, (by decide : 1 + 0 ≤ _), (by decide : 1 + 0 ≤ _)⟩)
    dsimp only [Pt.U, Pt.locs, Pt.cells, Pt.slots] at X3 l3 y3 z3 st3 hQ3
    subst l3 y3 z3
    obtain ⟨h3, eh3⟩ : ∃ z, z = T3.heap := ⟨_, rfl⟩
    rw [← eh3] at hQ3
    obtain ⟨rfl, N3q, K3, E_b2, F_value_b2⟩ := hQ3
    have N := Fr.app N N3q
    have Zs := Nat.le_trans Zs K3.1
    have K := K.trans K3 (allS (Or.inr sz_b2) all0)
    refine OwnGo.thru st3 ?_
    show OwnGo _ _ _ _ (T3.setTop (mkF m 31 #[.val (.int x)] [(.ref b2)]))
    exact own_retA X3 hlk hx Bd.returns rfl rfl (hb hby d17_31) (by decide) (by decide) eh3.symm ⟨N, K, b2, rfl, E_b2⟩
  · refine OwnGo.fwd (fun tq' kq' => XS.icmpNo X0.here hx rfl (hb hby d17_3) rfl (own_bnlt rfl (by decide) hc3_1).1 kq') ?_
    show OwnGo _ _ _ _ (s₁.setTop (mkF m 6 #[.val (.int x)] []))
    refine OwnGo.fwd (fun tq' kq' => XS.iloadN X0.here hx rfl (hb hby d17_6) rfl kq') ?_
    show OwnGo _ _ _ _ (s₁.setTop (mkF m 7 #[.val (.int x)] [(.int x)]))
    obtain ⟨T4, X4, e4, st4⟩ := getS2 X0 hx hZ hown (host := "") (Or.inl (hw _ (List.mem_of_getElem? (i := 144) rfl))) Via.refl e0 S_high (g := (mkF m 7 #[.val (.int x)] [(.int x)])) rfl (hb hby d17_7)
    refine OwnGo.fwd st4 ?_
    show OwnGo _ _ _ _ (T4.setTop (mkF m 10 #[.val (.int x)] [(.int (127 : Int32)), (.int x)]))
    by_cases hc10_5 : 127 < x.toInt
    · refine OwnGo.fwd (fun tq' kq' => XS.icmpYes X4.here hx rfl (pc0 := 10) (pc' := 23) rfl (hb hby d17_10) rfl (own_blt (by decide) rfl hc10_5).2.2.1 (by decide) (by decide) kq') ?_
      show OwnGo _ _ _ _ (T4.setTop (mkF m 23 #[.val (.int x)] []))
      obtain ⟨T6, h6, X6, e6, E6, A6, D6, -, st6⟩ := newO X4 hx hZ hown (hw _ (List.mem_of_getElem? (i := 149) rfl)) (hw _ (List.mem_of_getElem? (i := 150) rfl)) (hw _ (List.mem_of_getElem? (i := 142) rfl)) e4 (g := (mkF m 23 #[.val (.int x)] [])) rfl (hb hby d17_23) (by decide) (by decide)
      obtain ⟨b6, g6⟩ : ∃ z, z = h0.size := ⟨_, rfl⟩
      rw [← g6] at A6 D6 st6
      have g_b6 : n0 ≤ b6 := Nat.le_trans Zs (Nat.le_of_eq g6.symm)
      have sz_b6 : h0.size ≤ b6 := Nat.le_trans K.1 (Nat.le_of_eq g6.symm)
      have K := K.ext E6
      have Zs := Nat.le_trans Zs E6.1
      have S_high := S_high.ext E6
      have S_cache := S_cache.ext E6
      have E_b6 := A6
      have F_value_b6 : Fld Z h6 b6 "java/lang/Integer" "value" "I" (.int (0 : Int32)) := D6 (Or.inr (hw _ (List.mem_of_getElem? (i := 158) rfl))) (ty := .int) (by decide)
      refine OwnGo.fwd st6 ?_
      show OwnGo _ _ _ _ (T6.setTop (mkF m 26 #[.val (.int x)] [(.ref b6)]))
      refine OwnGo.fwd (fun tq' kq' => XS.dup X6.here hx rfl (hb hby d17_26) rfl rfl kq') ?_
      show OwnGo _ _ _ _ (T6.setTop (mkF m 27 #[.val (.int x)] [(.ref b6), (.ref b6)]))
      refine OwnGo.fwd (fun tq' kq' => XS.iloadN X6.here hx rfl (hb hby d17_27) rfl kq') ?_
      show OwnGo _ _ _ _ (T6.setTop (mkF m 28 #[.val (.int x)] [(.int x), (.ref b6), (.ref b6)]))
      obtain ⟨_, _, ⟨T7, L7, k7, n7⟩, -, X7, ⟨Lc7, hQ7, l7, y7, z7⟩, st7⟩ := X6.specialBack hx (y := (⟨"java/lang/Integer", "<init>", "(I)V"⟩ : MethodName)) rfl hown (mvT hZ (hw _ (List.mem_of_getElem? (i := 151) rfl))) (mvT hZ (hw _ (List.mem_of_getElem? (i := 152) rfl))) (mvT hZ (hw _ (List.mem_of_getElem? (i := 154) rfl))) (by decide) (backOf (W := 1) (rm18 l Z a0 hw [] b6 x h6 n0 Zs E_b6 F_value_b6 g_b6) hZ (hw _ (List.mem_of_getElem? (i := 154) rfl)) (hw _ (List.mem_of_getElem? (i := 142) rfl)) (by decide) (by decide)) (g := (mkF m 28 #[.val (.int x)] [(.int x), (.ref b6), (.ref b6)])) rfl (by rw [hml]; rfl) (Steps.refl _) (a := b6) (argsL := [(.int x)]) (rest := [(.ref b6)]) (lenOf pd_13 rfl) rfl (by show 2 * 0 + _ ≤ _; exact Nat.le_of_eq rfl) (hb hby d17_28) (fun _ _ => ⟨rfl, e6, (by decide : 1 + 0 ≤ _), (by decide : 1 + 0 ≤ _)⟩)
      dsimp only [Pt.U, Pt.locs, Pt.cells, Pt.slots] at X7 l7 y7 z7 st7 hQ7
      subst l7 y7 z7
      obtain ⟨h7, eh7⟩ : ∃ z, z = T7.heap := ⟨_, rfl⟩
      rw [← eh7] at hQ7
      obtain ⟨rfl, N7q, K7, E_b6, F_value_b6⟩ := hQ7
      have N := Fr.app N N7q
      have Zs := Nat.le_trans Zs K7.1
      have K := K.trans K7 (allS (Or.inr sz_b6) all0)
      refine OwnGo.thru st7 ?_
      show OwnGo _ _ _ _ (T7.setTop (mkF m 31 #[.val (.int x)] [(.ref b6)]))
      exact own_retA X7 hlk hx Bd.returns rfl rfl (hb hby d17_31) (by decide) (by decide) eh7.symm ⟨N, K, b6, rfl, E_b6⟩
    · refine OwnGo.fwd (fun tq' kq' => XS.icmpNo X4.here hx rfl (hb hby d17_10) rfl (own_bnlt (by decide) rfl hc10_5).2.2.1 kq') ?_
      show OwnGo _ _ _ _ (T4.setTop (mkF m 13 #[.val (.int x)] []))
      obtain ⟨T8, X8, e8, st8⟩ := getS2 X4 hx hZ hown (host := "") (Or.inl (hw _ (List.mem_of_getElem? (i := 146) rfl))) Via.refl e4 S_cache (g := (mkF m 13 #[.val (.int x)] [])) rfl (hb hby d17_13)
      refine OwnGo.fwd st8 ?_
      show OwnGo _ _ _ _ (T8.setTop (mkF m 16 #[.val (.int x)] [(.ref ca)]))
      refine OwnGo.fwd (fun tq' kq' => XS.iloadN X8.here hx rfl (hb hby d17_16) rfl kq') ?_
      show OwnGo _ _ _ _ (T8.setTop (mkF m 17 #[.val (.int x)] [(.int x), (.ref ca)]))
      refine OwnGo.fwd (fun tq' kq' => XS.sipush X8.here hx rfl (hb hby d17_17) kq') ?_
      show OwnGo _ _ _ _ (T8.setTop (mkF m 20 #[.val (.int x)] [(.int (128 : Int32)), (.int x), (.ref ca)]))
      refine OwnGo.fwd (fun tq' kq' => XS.iadd X8.here hx rfl (hb hby d17_20) rfl kq') ?_
      show OwnGo _ _ _ _ (T8.setTop (mkF m 21 #[.val (.int x)] [(.int (x + (128 : Int32))), (.ref ca)]))
      obtain ⟨jj, hv_jj⟩ : ∃ q : Int32, q = (x + (128 : Int32)) := ⟨_, rfl⟩
      rw [← hv_jj]
      show OwnGo _ _ _ _ (T8.setTop (mkF m 21 #[.val (.int x)] [(.int jj), (.ref ca)]))
      have hj : jj.toInt = x.toInt + 128 := by
        have q := c_iadd x (128 : Int32)
        have e1 : (128 : Int32).toInt = 128 := by decide
        have r1 := rng32 (x + (128 : Int32))
        rw [hv_jj]; omega
      obtain ⟨i, hi⟩ : ∃ i : Nat, jj.toInt = i := ⟨jj.toInt.toNat, by omega⟩
      obtain ⟨rr, hr, E_rr⟩ := hel i (by omega)
      refine OwnGo.fwd (fun tq' kq' => X8.aaload hx (by rw [e8]; exact A_ca.1) (State.isArrayOf_alike hZ.alike A_ca.2.1) rfl A_ca.2.2 (own_inb hsz hi (by omega)) (by rw [own_clamp hi]; exact hr) (g := (mkF m 21 #[.val (.int x)] [(.int jj), (.ref ca)])) rfl rfl (hb hby d17_21) tq' kq') ?_
      show OwnGo _ _ _ _ (T8.setTop (mkF m 22 #[.val (.int x)] [(.ref rr)]))
      exact own_retA X8 hlk hx Bd.returns rfl rfl (hb hby d17_22) (by decide) (by decide) e8 ⟨N, K, rr, rfl, E_rr⟩
theorem d8_0 : decode jdk_35_method_24_code 0 = .ok (.sipush 128, 3) := by decide +kernel
theorem d8_3 : decode jdk_35_method_24_code 3 = .ok (.istore_n 2, 1) := by decide +kernel
theorem d8_4 : decode jdk_35_method_24_code 4 = .ok (.lload_n 0, 1) := by decide +kernel
theorem d8_5 : decode jdk_35_method_24_code 5 = .ok (.ldc2_w 230, 3) := by decide +kernel
theorem d8_8 : decode jdk_35_method_24_code 8 = .ok (.lcmp, 1) := by decide +kernel
theorem d8_9 : decode jdk_35_method_24_code 9 = .ok (.ifCond .lt 22, 3) := by decide +kernel
theorem d8_12 : decode jdk_35_method_24_code 12 = .ok (.lload_n 0, 1) := by decide +kernel
theorem d8_13 : decode jdk_35_method_24_code 13 = .ok (.ldc2_w 232, 3) := by decide +kernel
theorem d8_16 : decode jdk_35_method_24_code 16 = .ok (.lcmp, 1) := by decide +kernel
theorem d8_17 : decode jdk_35_method_24_code 17 = .ok (.ifCond .gt 14, 3) := by decide +kernel
theorem d8_20 : decode jdk_35_method_24_code 20 = .ok (.getstatic 234, 3) := by decide +kernel
theorem d8_23 : decode jdk_35_method_24_code 23 = .ok (.lload_n 0, 1) := by decide +kernel
theorem d8_24 : decode jdk_35_method_24_code 24 = .ok (.l2i, 1) := by decide +kernel
theorem d8_25 : decode jdk_35_method_24_code 25 = .ok (.sipush 128, 3) := by decide +kernel
theorem d8_28 : decode jdk_35_method_24_code 28 = .ok (.iadd, 1) := by decide +kernel
theorem d8_29 : decode jdk_35_method_24_code 29 = .ok (.aaload, 1) := by decide +kernel
theorem d8_30 : decode jdk_35_method_24_code 30 = .ok (.areturn, 1) := by decide +kernel
theorem d8_31 : decode jdk_35_method_24_code 31 = .ok (.new 1, 3) := by decide +kernel
theorem d8_34 : decode jdk_35_method_24_code 34 = .ok (.dup, 1) := by decide +kernel
theorem d8_35 : decode jdk_35_method_24_code 35 = .ok (.lload_n 0, 1) := by decide +kernel
theorem d8_36 : decode jdk_35_method_24_code 36 = .ok (.invokespecial 240, 3) := by decide +kernel
theorem d8_39 : decode jdk_35_method_24_code 39 = .ok (.areturn, 1) := by decide +kernel
theorem pn_8 : plainFor (⟨"java/lang/Long", "valueOf", "(J)Ljava/lang/Long;"⟩ : MethodName) = true := plainFor_of_name (by first | (simp [plainName, overriddenIn]; done) | decide +kernel)
theorem ef_8 (m : MethodId) (x0 : Int64) : entryFrame m #[(.long x0)] 3 = mkF m 0 #[.val (.long x0), .second, .unset] [] := by first | (simp [entryFrame, mkF, argsToLocals, Value.category, maxLocals]; done) | rfl
def Q8 (Z : State) (x : Int64) (h0 : Heap) (n0 : Nat) (v : Option Value) (h : Heap) (L : List Loc) : Prop := Fr n0 L ∧ Keep h0 h [] ∧ ∃ r, v = some (.ref r) ∧ Exa Z h r "java/lang/Long"
set_option maxRecDepth 65536 in
set_option maxHeartbeats 40000000 in
theorem rm8 (l : Launch) (Z : State) (a0 : Array Value) (hw : ∀ d ∈ tables_1, d.before a0 Z = true) (ws : List Jvm.Cond) (x : Int64) (h0 : Heap) (n0 : Nat) (Z0 : n0 ≤ h0.size) (C0 : OwnLC Z h0) :
    MetFree l (⟨"java/lang/Long", "valueOf", "(J)Ljava/lang/Long;"⟩ : MethodName) (head1 (Jvm.Cond.code (⟨"java/lang/Long", "valueOf", "(J)Ljava/lang/Long;"⟩ : MethodName) jdk_35_method_24_code 3 (some (.object "java/lang/Long")) :: ws) ({ frames := 3, cells := 1, slots := 1, locals := 45 } : Room)) (fun arr' U => arr' = #[(.long x)] ∧ Z.Warmed39 U.vm ∧ U.heap = h0) (fun _ _ _ _ _ => True) (fun _ U o U' => ∃ v L, o = .returned v ∧ (Q8 Z x h0 n0) v U'.heap L ∧ FrameEnd U o U' L ({ frames := 3, cells := 1, slots := 1, locals := 45 } : Room).cells ({ frames := 3, cells := 1, slots := 1, locals := 45 } : Room).slots) := by
  refine MetFree.of_bodySF pn_8 hisR ?_
  intro p e s m args below meth c s₁ Bd hml0 hP hK
  obtain ⟨rfl, hZ, hh⟩ := hP
  have hx := Bd.exec
  have hby := Bd.bytes
  have hlk : meth.locks = false := BodyLoose.notSynchronized Bd
  have hml : c.maxLocals = 3 := hml0
  have hown : s.vm.findClass "java/lang/Long" = some m.cls := findClass_of_methodNamed Bd.named
  have hnm := (name_of_methodNamed Bd.named Bd.method).1
  have X0 : Stand p l e ({ frames := 3, cells := 1, slots := 1, locals := 45 } : Room) s m #[(.long x)] below meth c s₁ [] 0 0 := Stand.of_body Bd
  have e0 : s₁.heap = h0 := by rw [← hh, Bd.state]; rfl
  have N := Fr.nil n0
  have Zs := Z0
  change OwnGo p.tables e below (OwnEnd s (Q8 Z x h0 n0) ({ frames := 3, cells := 1, slots := 1, locals := 45 } : Room).cells ({ frames := 3, cells := 1, slots := 1, locals := 45 } : Room).slots) _
  refine OwnGo.fwd (fun tq' kq' => castTop (ef_8 m x) kq') ?_
  show OwnGo _ _ _ _ (s₁.setTop (mkF m 0 #[.val (.long x), .second, .unset] []))
  obtain ⟨ca, cl, S_cache, A_ca, hsz, hel⟩ := C0
  have K : Keep h0 h0 [] := Keep.refl _ _
  refine OwnGo.fwd (fun tq' kq' => XS.sipush X0.here hx rfl (hb hby d8_0) kq') ?_
  show OwnGo _ _ _ _ (s₁.setTop (mkF m 3 #[.val (.long x), .second, .unset] [(.int (128 : Int32))]))
  refine OwnGo.fwd (fun tq' kq' => XS.istoreN X0.here hx rfl (hb hby d8_3) rfl (l' := #[.val (.long x), .second, .val (.int (128 : Int32))]) rfl kq') ?_
  show OwnGo _ _ _ _ (s₁.setTop (mkF m 4 #[.val (.long x), .second, .val (.int (128 : Int32))] []))
  refine OwnGo.fwd (fun tq' kq' => XS.lloadN X0.here hx rfl (hb hby d8_4) rfl kq') ?_
  show OwnGo _ _ _ _ (s₁.setTop (mkF m 5 #[.val (.long x), .second, .val (.int (128 : Int32))] [(.long x)]))
  refine OwnGo.fwd (fun tq' kq' => X0.ldc2Long hx hown (mvT hZ (hw _ (List.mem_of_getElem? (i := 66) rfl))) (g := (mkF m 5 #[.val (.long x), .second, .val (.int (128 : Int32))] [(.long x)])) rfl (hb hby d8_5) tq' kq') ?_
  show OwnGo _ _ _ _ (s₁.setTop (mkF m 8 #[.val (.long x), .second, .val (.int (128 : Int32))] [(.long (-128 : Int64)), (.long x)]))
  refine OwnGo.fwd (fun tq' kq' => XS.lcmp X0.here hx rfl (hb hby d8_8) rfl kq') ?_
  show OwnGo _ _ _ _ (s₁.setTop (mkF m 9 #[.val (.long x), .second, .val (.int (128 : Int32))] [(.int (lcmpW x (-128 : Int64)))]))
  by_cases hc9_1 : x.toInt < -128
  · refine OwnGo.fwd (fun tq' kq' => XS.ifYes X0.here hx rfl (pc0 := 9) (pc' := 31) rfl (hb hby d8_9) rfl (own_Llt rfl (by decide) hc9_1).1 (by decide) (by decide) kq') ?_
    show OwnGo _ _ _ _ (s₁.setTop (mkF m 31 #[.val (.long x), .second, .val (.int (128 : Int32))] []))
    obtain ⟨T2, h2, X2, e2, E2, A2, D2, -, st2⟩ := newO X0 hx hZ hown (hw _ (List.mem_of_getElem? (i := 68) rfl)) (hw _ (List.mem_of_getElem? (i := 69) rfl)) (hw _ (List.mem_of_getElem? (i := 64) rfl)) e0 (g := (mkF m 31 #[.val (.long x), .second, .val (.int (128 : Int32))] [])) rfl (hb hby d8_31) (by decide) (by decide)
    obtain ⟨b2, g2⟩ : ∃ z, z = h0.size := ⟨_, rfl⟩
    rw [← g2] at A2 D2 st2
    have g_b2 : n0 ≤ b2 := Nat.le_trans Zs (Nat.le_of_eq g2.symm)
    have sz_b2 : h0.size ≤ b2 := Nat.le_trans K.1 (Nat.le_of_eq g2.symm)
    have K := K.ext E2
    have Zs := Nat.le_trans Zs E2.1
    have S_cache := S_cache.ext E2
    have E_b2 := A2
    have F_value_b2 : Fld Z h2 b2 "java/lang/Long" "value" "J" (.long (0 : Int64)) := D2 (Or.inr (hw _ (List.mem_of_getElem? (i := 82) rfl))) (ty := .long) (by decide)
    refine OwnGo.fwd st2 ?_
    show OwnGo _ _ _ _ (T2.setTop (mkF m 34 #[.val (.long x), .second, .val (.int (128 : Int32))] [(.ref b2)]))
    refine OwnGo.fwd (fun tq' kq' => XS.dup X2.here hx rfl (hb hby d8_34) rfl rfl kq') ?_
    show OwnGo _ _ _ _ (T2.setTop (mkF m 35 #[.val (.long x), .second, .val (.int (128 : Int32))] [(.ref b2), (.ref b2)]))
    refine OwnGo.fwd (fun tq' kq' => XS.lloadN X2.here hx rfl (hb hby d8_35) rfl kq') ?_
    show OwnGo _ _ _ _ (T2.setTop (mkF m 36 #[.val (.long x), .second, .val (.int (128 : Int32))] [(.long x), (.ref b2), (.ref b2)]))
    obtain ⟨_, _, ⟨T3, L3, k3, n3⟩, -, X3, ⟨Lc3, hQ3, l3, y3, z3⟩, st3⟩ := X2.specialBack hx (y := (⟨"java/lang/Long", "<init>", "(J)V"⟩ : MethodName)) rfl hown (mvT hZ (hw _ (List.mem_of_getElem? (i := 70) rfl))) (mvT hZ (hw _ (List.mem_of_getElem? (i := 71) rfl))) (mvT hZ (hw _ (List.mem_of_getElem? (i := 73) rfl))) (by decide) (backOf (W := 1) (rm9 l Z a0 hw [] b2 x h2 n0 Zs E_b2 F_value_b2 g_b2) hZ (hw _ (List.mem_of_getElem? (i := 73) rfl)) (hw _ (List.mem_of_getElem? (i := 64) rfl)) (by decide) (by decide)) (g := (mkF m 36 #[.val (.long x), .second, .val (.int (128 : Int32))] [(.long x), (.ref b2), (.ref b2)])) rfl (by rw [hml]; rfl) (Steps.refl _) (a := b2) (argsL := [(.long x)]) (rest := [(.ref b2)]) (lenOf pd_5 rfl) rfl (by show 2 * 0 + _ ≤ _; exact Nat.le_of_eq rfl) (hb hby d8_36) (fun _ _ => ⟨rfl, e2, (by decide : 1 + 0 ≤ _), (by decide : 1 + 0 ≤ _)⟩)
    dsimp only [Pt.U, Pt.locs, Pt.cells, Pt.slots] at X3 l3 y3 z3 st3 hQ3
    subst l3 y3 z3
    obtain ⟨h3, eh3⟩ : ∃ z, z = T3.heap := ⟨_, rfl⟩
    rw [← eh3] at hQ3
    obtain ⟨rfl, N3q, K3, E_b2, F_value_b2⟩ := hQ3
    have N := Fr.app N N3q
    have Zs := Nat.le_trans Zs K3.1
    have K := K.trans K3 (allS (Or.inr sz_b2) all0)
    refine OwnGo.thru st3 ?_
    show OwnGo _ _ _ _ (T3.setTop (mkF m 39 #[.val (.long x), .second, .val (.int (128 : Int32))] [(.ref b2)]))
    exact own_retA X3 hlk hx Bd.returns rfl rfl (hb hby d8_39) (by decide) (by decide) eh3.symm ⟨N, K, b2, rfl, E_b2⟩
  · refine OwnGo.fwd (fun tq' kq' => XS.ifNo X0.here hx rfl (hb hby d8_9) rfl (own_Lnlt rfl (by decide) hc9_1).1 kq') ?_
    show OwnGo _ _ _ _ (s₁.setTop (mkF m 12 #[.val (.long x), .second, .val (.int (128 : Int32))] []))
    refine OwnGo.fwd (fun tq' kq' => XS.lloadN X0.here hx rfl (hb hby d8_12) rfl kq') ?_
    show OwnGo _ _ _ _ (s₁.setTop (mkF m 13 #[.val (.long x), .second, .val (.int (128 : Int32))] [(.long x)]))
    refine OwnGo.fwd (fun tq' kq' => X0.ldc2Long hx hown (mvT hZ (hw _ (List.mem_of_getElem? (i := 67) rfl))) (g := (mkF m 13 #[.val (.long x), .second, .val (.int (128 : Int32))] [(.long x)])) rfl (hb hby d8_13) tq' kq') ?_
    show OwnGo _ _ _ _ (s₁.setTop (mkF m 16 #[.val (.long x), .second, .val (.int (128 : Int32))] [(.long (127 : Int64)), (.long x)]))
    refine OwnGo.fwd (fun tq' kq' => XS.lcmp X0.here hx rfl (hb hby d8_16) rfl kq') ?_
    show OwnGo _ _ _ _ (s₁.setTop (mkF m 17 #[.val (.long x), .second, .val (.int (128 : Int32))] [(.int (lcmpW x (127 : Int64)))]))
    by_cases hc17_4 : 127 < x.toInt
    · refine OwnGo.fwd (fun tq' kq' => XS.ifYes X0.here hx rfl (pc0 := 17) (pc' := 31) rfl (hb hby d8_17) rfl (own_Lgt rfl (by decide) hc17_4).1 (by decide) (by decide) kq') ?_
      show OwnGo _ _ _ _ (s₁.setTop (mkF m 31 #[.val (.long x), .second, .val (.int (128 : Int32))] []))
      obtain ⟨T5, h5, X5, e5, E5, A5, D5, -, st5⟩ := newO X0 hx hZ hown (hw _ (List.mem_of_getElem? (i := 68) rfl)) (hw _ (List.mem_of_getElem? (i := 69) rfl)) (hw _ (List.mem_of_getElem? (i := 64) rfl)) e0 (g := (mkF m 31 #[.val (.long x), .second, .val (.int (128 : Int32))] [])) rfl (hb hby d8_31) (by decide) (by decide)
      obtain ⟨b5, g5⟩ : ∃ z, z = h0.size := ⟨_, rfl⟩
      rw [← g5] at A5 D5 st5
      have g_b5 : n0 ≤ b5 := Nat.le_trans Zs (Nat.le_of_eq g5.symm)
      have sz_b5 : h0.size ≤ b5 := Nat.le_trans K.1 (Nat.le_of_eq g5.symm)
      have K := K.ext E5
      have Zs := Nat.le_trans Zs E5.1
      have S_cache := S_cache.ext E5
      have E_b5 := A5
      have F_value_b5 : Fld Z h5 b5 "java/lang/Long" "value" "J" (.long (0 : Int64)) := D5 (Or.inr (hw _ (List.mem_of_getElem? (i := 82) rfl))) (ty := .long) (by decide)
      refine OwnGo.fwd st5 ?_
      show OwnGo _ _ _ _ (T5.setTop (mkF m 34 #[.val (.long x), .second, .val (.int (128 : Int32))] [(.ref b5)]))
      refine OwnGo.fwd (fun tq' kq' => XS.dup X5.here hx rfl (hb hby d8_34) rfl rfl kq') ?_
      show OwnGo _ _ _ _ (T5.setTop (mkF m 35 #[.val (.long x), .second, .val (.int (128 : Int32))] [(.ref b5), (.ref b5)]))
      refine OwnGo.fwd (fun tq' kq' => XS.lloadN X5.here hx rfl (hb hby d8_35) rfl kq') ?_
      show OwnGo _ _ _ _ (T5.setTop (mkF m 36 #[.val (.long x), .second, .val (.int (128 : Int32))] [(.long x), (.ref b5), (.ref b5)]))
      obtain ⟨_, _, ⟨T6, L6, k6, n6⟩, -, X6, ⟨Lc6, hQ6, l6, y6, z6⟩, st6⟩ := X5.specialBack hx (y := (⟨"java/lang/Long", "<init>", "(J)V"⟩ : MethodName)) rfl hown (mvT hZ (hw _ (List.mem_of_getElem? (i := 70) rfl))) (mvT hZ (hw _ (List.mem_of_getElem? (i := 71) rfl))) (mvT hZ (hw _ (List.mem_of_getElem? (i := 73) rfl))) (by decide) (backOf (W := 1) (rm9 l Z a0 hw [] b5 x h5 n0 Zs E_b5 F_value_b5 g_b5) hZ (hw _ (List.mem_of_getElem? (i := 73) rfl)) (hw _ (List.mem_of_getElem? (i := 64) rfl)) (by decide) (by decide)) (g := (mkF m 36 #[.val (.long x), .second, .val (.int (128 : Int32))] [(.long x), (.ref b5), (.ref b5)])) rfl (by rw [hml]; rfl) (Steps.refl _) (a := b5) (argsL := [(.long x)]) (rest := [(.ref b5)]) (lenOf pd_5 rfl) rfl (by show 2 * 0 + _ ≤ _; exact Nat.le_of_eq rfl) (hb hby d8_36) (fun _ _ => ⟨rfl, e5, (by decide : 1 + 0 ≤ _), (by decide : 1 + 0 ≤ _)⟩)
      dsimp only [Pt.U, Pt.locs, Pt.cells, Pt.slots] at X6 l6 y6 z6 st6 hQ6
      subst l6 y6 z6
      obtain ⟨h6, eh6⟩ : ∃ z, z = T6.heap := ⟨_, rfl⟩
      rw [← eh6] at hQ6
      obtain ⟨rfl, N6q, K6, E_b5, F_value_b5⟩ := hQ6
      have N := Fr.app N N6q
      have Zs := Nat.le_trans Zs K6.1
      have K := K.trans K6 (allS (Or.inr sz_b5) all0)
      refine OwnGo.thru st6 ?_
      show OwnGo _ _ _ _ (T6.setTop (mkF m 39 #[.val (.long x), .second, .val (.int (128 : Int32))] [(.ref b5)]))
      exact own_retA X6 hlk hx Bd.returns rfl rfl (hb hby d8_39) (by decide) (by decide) eh6.symm ⟨N, K, b5, rfl, E_b5⟩
    · refine OwnGo.fwd (fun tq' kq' => XS.ifNo X0.here hx rfl (hb hby d8_17) rfl (own_Lngt rfl (by decide) hc17_4).1 kq') ?_
      show OwnGo _ _ _ _ (s₁.setTop (mkF m 20 #[.val (.long x), .second, .val (.int (128 : Int32))] []))
      obtain ⟨T7, X7, e7, st7⟩ := getS2 X0 hx hZ hown (host := "") (Or.inl (hw _ (List.mem_of_getElem? (i := 138) rfl))) Via.refl e0 S_cache (g := (mkF m 20 #[.val (.long x), .second, .val (.int (128 : Int32))] [])) rfl (hb hby d8_20)
      refine OwnGo.fwd st7 ?_
      show OwnGo _ _ _ _ (T7.setTop (mkF m 23 #[.val (.long x), .second, .val (.int (128 : Int32))] [(.ref ca)]))
      refine OwnGo.fwd (fun tq' kq' => XS.lloadN X7.here hx rfl (hb hby d8_23) rfl kq') ?_
      show OwnGo _ _ _ _ (T7.setTop (mkF m 24 #[.val (.long x), .second, .val (.int (128 : Int32))] [(.long x), (.ref ca)]))
      refine OwnGo.fwd (fun tq' kq' => XS.l2i X7.here hx rfl (hb hby d8_24) rfl kq') ?_
      show OwnGo _ _ _ _ (T7.setTop (mkF m 25 #[.val (.long x), .second, .val (.int (128 : Int32))] [(.int x.toInt32), (.ref ca)]))
      refine OwnGo.fwd (fun tq' kq' => XS.sipush X7.here hx rfl (hb hby d8_25) kq') ?_
      show OwnGo _ _ _ _ (T7.setTop (mkF m 28 #[.val (.long x), .second, .val (.int (128 : Int32))] [(.int (128 : Int32)), (.int x.toInt32), (.ref ca)]))
      refine OwnGo.fwd (fun tq' kq' => XS.iadd X7.here hx rfl (hb hby d8_28) rfl kq') ?_
      show OwnGo _ _ _ _ (T7.setTop (mkF m 29 #[.val (.long x), .second, .val (.int (128 : Int32))] [(.int (x.toInt32 + (128 : Int32))), (.ref ca)]))
      obtain ⟨jj, hv_jj⟩ : ∃ q : Int32, q = (x.toInt32 + (128 : Int32)) := ⟨_, rfl⟩
      rw [← hv_jj]
      show OwnGo _ _ _ _ (T7.setTop (mkF m 29 #[.val (.long x), .second, .val (.int (128 : Int32))] [(.int jj), (.ref ca)]))
      have hj : jj.toInt = x.toInt + 128 := by
        rw [hv_jj]; exact own_l2i128 (by omega) (by omega)
      obtain ⟨i, hi⟩ : ∃ i : Nat, jj.toInt = i := ⟨jj.toInt.toNat, by omega⟩
      obtain ⟨rr, hr, E_rr⟩ := hel i (by omega)
      refine OwnGo.fwd (fun tq' kq' => X7.aaload hx (by rw [e7]; exact A_ca.1) (State.isArrayOf_alike hZ.alike A_ca.2.1) rfl A_ca.2.2 (own_inb hsz hi (by omega)) (by rw [own_clamp hi]; exact hr) (g := (mkF m 29 #[.val (.long x), .second, .val (.int (128 : Int32))] [(.int jj), (.ref ca)])) rfl rfl (hb hby d8_29) tq' kq') ?_
      show OwnGo _ _ _ _ (T7.setTop (mkF m 30 #[.val (.long x), .second, .val (.int (128 : Int32))] [(.ref rr)]))
      exact own_retA X7 hlk hx Bd.returns rfl rfl (hb hby d8_30) (by decide) (by decide) e7 ⟨N, K, rr, rfl, E_rr⟩
theorem d16_0 : decode prog_207_method_1_code 0 = .ok (.aload_n 0, 1) := by decide +kernel
theorem d16_1 : decode prog_207_method_1_code 1 = .ok (.invokespecial 1, 3) := by decide +kernel
theorem d16_4 : decode prog_207_method_1_code 4 = .ok (.aload_n 0, 1) := by decide +kernel
theorem d16_5 : decode prog_207_method_1_code 5 = .ok (.aload_n 1, 1) := by decide +kernel
theorem d16_6 : decode prog_207_method_1_code 6 = .ok (.putfield 7, 3) := by decide +kernel
theorem d16_9 : decode prog_207_method_1_code 9 = .ok (.aload_n 0, 1) := by decide +kernel
theorem d16_10 : decode prog_207_method_1_code 10 = .ok (.iload_n 2, 1) := by decide +kernel
theorem d16_11 : decode prog_207_method_1_code 11 = .ok (.putfield 13, 3) := by decide +kernel
theorem d16_14 : decode prog_207_method_1_code 14 = .ok (.return_, 1) := by decide +kernel
theorem pn_16 : plainFor (⟨"com/example/rolestack/rolestack/StoredObject", "<init>", "(Lcom/example/rolestack/rolestack/Database;I)V"⟩ : MethodName) = true := plainFor_of_name (by first | (simp [plainName, overriddenIn]; done) | decide +kernel)
theorem ef_16 (m : MethodId) (x0 : Addr) (x2 : Int32) : entryFrame m #[(.ref x0), .null, (.int x2)] 3 = mkF m 0 #[.val (.ref x0), .val .null, .val (.int x2)] [] := by first | (simp [entryFrame, mkF, argsToLocals, Value.category, maxLocals]; done) | rfl
def Q16 (Z : State) (a : Addr) (x : Int32) (h0 : Heap) (n0 : Nat) (v : Option Value) (h : Heap) (L : List Loc) : Prop := v = none ∧ Fr n0 L ∧ Keep h0 h [a] ∧ Exa Z h a "com/example/rolestack/rolestack/StoredObject"
set_option maxRecDepth 65536 in
set_option maxHeartbeats 40000000 in
theorem rm16 (l : Launch) (Z : State) (a0 : Array Value) (hw : ∀ d ∈ tables_1, d.before a0 Z = true) (ws : List Jvm.Cond) (a : Addr) (x : Int32) (h0 : Heap) (n0 : Nat) (Z0 : n0 ≤ h0.size) (E_a : Exa Z h0 a "com/example/rolestack/rolestack/StoredObject") (F_database_a : Fld Z h0 a "com/example/rolestack/rolestack/StoredObject" "database" "Lcom/example/rolestack/rolestack/Database;" .null) (F_id_a : Fld Z h0 a "com/example/rolestack/rolestack/StoredObject" "id" "I" (.int (0 : Int32))) (g_a : n0 ≤ a) :
    MetFree l (⟨"com/example/rolestack/rolestack/StoredObject", "<init>", "(Lcom/example/rolestack/rolestack/Database;I)V"⟩ : MethodName) (head1 (Jvm.Cond.code (⟨"com/example/rolestack/rolestack/StoredObject", "<init>", "(Lcom/example/rolestack/rolestack/Database;I)V"⟩ : MethodName) prog_207_method_1_code 3 none :: ws) ({ frames := 1, cells := 0, slots := 0, locals := 12 } : Room)) (fun arr' U => arr' = #[(.ref a), .null, (.int x)] ∧ Z.Warmed39 U.vm ∧ U.heap = h0) (fun _ _ _ _ _ => True) (fun _ U o U' => ∃ v L, o = .returned v ∧ (Q16 Z a x h0 n0) v U'.heap L ∧ FrameEnd U o U' L ({ frames := 1, cells := 0, slots := 0, locals := 12 } : Room).cells ({ frames := 1, cells := 0, slots := 0, locals := 12 } : Room).slots) := by
  refine MetFree.of_bodySF pn_16 hisR ?_
  intro p e s m args below meth c s₁ Bd hml0 hP hK
  obtain ⟨rfl, hZ, hh⟩ := hP
  have hx := Bd.exec
  have hby := Bd.bytes
  have hlk : meth.locks = false := BodyLoose.notSynchronized Bd
  have hml : c.maxLocals = 3 := hml0
  have hown : s.vm.findClass "com/example/rolestack/rolestack/StoredObject" = some m.cls := findClass_of_methodNamed Bd.named
  have hnm := (name_of_methodNamed Bd.named Bd.method).1
  have X0 : Stand p l e ({ frames := 1, cells := 0, slots := 0, locals := 12 } : Room) s m #[(.ref a), .null, (.int x)] below meth c s₁ [] 0 0 := Stand.of_body Bd
  have e0 : s₁.heap = h0 := by rw [← hh, Bd.state]; rfl
  have N := Fr.nil n0
  have Zs := Z0
  change OwnGo p.tables e below (OwnEnd s (Q16 Z a x h0 n0) ({ frames := 1, cells := 0, slots := 0, locals := 12 } : Room).cells ({ frames := 1, cells := 0, slots := 0, locals := 12 } : Room).slots) _
  refine OwnGo.fwd (fun tq' kq' => castTop (ef_16 m a x) kq') ?_
  show OwnGo _ _ _ _ (s₁.setTop (mkF m 0 #[.val (.ref a), .val .null, .val (.int x)] []))
  have K : Keep h0 h0 [a] := Keep.refl _ _
  have E0_a := E_a
  refine OwnGo.fwd (fun tq' kq' => XS.aloadN X0.here hx rfl (hb hby d16_0) rfl rfl kq') ?_
  show OwnGo _ _ _ _ (s₁.setTop (mkF m 1 #[.val (.ref a), .val .null, .val (.int x)] [(.ref a)]))
  obtain ⟨T1, X1, e1, st1⟩ := initO X0 hx hZ hown (hw _ (List.mem_of_getElem? (i := 125) rfl)) (hw _ (List.mem_of_getElem? (i := 19) rfl)) (hw _ (List.mem_of_getElem? (i := 20) rfl)) e0 (g := (mkF m 1 #[.val (.ref a), .val .null, .val (.int x)] [(.ref a)])) rfl (by rw [hml]; rfl) rfl (hb hby d16_1) (by decide) (W := 0) (by show 2 * 0 + _ ≤ _; exact Nat.le_of_eq rfl) (by decide)
  refine OwnGo.fwd st1 ?_
  show OwnGo _ _ _ _ (T1.setTop (mkF m 4 #[.val (.ref a), .val .null, .val (.int x)] []))
  refine OwnGo.fwd (fun tq' kq' => XS.aloadN X1.here hx rfl (hb hby d16_4) rfl rfl kq') ?_
  show OwnGo _ _ _ _ (T1.setTop (mkF m 5 #[.val (.ref a), .val .null, .val (.int x)] [(.ref a)]))
  refine OwnGo.fwd (fun tq' kq' => XS.aloadN X1.here hx rfl (hb hby d16_5) rfl rfl kq') ?_
  show OwnGo _ _ _ _ (T1.setTop (mkF m 6 #[.val (.ref a), .val .null, .val (.int x)] [.null, (.ref a)]))
  obtain ⟨T2, h2, X2, e2, W2, st2⟩ := putF X1 hx hZ hown (host := "") (Or.inl (hw _ (List.mem_of_getElem? (i := 126) rfl))) Via.refl e1 F_database_a E_a (Or.inr ⟨(hw _ (List.mem_of_getElem? (i := 127) rfl)), rfl, hnm⟩) (hw _ (List.mem_of_getElem? (i := 120) rfl)) (ty := (.object "com/example/rolestack/rolestack/Database")) (by decide) rfl rfl (g := (mkF m 6 #[.val (.ref a), .val .null, .val (.int x)] [.null, (.ref a)])) rfl rfl (hb hby d16_6)
  have E_a := E_a.wr W2
  have F_database_a := F_database_a.same W2
  have F_id_a := F_id_a.other W2 (Or.inr (slot_ne (Or.inr (hw _ (List.mem_of_getElem? (i := 129) rfl))) (Or.inr (hw _ (List.mem_of_getElem? (i := 127) rfl))) (by decide) (t := .int) (t' := (.object "com/example/rolestack/rolestack/Database")) (by decide) (by decide)))
  have K := K.wr W2 (Or.inl (List.mem_of_getElem? (i := 0) rfl))
  have Zs := Nat.le_trans Zs (Keep.of_wr W2).1
  have N := Fr.snoc X2 N g_a
  refine OwnGo.fwd st2 ?_
  show OwnGo _ _ _ _ (T2.setTop (mkF m 9 #[.val (.ref a), .val .null, .val (.int x)] []))
  refine OwnGo.fwd (fun tq' kq' => XS.aloadN X2.here hx rfl (hb hby d16_9) rfl rfl kq') ?_
  show OwnGo _ _ _ _ (T2.setTop (mkF m 10 #[.val (.ref a), .val .null, .val (.int x)] [(.ref a)]))
  refine OwnGo.fwd (fun tq' kq' => XS.iloadN X2.here hx rfl (hb hby d16_10) rfl kq') ?_
  show OwnGo _ _ _ _ (T2.setTop (mkF m 11 #[.val (.ref a), .val .null, .val (.int x)] [(.int x), (.ref a)]))
  obtain ⟨T3, h3, X3, e3, W3, st3⟩ := putF X2 hx hZ hown (host := "") (Or.inl (hw _ (List.mem_of_getElem? (i := 128) rfl))) Via.refl e2 F_id_a E_a (Or.inr ⟨(hw _ (List.mem_of_getElem? (i := 129) rfl)), rfl, hnm⟩) (hw _ (List.mem_of_getElem? (i := 120) rfl)) (ty := .int) (by decide) rfl rfl (g := (mkF m 11 #[.val (.ref a), .val .null, .val (.int x)] [(.int x), (.ref a)])) rfl rfl (hb hby d16_11)
  have E_a := E_a.wr W3
  have F_database_a := F_database_a.other W3 (Or.inr (slot_ne (Or.inr (hw _ (List.mem_of_getElem? (i := 127) rfl))) (Or.inr (hw _ (List.mem_of_getElem? (i := 129) rfl))) (by decide) (t := (.object "com/example/rolestack/rolestack/Database")) (t' := .int) (by decide) (by decide)))
  have F_id_a := F_id_a.same W3
  have K := K.wr W3 (Or.inl (List.mem_of_getElem? (i := 0) rfl))
  have Zs := Nat.le_trans Zs (Keep.of_wr W3).1
  have N := Fr.snoc X3 N g_a
  refine OwnGo.fwd st3 ?_
  show OwnGo _ _ _ _ (T3.setTop (mkF m 14 #[.val (.ref a), .val .null, .val (.int x)] []))
  exact own_retV X3 hlk hx Bd.returns (hb hby d16_14) (by decide) (by decide) e3 ⟨rfl, N, K, E_a⟩
theorem d15_0 : decode jdk_29_method_65_code 0 = .ok (.iload_n 0, 1) := by decide +kernel
theorem d15_1 : decode jdk_29_method_65_code 1 = .ok (.iload_n 1, 1) := by decide +kernel
theorem d15_2 : decode jdk_29_method_65_code 2 = .ok (.if_icmp .lt 7, 3) := by decide +kernel
theorem d15_5 : decode jdk_29_method_65_code 5 = .ok (.iload_n 0, 1) := by decide +kernel
theorem d15_6 : decode jdk_29_method_65_code 6 = .ok (.goto 4, 3) := by decide +kernel
theorem d15_9 : decode jdk_29_method_65_code 9 = .ok (.iload_n 1, 1) := by decide +kernel
theorem d15_10 : decode jdk_29_method_65_code 10 = .ok (.ireturn, 1) := by decide +kernel
theorem pn_15 : plainFor (⟨"java/lang/Math", "max", "(II)I"⟩ : MethodName) = true := by decide +kernel
theorem ef_15 (m : MethodId) (x0 : Int32) (x1 : Int32) : entryFrame m #[(.int x0), (.int x1)] 2 = mkF m 0 #[.val (.int x0), .val (.int x1)] [] := by first | (simp [entryFrame, mkF, argsToLocals, Value.category, maxLocals]; done) | rfl
def Q15 (Z : State) (h0 : Heap) (n0 : Nat) (v : Option Value) (h : Heap) (L : List Loc) : Prop := v = some (.int 10) ∧ Fr n0 L ∧ h = h0
set_option maxRecDepth 65536 in
set_option maxHeartbeats 40000000 in
theorem rm15 (l : Launch) (Z : State) (a0 : Array Value) (hw : ∀ d ∈ tables_1, d.before a0 Z = true) (ws : List Jvm.Cond) (h0 : Heap) (n0 : Nat) (Z0 : n0 ≤ h0.size) :
    MetFree l (⟨"java/lang/Math", "max", "(II)I"⟩ : MethodName) (head1 (Jvm.Cond.code (⟨"java/lang/Math", "max", "(II)I"⟩ : MethodName) jdk_29_method_65_code 2 (some .int) :: ws) ({ frames := 0, cells := 0, slots := 0, locals := 0 } : Room)) (fun arr' U => arr' = #[(.int (10 : Int32)), (.int (1 : Int32))] ∧ Z.Warmed39 U.vm ∧ U.heap = h0) (fun _ _ _ _ _ => True) (fun _ U o U' => ∃ v L, o = .returned v ∧ (Q15 Z  h0 n0) v U'.heap L ∧ FrameEnd U o U' L ({ frames := 0, cells := 0, slots := 0, locals := 0 } : Room).cells ({ frames := 0, cells := 0, slots := 0, locals := 0 } : Room).slots) := by
  refine MetFree.of_bodySF pn_15 hisR ?_
  intro p e s m args below meth c s₁ Bd hml0 hP hK
  obtain ⟨rfl, hZ, hh⟩ := hP
  have hx := Bd.exec
  have hby := Bd.bytes
  have hlk : meth.locks = false := BodyLoose.notSynchronized Bd
  have hml : c.maxLocals = 2 := hml0
  have hown : s.vm.findClass "java/lang/Math" = some m.cls := findClass_of_methodNamed Bd.named
  have hnm := (name_of_methodNamed Bd.named Bd.method).1
  have X0 : Stand p l e ({ frames := 0, cells := 0, slots := 0, locals := 0 } : Room) s m #[(.int (10 : Int32)), (.int (1 : Int32))] below meth c s₁ [] 0 0 := Stand.of_body Bd
  have e0 : s₁.heap = h0 := by rw [← hh, Bd.state]; rfl
  have N := Fr.nil n0
  have Zs := Z0
  change OwnGo p.tables e below (OwnEnd s (Q15 Z  h0 n0) ({ frames := 0, cells := 0, slots := 0, locals := 0 } : Room).cells ({ frames := 0, cells := 0, slots := 0, locals := 0 } : Room).slots) _
  refine OwnGo.fwd (fun tq' kq' => castTop (ef_15 m (10 : Int32) (1 : Int32)) kq') ?_
  show OwnGo _ _ _ _ (s₁.setTop (mkF m 0 #[.val (.int (10 : Int32)), .val (.int (1 : Int32))] []))
  refine OwnGo.fwd (fun tq' kq' => XS.iloadN X0.here hx rfl (hb hby d15_0) rfl kq') ?_
  show OwnGo _ _ _ _ (s₁.setTop (mkF m 1 #[.val (.int (10 : Int32)), .val (.int (1 : Int32))] [(.int (10 : Int32))]))
  refine OwnGo.fwd (fun tq' kq' => XS.iloadN X0.here hx rfl (hb hby d15_1) rfl kq') ?_
  show OwnGo _ _ _ _ (s₁.setTop (mkF m 2 #[.val (.int (10 : Int32)), .val (.int (1 : Int32))] [(.int (1 : Int32)), (.int (10 : Int32))]))
  have hc2_1 : ¬ ((10 : Int) < (1 : Int)) := by decide
  refine OwnGo.fwd (fun tq' kq' => XS.icmpNo X0.here hx rfl (hb hby d15_2) rfl (own_bnlt (by decide) (by decide) hc2_1).1 kq') ?_
  show OwnGo _ _ _ _ (s₁.setTop (mkF m 5 #[.val (.int (10 : Int32)), .val (.int (1 : Int32))] []))
  refine OwnGo.fwd (fun tq' kq' => XS.iloadN X0.here hx rfl (hb hby d15_5) rfl kq') ?_
  show OwnGo _ _ _ _ (s₁.setTop (mkF m 6 #[.val (.int (10 : Int32)), .val (.int (1 : Int32))] [(.int (10 : Int32))]))
  refine OwnGo.fwd (fun tq' kq' => XS.goto X0.here hx rfl (pc0 := 6) (pc' := 10) rfl (hb hby d15_6) (by decide) (by decide) kq') ?_
  show OwnGo _ _ _ _ (s₁.setTop (mkF m 10 #[.val (.int (10 : Int32)), .val (.int (1 : Int32))] [(.int (10 : Int32))]))
  exact own_retI X0 hlk hx Bd.returns (hb hby d15_10) (by decide) (by decide) e0 ⟨rfl, N, rfl⟩
theorem d25_0 : decode jdk_29_method_69_code 0 = .ok (.iload_n 0, 1) := by decide +kernel
theorem d25_1 : decode jdk_29_method_69_code 1 = .ok (.iload_n 1, 1) := by decide +kernel
theorem d25_2 : decode jdk_29_method_69_code 2 = .ok (.if_icmp .gt 7, 3) := by decide +kernel
theorem d25_5 : decode jdk_29_method_69_code 5 = .ok (.iload_n 0, 1) := by decide +kernel
theorem d25_6 : decode jdk_29_method_69_code 6 = .ok (.goto 4, 3) := by decide +kernel
theorem d25_9 : decode jdk_29_method_69_code 9 = .ok (.iload_n 1, 1) := by decide +kernel
theorem d25_10 : decode jdk_29_method_69_code 10 = .ok (.ireturn, 1) := by decide +kernel
theorem pn_25 : plainFor (⟨"java/lang/Math", "min", "(II)I"⟩ : MethodName) = true := by decide +kernel
theorem ef_25 (m : MethodId) (x0 : Int32) (x1 : Int32) : entryFrame m #[(.int x0), (.int x1)] 2 = mkF m 0 #[.val (.int x0), .val (.int x1)] [] := by first | (simp [entryFrame, mkF, argsToLocals, Value.category, maxLocals]; done) | rfl
def Q25 (Z : State) (u : Nat) (n : Nat) (h0 : Heap) (n0 : Nat) (v : Option Value) (h : Heap) (L : List Loc) : Prop := v = some (.int (Int32.ofNat n)) ∧ Fr n0 L ∧ h = h0
set_option maxRecDepth 65536 in
set_option maxHeartbeats 40000000 in
theorem rm25 (l : Launch) (Z : State) (a0 : Array Value) (hw : ∀ d ∈ tables_1, d.before a0 Z = true) (ws : List Jvm.Cond) (u : Nat) (n : Nat) (h0 : Heap) (n0 : Nat) (Z0 : n0 ≤ h0.size) (hu : u < 2147483648) (hn : n < 2147483648) (hle : n ≤ u) :
    MetFree l (⟨"java/lang/Math", "min", "(II)I"⟩ : MethodName) (head1 (Jvm.Cond.code (⟨"java/lang/Math", "min", "(II)I"⟩ : MethodName) jdk_29_method_69_code 2 (some .int) :: ws) ({ frames := 0, cells := 0, slots := 0, locals := 0 } : Room)) (fun arr' U => arr' = #[(.int (Int32.ofNat u)), (.int (Int32.ofNat n))] ∧ Z.Warmed39 U.vm ∧ U.heap = h0) (fun _ _ _ _ _ => True) (fun _ U o U' => ∃ v L, o = .returned v ∧ (Q25 Z u n h0 n0) v U'.heap L ∧ FrameEnd U o U' L ({ frames := 0, cells := 0, slots := 0, locals := 0 } : Room).cells ({ frames := 0, cells := 0, slots := 0, locals := 0 } : Room).slots) := by
  refine MetFree.of_bodySF pn_25 hisR ?_
  intro p e s m args below meth c s₁ Bd hml0 hP hK
  obtain ⟨rfl, hZ, hh⟩ := hP
  have hx := Bd.exec
  have hby := Bd.bytes
  have hlk : meth.locks = false := BodyLoose.notSynchronized Bd
  have hml : c.maxLocals = 2 := hml0
  have hown : s.vm.findClass "java/lang/Math" = some m.cls := findClass_of_methodNamed Bd.named
  have hnm := (name_of_methodNamed Bd.named Bd.method).1
  have X0 : Stand p l e ({ frames := 0, cells := 0, slots := 0, locals := 0 } : Room) s m #[(.int (Int32.ofNat u)), (.int (Int32.ofNat n))] below meth c s₁ [] 0 0 := Stand.of_body Bd
  have e0 : s₁.heap = h0 := by rw [← hh, Bd.state]; rfl
  have N := Fr.nil n0
  have Zs := Z0
  change OwnGo p.tables e below (OwnEnd s (Q25 Z u n h0 n0) ({ frames := 0, cells := 0, slots := 0, locals := 0 } : Room).cells ({ frames := 0, cells := 0, slots := 0, locals := 0 } : Room).slots) _
  refine OwnGo.fwd (fun tq' kq' => castTop (ef_25 m (Int32.ofNat u) (Int32.ofNat n)) kq') ?_
  show OwnGo _ _ _ _ (s₁.setTop (mkF m 0 #[.val (.int (Int32.ofNat u)), .val (.int (Int32.ofNat n))] []))
  refine OwnGo.fwd (fun tq' kq' => XS.iloadN X0.here hx rfl (hb hby d25_0) rfl kq') ?_
  show OwnGo _ _ _ _ (s₁.setTop (mkF m 1 #[.val (.int (Int32.ofNat u)), .val (.int (Int32.ofNat n))] [(.int (Int32.ofNat u))]))
  refine OwnGo.fwd (fun tq' kq' => XS.iloadN X0.here hx rfl (hb hby d25_1) rfl kq') ?_
  show OwnGo _ _ _ _ (s₁.setTop (mkF m 2 #[.val (.int (Int32.ofNat u)), .val (.int (Int32.ofNat n))] [(.int (Int32.ofNat n)), (.int (Int32.ofNat u))]))
  by_cases hc2_1 : (n : Int) < (u : Int)
  · refine OwnGo.fwd (fun tq' kq' => XS.icmpYes X0.here hx rfl (pc0 := 2) (pc' := 9) rfl (hb hby d25_2) rfl (own_blt (own_ofNat hn) (own_ofNat hu) hc2_1).2.2.1 (by decide) (by decide) kq') ?_
    show OwnGo _ _ _ _ (s₁.setTop (mkF m 9 #[.val (.int (Int32.ofNat u)), .val (.int (Int32.ofNat n))] []))
    refine OwnGo.fwd (fun tq' kq' => XS.iloadN X0.here hx rfl (hb hby d25_9) rfl kq') ?_
    show OwnGo _ _ _ _ (s₁.setTop (mkF m 10 #[.val (.int (Int32.ofNat u)), .val (.int (Int32.ofNat n))] [(.int (Int32.ofNat n))]))
    exact own_retI X0 hlk hx Bd.returns (hb hby d25_10) (by decide) (by decide) e0 ⟨rfl, N, rfl⟩
  · refine OwnGo.fwd (fun tq' kq' => XS.icmpNo X0.here hx rfl (hb hby d25_2) rfl (own_bnlt (own_ofNat hn) (own_ofNat hu) hc2_1).2.2.1 kq') ?_
    show OwnGo _ _ _ _ (s₁.setTop (mkF m 5 #[.val (.int (Int32.ofNat u)), .val (.int (Int32.ofNat n))] []))
    refine OwnGo.fwd (fun tq' kq' => XS.iloadN X0.here hx rfl (hb hby d25_5) rfl kq') ?_
    show OwnGo _ _ _ _ (s₁.setTop (mkF m 6 #[.val (.int (Int32.ofNat u)), .val (.int (Int32.ofNat n))] [(.int (Int32.ofNat u))]))
    refine OwnGo.fwd (fun tq' kq' => XS.goto X0.here hx rfl (pc0 := 6) (pc' := 10) rfl (hb hby d25_6) (by decide) (by decide) kq') ?_
    show OwnGo _ _ _ _ (s₁.setTop (mkF m 10 #[.val (.int (Int32.ofNat u)), .val (.int (Int32.ofNat n))] [(.int (Int32.ofNat u))]))
    exact own_retI X0 hlk hx Bd.returns (hb hby d25_10) (by decide) (by decide) e0 ⟨by rw [show u = n by omega], N, rfl⟩
theorem d14_0 : decode jdk_38_method_6_code 0 = .ok (.aload_n 0, 1) := by decide +kernel
theorem d14_1 : decode jdk_38_method_6_code 1 = .ok (.getfield 9, 3) := by decide +kernel
theorem d14_4 : decode jdk_38_method_6_code 4 = .ok (.arraylength, 1) := by decide +kernel
theorem d14_5 : decode jdk_38_method_6_code 5 = .ok (.istore_n 2, 1) := by decide +kernel
theorem d14_6 : decode jdk_38_method_6_code 6 = .ok (.iload_n 2, 1) := by decide +kernel
theorem d14_7 : decode jdk_38_method_6_code 7 = .ok (.ifCond .gt 13, 3) := by decide +kernel
theorem d14_10 : decode jdk_38_method_6_code 10 = .ok (.aload_n 0, 1) := by decide +kernel
theorem d14_11 : decode jdk_38_method_6_code 11 = .ok (.getfield 9, 3) := by decide +kernel
theorem d14_14 : decode jdk_38_method_6_code 14 = .ok (.getstatic 39, 3) := by decide +kernel
theorem d14_17 : decode jdk_38_method_6_code 17 = .ok (.if_acmp .eq 28, 3) := by decide +kernel
theorem d14_20 : decode jdk_38_method_6_code 20 = .ok (.iload_n 2, 1) := by decide +kernel
theorem d14_21 : decode jdk_38_method_6_code 21 = .ok (.iload_n 1, 1) := by decide +kernel
theorem d14_22 : decode jdk_38_method_6_code 22 = .ok (.iload_n 2, 1) := by decide +kernel
theorem d14_23 : decode jdk_38_method_6_code 23 = .ok (.isub, 1) := by decide +kernel
theorem d14_24 : decode jdk_38_method_6_code 24 = .ok (.iload_n 2, 1) := by decide +kernel
theorem d14_25 : decode jdk_38_method_6_code 25 = .ok (.iconst 1, 1) := by decide +kernel
theorem d14_26 : decode jdk_38_method_6_code 26 = .ok (.ishr, 1) := by decide +kernel
theorem d14_27 : decode jdk_38_method_6_code 27 = .ok (.invokestatic 73, 3) := by decide +kernel
theorem d14_30 : decode jdk_38_method_6_code 30 = .ok (.istore_n 3, 1) := by decide +kernel
theorem d14_31 : decode jdk_38_method_6_code 31 = .ok (.aload_n 0, 1) := by decide +kernel
theorem d14_32 : decode jdk_38_method_6_code 32 = .ok (.aload_n 0, 1) := by decide +kernel
theorem d14_33 : decode jdk_38_method_6_code 33 = .ok (.getfield 9, 3) := by decide +kernel
theorem d14_36 : decode jdk_38_method_6_code 36 = .ok (.iload_n 3, 1) := by decide +kernel
theorem d14_37 : decode jdk_38_method_6_code 37 = .ok (.invokestatic 66, 3) := by decide +kernel
theorem d14_40 : decode jdk_38_method_6_code 40 = .ok (.dup_x1, 1) := by decide +kernel
theorem d14_41 : decode jdk_38_method_6_code 41 = .ok (.putfield 9, 3) := by decide +kernel
theorem d14_44 : decode jdk_38_method_6_code 44 = .ok (.areturn, 1) := by decide +kernel
theorem d14_45 : decode jdk_38_method_6_code 45 = .ok (.aload_n 0, 1) := by decide +kernel
theorem d14_46 : decode jdk_38_method_6_code 46 = .ok (.bipush 10, 2) := by decide +kernel
theorem d14_48 : decode jdk_38_method_6_code 48 = .ok (.iload_n 1, 1) := by decide +kernel
theorem d14_49 : decode jdk_38_method_6_code 49 = .ok (.invokestatic 79, 3) := by decide +kernel
theorem d14_52 : decode jdk_38_method_6_code 52 = .ok (.anewarray 7, 3) := by decide +kernel
theorem d14_55 : decode jdk_38_method_6_code 55 = .ok (.dup_x1, 1) := by decide +kernel
theorem d14_56 : decode jdk_38_method_6_code 56 = .ok (.putfield 9, 3) := by decide +kernel
theorem d14_59 : decode jdk_38_method_6_code 59 = .ok (.areturn, 1) := by decide +kernel
theorem pn_14 : plainFor (⟨"java/util/ArrayList", "grow", "(I)[Ljava/lang/Object;"⟩ : MethodName) = true := plainFor_of_name (by first | (simp [plainName, overriddenIn]; done) | decide +kernel)
theorem ef_14 (m : MethodId) (x0 : Addr) (x1 : Int32) : entryFrame m #[(.ref x0), (.int x1)] 4 = mkF m 0 #[.val (.ref x0), .val (.int x1), .unset, .unset] [] := by first | (simp [entryFrame, mkF, argsToLocals, Value.category, maxLocals]; done) | rfl
def Q14 (Z : State) (a : Addr) (dc : Addr) (mc : Int32) (h0 : Heap) (n0 : Nat) (v : Option Value) (h : Heap) (L : List Loc) : Prop := Fr n0 L ∧ Keep h0 h [a] ∧ ∃ t, v = some (.ref t) ∧ h0.size ≤ t ∧ OwnOA Z h t 10 ∧ Exa Z h a "java/util/ArrayList" ∧ Fld Z h a "java/util/AbstractList" "modCount" "I" (.int mc) ∧ Fld Z h a "java/util/ArrayList" "elementData" "[Ljava/lang/Object;" (.ref t) ∧ Fld Z h a "java/util/ArrayList" "size" "I" (.int (0 : Int32))
set_option maxRecDepth 65536 in
set_option maxHeartbeats 40000000 in
theorem rm14 (l : Launch) (Z : State) (a0 : Array Value) (hw : ∀ d ∈ tables_1, d.before a0 Z = true) (ws : List Jvm.Cond) (a : Addr) (dc : Addr) (mc : Int32) (h0 : Heap) (n0 : Nat) (Z0 : n0 ≤ h0.size) (E_a : Exa Z h0 a "java/util/ArrayList") (F_modCount_a : Fld Z h0 a "java/util/AbstractList" "modCount" "I" (.int mc)) (F_elementData_a : Fld Z h0 a "java/util/ArrayList" "elementData" "[Ljava/lang/Object;" (.ref dc)) (F_size_a : Fld Z h0 a "java/util/ArrayList" "size" "I" (.int (0 : Int32))) (g_a : n0 ≤ a) (O_dc : OwnOA Z h0 dc 0) (ne_a_dc : a ≠ dc) (S0_DEFAULTCAPACITY_EMPTY_ELEMENTDATA : Sta Z h0 "java/util/ArrayList" "DEFAULTCAPACITY_EMPTY_ELEMENTDATA" "[Ljava/lang/Object;" (.ref dc)) :
    MetFree l (⟨"java/util/ArrayList", "grow", "(I)[Ljava/lang/Object;"⟩ : MethodName) (head1 (Jvm.Cond.code (⟨"java/util/ArrayList", "grow", "(I)[Ljava/lang/Object;"⟩ : MethodName) jdk_38_method_6_code 4 (some (.array (.object "java/lang/Object"))) :: ws) ({ frames := 1, cells := 1, slots := 10, locals := 20 } : Room)) (fun arr' U => arr' = #[(.ref a), (.int (1 : Int32))] ∧ Z.Warmed39 U.vm ∧ U.heap = h0) (fun _ _ _ _ _ => True) (fun _ U o U' => ∃ v L, o = .returned v ∧ (Q14 Z a dc mc h0 n0) v U'.heap L ∧ FrameEnd U o U' L ({ frames := 1, cells := 1, slots := 10, locals := 20 } : Room).cells ({ frames := 1, cells := 1, slots := 10, locals := 20 } : Room).slots) := by
  refine MetFree.of_bodySF pn_14 hisR ?_
  intro p e s m args below meth c s₁ Bd hml0 hP hK
  obtain ⟨rfl, hZ, hh⟩ := hP
  have hx := Bd.exec
  have hby := Bd.bytes
  have hlk : meth.locks = false := BodyLoose.notSynchronized Bd
  have hml : c.maxLocals = 4 := hml0
  have hown : s.vm.findClass "java/util/ArrayList" = some m.cls := findClass_of_methodNamed Bd.named
  have hnm := (name_of_methodNamed Bd.named Bd.method).1
  have X0 : Stand p l e ({ frames := 1, cells := 1, slots := 10, locals := 20 } : Room) s m #[(.ref a), (.int (1 : Int32))] below meth c s₁ [] 0 0 := Stand.of_body Bd
  have e0 : s₁.heap = h0 := by rw [← hh, Bd.state]; rfl
  have N := Fr.nil n0
  have Zs := Z0
  change OwnGo p.tables e below (OwnEnd s (Q14 Z a dc mc h0 n0) ({ frames := 1, cells := 1, slots := 10, locals := 20 } : Room).cells ({ frames := 1, cells := 1, slots := 10, locals := 20 } : Room).slots) _
  refine OwnGo.fwd (fun tq' kq' => castTop (ef_14 m a (1 : Int32)) kq') ?_
  show OwnGo _ _ _ _ (s₁.setTop (mkF m 0 #[.val (.ref a), .val (.int (1 : Int32)), .unset, .unset] []))
  have K : Keep h0 h0 [a] := Keep.refl _ _
  have E0_a := E_a
  refine OwnGo.fwd (fun tq' kq' => XS.aloadN X0.here hx rfl (hb hby d14_0) rfl rfl kq') ?_
  show OwnGo _ _ _ _ (s₁.setTop (mkF m 1 #[.val (.ref a), .val (.int (1 : Int32)), .unset, .unset] [(.ref a)]))
  obtain ⟨T1, X1, e1, st1⟩ := getF X0 hx hZ hown (host := "") (Or.inl (hw _ (List.mem_of_getElem? (i := 24) rfl))) Via.refl e0 F_elementData_a (g := (mkF m 1 #[.val (.ref a), .val (.int (1 : Int32)), .unset, .unset] [(.ref a)])) rfl rfl (hb hby d14_1)
  refine OwnGo.fwd st1 ?_
  show OwnGo _ _ _ _ (T1.setTop (mkF m 4 #[.val (.ref a), .val (.int (1 : Int32)), .unset, .unset] [(.ref dc)]))
  refine OwnGo.fwd (fun tq' kq' => own_lenO X1 hx hZ e1 O_dc (g := (mkF m 4 #[.val (.ref a), .val (.int (1 : Int32)), .unset, .unset] [(.ref dc)])) rfl rfl (hb hby d14_4) tq' kq') ?_
  show OwnGo _ _ _ _ (T1.setTop (mkF m 5 #[.val (.ref a), .val (.int (1 : Int32)), .unset, .unset] [(.int (Int32.ofNat 0))]))
  refine OwnGo.fwd (fun tq' kq' => XS.istoreN X1.here hx rfl (hb hby d14_5) rfl (l' := #[.val (.ref a), .val (.int (1 : Int32)), .val (.int (Int32.ofNat 0)), .unset]) rfl kq') ?_
  show OwnGo _ _ _ _ (T1.setTop (mkF m 6 #[.val (.ref a), .val (.int (1 : Int32)), .val (.int (Int32.ofNat 0)), .unset] []))
  refine OwnGo.fwd (fun tq' kq' => XS.iloadN X1.here hx rfl (hb hby d14_6) rfl kq') ?_
  show OwnGo _ _ _ _ (T1.setTop (mkF m 7 #[.val (.ref a), .val (.int (1 : Int32)), .val (.int (Int32.ofNat 0)), .unset] [(.int (Int32.ofNat 0))]))
  have hc7_2 : ¬ ((0 : Int) < (0 : Int)) := by decide
  refine OwnGo.fwd (fun tq' kq' => XS.ifNo X1.here hx rfl (hb hby d14_7) rfl ((if0 _ _).trans (own_bnlt (by decide) (by decide) hc7_2).2.2.1) kq') ?_
  show OwnGo _ _ _ _ (T1.setTop (mkF m 10 #[.val (.ref a), .val (.int (1 : Int32)), .val (.int (Int32.ofNat 0)), .unset] []))
  refine OwnGo.fwd (fun tq' kq' => XS.aloadN X1.here hx rfl (hb hby d14_10) rfl rfl kq') ?_
  show OwnGo _ _ _ _ (T1.setTop (mkF m 11 #[.val (.ref a), .val (.int (1 : Int32)), .val (.int (Int32.ofNat 0)), .unset] [(.ref a)]))
  obtain ⟨T3, X3, e3, st3⟩ := getF X1 hx hZ hown (host := "") (Or.inl (hw _ (List.mem_of_getElem? (i := 24) rfl))) Via.refl e1 F_elementData_a (g := (mkF m 11 #[.val (.ref a), .val (.int (1 : Int32)), .val (.int (Int32.ofNat 0)), .unset] [(.ref a)])) rfl rfl (hb hby d14_11)
  refine OwnGo.fwd st3 ?_
  show OwnGo _ _ _ _ (T3.setTop (mkF m 14 #[.val (.ref a), .val (.int (1 : Int32)), .val (.int (Int32.ofNat 0)), .unset] [(.ref dc)]))
  have S_DEFAULTCAPACITY_EMPTY_ELEMENTDATA := own_stK S0_DEFAULTCAPACITY_EMPTY_ELEMENTDATA K (allS ⟨_, E0_a⟩ all0)
  obtain ⟨T4, X4, e4, st4⟩ := getS2 X3 hx hZ hown (host := "") (Or.inl (hw _ (List.mem_of_getElem? (i := 23) rfl))) Via.refl e3 S_DEFAULTCAPACITY_EMPTY_ELEMENTDATA (g := (mkF m 14 #[.val (.ref a), .val (.int (1 : Int32)), .val (.int (Int32.ofNat 0)), .unset] [(.ref dc)])) rfl (hb hby d14_14)
  refine OwnGo.fwd st4 ?_
  show OwnGo _ _ _ _ (T4.setTop (mkF m 17 #[.val (.ref a), .val (.int (1 : Int32)), .val (.int (Int32.ofNat 0)), .unset] [(.ref dc), (.ref dc)]))
  refine OwnGo.fwd (fun tq' kq' => Jvm.RoadKit.acmp (g := (mkF m 17 #[.val (.ref a), .val (.int (1 : Int32)), .val (.int (Int32.ofNat 0)), .unset] [(.ref dc), (.ref dc)])) X4 hx rfl rfl rfl (pc0 := 17) (pc' := 45) (same := true) rfl (hb hby d14_17) rfl (decide_eq_true rfl) (by decide) (by decide) kq') ?_
  show OwnGo _ _ _ _ (T4.setTop (mkF m 45 #[.val (.ref a), .val (.int (1 : Int32)), .val (.int (Int32.ofNat 0)), .unset] []))
  refine OwnGo.fwd (fun tq' kq' => XS.aloadN X4.here hx rfl (hb hby d14_45) rfl rfl kq') ?_
  show OwnGo _ _ _ _ (T4.setTop (mkF m 46 #[.val (.ref a), .val (.int (1 : Int32)), .val (.int (Int32.ofNat 0)), .unset] [(.ref a)]))
  refine OwnGo.fwd (fun tq' kq' => XS.bipush X4.here hx rfl (hb hby d14_46) kq') ?_
  show OwnGo _ _ _ _ (T4.setTop (mkF m 48 #[.val (.ref a), .val (.int (1 : Int32)), .val (.int (Int32.ofNat 0)), .unset] [(.int (10 : Int32)), (.ref a)]))
  refine OwnGo.fwd (fun tq' kq' => XS.iloadN X4.here hx rfl (hb hby d14_48) rfl kq') ?_
  show OwnGo _ _ _ _ (T4.setTop (mkF m 49 #[.val (.ref a), .val (.int (1 : Int32)), .val (.int (Int32.ofNat 0)), .unset] [(.int (1 : Int32)), (.int (10 : Int32)), (.ref a)]))
  obtain ⟨_, _, ⟨T5, L5, k5, n5⟩, -, X5, ⟨Lc5, hQ5, l5, y5, z5⟩, st5⟩ := Jvm.LawKit.callS X4 hx (y := (⟨"java/lang/Math", "max", "(II)I"⟩ : MethodName)) hown (mvT hZ (hw _ (List.mem_of_getElem? (i := 107) rfl))) (mvT hZ (hw _ (List.mem_of_getElem? (i := 108) rfl))) (mvT hZ (hw _ (List.mem_of_getElem? (i := 109) rfl))) (mvT hZ (hw _ (List.mem_of_getElem? (i := 110) rfl))) (by decide) (backOf (W := 1) (rm15 l Z a0 hw []  h0 n0 Zs) hZ (hw _ (List.mem_of_getElem? (i := 110) rfl)) (hw _ (List.mem_of_getElem? (i := 109) rfl)) (by decide) (by decide)) (g := (mkF m 49 #[.val (.ref a), .val (.int (1 : Int32)), .val (.int (Int32.ofNat 0)), .unset] [(.int (1 : Int32)), (.int (10 : Int32)), (.ref a)])) rfl (by rw [hml]; rfl) (argsL := [(.int (10 : Int32)), (.int (1 : Int32))]) (rest := [(.ref a)]) (lenOf pd_10 rfl) rfl (by show 2 * 0 + _ ≤ _; exact Nat.le_of_eq rfl) (hb hby d14_49) (fun _ _ => ⟨rfl, e4, (by decide : 0 + 0 ≤ _), (by decide : 0 + 0 ≤ _)⟩)
  dsimp only [Pt.U, Pt.locs, Pt.cells, Pt.slots] at X5 l5 y5 z5 st5 hQ5
  subst l5 y5 z5
  obtain ⟨rfl, N5q, e5⟩ := hQ5
  have N := Fr.app N N5q
  refine OwnGo.fwd st5 ?_
  show OwnGo _ _ _ _ (T5.setTop (mkF m 52 #[.val (.ref a), .val (.int (1 : Int32)), .val (.int (Int32.ofNat 0)), .unset] [(.int (10 : Int32)), (.ref a)]))
  obtain ⟨T6, h6, b6, X6, e6, E6, g6, O6, st6⟩ := own_newO (n := 10) X5 hx hZ hown (hw _ (List.mem_of_getElem? (i := 111) rfl)) (hw _ (List.mem_of_getElem? (i := 112) rfl)) e5 (g := (mkF m 52 #[.val (.ref a), .val (.int (1 : Int32)), .val (.int (Int32.ofNat 0)), .unset] [(.int (10 : Int32)), (.ref a)])) rfl (hb hby d14_52) rfl (by decide) (cap := 10) (by decide) (by decide) (by decide) (by decide)
  have ne_a_b6 : a ≠ b6 := Nat.ne_of_lt (Nat.lt_of_lt_of_le E_a.lt (Nat.le_of_eq g6.symm))
  have ne_dc_b6 : dc ≠ b6 := Nat.ne_of_lt (Nat.lt_of_lt_of_le O_dc.lt (Nat.le_of_eq g6.symm))
  have g_b6 : n0 ≤ b6 := Nat.le_trans Zs (Nat.le_of_eq g6.symm)
  have sz_b6 : h0.size ≤ b6 := Nat.le_trans K.1 (Nat.le_of_eq g6.symm)
  have K := K.ext E6
  have Zs := Nat.le_trans Zs E6.1
  have E_a := E_a.ext E6
  have F_modCount_a := F_modCount_a.ext E6
  have F_elementData_a := F_elementData_a.ext E6
  have F_size_a := F_size_a.ext E6
  have O_dc := O_dc.ext E6
  have O_b6 := O6
  refine OwnGo.fwd st6 ?_
  show OwnGo _ _ _ _ (T6.setTop (mkF m 55 #[.val (.ref a), .val (.int (1 : Int32)), .val (.int (Int32.ofNat 0)), .unset] [(.ref b6), (.ref a)]))
  refine OwnGo.fwd (fun tq' kq' => XS.dupX1 X6.here hx rfl (hb hby d14_55) rfl rfl rfl kq') ?_
  show OwnGo _ _ _ _ (T6.setTop (mkF m 56 #[.val (.ref a), .val (.int (1 : Int32)), .val (.int (Int32.ofNat 0)), .unset] [(.ref b6), (.ref a), (.ref b6)]))
  obtain ⟨T7, h7, X7, e7, W7, st7⟩ := putF X6 hx hZ hown (host := "") (Or.inl (hw _ (List.mem_of_getElem? (i := 24) rfl))) Via.refl e6 F_elementData_a E_a (Or.inl (hw _ (List.mem_of_getElem? (i := 25) rfl))) (hw _ (List.mem_of_getElem? (i := 1) rfl)) (ty := (.array (.object "java/lang/Object"))) (by decide) rfl rfl (g := (mkF m 56 #[.val (.ref a), .val (.int (1 : Int32)), .val (.int (Int32.ofNat 0)), .unset] [(.ref b6), (.ref a), (.ref b6)])) rfl rfl (hb hby d14_56)
  have E_a := E_a.wr W7
  have F_modCount_a := F_modCount_a.other W7 (Or.inr (slot_ne (Or.inl (hw _ (List.mem_of_getElem? (i := 22) rfl))) (Or.inl (hw _ (List.mem_of_getElem? (i := 25) rfl))) (by decide) (t := .int) (t' := (.array (.object "java/lang/Object"))) (by decide) (by decide)))
  have F_elementData_a := F_elementData_a.same W7
  have F_size_a := F_size_a.other W7 (Or.inr (slot_ne (Or.inl (hw _ (List.mem_of_getElem? (i := 91) rfl))) (Or.inl (hw _ (List.mem_of_getElem? (i := 25) rfl))) (by decide) (t := .int) (t' := (.array (.object "java/lang/Object"))) (by decide) (by decide)))
  have O_dc := O_dc.other W7 (Ne.symm ne_a_dc)
  have O_b6 := O_b6.other W7 (Ne.symm ne_a_b6)
  have K := K.wr W7 (Or.inl (List.mem_of_getElem? (i := 0) rfl))
  have Zs := Nat.le_trans Zs (Keep.of_wr W7).1
  have N := Fr.snoc X7 N g_a
  refine OwnGo.fwd st7 ?_
  show OwnGo _ _ _ _ (T7.setTop (mkF m 59 #[.val (.ref a), .val (.int (1 : Int32)), .val (.int (Int32.ofNat 0)), .unset] [(.ref b6)]))
  exact own_retA X7 hlk hx Bd.returns rfl rfl (hb hby d14_59) (by decide) (by decide) e7 ⟨N, K, b6, rfl, sz_b6, O_b6, E_a, F_modCount_a, F_elementData_a, F_size_a⟩
theorem d13_0 : decode jdk_38_method_7_code 0 = .ok (.aload_n 0, 1) := by decide +kernel
theorem d13_1 : decode jdk_38_method_7_code 1 = .ok (.aload_n 0, 1) := by decide +kernel
theorem d13_2 : decode jdk_38_method_7_code 2 = .ok (.getfield 48, 3) := by decide +kernel
theorem d13_5 : decode jdk_38_method_7_code 5 = .ok (.iconst 1, 1) := by decide +kernel
theorem d13_6 : decode jdk_38_method_7_code 6 = .ok (.iadd, 1) := by decide +kernel
theorem d13_7 : decode jdk_38_method_7_code 7 = .ok (.invokevirtual 69, 3) := by decide +kernel
theorem d13_10 : decode jdk_38_method_7_code 10 = .ok (.areturn, 1) := by decide +kernel
theorem pn_13 : plainFor (⟨"java/util/ArrayList", "grow", "()[Ljava/lang/Object;"⟩ : MethodName) = true := plainFor_of_name (by first | (simp [plainName, overriddenIn]; done) | decide +kernel)
theorem ef_13 (m : MethodId) (x0 : Addr) : entryFrame m #[(.ref x0)] 1 = mkF m 0 #[.val (.ref x0)] [] := by first | (simp [entryFrame, mkF, argsToLocals, Value.category, maxLocals]; done) | rfl
def Q13 (Z : State) (a : Addr) (dc : Addr) (mc : Int32) (h0 : Heap) (n0 : Nat) (v : Option Value) (h : Heap) (L : List Loc) : Prop := Fr n0 L ∧ Keep h0 h [a] ∧ ∃ t, v = some (.ref t) ∧ h0.size ≤ t ∧ OwnOA Z h t 10 ∧ Exa Z h a "java/util/ArrayList" ∧ Fld Z h a "java/util/AbstractList" "modCount" "I" (.int mc) ∧ Fld Z h a "java/util/ArrayList" "elementData" "[Ljava/lang/Object;" (.ref t) ∧ Fld Z h a "java/util/ArrayList" "size" "I" (.int (0 : Int32))
set_option maxRecDepth 65536 in
set_option maxHeartbeats 40000000 in
theorem rm13 (l : Launch) (Z : State) (a0 : Array Value) (hw : ∀ d ∈ tables_1, d.before a0 Z = true) (ws : List Jvm.Cond) (a : Addr) (dc : Addr) (mc : Int32) (h0 : Heap) (n0 : Nat) (Z0 : n0 ≤ h0.size) (E_a : Exa Z h0 a "java/util/ArrayList") (F_modCount_a : Fld Z h0 a "java/util/AbstractList" "modCount" "I" (.int mc)) (F_elementData_a : Fld Z h0 a "java/util/ArrayList" "elementData" "[Ljava/lang/Object;" (.ref dc)) (F_size_a : Fld Z h0 a "java/util/ArrayList" "size" "I" (.int (0 : Int32))) (g_a : n0 ≤ a) (O_dc : OwnOA Z h0 dc 0) (ne_a_dc : a ≠ dc) (S0_DEFAULTCAPACITY_EMPTY_ELEMENTDATA : Sta Z h0 "java/util/ArrayList" "DEFAULTCAPACITY_EMPTY_ELEMENTDATA" "[Ljava/lang/Object;" (.ref dc)) :
    MetFree l (⟨"java/util/ArrayList", "grow", "()[Ljava/lang/Object;"⟩ : MethodName) (head1 (Jvm.Cond.code (⟨"java/util/ArrayList", "grow", "()[Ljava/lang/Object;"⟩ : MethodName) jdk_38_method_7_code 1 (some (.array (.object "java/lang/Object"))) :: ws) ({ frames := 2, cells := 1, slots := 10, locals := 35 } : Room)) (fun arr' U => arr' = #[(.ref a)] ∧ Z.Warmed39 U.vm ∧ U.heap = h0) (fun _ _ _ _ _ => True) (fun _ U o U' => ∃ v L, o = .returned v ∧ (Q13 Z a dc mc h0 n0) v U'.heap L ∧ FrameEnd U o U' L ({ frames := 2, cells := 1, slots := 10, locals := 35 } : Room).cells ({ frames := 2, cells := 1, slots := 10, locals := 35 } : Room).slots) := by
  refine MetFree.of_bodySF pn_13 hisR ?_
  intro p e s m args below meth c s₁ Bd hml0 hP hK
  obtain ⟨rfl, hZ, hh⟩ := hP
  have hx := Bd.exec
  have hby := Bd.bytes
  have hlk : meth.locks = false := BodyLoose.notSynchronized Bd
  have hml : c.maxLocals = 1 := hml0
  have hown : s.vm.findClass "java/util/ArrayList" = some m.cls := findClass_of_methodNamed Bd.named
  have hnm := (name_of_methodNamed Bd.named Bd.method).1
  have X0 : Stand p l e ({ frames := 2, cells := 1, slots := 10, locals := 35 } : Room) s m #[(.ref a)] below meth c s₁ [] 0 0 := Stand.of_body Bd
  have e0 : s₁.heap = h0 := by rw [← hh, Bd.state]; rfl
  have N := Fr.nil n0
  have Zs := Z0
  change OwnGo p.tables e below (OwnEnd s (Q13 Z a dc mc h0 n0) ({ frames := 2, cells := 1, slots := 10, locals := 35 } : Room).cells ({ frames := 2, cells := 1, slots := 10, locals := 35 } : Room).slots) _
  refine OwnGo.fwd (fun tq' kq' => castTop (ef_13 m a) kq') ?_
  show OwnGo _ _ _ _ (s₁.setTop (mkF m 0 #[.val (.ref a)] []))
  have K : Keep h0 h0 [a] := Keep.refl _ _
  have E0_a := E_a
  refine OwnGo.fwd (fun tq' kq' => XS.aloadN X0.here hx rfl (hb hby d13_0) rfl rfl kq') ?_
  show OwnGo _ _ _ _ (s₁.setTop (mkF m 1 #[.val (.ref a)] [(.ref a)]))
  refine OwnGo.fwd (fun tq' kq' => XS.aloadN X0.here hx rfl (hb hby d13_1) rfl rfl kq') ?_
  show OwnGo _ _ _ _ (s₁.setTop (mkF m 2 #[.val (.ref a)] [(.ref a), (.ref a)]))
  obtain ⟨T1, X1, e1, st1⟩ := getF X0 hx hZ hown (host := "") (Or.inl (hw _ (List.mem_of_getElem? (i := 90) rfl))) Via.refl e0 F_size_a (g := (mkF m 2 #[.val (.ref a)] [(.ref a), (.ref a)])) rfl rfl (hb hby d13_2)
  refine OwnGo.fwd st1 ?_
  show OwnGo _ _ _ _ (T1.setTop (mkF m 5 #[.val (.ref a)] [(.int (0 : Int32)), (.ref a)]))
  refine OwnGo.fwd (fun tq' kq' => XS.iconst X1.here hx rfl (hb hby d13_5) kq') ?_
  show OwnGo _ _ _ _ (T1.setTop (mkF m 6 #[.val (.ref a)] [(.int (1 : Int32)), (.int (0 : Int32)), (.ref a)]))
  refine OwnGo.fwd (fun tq' kq' => XS.iadd X1.here hx rfl (hb hby d13_6) rfl kq') ?_
  show OwnGo _ _ _ _ (T1.setTop (mkF m 7 #[.val (.ref a)] [(.int (1 : Int32)), (.ref a)]))
  obtain ⟨cq2, q2, q2'⟩ := E_a.cell
  obtain ⟨_, _, ⟨T2, L2, k2, n2⟩, -, X2, ⟨Lc2, hQ2, l2, y2, z2⟩, st2⟩ := X1.privateBack hx (y := (⟨"java/util/ArrayList", "grow", "(I)[Ljava/lang/Object;"⟩ : MethodName)) hown (mvT hZ (hw _ (List.mem_of_getElem? (i := 102) rfl))) (mvT hZ (hw _ (List.mem_of_getElem? (i := 103) rfl))) (mvT hZ (hw _ (List.mem_of_getElem? (i := 105) rfl))) (Cond.privateMethod_at (mvP hZ (hw _ (List.mem_of_getElem? (i := 104) rfl)) (args := #[]))) (mvT hZ (hw _ (List.mem_of_getElem? (i := 106) rfl))) (by decide) (backOf (W := 0) (rm14 l Z a0 hw [] a dc mc h0 n0 Zs E_a F_modCount_a F_elementData_a F_size_a g_a O_dc ne_a_dc (own_stK S0_DEFAULTCAPACITY_EMPTY_ELEMENTDATA K (allS ⟨_, E0_a⟩ all0))) hZ (hw _ (List.mem_of_getElem? (i := 106) rfl)) (hw _ (List.mem_of_getElem? (i := 2) rfl)) (by decide) (by decide)) (g := (mkF m 7 #[.val (.ref a)] [(.int (1 : Int32)), (.ref a)])) rfl (by rw [hml]; rfl) (Steps.refl _) (a := a) (by rw [e1]; exact q2) q2' (argsL := [(.int (1 : Int32))]) (rest := []) (lenOf pd_9 rfl) rfl (by show 2 * 0 + _ ≤ _; exact Nat.le_of_eq rfl) (hb hby d13_7) (fun _ _ => ⟨rfl, e1, (by decide : 0 + 1 ≤ _), (by decide : 0 + 10 ≤ _)⟩)
  dsimp only [Pt.U, Pt.locs, Pt.cells, Pt.slots] at X2 l2 y2 z2 st2 hQ2
  subst l2 y2 z2
  have lt2_a := E_a.lt
  have lt2_dc := O_dc.lt
  obtain ⟨h2, eh2⟩ : ∃ z, z = T2.heap := ⟨_, rfl⟩
  rw [← eh2] at hQ2
  obtain ⟨N2q, K2, t2, rfl, sq2, O_t2, E_a, F_modCount_a, F_elementData_a, F_size_a⟩ := hQ2
  have ne_a_t2 : a ≠ t2 := Nat.ne_of_lt (Nat.lt_of_lt_of_le lt2_a sq2)
  have ne_dc_t2 : dc ≠ t2 := Nat.ne_of_lt (Nat.lt_of_lt_of_le lt2_dc sq2)
  have g_t2 : n0 ≤ t2 := Nat.le_trans Zs sq2
  have sz_t2 : h0.size ≤ t2 := Nat.le_trans K.1 sq2
  have N := Fr.app N N2q
  have Zs := Nat.le_trans Zs K2.1
  have O_dc := O_dc.keep K2 (ninS (Ne.symm ne_a_dc) nin0)
  have K := K.trans K2 (allS (Or.inl (List.mem_of_getElem? (i := 0) rfl)) all0)
  refine OwnGo.thru st2 ?_
  show OwnGo _ _ _ _ (T2.setTop (mkF m 10 #[.val (.ref a)] [(.ref t2)]))
  exact own_retA X2 hlk hx Bd.returns rfl rfl (hb hby d13_10) (by decide) (by decide) eh2.symm ⟨N, K, t2, rfl, sz_t2, O_t2, E_a, F_modCount_a, F_elementData_a, F_size_a⟩
theorem d12_0 : decode jdk_38_method_24_code 0 = .ok (.iload_n 3, 1) := by decide +kernel
theorem d12_1 : decode jdk_38_method_24_code 1 = .ok (.aload_n 2, 1) := by decide +kernel
theorem d12_2 : decode jdk_38_method_24_code 2 = .ok (.arraylength, 1) := by decide +kernel
theorem d12_3 : decode jdk_38_method_24_code 3 = .ok (.if_icmp .ne 8, 3) := by decide +kernel
theorem d12_6 : decode jdk_38_method_24_code 6 = .ok (.aload_n 0, 1) := by decide +kernel
theorem d12_7 : decode jdk_38_method_24_code 7 = .ok (.invokevirtual 129, 3) := by decide +kernel
theorem d12_10 : decode jdk_38_method_24_code 10 = .ok (.astore_n 2, 1) := by decide +kernel
theorem d12_11 : decode jdk_38_method_24_code 11 = .ok (.aload_n 2, 1) := by decide +kernel
theorem d12_12 : decode jdk_38_method_24_code 12 = .ok (.iload_n 3, 1) := by decide +kernel
theorem d12_13 : decode jdk_38_method_24_code 13 = .ok (.aload_n 1, 1) := by decide +kernel
theorem d12_14 : decode jdk_38_method_24_code 14 = .ok (.aastore, 1) := by decide +kernel
theorem d12_15 : decode jdk_38_method_24_code 15 = .ok (.aload_n 0, 1) := by decide +kernel
theorem d12_16 : decode jdk_38_method_24_code 16 = .ok (.iload_n 3, 1) := by decide +kernel
theorem d12_17 : decode jdk_38_method_24_code 17 = .ok (.iconst 1, 1) := by decide +kernel
theorem d12_18 : decode jdk_38_method_24_code 18 = .ok (.iadd, 1) := by decide +kernel
theorem d12_19 : decode jdk_38_method_24_code 19 = .ok (.putfield 48, 3) := by decide +kernel
theorem d12_22 : decode jdk_38_method_24_code 22 = .ok (.return_, 1) := by decide +kernel
theorem pn_12 : plainFor (⟨"java/util/ArrayList", "add", "(Ljava/lang/Object;[Ljava/lang/Object;I)V"⟩ : MethodName) = true := plainFor_of_name (by first | (simp [plainName, overriddenIn]; done) | decide +kernel)
theorem ef_12r (m : MethodId) (x0 : Addr) (x1 : Addr) (x2 : Addr) (x3 : Int32) : entryFrame m #[(.ref x0), (.ref x1), (.ref x2), (.int x3)] 4 = mkF m 0 #[.val (.ref x0), .val (.ref x1), .val (.ref x2), .val (.int x3)] [] := by first | (simp [entryFrame, mkF, argsToLocals, Value.category, maxLocals]; done) | rfl
def Q12r (Z : State) (a : Addr) (r : Addr) (dc : Addr) (mc : Int32) (h0 : Heap) (n0 : Nat) (v : Option Value) (h : Heap) (L : List Loc) : Prop := v = none ∧ Fr n0 L ∧ Keep h0 h [a] ∧ ∃ t, h0.size ≤ t ∧ OwnOA Z h t 10 ∧ Exa Z h a "java/util/ArrayList" ∧ Fld Z h a "java/util/AbstractList" "modCount" "I" (.int mc) ∧ Fld Z h a "java/util/ArrayList" "elementData" "[Ljava/lang/Object;" (.ref t) ∧ Fld Z h a "java/util/ArrayList" "size" "I" (.int (1 : Int32))
set_option maxRecDepth 65536 in
set_option maxHeartbeats 40000000 in
theorem rm12r (l : Launch) (Z : State) (a0 : Array Value) (hw : ∀ d ∈ tables_1, d.before a0 Z = true) (ws : List Jvm.Cond) (a : Addr) (r : Addr) (dc : Addr) (mc : Int32) (h0 : Heap) (n0 : Nat) (Z0 : n0 ≤ h0.size) (E_a : Exa Z h0 a "java/util/ArrayList") (F_modCount_a : Fld Z h0 a "java/util/AbstractList" "modCount" "I" (.int mc)) (F_elementData_a : Fld Z h0 a "java/util/ArrayList" "elementData" "[Ljava/lang/Object;" (.ref dc)) (F_size_a : Fld Z h0 a "java/util/ArrayList" "size" "I" (.int (0 : Int32))) (g_a : n0 ≤ a) (O_dc : OwnOA Z h0 dc 0) (ne_a_dc : a ≠ dc) (S0_DEFAULTCAPACITY_EMPTY_ELEMENTDATA : Sta Z h0 "java/util/ArrayList" "DEFAULTCAPACITY_EMPTY_ELEMENTDATA" "[Ljava/lang/Object;" (.ref dc)) (E_r : Exa Z h0 r "java/lang/Long") :
    MetFree l (⟨"java/util/ArrayList", "add", "(Ljava/lang/Object;[Ljava/lang/Object;I)V"⟩ : MethodName) (head1 (Jvm.Cond.code (⟨"java/util/ArrayList", "add", "(Ljava/lang/Object;[Ljava/lang/Object;I)V"⟩ : MethodName) jdk_38_method_24_code 4 none :: ws) ({ frames := 3, cells := 1, slots := 10, locals := 47 } : Room)) (fun arr' U => arr' = #[(.ref a), (.ref r), (.ref dc), (.int (0 : Int32))] ∧ Z.Warmed39 U.vm ∧ U.heap = h0) (fun _ _ _ _ _ => True) (fun _ U o U' => ∃ v L, o = .returned v ∧ (Q12r Z a r dc mc h0 n0) v U'.heap L ∧ FrameEnd U o U' L ({ frames := 3, cells := 1, slots := 10, locals := 47 } : Room).cells ({ frames := 3, cells := 1, slots := 10, locals := 47 } : Room).slots) := by
  refine MetFree.of_bodySF pn_12 hisR ?_
  intro p e s m args below meth c s₁ Bd hml0 hP hK
  obtain ⟨rfl, hZ, hh⟩ := hP
  have hx := Bd.exec
  have hby := Bd.bytes
  have hlk : meth.locks = false := BodyLoose.notSynchronized Bd
  have hml : c.maxLocals = 4 := hml0
  have hown : s.vm.findClass "java/util/ArrayList" = some m.cls := findClass_of_methodNamed Bd.named
  have hnm := (name_of_methodNamed Bd.named Bd.method).1
  have X0 : Stand p l e ({ frames := 3, cells := 1, slots := 10, locals := 47 } : Room) s m #[(.ref a), (.ref r), (.ref dc), (.int (0 : Int32))] below meth c s₁ [] 0 0 := Stand.of_body Bd
  have e0 : s₁.heap = h0 := by rw [← hh, Bd.state]; rfl
  have N := Fr.nil n0
  have Zs := Z0
  change OwnGo p.tables e below (OwnEnd s (Q12r Z a r dc mc h0 n0) ({ frames := 3, cells := 1, slots := 10, locals := 47 } : Room).cells ({ frames := 3, cells := 1, slots := 10, locals := 47 } : Room).slots) _
  refine OwnGo.fwd (fun tq' kq' => castTop (ef_12r m a r dc (0 : Int32)) kq') ?_
  show OwnGo _ _ _ _ (s₁.setTop (mkF m 0 #[.val (.ref a), .val (.ref r), .val (.ref dc), .val (.int (0 : Int32))] []))
  have K : Keep h0 h0 [a] := Keep.refl _ _
  have E0_a := E_a
  refine OwnGo.fwd (fun tq' kq' => XS.iloadN X0.here hx rfl (hb hby d12_0) rfl kq') ?_
  show OwnGo _ _ _ _ (s₁.setTop (mkF m 1 #[.val (.ref a), .val (.ref r), .val (.ref dc), .val (.int (0 : Int32))] [(.int (0 : Int32))]))
  refine OwnGo.fwd (fun tq' kq' => XS.aloadN X0.here hx rfl (hb hby d12_1) rfl rfl kq') ?_
  show OwnGo _ _ _ _ (s₁.setTop (mkF m 2 #[.val (.ref a), .val (.ref r), .val (.ref dc), .val (.int (0 : Int32))] [(.ref dc), (.int (0 : Int32))]))
  refine OwnGo.fwd (fun tq' kq' => own_lenO X0 hx hZ e0 O_dc (g := (mkF m 2 #[.val (.ref a), .val (.ref r), .val (.ref dc), .val (.int (0 : Int32))] [(.ref dc), (.int (0 : Int32))])) rfl rfl (hb hby d12_2) tq' kq') ?_
  show OwnGo _ _ _ _ (s₁.setTop (mkF m 3 #[.val (.ref a), .val (.ref r), .val (.ref dc), .val (.int (0 : Int32))] [(.int (Int32.ofNat 0)), (.int (0 : Int32))]))
  have hc3_1 : (0 : Int) = (0 : Int) := by decide
  refine OwnGo.fwd (fun tq' kq' => XS.icmpNo X0.here hx rfl (hb hby d12_3) rfl (own_beq (by decide) (by decide) hc3_1).2 kq') ?_
  show OwnGo _ _ _ _ (s₁.setTop (mkF m 6 #[.val (.ref a), .val (.ref r), .val (.ref dc), .val (.int (0 : Int32))] []))
  refine OwnGo.fwd (fun tq' kq' => XS.aloadN X0.here hx rfl (hb hby d12_6) rfl rfl kq') ?_
  show OwnGo _ _ _ _ (s₁.setTop (mkF m 7 #[.val (.ref a), .val (.ref r), .val (.ref dc), .val (.int (0 : Int32))] [(.ref a)]))
  obtain ⟨cq2, q2, q2'⟩ := E_a.cell
  obtain ⟨_, _, ⟨T2, L2, k2, n2⟩, -, X2, ⟨Lc2, hQ2, l2, y2, z2⟩, st2⟩ := X0.privateBack hx (y := (⟨"java/util/ArrayList", "grow", "()[Ljava/lang/Object;"⟩ : MethodName)) hown (mvT hZ (hw _ (List.mem_of_getElem? (i := 97) rfl))) (mvT hZ (hw _ (List.mem_of_getElem? (i := 98) rfl))) (mvT hZ (hw _ (List.mem_of_getElem? (i := 100) rfl))) (Cond.privateMethod_at (mvP hZ (hw _ (List.mem_of_getElem? (i := 99) rfl)) (args := #[]))) (mvT hZ (hw _ (List.mem_of_getElem? (i := 101) rfl))) (by decide) (backOf (W := 0) (rm13 l Z a0 hw [] a dc mc h0 n0 Zs E_a F_modCount_a F_elementData_a F_size_a g_a O_dc ne_a_dc (own_stK S0_DEFAULTCAPACITY_EMPTY_ELEMENTDATA K (allS ⟨_, E0_a⟩ all0))) hZ (hw _ (List.mem_of_getElem? (i := 101) rfl)) (hw _ (List.mem_of_getElem? (i := 2) rfl)) (by decide) (by decide)) (g := (mkF m 7 #[.val (.ref a), .val (.ref r), .val (.ref dc), .val (.int (0 : Int32))] [(.ref a)])) rfl (by rw [hml]; rfl) (Steps.refl _) (a := a) (by rw [e0]; exact q2) q2' (argsL := []) (rest := []) (lenOf pd_8 rfl) rfl (by show 2 * 0 + _ ≤ _; exact Nat.le_of_eq rfl) (hb hby d12_7) (fun _ _ => ⟨rfl, e0, (by decide : 0 + 1 ≤ _), (by decide : 0 + 10 ≤ _)⟩)
  dsimp only [Pt.U, Pt.locs, Pt.cells, Pt.slots] at X2 l2 y2 z2 st2 hQ2
  subst l2 y2 z2
  have lt2_a := E_a.lt
  have lt2_dc := O_dc.lt
  have lt2_r := E_r.lt
  obtain ⟨h2, eh2⟩ : ∃ z, z = T2.heap := ⟨_, rfl⟩
  rw [← eh2] at hQ2
  obtain ⟨N2q, K2, t2, rfl, sq2, O_t2, E_a, F_modCount_a, F_elementData_a, F_size_a⟩ := hQ2
  have ne_a_t2 : a ≠ t2 := Nat.ne_of_lt (Nat.lt_of_lt_of_le lt2_a sq2)
  have ne_dc_t2 : dc ≠ t2 := Nat.ne_of_lt (Nat.lt_of_lt_of_le lt2_dc sq2)
  have ne_r_t2 : r ≠ t2 := Nat.ne_of_lt (Nat.lt_of_lt_of_le lt2_r sq2)
  have g_t2 : n0 ≤ t2 := Nat.le_trans Zs sq2
  have sz_t2 : h0.size ≤ t2 := Nat.le_trans K.1 sq2
  have N := Fr.app N N2q
  have Zs := Nat.le_trans Zs K2.1
  have O_dc := O_dc.keep K2 (ninS (Ne.symm ne_a_dc) nin0)
  have E_r := E_r.keep K2
  have K := K.trans K2 (allS (Or.inl (List.mem_of_getElem? (i := 0) rfl)) all0)
  refine OwnGo.thru st2 ?_
  show OwnGo _ _ _ _ (T2.setTop (mkF m 10 #[.val (.ref a), .val (.ref r), .val (.ref dc), .val (.int (0 : Int32))] [(.ref t2)]))
  refine OwnGo.fwd (fun tq' kq' => XS.astoreN X2.here hx rfl (hb hby d12_10) rfl rfl (l' := #[.val (.ref a), .val (.ref r), .val (.ref t2), .val (.int (0 : Int32))]) rfl kq') ?_
  show OwnGo _ _ _ _ (T2.setTop (mkF m 11 #[.val (.ref a), .val (.ref r), .val (.ref t2), .val (.int (0 : Int32))] []))
  refine OwnGo.fwd (fun tq' kq' => XS.aloadN X2.here hx rfl (hb hby d12_11) rfl rfl kq') ?_
  show OwnGo _ _ _ _ (T2.setTop (mkF m 12 #[.val (.ref a), .val (.ref r), .val (.ref t2), .val (.int (0 : Int32))] [(.ref t2)]))
  refine OwnGo.fwd (fun tq' kq' => XS.iloadN X2.here hx rfl (hb hby d12_12) rfl kq') ?_
  show OwnGo _ _ _ _ (T2.setTop (mkF m 13 #[.val (.ref a), .val (.ref r), .val (.ref t2), .val (.int (0 : Int32))] [(.int (0 : Int32)), (.ref t2)]))
  refine OwnGo.fwd (fun tq' kq' => XS.aloadN X2.here hx rfl (hb hby d12_13) rfl rfl kq') ?_
  show OwnGo _ _ _ _ (T2.setTop (mkF m 14 #[.val (.ref a), .val (.ref r), .val (.ref t2), .val (.int (0 : Int32))] [(.ref r), (.int (0 : Int32)), (.ref t2)]))
  obtain ⟨T3, h3, X3, e3, W3, O3, st3⟩ := own_stO X2 hx hZ (hw _ (List.mem_of_getElem? (i := 113) rfl)) eh2.symm O_t2 (i := 0) (by decide) (by decide) (Or.inr ⟨_, rfl, E_r⟩) (g := (mkF m 14 #[.val (.ref a), .val (.ref r), .val (.ref t2), .val (.int (0 : Int32))] [(.ref r), (.int (0 : Int32)), (.ref t2)])) rfl rfl (hb hby d12_14)
  have E_a := E_a.wr W3
  have F_modCount_a := F_modCount_a.other W3 (Or.inl ne_a_t2)
  have F_elementData_a := F_elementData_a.other W3 (Or.inl ne_a_t2)
  have F_size_a := F_size_a.other W3 (Or.inl ne_a_t2)
  have O_dc := O_dc.other W3 ne_dc_t2
  have E_r := E_r.wr W3
  have K := K.wr W3 (Or.inr sz_t2)
  have Zs := Nat.le_trans Zs (Keep.of_wr W3).1
  have N := Fr.snoc X3 N g_t2
  have O_t2 := O3
  refine OwnGo.fwd st3 ?_
  show OwnGo _ _ _ _ (T3.setTop (mkF m 15 #[.val (.ref a), .val (.ref r), .val (.ref t2), .val (.int (0 : Int32))] []))
  refine OwnGo.fwd (fun tq' kq' => XS.aloadN X3.here hx rfl (hb hby d12_15) rfl rfl kq') ?_
  show OwnGo _ _ _ _ (T3.setTop (mkF m 16 #[.val (.ref a), .val (.ref r), .val (.ref t2), .val (.int (0 : Int32))] [(.ref a)]))
  refine OwnGo.fwd (fun tq' kq' => XS.iloadN X3.here hx rfl (hb hby d12_16) rfl kq') ?_
  show OwnGo _ _ _ _ (T3.setTop (mkF m 17 #[.val (.ref a), .val (.ref r), .val (.ref t2), .val (.int (0 : Int32))] [(.int (0 : Int32)), (.ref a)]))
  refine OwnGo.fwd (fun tq' kq' => XS.iconst X3.here hx rfl (hb hby d12_17) kq') ?_
  show OwnGo _ _ _ _ (T3.setTop (mkF m 18 #[.val (.ref a), .val (.ref r), .val (.ref t2), .val (.int (0 : Int32))] [(.int (1 : Int32)), (.int (0 : Int32)), (.ref a)]))
  refine OwnGo.fwd (fun tq' kq' => XS.iadd X3.here hx rfl (hb hby d12_18) rfl kq') ?_
  show OwnGo _ _ _ _ (T3.setTop (mkF m 19 #[.val (.ref a), .val (.ref r), .val (.ref t2), .val (.int (0 : Int32))] [(.int (1 : Int32)), (.ref a)]))
  obtain ⟨T4, h4, X4, e4, W4, st4⟩ := putF X3 hx hZ hown (host := "") (Or.inl (hw _ (List.mem_of_getElem? (i := 90) rfl))) Via.refl e3 F_size_a E_a (Or.inl (hw _ (List.mem_of_getElem? (i := 91) rfl))) (hw _ (List.mem_of_getElem? (i := 1) rfl)) (ty := .int) (by decide) rfl rfl (g := (mkF m 19 #[.val (.ref a), .val (.ref r), .val (.ref t2), .val (.int (0 : Int32))] [(.int (1 : Int32)), (.ref a)])) rfl rfl (hb hby d12_19)
  have E_a := E_a.wr W4
  have F_modCount_a := F_modCount_a.other W4 (Or.inr (slot_ne (Or.inl (hw _ (List.mem_of_getElem? (i := 22) rfl))) (Or.inl (hw _ (List.mem_of_getElem? (i := 91) rfl))) (by decide) (t := .int) (t' := .int) (by decide) (by decide)))
  have F_elementData_a := F_elementData_a.other W4 (Or.inr (slot_ne (Or.inl (hw _ (List.mem_of_getElem? (i := 25) rfl))) (Or.inl (hw _ (List.mem_of_getElem? (i := 91) rfl))) (by decide) (t := (.array (.object "java/lang/Object"))) (t' := .int) (by decide) (by decide)))
  have F_size_a := F_size_a.same W4
  have O_dc := O_dc.other W4 (Ne.symm ne_a_dc)
  have E_r := E_r.wr W4
  have O_t2 := O_t2.other W4 (Ne.symm ne_a_t2)
  have K := K.wr W4 (Or.inl (List.mem_of_getElem? (i := 0) rfl))
  have Zs := Nat.le_trans Zs (Keep.of_wr W4).1
  have N := Fr.snoc X4 N g_a
  refine OwnGo.fwd st4 ?_
  show OwnGo _ _ _ _ (T4.setTop (mkF m 22 #[.val (.ref a), .val (.ref r), .val (.ref t2), .val (.int (0 : Int32))] []))
  exact own_retV X4 hlk hx Bd.returns (hb hby d12_22) (by decide) (by decide) e4 ⟨rfl, N, K, _, sz_t2, O_t2, E_a, F_modCount_a, F_elementData_a, F_size_a⟩
theorem ef_12n (m : MethodId) (x0 : Addr) (x2 : Addr) (x3 : Int32) : entryFrame m #[(.ref x0), .null, (.ref x2), (.int x3)] 4 = mkF m 0 #[.val (.ref x0), .val .null, .val (.ref x2), .val (.int x3)] [] := by first | (simp [entryFrame, mkF, argsToLocals, Value.category, maxLocals]; done) | rfl
def Q12n (Z : State) (a : Addr) (dc : Addr) (mc : Int32) (h0 : Heap) (n0 : Nat) (v : Option Value) (h : Heap) (L : List Loc) : Prop := v = none ∧ Fr n0 L ∧ Keep h0 h [a] ∧ ∃ t, h0.size ≤ t ∧ OwnOA Z h t 10 ∧ Exa Z h a "java/util/ArrayList" ∧ Fld Z h a "java/util/AbstractList" "modCount" "I" (.int mc) ∧ Fld Z h a "java/util/ArrayList" "elementData" "[Ljava/lang/Object;" (.ref t) ∧ Fld Z h a "java/util/ArrayList" "size" "I" (.int (1 : Int32))
set_option maxRecDepth 65536 in
set_option maxHeartbeats 40000000 in
theorem rm12n (l : Launch) (Z : State) (a0 : Array Value) (hw : ∀ d ∈ tables_1, d.before a0 Z = true) (ws : List Jvm.Cond) (a : Addr) (dc : Addr) (mc : Int32) (h0 : Heap) (n0 : Nat) (Z0 : n0 ≤ h0.size) (E_a : Exa Z h0 a "java/util/ArrayList") (F_modCount_a : Fld Z h0 a "java/util/AbstractList" "modCount" "I" (.int mc)) (F_elementData_a : Fld Z h0 a "java/util/ArrayList" "elementData" "[Ljava/lang/Object;" (.ref dc)) (F_size_a : Fld Z h0 a "java/util/ArrayList" "size" "I" (.int (0 : Int32))) (g_a : n0 ≤ a) (O_dc : OwnOA Z h0 dc 0) (ne_a_dc : a ≠ dc) (S0_DEFAULTCAPACITY_EMPTY_ELEMENTDATA : Sta Z h0 "java/util/ArrayList" "DEFAULTCAPACITY_EMPTY_ELEMENTDATA" "[Ljava/lang/Object;" (.ref dc)) :
    MetFree l (⟨"java/util/ArrayList", "add", "(Ljava/lang/Object;[Ljava/lang/Object;I)V"⟩ : MethodName) (head1 (Jvm.Cond.code (⟨"java/util/ArrayList", "add", "(Ljava/lang/Object;[Ljava/lang/Object;I)V"⟩ : MethodName) jdk_38_method_24_code 4 none :: ws) ({ frames := 3, cells := 1, slots := 10, locals := 47 } : Room)) (fun arr' U => arr' = #[(.ref a), .null, (.ref dc), (.int (0 : Int32))] ∧ Z.Warmed39 U.vm ∧ U.heap = h0) (fun _ _ _ _ _ => True) (fun _ U o U' => ∃ v L, o = .returned v ∧ (Q12n Z a dc mc h0 n0) v U'.heap L ∧ FrameEnd U o U' L ({ frames := 3, cells := 1, slots := 10, locals := 47 } : Room).cells ({ frames := 3, cells := 1, slots := 10, locals := 47 } : Room).slots) := by
  refine MetFree.of_bodySF pn_12 hisR ?_
  intro p e s m args below meth c s₁ Bd hml0 hP hK
  obtain ⟨rfl, hZ, hh⟩ := hP
  have hx := Bd.exec
  have hby := Bd.bytes
  have hlk : meth.locks = false := BodyLoose.notSynchronized Bd
  have hml : c.maxLocals = 4 := hml0
  have hown : s.vm.findClass "java/util/ArrayList" = some m.cls := findClass_of_methodNamed Bd.named
  have hnm := (name_of_methodNamed Bd.named Bd.method).1
  have X0 : Stand p l e ({ frames := 3, cells := 1, slots := 10, locals := 47 } : Room) s m #[(.ref a), .null, (.ref dc), (.int (0 : Int32))] below meth c s₁ [] 0 0 := Stand.of_body Bd
  have e0 : s₁.heap = h0 := by rw [← hh, Bd.state]; rfl
  have N := Fr.nil n0
  have Zs := Z0
  change OwnGo p.tables e below (OwnEnd s (Q12n Z a dc mc h0 n0) ({ frames := 3, cells := 1, slots := 10, locals := 47 } : Room).cells ({ frames := 3, cells := 1, slots := 10, locals := 47 } : Room).slots) _
  refine OwnGo.fwd (fun tq' kq' => castTop (ef_12n m a dc (0 : Int32)) kq') ?_
  show OwnGo _ _ _ _ (s₁.setTop (mkF m 0 #[.val (.ref a), .val .null, .val (.ref dc), .val (.int (0 : Int32))] []))
  have K : Keep h0 h0 [a] := Keep.refl _ _
  have E0_a := E_a
  refine OwnGo.fwd (fun tq' kq' => XS.iloadN X0.here hx rfl (hb hby d12_0) rfl kq') ?_
  show OwnGo _ _ _ _ (s₁.setTop (mkF m 1 #[.val (.ref a), .val .null, .val (.ref dc), .val (.int (0 : Int32))] [(.int (0 : Int32))]))
  refine OwnGo.fwd (fun tq' kq' => XS.aloadN X0.here hx rfl (hb hby d12_1) rfl rfl kq') ?_
  show OwnGo _ _ _ _ (s₁.setTop (mkF m 2 #[.val (.ref a), .val .null, .val (.ref dc), .val (.int (0 : Int32))] [(.ref dc), (.int (0 : Int32))]))
  refine OwnGo.fwd (fun tq' kq' => own_lenO X0 hx hZ e0 O_dc (g := (mkF m 2 #[.val (.ref a), .val .null, .val (.ref dc), .val (.int (0 : Int32))] [(.ref dc), (.int (0 : Int32))])) rfl rfl (hb hby d12_2) tq' kq') ?_
  show OwnGo _ _ _ _ (s₁.setTop (mkF m 3 #[.val (.ref a), .val .null, .val (.ref dc), .val (.int (0 : Int32))] [(.int (Int32.ofNat 0)), (.int (0 : Int32))]))
  have hc3_1 : (0 : Int) = (0 : Int) := by decide
  refine OwnGo.fwd (fun tq' kq' => XS.icmpNo X0.here hx rfl (hb hby d12_3) rfl (own_beq (by decide) (by decide) hc3_1).2 kq') ?_
  show OwnGo _ _ _ _ (s₁.setTop (mkF m 6 #[.val (.ref a), .val .null, .val (.ref dc), .val (.int (0 : Int32))] []))
  refine OwnGo.fwd (fun tq' kq' => XS.aloadN X0.here hx rfl (hb hby d12_6) rfl rfl kq') ?_
  show OwnGo _ _ _ _ (s₁.setTop (mkF m 7 #[.val (.ref a), .val .null, .val (.ref dc), .val (.int (0 : Int32))] [(.ref a)]))
  obtain ⟨cq2, q2, q2'⟩ := E_a.cell
  obtain ⟨_, _, ⟨T2, L2, k2, n2⟩, -, X2, ⟨Lc2, hQ2, l2, y2, z2⟩, st2⟩ := X0.privateBack hx (y := (⟨"java/util/ArrayList", "grow", "()[Ljava/lang/Object;"⟩ : MethodName)) hown (mvT hZ (hw _ (List.mem_of_getElem? (i := 97) rfl))) (mvT hZ (hw _ (List.mem_of_getElem? (i := 98) rfl))) (mvT hZ (hw _ (List.mem_of_getElem? (i := 100) rfl))) (Cond.privateMethod_at (mvP hZ (hw _ (List.mem_of_getElem? (i := 99) rfl)) (args := #[]))) (mvT hZ (hw _ (List.mem_of_getElem? (i := 101) rfl))) (by decide) (backOf (W := 0) (rm13 l Z a0 hw [] a dc mc h0 n0 Zs E_a F_modCount_a F_elementData_a F_size_a g_a O_dc ne_a_dc (own_stK S0_DEFAULTCAPACITY_EMPTY_ELEMENTDATA K (allS ⟨_, E0_a⟩ all0))) hZ (hw _ (List.mem_of_getElem? (i := 101) rfl)) (hw _ (List.mem_of_getElem? (i := 2) rfl)) (by decide) (by decide)) (g := (mkF m 7 #[.val (.ref a), .val .null, .val (.ref dc), .val (.int (0 : Int32))] [(.ref a)])) rfl (by rw [hml]; rfl) (Steps.refl _) (a := a) (by rw [e0]; exact q2) q2' (argsL := []) (rest := []) (lenOf pd_8 rfl) rfl (by show 2 * 0 + _ ≤ _; exact Nat.le_of_eq rfl) (hb hby d12_7) (fun _ _ => ⟨rfl, e0, (by decide : 0 + 1 ≤ _), (by decide : 0 + 10 ≤ _)⟩)
  dsimp only [Pt.U, Pt.locs, Pt.cells, Pt.slots] at X2 l2 y2 z2 st2 hQ2
  subst l2 y2 z2
  have lt2_a := E_a.lt
  have lt2_dc := O_dc.lt
  obtain ⟨h2, eh2⟩ : ∃ z, z = T2.heap := ⟨_, rfl⟩
  rw [← eh2] at hQ2
  obtain ⟨N2q, K2, t2, rfl, sq2, O_t2, E_a, F_modCount_a, F_elementData_a, F_size_a⟩ := hQ2
  have ne_a_t2 : a ≠ t2 := Nat.ne_of_lt (Nat.lt_of_lt_of_le lt2_a sq2)
  have ne_dc_t2 : dc ≠ t2 := Nat.ne_of_lt (Nat.lt_of_lt_of_le lt2_dc sq2)
  have g_t2 : n0 ≤ t2 := Nat.le_trans Zs sq2
  have sz_t2 : h0.size ≤ t2 := Nat.le_trans K.1 sq2
  have N := Fr.app N N2q
  have Zs := Nat.le_trans Zs K2.1
  have O_dc := O_dc.keep K2 (ninS (Ne.symm ne_a_dc) nin0)
  have K := K.trans K2 (allS (Or.inl (List.mem_of_getElem? (i := 0) rfl)) all0)
  refine OwnGo.thru st2 ?_
  show OwnGo _ _ _ _ (T2.setTop (mkF m 10 #[.val (.ref a), .val .null, .val (.ref dc), .val (.int (0 : Int32))] [(.ref t2)]))
  refine OwnGo.fwd (fun tq' kq' => XS.astoreN X2.here hx rfl (hb hby d12_10) rfl rfl (l' := #[.val (.ref a), .val .null, .val (.ref t2), .val (.int (0 : Int32))]) rfl kq') ?_
  show OwnGo _ _ _ _ (T2.setTop (mkF m 11 #[.val (.ref a), .val .null, .val (.ref t2), .val (.int (0 : Int32))] []))
  refine OwnGo.fwd (fun tq' kq' => XS.aloadN X2.here hx rfl (hb hby d12_11) rfl rfl kq') ?_
  show OwnGo _ _ _ _ (T2.setTop (mkF m 12 #[.val (.ref a), .val .null, .val (.ref t2), .val (.int (0 : Int32))] [(.ref t2)]))
  refine OwnGo.fwd (fun tq' kq' => XS.iloadN X2.here hx rfl (hb hby d12_12) rfl kq') ?_
  show OwnGo _ _ _ _ (T2.setTop (mkF m 13 #[.val (.ref a), .val .null, .val (.ref t2), .val (.int (0 : Int32))] [(.int (0 : Int32)), (.ref t2)]))
  refine OwnGo.fwd (fun tq' kq' => XS.aloadN X2.here hx rfl (hb hby d12_13) rfl rfl kq') ?_
  show OwnGo _ _ _ _ (T2.setTop (mkF m 14 #[.val (.ref a), .val .null, .val (.ref t2), .val (.int (0 : Int32))] [.null, (.int (0 : Int32)), (.ref t2)]))
  obtain ⟨T3, h3, X3, e3, W3, O3, st3⟩ := own_stO X2 hx hZ (hw _ (List.mem_of_getElem? (i := 113) rfl)) eh2.symm O_t2 (i := 0) (by decide) (by decide) (Or.inl rfl) (g := (mkF m 14 #[.val (.ref a), .val .null, .val (.ref t2), .val (.int (0 : Int32))] [.null, (.int (0 : Int32)), (.ref t2)])) rfl rfl (hb hby d12_14)
  have E_a := E_a.wr W3
  have F_modCount_a := F_modCount_a.other W3 (Or.inl ne_a_t2)
  have F_elementData_a := F_elementData_a.other W3 (Or.inl ne_a_t2)
  have F_size_a := F_size_a.other W3 (Or.inl ne_a_t2)
  have O_dc := O_dc.other W3 ne_dc_t2
  have K := K.wr W3 (Or.inr sz_t2)
  have Zs := Nat.le_trans Zs (Keep.of_wr W3).1
  have N := Fr.snoc X3 N g_t2
  have O_t2 := O3
  refine OwnGo.fwd st3 ?_
  show OwnGo _ _ _ _ (T3.setTop (mkF m 15 #[.val (.ref a), .val .null, .val (.ref t2), .val (.int (0 : Int32))] []))
  refine OwnGo.fwd (fun tq' kq' => XS.aloadN X3.here hx rfl (hb hby d12_15) rfl rfl kq') ?_
  show OwnGo _ _ _ _ (T3.setTop (mkF m 16 #[.val (.ref a), .val .null, .val (.ref t2), .val (.int (0 : Int32))] [(.ref a)]))
  refine OwnGo.fwd (fun tq' kq' => XS.iloadN X3.here hx rfl (hb hby d12_16) rfl kq') ?_
  show OwnGo _ _ _ _ (T3.setTop (mkF m 17 #[.val (.ref a), .val .null, .val (.ref t2), .val (.int (0 : Int32))] [(.int (0 : Int32)), (.ref a)]))
  refine OwnGo.fwd (fun tq' kq' => XS.iconst X3.here hx rfl (hb hby d12_17) kq') ?_
  show OwnGo _ _ _ _ (T3.setTop (mkF m 18 #[.val (.ref a), .val .null, .val (.ref t2), .val (.int (0 : Int32))] [(.int (1 : Int32)), (.int (0 : Int32)), (.ref a)]))
  refine OwnGo.fwd (fun tq' kq' => XS.iadd X3.here hx rfl (hb hby d12_18) rfl kq') ?_
  show OwnGo _ _ _ _ (T3.setTop (mkF m 19 #[.val (.ref a), .val .null, .val (.ref t2), .val (.int (0 : Int32))] [(.int (1 : Int32)), (.ref a)]))
  obtain ⟨T4, h4, X4, e4, W4, st4⟩ := putF X3 hx hZ hown (host := "") (Or.inl (hw _ (List.mem_of_getElem? (i := 90) rfl))) Via.refl e3 F_size_a E_a (Or.inl (hw _ (List.mem_of_getElem? (i := 91) rfl))) (hw _ (List.mem_of_getElem? (i := 1) rfl)) (ty := .int) (by decide) rfl rfl (g := (mkF m 19 #[.val (.ref a), .val .null, .val (.ref t2), .val (.int (0 : Int32))] [(.int (1 : Int32)), (.ref a)])) rfl rfl (hb hby d12_19)
  have E_a := E_a.wr W4
  have F_modCount_a := F_modCount_a.other W4 (Or.inr (slot_ne (Or.inl (hw _ (List.mem_of_getElem? (i := 22) rfl))) (Or.inl (hw _ (List.mem_of_getElem? (i := 91) rfl))) (by decide) (t := .int) (t' := .int) (by decide) (by decide)))
  have F_elementData_a := F_elementData_a.other W4 (Or.inr (slot_ne (Or.inl (hw _ (List.mem_of_getElem? (i := 25) rfl))) (Or.inl (hw _ (List.mem_of_getElem? (i := 91) rfl))) (by decide) (t := (.array (.object "java/lang/Object"))) (t' := .int) (by decide) (by decide)))
  have F_size_a := F_size_a.same W4
  have O_dc := O_dc.other W4 (Ne.symm ne_a_dc)
  have O_t2 := O_t2.other W4 (Ne.symm ne_a_t2)
  have K := K.wr W4 (Or.inl (List.mem_of_getElem? (i := 0) rfl))
  have Zs := Nat.le_trans Zs (Keep.of_wr W4).1
  have N := Fr.snoc X4 N g_a
  refine OwnGo.fwd st4 ?_
  show OwnGo _ _ _ _ (T4.setTop (mkF m 22 #[.val (.ref a), .val .null, .val (.ref t2), .val (.int (0 : Int32))] []))
  exact own_retV X4 hlk hx Bd.returns (hb hby d12_22) (by decide) (by decide) e4 ⟨rfl, N, K, _, sz_t2, O_t2, E_a, F_modCount_a, F_elementData_a, F_size_a⟩
theorem ef_12b (m : MethodId) (x0 : Addr) (x2 : Addr) (x3 : Int32) : entryFrame m #[(.ref x0), .null, (.ref x2), (.int x3)] 4 = mkF m 0 #[.val (.ref x0), .val .null, .val (.ref x2), .val (.int x3)] [] := by first | (simp [entryFrame, mkF, argsToLocals, Value.category, maxLocals]; done) | rfl
def Q12b (Z : State) (a : Addr) (d : Addr) (mc : Int32) (h0 : Heap) (n0 : Nat) (v : Option Value) (h : Heap) (L : List Loc) : Prop := v = none ∧ Fr n0 L ∧ Keep h0 h [a, d] ∧ OwnOA Z h d 10 ∧ Exa Z h a "java/util/ArrayList" ∧ Fld Z h a "java/util/AbstractList" "modCount" "I" (.int mc) ∧ Fld Z h a "java/util/ArrayList" "elementData" "[Ljava/lang/Object;" (.ref d) ∧ Fld Z h a "java/util/ArrayList" "size" "I" (.int (2 : Int32))
set_option maxRecDepth 65536 in
set_option maxHeartbeats 40000000 in
theorem rm12b (l : Launch) (Z : State) (a0 : Array Value) (hw : ∀ d ∈ tables_1, d.before a0 Z = true) (ws : List Jvm.Cond) (a : Addr) (d : Addr) (mc : Int32) (h0 : Heap) (n0 : Nat) (Z0 : n0 ≤ h0.size) (E_a : Exa Z h0 a "java/util/ArrayList") (F_modCount_a : Fld Z h0 a "java/util/AbstractList" "modCount" "I" (.int mc)) (F_elementData_a : Fld Z h0 a "java/util/ArrayList" "elementData" "[Ljava/lang/Object;" (.ref d)) (F_size_a : Fld Z h0 a "java/util/ArrayList" "size" "I" (.int (1 : Int32))) (g_a : n0 ≤ a) (O_d : OwnOA Z h0 d 10) (g_d : n0 ≤ d) (ne_a_d : a ≠ d) :
    MetFree l (⟨"java/util/ArrayList", "add", "(Ljava/lang/Object;[Ljava/lang/Object;I)V"⟩ : MethodName) (head1 (Jvm.Cond.code (⟨"java/util/ArrayList", "add", "(Ljava/lang/Object;[Ljava/lang/Object;I)V"⟩ : MethodName) jdk_38_method_24_code 4 none :: ws) ({ frames := 3, cells := 0, slots := 0, locals := 47 } : Room)) (fun arr' U => arr' = #[(.ref a), .null, (.ref d), (.int (1 : Int32))] ∧ Z.Warmed39 U.vm ∧ U.heap = h0) (fun _ _ _ _ _ => True) (fun _ U o U' => ∃ v L, o = .returned v ∧ (Q12b Z a d mc h0 n0) v U'.heap L ∧ FrameEnd U o U' L ({ frames := 3, cells := 0, slots := 0, locals := 47 } : Room).cells ({ frames := 3, cells := 0, slots := 0, locals := 47 } : Room).slots) := by
  refine MetFree.of_bodySF pn_12 hisR ?_
  intro p e s m args below meth c s₁ Bd hml0 hP hK
  obtain ⟨rfl, hZ, hh⟩ := hP
  have hx := Bd.exec
  have hby := Bd.bytes
  have hlk : meth.locks = false := BodyLoose.notSynchronized Bd
  have hml : c.maxLocals = 4 := hml0
  have hown : s.vm.findClass "java/util/ArrayList" = some m.cls := findClass_of_methodNamed Bd.named
  have hnm := (name_of_methodNamed Bd.named Bd.method).1
  have X0 : Stand p l e ({ frames := 3, cells := 0, slots := 0, locals := 47 } : Room) s m #[(.ref a), .null, (.ref d), (.int (1 : Int32))] below meth c s₁ [] 0 0 := Stand.of_body Bd
  have e0 : s₁.heap = h0 := by rw [← hh, Bd.state]; rfl
  have N := Fr.nil n0
  have Zs := Z0
  change OwnGo p.tables e below (OwnEnd s (Q12b Z a d mc h0 n0) ({ frames := 3, cells := 0, slots := 0, locals := 47 } : Room).cells ({ frames := 3, cells := 0, slots := 0, locals := 47 } : Room).slots) _
  refine OwnGo.fwd (fun tq' kq' => castTop (ef_12b m a d (1 : Int32)) kq') ?_
  show OwnGo _ _ _ _ (s₁.setTop (mkF m 0 #[.val (.ref a), .val .null, .val (.ref d), .val (.int (1 : Int32))] []))
  have K : Keep h0 h0 [a, d] := Keep.refl _ _
  refine OwnGo.fwd (fun tq' kq' => XS.iloadN X0.here hx rfl (hb hby d12_0) rfl kq') ?_
  show OwnGo _ _ _ _ (s₁.setTop (mkF m 1 #[.val (.ref a), .val .null, .val (.ref d), .val (.int (1 : Int32))] [(.int (1 : Int32))]))
  refine OwnGo.fwd (fun tq' kq' => XS.aloadN X0.here hx rfl (hb hby d12_1) rfl rfl kq') ?_
  show OwnGo _ _ _ _ (s₁.setTop (mkF m 2 #[.val (.ref a), .val .null, .val (.ref d), .val (.int (1 : Int32))] [(.ref d), (.int (1 : Int32))]))
  refine OwnGo.fwd (fun tq' kq' => own_lenO X0 hx hZ e0 O_d (g := (mkF m 2 #[.val (.ref a), .val .null, .val (.ref d), .val (.int (1 : Int32))] [(.ref d), (.int (1 : Int32))])) rfl rfl (hb hby d12_2) tq' kq') ?_
  show OwnGo _ _ _ _ (s₁.setTop (mkF m 3 #[.val (.ref a), .val .null, .val (.ref d), .val (.int (1 : Int32))] [(.int (Int32.ofNat 10)), (.int (1 : Int32))]))
  have hc3_1 : ¬ ((1 : Int) = (10 : Int)) := by decide
  refine OwnGo.fwd (fun tq' kq' => XS.icmpYes X0.here hx rfl (pc0 := 3) (pc' := 11) rfl (hb hby d12_3) rfl (own_bneq (by decide) (by decide) hc3_1).2 (by decide) (by decide) kq') ?_
  show OwnGo _ _ _ _ (s₁.setTop (mkF m 11 #[.val (.ref a), .val .null, .val (.ref d), .val (.int (1 : Int32))] []))
  refine OwnGo.fwd (fun tq' kq' => XS.aloadN X0.here hx rfl (hb hby d12_11) rfl rfl kq') ?_
  show OwnGo _ _ _ _ (s₁.setTop (mkF m 12 #[.val (.ref a), .val .null, .val (.ref d), .val (.int (1 : Int32))] [(.ref d)]))
  refine OwnGo.fwd (fun tq' kq' => XS.iloadN X0.here hx rfl (hb hby d12_12) rfl kq') ?_
  show OwnGo _ _ _ _ (s₁.setTop (mkF m 13 #[.val (.ref a), .val .null, .val (.ref d), .val (.int (1 : Int32))] [(.int (1 : Int32)), (.ref d)]))
  refine OwnGo.fwd (fun tq' kq' => XS.aloadN X0.here hx rfl (hb hby d12_13) rfl rfl kq') ?_
  show OwnGo _ _ _ _ (s₁.setTop (mkF m 14 #[.val (.ref a), .val .null, .val (.ref d), .val (.int (1 : Int32))] [.null, (.int (1 : Int32)), (.ref d)]))
  obtain ⟨T2, h2, X2, e2, W2, O2, st2⟩ := own_stO X0 hx hZ (hw _ (List.mem_of_getElem? (i := 113) rfl)) e0 O_d (i := 1) (by decide) (by decide) (Or.inl rfl) (g := (mkF m 14 #[.val (.ref a), .val .null, .val (.ref d), .val (.int (1 : Int32))] [.null, (.int (1 : Int32)), (.ref d)])) rfl rfl (hb hby d12_14)
  have E_a := E_a.wr W2
  have F_modCount_a := F_modCount_a.other W2 (Or.inl ne_a_d)
  have F_elementData_a := F_elementData_a.other W2 (Or.inl ne_a_d)
  have F_size_a := F_size_a.other W2 (Or.inl ne_a_d)
  have K := K.wr W2 (Or.inl (List.mem_of_getElem? (i := 1) rfl))
  have Zs := Nat.le_trans Zs (Keep.of_wr W2).1
  have N := Fr.snoc X2 N g_d
  have O_d := O2
  refine OwnGo.fwd st2 ?_
  show OwnGo _ _ _ _ (T2.setTop (mkF m 15 #[.val (.ref a), .val .null, .val (.ref d), .val (.int (1 : Int32))] []))
  refine OwnGo.fwd (fun tq' kq' => XS.aloadN X2.here hx rfl (hb hby d12_15) rfl rfl kq') ?_
  show OwnGo _ _ _ _ (T2.setTop (mkF m 16 #[.val (.ref a), .val .null, .val (.ref d), .val (.int (1 : Int32))] [(.ref a)]))
  refine OwnGo.fwd (fun tq' kq' => XS.iloadN X2.here hx rfl (hb hby d12_16) rfl kq') ?_
  show OwnGo _ _ _ _ (T2.setTop (mkF m 17 #[.val (.ref a), .val .null, .val (.ref d), .val (.int (1 : Int32))] [(.int (1 : Int32)), (.ref a)]))
  refine OwnGo.fwd (fun tq' kq' => XS.iconst X2.here hx rfl (hb hby d12_17) kq') ?_
  show OwnGo _ _ _ _ (T2.setTop (mkF m 18 #[.val (.ref a), .val .null, .val (.ref d), .val (.int (1 : Int32))] [(.int (1 : Int32)), (.int (1 : Int32)), (.ref a)]))
  refine OwnGo.fwd (fun tq' kq' => XS.iadd X2.here hx rfl (hb hby d12_18) rfl kq') ?_
  show OwnGo _ _ _ _ (T2.setTop (mkF m 19 #[.val (.ref a), .val .null, .val (.ref d), .val (.int (1 : Int32))] [(.int (2 : Int32)), (.ref a)]))
  obtain ⟨T3, h3, X3, e3, W3, st3⟩ := putF X2 hx hZ hown (host := "") (Or.inl (hw _ (List.mem_of_getElem? (i := 90) rfl))) Via.refl e2 F_size_a E_a (Or.inl (hw _ (List.mem_of_getElem? (i := 91) rfl))) (hw _ (List.mem_of_getElem? (i := 1) rfl)) (ty := .int) (by decide) rfl rfl (g := (mkF m 19 #[.val (.ref a), .val .null, .val (.ref d), .val (.int (1 : Int32))] [(.int (2 : Int32)), (.ref a)])) rfl rfl (hb hby d12_19)
  have E_a := E_a.wr W3
  have F_modCount_a := F_modCount_a.other W3 (Or.inr (slot_ne (Or.inl (hw _ (List.mem_of_getElem? (i := 22) rfl))) (Or.inl (hw _ (List.mem_of_getElem? (i := 91) rfl))) (by decide) (t := .int) (t' := .int) (by decide) (by decide)))
  have F_elementData_a := F_elementData_a.other W3 (Or.inr (slot_ne (Or.inl (hw _ (List.mem_of_getElem? (i := 25) rfl))) (Or.inl (hw _ (List.mem_of_getElem? (i := 91) rfl))) (by decide) (t := (.array (.object "java/lang/Object"))) (t' := .int) (by decide) (by decide)))
  have F_size_a := F_size_a.same W3
  have O_d := O_d.other W3 (Ne.symm ne_a_d)
  have K := K.wr W3 (Or.inl (List.mem_of_getElem? (i := 0) rfl))
  have Zs := Nat.le_trans Zs (Keep.of_wr W3).1
  have N := Fr.snoc X3 N g_a
  refine OwnGo.fwd st3 ?_
  show OwnGo _ _ _ _ (T3.setTop (mkF m 22 #[.val (.ref a), .val .null, .val (.ref d), .val (.int (1 : Int32))] []))
  exact own_retV X3 hlk hx Bd.returns (hb hby d12_22) (by decide) (by decide) e3 ⟨rfl, N, K, O_d, E_a, F_modCount_a, F_elementData_a, F_size_a⟩
theorem d11_0 : decode jdk_38_method_25_code 0 = .ok (.aload_n 0, 1) := by decide +kernel
theorem d11_1 : decode jdk_38_method_25_code 1 = .ok (.dup, 1) := by decide +kernel
theorem d11_2 : decode jdk_38_method_25_code 2 = .ok (.getfield 63, 3) := by decide +kernel
theorem d11_5 : decode jdk_38_method_25_code 5 = .ok (.iconst 1, 1) := by decide +kernel
theorem d11_6 : decode jdk_38_method_25_code 6 = .ok (.iadd, 1) := by decide +kernel
theorem d11_7 : decode jdk_38_method_25_code 7 = .ok (.putfield 63, 3) := by decide +kernel
theorem d11_10 : decode jdk_38_method_25_code 10 = .ok (.aload_n 0, 1) := by decide +kernel
theorem d11_11 : decode jdk_38_method_25_code 11 = .ok (.aload_n 1, 1) := by decide +kernel
theorem d11_12 : decode jdk_38_method_25_code 12 = .ok (.aload_n 0, 1) := by decide +kernel
theorem d11_13 : decode jdk_38_method_25_code 13 = .ok (.getfield 9, 3) := by decide +kernel
theorem d11_16 : decode jdk_38_method_25_code 16 = .ok (.aload_n 0, 1) := by decide +kernel
theorem d11_17 : decode jdk_38_method_25_code 17 = .ok (.getfield 48, 3) := by decide +kernel
theorem d11_20 : decode jdk_38_method_25_code 20 = .ok (.invokevirtual 131, 3) := by decide +kernel
theorem d11_23 : decode jdk_38_method_25_code 23 = .ok (.iconst 1, 1) := by decide +kernel
theorem d11_24 : decode jdk_38_method_25_code 24 = .ok (.ireturn, 1) := by decide +kernel
theorem pn_11 : plainFor (⟨"java/util/ArrayList", "add", "(Ljava/lang/Object;)Z"⟩ : MethodName) = true := plainFor_of_name (by first | (simp [plainName, overriddenIn]; done) | decide +kernel)
theorem ef_11r (m : MethodId) (x0 : Addr) (x1 : Addr) : entryFrame m #[(.ref x0), (.ref x1)] 2 = mkF m 0 #[.val (.ref x0), .val (.ref x1)] [] := by first | (simp [entryFrame, mkF, argsToLocals, Value.category, maxLocals]; done) | rfl
def Q11r (Z : State) (a : Addr) (r : Addr) (dc : Addr) (mc : Int32) (h0 : Heap) (n0 : Nat) (v : Option Value) (h : Heap) (L : List Loc) : Prop := v = some (.int 1) ∧ Fr n0 L ∧ Keep h0 h [a] ∧ ∃ t, h0.size ≤ t ∧ OwnOA Z h t 10 ∧ Exa Z h a "java/util/ArrayList" ∧ Fld Z h a "java/util/AbstractList" "modCount" "I" (.int (mc + (1 : Int32))) ∧ Fld Z h a "java/util/ArrayList" "elementData" "[Ljava/lang/Object;" (.ref t) ∧ Fld Z h a "java/util/ArrayList" "size" "I" (.int (1 : Int32))
set_option maxRecDepth 65536 in
set_option maxHeartbeats 40000000 in
theorem rm11r (l : Launch) (Z : State) (a0 : Array Value) (hw : ∀ d ∈ tables_1, d.before a0 Z = true) (ws : List Jvm.Cond) (a : Addr) (r : Addr) (dc : Addr) (mc : Int32) (h0 : Heap) (n0 : Nat) (Z0 : n0 ≤ h0.size) (E_a : Exa Z h0 a "java/util/ArrayList") (F_modCount_a : Fld Z h0 a "java/util/AbstractList" "modCount" "I" (.int mc)) (F_elementData_a : Fld Z h0 a "java/util/ArrayList" "elementData" "[Ljava/lang/Object;" (.ref dc)) (F_size_a : Fld Z h0 a "java/util/ArrayList" "size" "I" (.int (0 : Int32))) (g_a : n0 ≤ a) (O_dc : OwnOA Z h0 dc 0) (ne_a_dc : a ≠ dc) (S0_DEFAULTCAPACITY_EMPTY_ELEMENTDATA : Sta Z h0 "java/util/ArrayList" "DEFAULTCAPACITY_EMPTY_ELEMENTDATA" "[Ljava/lang/Object;" (.ref dc)) (E_r : Exa Z h0 r "java/lang/Long") :
    MetFree l (⟨"java/util/ArrayList", "add", "(Ljava/lang/Object;)Z"⟩ : MethodName) (head1 (Jvm.Cond.code (⟨"java/util/ArrayList", "add", "(Ljava/lang/Object;)Z"⟩ : MethodName) jdk_38_method_25_code 2 (some .boolean) :: ws) ({ frames := 4, cells := 1, slots := 10, locals := 62 } : Room)) (fun arr' U => arr' = #[(.ref a), (.ref r)] ∧ Z.Warmed39 U.vm ∧ U.heap = h0) (fun _ _ _ _ _ => True) (fun _ U o U' => ∃ v L, o = .returned v ∧ (Q11r Z a r dc mc h0 n0) v U'.heap L ∧ FrameEnd U o U' L ({ frames := 4, cells := 1, slots := 10, locals := 62 } : Room).cells ({ frames := 4, cells := 1, slots := 10, locals := 62 } : Room).slots) := by
  refine MetFree.of_bodySF pn_11 hisR ?_
  intro p e s m args below meth c s₁ Bd hml0 hP hK
  obtain ⟨rfl, hZ, hh⟩ := hP
  have hx := Bd.exec
  have hby := Bd.bytes
  have hlk : meth.locks = false := BodyLoose.notSynchronized Bd
  have hml : c.maxLocals = 2 := hml0
  have hown : s.vm.findClass "java/util/ArrayList" = some m.cls := findClass_of_methodNamed Bd.named
  have hnm := (name_of_methodNamed Bd.named Bd.method).1
  have X0 : Stand p l e ({ frames := 4, cells := 1, slots := 10, locals := 62 } : Room) s m #[(.ref a), (.ref r)] below meth c s₁ [] 0 0 := Stand.of_body Bd
  have e0 : s₁.heap = h0 := by rw [← hh, Bd.state]; rfl
  have N := Fr.nil n0
  have Zs := Z0
  change OwnGo p.tables e below (OwnEnd s (Q11r Z a r dc mc h0 n0) ({ frames := 4, cells := 1, slots := 10, locals := 62 } : Room).cells ({ frames := 4, cells := 1, slots := 10, locals := 62 } : Room).slots) _
  refine OwnGo.fwd (fun tq' kq' => castTop (ef_11r m a r) kq') ?_
  show OwnGo _ _ _ _ (s₁.setTop (mkF m 0 #[.val (.ref a), .val (.ref r)] []))
  have K : Keep h0 h0 [a] := Keep.refl _ _
  have E0_a := E_a
  refine OwnGo.fwd (fun tq' kq' => XS.aloadN X0.here hx rfl (hb hby d11_0) rfl rfl kq') ?_
  show OwnGo _ _ _ _ (s₁.setTop (mkF m 1 #[.val (.ref a), .val (.ref r)] [(.ref a)]))
  refine OwnGo.fwd (fun tq' kq' => XS.dup X0.here hx rfl (hb hby d11_1) rfl rfl kq') ?_
  show OwnGo _ _ _ _ (s₁.setTop (mkF m 2 #[.val (.ref a), .val (.ref r)] [(.ref a), (.ref a)]))
  obtain ⟨T1, X1, e1, st1⟩ := getF X0 hx hZ hown (host := "") (Or.inl (hw _ (List.mem_of_getElem? (i := 88) rfl))) (Via.of (hw _ (List.mem_of_getElem? (i := 89) rfl))) e0 F_modCount_a (g := (mkF m 2 #[.val (.ref a), .val (.ref r)] [(.ref a), (.ref a)])) rfl rfl (hb hby d11_2)
  refine OwnGo.fwd st1 ?_
  show OwnGo _ _ _ _ (T1.setTop (mkF m 5 #[.val (.ref a), .val (.ref r)] [(.int mc), (.ref a)]))
  refine OwnGo.fwd (fun tq' kq' => XS.iconst X1.here hx rfl (hb hby d11_5) kq') ?_
  show OwnGo _ _ _ _ (T1.setTop (mkF m 6 #[.val (.ref a), .val (.ref r)] [(.int (1 : Int32)), (.int mc), (.ref a)]))
  refine OwnGo.fwd (fun tq' kq' => XS.iadd X1.here hx rfl (hb hby d11_6) rfl kq') ?_
  show OwnGo _ _ _ _ (T1.setTop (mkF m 7 #[.val (.ref a), .val (.ref r)] [(.int (mc + (1 : Int32))), (.ref a)]))
  obtain ⟨T2, h2, X2, e2, W2, st2⟩ := putF X1 hx hZ hown (host := "") (Or.inl (hw _ (List.mem_of_getElem? (i := 88) rfl))) (Via.of (hw _ (List.mem_of_getElem? (i := 89) rfl))) e1 F_modCount_a E_a (Or.inl (hw _ (List.mem_of_getElem? (i := 22) rfl))) (hw _ (List.mem_of_getElem? (i := 1) rfl)) (ty := .int) (by decide) rfl rfl (g := (mkF m 7 #[.val (.ref a), .val (.ref r)] [(.int (mc + (1 : Int32))), (.ref a)])) rfl rfl (hb hby d11_7)
  have E_a := E_a.wr W2
  have F_modCount_a := F_modCount_a.same W2
  have F_elementData_a := F_elementData_a.other W2 (Or.inr (slot_ne (Or.inl (hw _ (List.mem_of_getElem? (i := 25) rfl))) (Or.inl (hw _ (List.mem_of_getElem? (i := 22) rfl))) (by decide) (t := (.array (.object "java/lang/Object"))) (t' := .int) (by decide) (by decide)))
  have F_size_a := F_size_a.other W2 (Or.inr (slot_ne (Or.inl (hw _ (List.mem_of_getElem? (i := 91) rfl))) (Or.inl (hw _ (List.mem_of_getElem? (i := 22) rfl))) (by decide) (t := .int) (t' := .int) (by decide) (by decide)))
  have O_dc := O_dc.other W2 (Ne.symm ne_a_dc)
  have E_r := E_r.wr W2
  have K := K.wr W2 (Or.inl (List.mem_of_getElem? (i := 0) rfl))
  have Zs := Nat.le_trans Zs (Keep.of_wr W2).1
  have N := Fr.snoc X2 N g_a
  refine OwnGo.fwd st2 ?_
  show OwnGo _ _ _ _ (T2.setTop (mkF m 10 #[.val (.ref a), .val (.ref r)] []))
  refine OwnGo.fwd (fun tq' kq' => XS.aloadN X2.here hx rfl (hb hby d11_10) rfl rfl kq') ?_
  show OwnGo _ _ _ _ (T2.setTop (mkF m 11 #[.val (.ref a), .val (.ref r)] [(.ref a)]))
  refine OwnGo.fwd (fun tq' kq' => XS.aloadN X2.here hx rfl (hb hby d11_11) rfl rfl kq') ?_
  show OwnGo _ _ _ _ (T2.setTop (mkF m 12 #[.val (.ref a), .val (.ref r)] [(.ref r), (.ref a)]))
  refine OwnGo.fwd (fun tq' kq' => XS.aloadN X2.here hx rfl (hb hby d11_12) rfl rfl kq') ?_
  show OwnGo _ _ _ _ (T2.setTop (mkF m 13 #[.val (.ref a), .val (.ref r)] [(.ref a), (.ref r), (.ref a)]))
  obtain ⟨T3, X3, e3, st3⟩ := getF X2 hx hZ hown (host := "") (Or.inl (hw _ (List.mem_of_getElem? (i := 24) rfl))) Via.refl e2 F_elementData_a (g := (mkF m 13 #[.val (.ref a), .val (.ref r)] [(.ref a), (.ref r), (.ref a)])) rfl rfl (hb hby d11_13)
  refine OwnGo.fwd st3 ?_
  show OwnGo _ _ _ _ (T3.setTop (mkF m 16 #[.val (.ref a), .val (.ref r)] [(.ref dc), (.ref r), (.ref a)]))
  refine OwnGo.fwd (fun tq' kq' => XS.aloadN X3.here hx rfl (hb hby d11_16) rfl rfl kq') ?_
  show OwnGo _ _ _ _ (T3.setTop (mkF m 17 #[.val (.ref a), .val (.ref r)] [(.ref a), (.ref dc), (.ref r), (.ref a)]))
  obtain ⟨T4, X4, e4, st4⟩ := getF X3 hx hZ hown (host := "") (Or.inl (hw _ (List.mem_of_getElem? (i := 90) rfl))) Via.refl e3 F_size_a (g := (mkF m 17 #[.val (.ref a), .val (.ref r)] [(.ref a), (.ref dc), (.ref r), (.ref a)])) rfl rfl (hb hby d11_17)
  refine OwnGo.fwd st4 ?_
  show OwnGo _ _ _ _ (T4.setTop (mkF m 20 #[.val (.ref a), .val (.ref r)] [(.int (0 : Int32)), (.ref dc), (.ref r), (.ref a)]))
  obtain ⟨cq5, q5, q5'⟩ := E_a.cell
  obtain ⟨_, _, ⟨T5, L5, k5, n5⟩, -, X5, ⟨Lc5, hQ5, l5, y5, z5⟩, st5⟩ := X4.privateBack hx (y := (⟨"java/util/ArrayList", "add", "(Ljava/lang/Object;[Ljava/lang/Object;I)V"⟩ : MethodName)) hown (mvT hZ (hw _ (List.mem_of_getElem? (i := 92) rfl))) (mvT hZ (hw _ (List.mem_of_getElem? (i := 93) rfl))) (mvT hZ (hw _ (List.mem_of_getElem? (i := 95) rfl))) (Cond.privateMethod_at (mvP hZ (hw _ (List.mem_of_getElem? (i := 94) rfl)) (args := #[]))) (mvT hZ (hw _ (List.mem_of_getElem? (i := 96) rfl))) (by decide) (backOf (W := 0) (rm12r l Z a0 hw [] a r dc (mc + (1 : Int32)) h2 n0 Zs E_a F_modCount_a F_elementData_a F_size_a g_a O_dc ne_a_dc (own_stK S0_DEFAULTCAPACITY_EMPTY_ELEMENTDATA K (allS ⟨_, E0_a⟩ all0)) E_r) hZ (hw _ (List.mem_of_getElem? (i := 96) rfl)) (hw _ (List.mem_of_getElem? (i := 2) rfl)) (by decide) (by decide)) (g := (mkF m 20 #[.val (.ref a), .val (.ref r)] [(.int (0 : Int32)), (.ref dc), (.ref r), (.ref a)])) rfl (by rw [hml]; rfl) (Steps.refl _) (a := a) (by rw [e4]; exact q5) q5' (argsL := [(.ref r), (.ref dc), (.int (0 : Int32))]) (rest := []) (lenOf pd_7 rfl) rfl (by show 2 * 0 + _ ≤ _; exact Nat.le_of_eq rfl) (hb hby d11_20) (fun _ _ => ⟨rfl, e4, (by decide : 0 + 1 ≤ _), (by decide : 0 + 10 ≤ _)⟩)
  dsimp only [Pt.U, Pt.locs, Pt.cells, Pt.slots] at X5 l5 y5 z5 st5 hQ5
  subst l5 y5 z5
  have hQ5 := own_rot hQ5
  have lt5_a := E_a.lt
  have lt5_dc := O_dc.lt
  have lt5_r := E_r.lt
  obtain ⟨h5, eh5⟩ : ∃ z, z = T5.heap := ⟨_, rfl⟩
  rw [← eh5] at hQ5
  obtain ⟨N5q, K5, rfl, t5, sq5, O_t5, E_a, F_modCount_a, F_elementData_a, F_size_a⟩ := hQ5
  have ne_a_t5 : a ≠ t5 := Nat.ne_of_lt (Nat.lt_of_lt_of_le lt5_a sq5)
  have ne_dc_t5 : dc ≠ t5 := Nat.ne_of_lt (Nat.lt_of_lt_of_le lt5_dc sq5)
  have ne_r_t5 : r ≠ t5 := Nat.ne_of_lt (Nat.lt_of_lt_of_le lt5_r sq5)
  have g_t5 : n0 ≤ t5 := Nat.le_trans Zs sq5
  have sz_t5 : h0.size ≤ t5 := Nat.le_trans K.1 sq5
  have N := Fr.app N N5q
  have Zs := Nat.le_trans Zs K5.1
  have O_dc := O_dc.keep K5 (ninS (Ne.symm ne_a_dc) nin0)
  have E_r := E_r.keep K5
  have K := K.trans K5 (allS (Or.inl (List.mem_of_getElem? (i := 0) rfl)) all0)
  refine OwnGo.thru st5 ?_
  show OwnGo _ _ _ _ (T5.setTop (mkF m 23 #[.val (.ref a), .val (.ref r)] []))
  refine OwnGo.fwd (fun tq' kq' => XS.iconst X5.here hx rfl (hb hby d11_23) kq') ?_
  show OwnGo _ _ _ _ (T5.setTop (mkF m 24 #[.val (.ref a), .val (.ref r)] [(.int (1 : Int32))]))
  exact own_retZ X5 hlk hx Bd.returns (hb hby d11_24) (by decide) (by decide) eh5.symm ⟨rfl, N, K, _, sz_t5, O_t5, E_a, F_modCount_a, F_elementData_a, F_size_a⟩
theorem ef_11n (m : MethodId) (x0 : Addr) : entryFrame m #[(.ref x0), .null] 2 = mkF m 0 #[.val (.ref x0), .val .null] [] := by first | (simp [entryFrame, mkF, argsToLocals, Value.category, maxLocals]; done) | rfl
def Q11n (Z : State) (a : Addr) (dc : Addr) (mc : Int32) (h0 : Heap) (n0 : Nat) (v : Option Value) (h : Heap) (L : List Loc) : Prop := v = some (.int 1) ∧ Fr n0 L ∧ Keep h0 h [a] ∧ ∃ t, h0.size ≤ t ∧ OwnOA Z h t 10 ∧ Exa Z h a "java/util/ArrayList" ∧ Fld Z h a "java/util/AbstractList" "modCount" "I" (.int (mc + (1 : Int32))) ∧ Fld Z h a "java/util/ArrayList" "elementData" "[Ljava/lang/Object;" (.ref t) ∧ Fld Z h a "java/util/ArrayList" "size" "I" (.int (1 : Int32))
set_option maxRecDepth 65536 in
set_option maxHeartbeats 40000000 in
theorem rm11n (l : Launch) (Z : State) (a0 : Array Value) (hw : ∀ d ∈ tables_1, d.before a0 Z = true) (ws : List Jvm.Cond) (a : Addr) (dc : Addr) (mc : Int32) (h0 : Heap) (n0 : Nat) (Z0 : n0 ≤ h0.size) (E_a : Exa Z h0 a "java/util/ArrayList") (F_modCount_a : Fld Z h0 a "java/util/AbstractList" "modCount" "I" (.int mc)) (F_elementData_a : Fld Z h0 a "java/util/ArrayList" "elementData" "[Ljava/lang/Object;" (.ref dc)) (F_size_a : Fld Z h0 a "java/util/ArrayList" "size" "I" (.int (0 : Int32))) (g_a : n0 ≤ a) (O_dc : OwnOA Z h0 dc 0) (ne_a_dc : a ≠ dc) (S0_DEFAULTCAPACITY_EMPTY_ELEMENTDATA : Sta Z h0 "java/util/ArrayList" "DEFAULTCAPACITY_EMPTY_ELEMENTDATA" "[Ljava/lang/Object;" (.ref dc)) :
    MetFree l (⟨"java/util/ArrayList", "add", "(Ljava/lang/Object;)Z"⟩ : MethodName) (head1 (Jvm.Cond.code (⟨"java/util/ArrayList", "add", "(Ljava/lang/Object;)Z"⟩ : MethodName) jdk_38_method_25_code 2 (some .boolean) :: ws) ({ frames := 4, cells := 1, slots := 10, locals := 62 } : Room)) (fun arr' U => arr' = #[(.ref a), .null] ∧ Z.Warmed39 U.vm ∧ U.heap = h0) (fun _ _ _ _ _ => True) (fun _ U o U' => ∃ v L, o = .returned v ∧ (Q11n Z a dc mc h0 n0) v U'.heap L ∧ FrameEnd U o U' L ({ frames := 4, cells := 1, slots := 10, locals := 62 } : Room).cells ({ frames := 4, cells := 1, slots := 10, locals := 62 } : Room).slots) := by
  refine MetFree.of_bodySF pn_11 hisR ?_
  intro p e s m args below meth c s₁ Bd hml0 hP hK
  obtain ⟨rfl, hZ, hh⟩ := hP
  have hx := Bd.exec
  have hby := Bd.bytes
  have hlk : meth.locks = false := BodyLoose.notSynchronized Bd
  have hml : c.maxLocals = 2 := hml0
  have hown : s.vm.findClass "java/util/ArrayList" = some m.cls := findClass_of_methodNamed Bd.named
  have hnm := (name_of_methodNamed Bd.named Bd.method).1
  have X0 : Stand p l e ({ frames := 4, cells := 1, slots := 10, locals := 62 } : Room) s m #[(.ref a), .null] below meth c s₁ [] 0 0 := Stand.of_body Bd
  have e0 : s₁.heap = h0 := by rw [← hh, Bd.state]; rfl
  have N := Fr.nil n0
  have Zs := Z0
  change OwnGo p.tables e below (OwnEnd s (Q11n Z a dc mc h0 n0) ({ frames := 4, cells := 1, slots := 10, locals := 62 } : Room).cells ({ frames := 4, cells := 1, slots := 10, locals := 62 } : Room).slots) _
  refine OwnGo.fwd (fun tq' kq' => castTop (ef_11n m a) kq') ?_
  show OwnGo _ _ _ _ (s₁.setTop (mkF m 0 #[.val (.ref a), .val .null] []))
  have K : Keep h0 h0 [a] := Keep.refl _ _
  have E0_a := E_a
  refine OwnGo.fwd (fun tq' kq' => XS.aloadN X0.here hx rfl (hb hby d11_0) rfl rfl kq') ?_
  show OwnGo _ _ _ _ (s₁.setTop (mkF m 1 #[.val (.ref a), .val .null] [(.ref a)]))
  refine OwnGo.fwd (fun tq' kq' => XS.dup X0.here hx rfl (hb hby d11_1) rfl rfl kq') ?_
  show OwnGo _ _ _ _ (s₁.setTop (mkF m 2 #[.val (.ref a), .val .null] [(.ref a), (.ref a)]))
  obtain ⟨T1, X1, e1, st1⟩ := getF X0 hx hZ hown (host := "") (Or.inl (hw _ (List.mem_of_getElem? (i := 88) rfl))) (Via.of (hw _ (List.mem_of_getElem? (i := 89) rfl))) e0 F_modCount_a (g := (mkF m 2 #[.val (.ref a), .val .null] [(.ref a), (.ref a)])) rfl rfl (hb hby d11_2)
  refine OwnGo.fwd st1 ?_
  show OwnGo _ _ _ _ (T1.setTop (mkF m 5 #[.val (.ref a), .val .null] [(.int mc), (.ref a)]))
  refine OwnGo.fwd (fun tq' kq' => XS.iconst X1.here hx rfl (hb hby d11_5) kq') ?_
  show OwnGo _ _ _ _ (T1.setTop (mkF m 6 #[.val (.ref a), .val .null] [(.int (1 : Int32)), (.int mc), (.ref a)]))
  refine OwnGo.fwd (fun tq' kq' => XS.iadd X1.here hx rfl (hb hby d11_6) rfl kq') ?_
  show OwnGo _ _ _ _ (T1.setTop (mkF m 7 #[.val (.ref a), .val .null] [(.int (mc + (1 : Int32))), (.ref a)]))
  obtain ⟨T2, h2, X2, e2, W2, st2⟩ := putF X1 hx hZ hown (host := "") (Or.inl (hw _ (List.mem_of_getElem? (i := 88) rfl))) (Via.of (hw _ (List.mem_of_getElem? (i := 89) rfl))) e1 F_modCount_a E_a (Or.inl (hw _ (List.mem_of_getElem? (i := 22) rfl))) (hw _ (List.mem_of_getElem? (i := 1) rfl)) (ty := .int) (by decide) rfl rfl (g := (mkF m 7 #[.val (.ref a), .val .null] [(.int (mc + (1 : Int32))), (.ref a)])) rfl rfl (hb hby d11_7)
  have E_a := E_a.wr W2
  have F_modCount_a := F_modCount_a.same W2
  have F_elementData_a := F_elementData_a.other W2 (Or.inr (slot_ne (Or.inl (hw _ (List.mem_of_getElem? (i := 25) rfl))) (Or.inl (hw _ (List.mem_of_getElem? (i := 22) rfl))) (by decide) (t := (.array (.object "java/lang/Object"))) (t' := .int) (by decide) (by decide)))
  have F_size_a := F_size_a.other W2 (Or.inr (slot_ne (Or.inl (hw _ (List.mem_of_getElem? (i := 91) rfl))) (Or.inl (hw _ (List.mem_of_getElem? (i := 22) rfl))) (by decide) (t := .int) (t' := .int) (by decide) (by decide)))
  have O_dc := O_dc.other W2 (Ne.symm ne_a_dc)
  have K := K.wr W2 (Or.inl (List.mem_of_getElem? (i := 0) rfl))
  have Zs := Nat.le_trans Zs (Keep.of_wr W2).1
  have N := Fr.snoc X2 N g_a
  refine OwnGo.fwd st2 ?_
  show OwnGo _ _ _ _ (T2.setTop (mkF m 10 #[.val (.ref a), .val .null] []))
  refine OwnGo.fwd (fun tq' kq' => XS.aloadN X2.here hx rfl (hb hby d11_10) rfl rfl kq') ?_
  show OwnGo _ _ _ _ (T2.setTop (mkF m 11 #[.val (.ref a), .val .null] [(.ref a)]))
  refine OwnGo.fwd (fun tq' kq' => XS.aloadN X2.here hx rfl (hb hby d11_11) rfl rfl kq') ?_
  show OwnGo _ _ _ _ (T2.setTop (mkF m 12 #[.val (.ref a), .val .null] [.null, (.ref a)]))
  refine OwnGo.fwd (fun tq' kq' => XS.aloadN X2.here hx rfl (hb hby d11_12) rfl rfl kq') ?_
  show OwnGo _ _ _ _ (T2.setTop (mkF m 13 #[.val (.ref a), .val .null] [(.ref a), .null, (.ref a)]))
  obtain ⟨T3, X3, e3, st3⟩ := getF X2 hx hZ hown (host := "") (Or.inl (hw _ (List.mem_of_getElem? (i := 24) rfl))) Via.refl e2 F_elementData_a (g := (mkF m 13 #[.val (.ref a), .val .null] [(.ref a), .null, (.ref a)])) rfl rfl (hb hby d11_13)
  refine OwnGo.fwd st3 ?_
  show OwnGo _ _ _ _ (T3.setTop (mkF m 16 #[.val (.ref a), .val .null] [(.ref dc), .null, (.ref a)]))
  refine OwnGo.fwd (fun tq' kq' => XS.aloadN X3.here hx rfl (hb hby d11_16) rfl rfl kq') ?_
  show OwnGo _ _ _ _ (T3.setTop (mkF m 17 #[.val (.ref a), .val .null] [(.ref a), (.ref dc), .null, (.ref a)]))
  obtain ⟨T4, X4, e4, st4⟩ := getF X3 hx hZ hown (host := "") (Or.inl (hw _ (List.mem_of_getElem? (i := 90) rfl))) Via.refl e3 F_size_a (g := (mkF m 17 #[.val (.ref a), .val .null] [(.ref a), (.ref dc), .null, (.ref a)])) rfl rfl (hb hby d11_17)
  refine OwnGo.fwd st4 ?_
  show OwnGo _ _ _ _ (T4.setTop (mkF m 20 #[.val (.ref a), .val .null] [(.int (0 : Int32)), (.ref dc), .null, (.ref a)]))
  obtain ⟨cq5, q5, q5'⟩ := E_a.cell
  obtain ⟨_, _, ⟨T5, L5, k5, n5⟩, -, X5, ⟨Lc5, hQ5, l5, y5, z5⟩, st5⟩ := X4.privateBack hx (y := (⟨"java/util/ArrayList", "add", "(Ljava/lang/Object;[Ljava/lang/Object;I)V"⟩ : MethodName)) hown (mvT hZ (hw _ (List.mem_of_getElem? (i := 92) rfl))) (mvT hZ (hw _ (List.mem_of_getElem? (i := 93) rfl))) (mvT hZ (hw _ (List.mem_of_getElem? (i := 95) rfl))) (Cond.privateMethod_at (mvP hZ (hw _ (List.mem_of_getElem? (i := 94) rfl)) (args := #[]))) (mvT hZ (hw _ (List.mem_of_getElem? (i := 96) rfl))) (by decide) (backOf (W := 0) (rm12n l Z a0 hw [] a dc (mc + (1 : Int32)) h2 n0 Zs E_a F_modCount_a F_elementData_a F_size_a g_a O_dc ne_a_dc (own_stK S0_DEFAULTCAPACITY_EMPTY_ELEMENTDATA K (allS ⟨_, E0_a⟩ all0))) hZ (hw _ (List.mem_of_getElem? (i := 96) rfl)) (hw _ (List.mem_of_getElem? (i := 2) rfl)) (by decide) (by decide)) (g := (mkF m 20 #[.val (.ref a), .val .null] [(.int (0 : Int32)), (.ref dc), .null, (.ref a)])) rfl (by rw [hml]; rfl) (Steps.refl _) (a := a) (by rw [e4]; exact q5) q5' (argsL := [.null, (.ref dc), (.int (0 : Int32))]) (rest := []) (lenOf pd_7 rfl) rfl (by show 2 * 0 + _ ≤ _; exact Nat.le_of_eq rfl) (hb hby d11_20) (fun _ _ => ⟨rfl, e4, (by decide : 0 + 1 ≤ _), (by decide : 0 + 10 ≤ _)⟩)
  dsimp only [Pt.U, Pt.locs, Pt.cells, Pt.slots] at X5 l5 y5 z5 st5 hQ5
  subst l5 y5 z5
  have hQ5 := own_rot hQ5
  have lt5_a := E_a.lt
  have lt5_dc := O_dc.lt
  obtain ⟨h5, eh5⟩ : ∃ z, z = T5.heap := ⟨_, rfl⟩
  rw [← eh5] at hQ5
  obtain ⟨N5q, K5, rfl, t5, sq5, O_t5, E_a, F_modCount_a, F_elementData_a, F_size_a⟩ := hQ5
  have ne_a_t5 : a ≠ t5 := Nat.ne_of_lt (Nat.lt_of_lt_of_le lt5_a sq5)
  have ne_dc_t5 : dc ≠ t5 := Nat.ne_of_lt (Nat.lt_of_lt_of_le lt5_dc sq5)
  have g_t5 : n0 ≤ t5 := Nat.le_trans Zs sq5
  have sz_t5 : h0.size ≤ t5 := Nat.le_trans K.1 sq5
  have N := Fr.app N N5q
  have Zs := Nat.le_trans Zs K5.1
  have O_dc := O_dc.keep K5 (ninS (Ne.symm ne_a_dc) nin0)
  have K := K.trans K5 (allS (Or.inl (List.mem_of_getElem? (i := 0) rfl)) all0)
  refine OwnGo.thru st5 ?_
  show OwnGo _ _ _ _ (T5.setTop (mkF m 23 #[.val (.ref a), .val .null] []))
  refine OwnGo.fwd (fun tq' kq' => XS.iconst X5.here hx rfl (hb hby d11_23) kq') ?_
  show OwnGo _ _ _ _ (T5.setTop (mkF m 24 #[.val (.ref a), .val .null] [(.int (1 : Int32))]))
  exact own_retZ X5 hlk hx Bd.returns (hb hby d11_24) (by decide) (by decide) eh5.symm ⟨rfl, N, K, _, sz_t5, O_t5, E_a, F_modCount_a, F_elementData_a, F_size_a⟩
theorem ef_11b (m : MethodId) (x0 : Addr) : entryFrame m #[(.ref x0), .null] 2 = mkF m 0 #[.val (.ref x0), .val .null] [] := by first | (simp [entryFrame, mkF, argsToLocals, Value.category, maxLocals]; done) | rfl
def Q11b (Z : State) (a : Addr) (d : Addr) (mc : Int32) (h0 : Heap) (n0 : Nat) (v : Option Value) (h : Heap) (L : List Loc) : Prop := v = some (.int 1) ∧ Fr n0 L ∧ Keep h0 h [a, d] ∧ OwnOA Z h d 10 ∧ Exa Z h a "java/util/ArrayList" ∧ Fld Z h a "java/util/AbstractList" "modCount" "I" (.int (mc + (1 : Int32))) ∧ Fld Z h a "java/util/ArrayList" "elementData" "[Ljava/lang/Object;" (.ref d) ∧ Fld Z h a "java/util/ArrayList" "size" "I" (.int (2 : Int32))
set_option maxRecDepth 65536 in
set_option maxHeartbeats 40000000 in
theorem rm11b (l : Launch) (Z : State) (a0 : Array Value) (hw : ∀ d ∈ tables_1, d.before a0 Z = true) (ws : List Jvm.Cond) (a : Addr) (d : Addr) (mc : Int32) (h0 : Heap) (n0 : Nat) (Z0 : n0 ≤ h0.size) (E_a : Exa Z h0 a "java/util/ArrayList") (F_modCount_a : Fld Z h0 a "java/util/AbstractList" "modCount" "I" (.int mc)) (F_elementData_a : Fld Z h0 a "java/util/ArrayList" "elementData" "[Ljava/lang/Object;" (.ref d)) (F_size_a : Fld Z h0 a "java/util/ArrayList" "size" "I" (.int (1 : Int32))) (g_a : n0 ≤ a) (O_d : OwnOA Z h0 d 10) (g_d : n0 ≤ d) (ne_a_d : a ≠ d) :
    MetFree l (⟨"java/util/ArrayList", "add", "(Ljava/lang/Object;)Z"⟩ : MethodName) (head1 (Jvm.Cond.code (⟨"java/util/ArrayList", "add", "(Ljava/lang/Object;)Z"⟩ : MethodName) jdk_38_method_25_code 2 (some .boolean) :: ws) ({ frames := 4, cells := 0, slots := 0, locals := 62 } : Room)) (fun arr' U => arr' = #[(.ref a), .null] ∧ Z.Warmed39 U.vm ∧ U.heap = h0) (fun _ _ _ _ _ => True) (fun _ U o U' => ∃ v L, o = .returned v ∧ (Q11b Z a d mc h0 n0) v U'.heap L ∧ FrameEnd U o U' L ({ frames := 4, cells := 0, slots := 0, locals := 62 } : Room).cells ({ frames := 4, cells := 0, slots := 0, locals := 62 } : Room).slots) := by
  refine MetFree.of_bodySF pn_11 hisR ?_
  intro p e s m args below meth c s₁ Bd hml0 hP hK
  obtain ⟨rfl, hZ, hh⟩ := hP
  have hx := Bd.exec
  have hby := Bd.bytes
  have hlk : meth.locks = false := BodyLoose.notSynchronized Bd
  have hml : c.maxLocals = 2 := hml0
  have hown : s.vm.findClass "java/util/ArrayList" = some m.cls := findClass_of_methodNamed Bd.named
  have hnm := (name_of_methodNamed Bd.named Bd.method).1
  have X0 : Stand p l e ({ frames := 4, cells := 0, slots := 0, locals := 62 } : Room) s m #[(.ref a), .null] below meth c s₁ [] 0 0 := Stand.of_body Bd
  have e0 : s₁.heap = h0 := by rw [← hh, Bd.state]; rfl
  have N := Fr.nil n0
  have Zs := Z0
  change OwnGo p.tables e below (OwnEnd s (Q11b Z a d mc h0 n0) ({ frames := 4, cells := 0, slots := 0, locals := 62 } : Room).cells ({ frames := 4, cells := 0, slots := 0, locals := 62 } : Room).slots) _
  refine OwnGo.fwd (fun tq' kq' => castTop (ef_11b m a) kq') ?_
  show OwnGo _ _ _ _ (s₁.setTop (mkF m 0 #[.val (.ref a), .val .null] []))
  have K : Keep h0 h0 [a, d] := Keep.refl _ _
  refine OwnGo.fwd (fun tq' kq' => XS.aloadN X0.here hx rfl (hb hby d11_0) rfl rfl kq') ?_
  show OwnGo _ _ _ _ (s₁.setTop (mkF m 1 #[.val (.ref a), .val .null] [(.ref a)]))
  refine OwnGo.fwd (fun tq' kq' => XS.dup X0.here hx rfl (hb hby d11_1) rfl rfl kq') ?_
  show OwnGo _ _ _ _ (s₁.setTop (mkF m 2 #[.val (.ref a), .val .null] [(.ref a), (.ref a)]))
  obtain ⟨T1, X1, e1, st1⟩ := getF X0 hx hZ hown (host := "") (Or.inl (hw _ (List.mem_of_getElem? (i := 88) rfl))) (Via.of (hw _ (List.mem_of_getElem? (i := 89) rfl))) e0 F_modCount_a (g := (mkF m 2 #[.val (.ref a), .val .null] [(.ref a), (.ref a)])) rfl rfl (hb hby d11_2)
  refine OwnGo.fwd st1 ?_
  show OwnGo _ _ _ _ (T1.setTop (mkF m 5 #[.val (.ref a), .val .null] [(.int mc), (.ref a)]))
  refine OwnGo.fwd (fun tq' kq' => XS.iconst X1.here hx rfl (hb hby d11_5) kq') ?_
  show OwnGo _ _ _ _ (T1.setTop (mkF m 6 #[.val (.ref a), .val .null] [(.int (1 : Int32)), (.int mc), (.ref a)]))
  refine OwnGo.fwd (fun tq' kq' => XS.iadd X1.here hx rfl (hb hby d11_6) rfl kq') ?_
  show OwnGo _ _ _ _ (T1.setTop (mkF m 7 #[.val (.ref a), .val .null] [(.int (mc + (1 : Int32))), (.ref a)]))
  obtain ⟨T2, h2, X2, e2, W2, st2⟩ := putF X1 hx hZ hown (host := "") (Or.inl (hw _ (List.mem_of_getElem? (i := 88) rfl))) (Via.of (hw _ (List.mem_of_getElem? (i := 89) rfl))) e1 F_modCount_a E_a (Or.inl (hw _ (List.mem_of_getElem? (i := 22) rfl))) (hw _ (List.mem_of_getElem? (i := 1) rfl)) (ty := .int) (by decide) rfl rfl (g := (mkF m 7 #[.val (.ref a), .val .null] [(.int (mc + (1 : Int32))), (.ref a)])) rfl rfl (hb hby d11_7)
  have E_a := E_a.wr W2
  have F_modCount_a := F_modCount_a.same W2
  have F_elementData_a := F_elementData_a.other W2 (Or.inr (slot_ne (Or.inl (hw _ (List.mem_of_getElem? (i := 25) rfl))) (Or.inl (hw _ (List.mem_of_getElem? (i := 22) rfl))) (by decide) (t := (.array (.object "java/lang/Object"))) (t' := .int) (by decide) (by decide)))
  have F_size_a := F_size_a.other W2 (Or.inr (slot_ne (Or.inl (hw _ (List.mem_of_getElem? (i := 91) rfl))) (Or.inl (hw _ (List.mem_of_getElem? (i := 22) rfl))) (by decide) (t := .int) (t' := .int) (by decide) (by decide)))
  have O_d := O_d.other W2 (Ne.symm ne_a_d)
  have K := K.wr W2 (Or.inl (List.mem_of_getElem? (i := 0) rfl))
  have Zs := Nat.le_trans Zs (Keep.of_wr W2).1
  have N := Fr.snoc X2 N g_a
  refine OwnGo.fwd st2 ?_
  show OwnGo _ _ _ _ (T2.setTop (mkF m 10 #[.val (.ref a), .val .null] []))
  refine OwnGo.fwd (fun tq' kq' => XS.aloadN X2.here hx rfl (hb hby d11_10) rfl rfl kq') ?_
  show OwnGo _ _ _ _ (T2.setTop (mkF m 11 #[.val (.ref a), .val .null] [(.ref a)]))
  refine OwnGo.fwd (fun tq' kq' => XS.aloadN X2.here hx rfl (hb hby d11_11) rfl rfl kq') ?_
  show OwnGo _ _ _ _ (T2.setTop (mkF m 12 #[.val (.ref a), .val .null] [.null, (.ref a)]))
  refine OwnGo.fwd (fun tq' kq' => XS.aloadN X2.here hx rfl (hb hby d11_12) rfl rfl kq') ?_
  show OwnGo _ _ _ _ (T2.setTop (mkF m 13 #[.val (.ref a), .val .null] [(.ref a), .null, (.ref a)]))
  obtain ⟨T3, X3, e3, st3⟩ := getF X2 hx hZ hown (host := "") (Or.inl (hw _ (List.mem_of_getElem? (i := 24) rfl))) Via.refl e2 F_elementData_a (g := (mkF m 13 #[.val (.ref a), .val .null] [(.ref a), .null, (.ref a)])) rfl rfl (hb hby d11_13)
  refine OwnGo.fwd st3 ?_
  show OwnGo _ _ _ _ (T3.setTop (mkF m 16 #[.val (.ref a), .val .null] [(.ref d), .null, (.ref a)]))
  refine OwnGo.fwd (fun tq' kq' => XS.aloadN X3.here hx rfl (hb hby d11_16) rfl rfl kq') ?_
  show OwnGo _ _ _ _ (T3.setTop (mkF m 17 #[.val (.ref a), .val .null] [(.ref a), (.ref d), .null, (.ref a)]))
  obtain ⟨T4, X4, e4, st4⟩ := getF X3 hx hZ hown (host := "") (Or.inl (hw _ (List.mem_of_getElem? (i := 90) rfl))) Via.refl e3 F_size_a (g := (mkF m 17 #[.val (.ref a), .val .null] [(.ref a), (.ref d), .null, (.ref a)])) rfl rfl (hb hby d11_17)
  refine OwnGo.fwd st4 ?_
  show OwnGo _ _ _ _ (T4.setTop (mkF m 20 #[.val (.ref a), .val .null] [(.int (1 : Int32)), (.ref d), .null, (.ref a)]))
  obtain ⟨cq5, q5, q5'⟩ := E_a.cell
  obtain ⟨_, _, ⟨T5, L5, k5, n5⟩, -, X5, ⟨Lc5, hQ5, l5, y5, z5⟩, st5⟩ := X4.privateBack hx (y := (⟨"java/util/ArrayList", "add", "(Ljava/lang/Object;[Ljava/lang/Object;I)V"⟩ : MethodName)) hown (mvT hZ (hw _ (List.mem_of_getElem? (i := 92) rfl))) (mvT hZ (hw _ (List.mem_of_getElem? (i := 93) rfl))) (mvT hZ (hw _ (List.mem_of_getElem? (i := 95) rfl))) (Cond.privateMethod_at (mvP hZ (hw _ (List.mem_of_getElem? (i := 94) rfl)) (args := #[]))) (mvT hZ (hw _ (List.mem_of_getElem? (i := 96) rfl))) (by decide) (backOf (W := 0) (rm12b l Z a0 hw [] a d (mc + (1 : Int32)) h2 n0 Zs E_a F_modCount_a F_elementData_a F_size_a g_a O_d g_d ne_a_d) hZ (hw _ (List.mem_of_getElem? (i := 96) rfl)) (hw _ (List.mem_of_getElem? (i := 2) rfl)) (by decide) (by decide)) (g := (mkF m 20 #[.val (.ref a), .val .null] [(.int (1 : Int32)), (.ref d), .null, (.ref a)])) rfl (by rw [hml]; rfl) (Steps.refl _) (a := a) (by rw [e4]; exact q5) q5' (argsL := [.null, (.ref d), (.int (1 : Int32))]) (rest := []) (lenOf pd_7 rfl) rfl (by show 2 * 0 + _ ≤ _; exact Nat.le_of_eq rfl) (hb hby d11_20) (fun _ _ => ⟨rfl, e4, (by decide : 0 + 0 ≤ _), (by decide : 0 + 0 ≤ _)⟩)
  dsimp only [Pt.U, Pt.locs, Pt.cells, Pt.slots] at X5 l5 y5 z5 st5 hQ5
  subst l5 y5 z5
  obtain ⟨h5, eh5⟩ : ∃ z, z = T5.heap := ⟨_, rfl⟩
  rw [← eh5] at hQ5
  obtain ⟨rfl, N5q, K5, O_d, E_a, F_modCount_a, F_elementData_a, F_size_a⟩ := hQ5
  have N := Fr.app N N5q
  have Zs := Nat.le_trans Zs K5.1
  have K := K.trans K5 (allS (Or.inl (List.mem_of_getElem? (i := 0) rfl)) (allS (Or.inl (List.mem_of_getElem? (i := 1) rfl)) all0))
  refine OwnGo.thru st5 ?_
  show OwnGo _ _ _ _ (T5.setTop (mkF m 23 #[.val (.ref a), .val .null] []))
  refine OwnGo.fwd (fun tq' kq' => XS.iconst X5.here hx rfl (hb hby d11_23) kq') ?_
  show OwnGo _ _ _ _ (T5.setTop (mkF m 24 #[.val (.ref a), .val .null] [(.int (1 : Int32))]))
  exact own_retZ X5 hlk hx Bd.returns (hb hby d11_24) (by decide) (by decide) eh5.symm ⟨rfl, N, K, O_d, E_a, F_modCount_a, F_elementData_a, F_size_a⟩
theorem d24_0 : decode jdk_65_method_120_code 0 = .ok (.aload_n 2, 1) := by decide +kernel
theorem d24_1 : decode jdk_65_method_120_code 1 = .ok (.ldc 110, 2) := by decide +kernel
theorem d24_3 : decode jdk_65_method_120_code 3 = .ok (.if_acmp .ne 10, 3) := by decide +kernel
theorem d24_6 : decode jdk_65_method_120_code 6 = .ok (.iload_n 1, 1) := by decide +kernel
theorem d24_7 : decode jdk_65_method_120_code 7 = .ok (.anewarray 2, 3) := by decide +kernel
theorem d24_10 : decode jdk_65_method_120_code 10 = .ok (.goto 14, 3) := by decide +kernel
theorem d24_13 : decode jdk_65_method_120_code 13 = .ok (.aload_n 2, 1) := by decide +kernel
theorem d24_14 : decode jdk_65_method_120_code 14 = .ok (.invokevirtual 90, 3) := by decide +kernel
theorem d24_17 : decode jdk_65_method_120_code 17 = .ok (.iload_n 1, 1) := by decide +kernel
theorem d24_18 : decode jdk_65_method_120_code 18 = .ok (.invokestatic 95, 3) := by decide +kernel
theorem d24_21 : decode jdk_65_method_120_code 21 = .ok (.checkcast 110, 3) := by decide +kernel
theorem d24_24 : decode jdk_65_method_120_code 24 = .ok (.astore_n 3, 1) := by decide +kernel
theorem d24_25 : decode jdk_65_method_120_code 25 = .ok (.aload_n 0, 1) := by decide +kernel
theorem d24_26 : decode jdk_65_method_120_code 26 = .ok (.iconst 0, 1) := by decide +kernel
theorem d24_27 : decode jdk_65_method_120_code 27 = .ok (.aload_n 3, 1) := by decide +kernel
theorem d24_28 : decode jdk_65_method_120_code 28 = .ok (.iconst 0, 1) := by decide +kernel
theorem d24_29 : decode jdk_65_method_120_code 29 = .ok (.aload_n 0, 1) := by decide +kernel
theorem d24_30 : decode jdk_65_method_120_code 30 = .ok (.arraylength, 1) := by decide +kernel
theorem d24_31 : decode jdk_65_method_120_code 31 = .ok (.iload_n 1, 1) := by decide +kernel
theorem d24_32 : decode jdk_65_method_120_code 32 = .ok (.invokestatic 304, 3) := by decide +kernel
theorem d24_35 : decode jdk_65_method_120_code 35 = .ok (.invokestatic 150, 3) := by decide +kernel
theorem d24_38 : decode jdk_65_method_120_code 38 = .ok (.aload_n 3, 1) := by decide +kernel
theorem d24_39 : decode jdk_65_method_120_code 39 = .ok (.areturn, 1) := by decide +kernel
theorem pn_24 : plainFor (⟨"java/util/Arrays", "copyOf", "([Ljava/lang/Object;ILjava/lang/Class;)[Ljava/lang/Object;"⟩ : MethodName) = true := plainFor_of_name (by first | (simp [plainName, overriddenIn]; done) | decide +kernel)
theorem ef_24 (m : MethodId) (x0 : Addr) (x1 : Int32) (x2 : Addr) : entryFrame m #[(.ref x0), (.int x1), (.ref x2)] 4 = mkF m 0 #[.val (.ref x0), .val (.int x1), .val (.ref x2), .unset] [] := by first | (simp [entryFrame, mkF, argsToLocals, Value.category, maxLocals]; done) | rfl
def Q24 (Z : State) (d : Addr) (mo : Addr) (u : Nat) (n : Nat) (h0 : Heap) (n0 : Nat) (v : Option Value) (h : Heap) (L : List Loc) : Prop := Fr n0 L ∧ Keep h0 h [] ∧ ∃ t, v = some (.ref t) ∧ h0.size ≤ t ∧ OwnOA Z h t n
set_option maxRecDepth 65536 in
set_option maxHeartbeats 40000000 in
theorem rm24 (l : Launch) (Z : State) (a0 : Array Value) (hw : ∀ d ∈ tables_1, d.before a0 Z = true) (ws : List Jvm.Cond) (d : Addr) (mo : Addr) (u : Nat) (n : Nat) (h0 : Heap) (n0 : Nat) (Z0 : n0 ≤ h0.size) (O_d : OwnOA Z h0 d u) (hle : n ≤ u) (hn2 : n ≤ 2) (hu : u ≤ 10) (M_mo : Mir Z "[Ljava/lang/Object;" mo) :
    MetFree l (⟨"java/util/Arrays", "copyOf", "([Ljava/lang/Object;ILjava/lang/Class;)[Ljava/lang/Object;"⟩ : MethodName) (head1 (Jvm.Cond.code (⟨"java/util/Arrays", "copyOf", "([Ljava/lang/Object;ILjava/lang/Class;)[Ljava/lang/Object;"⟩ : MethodName) jdk_65_method_120_code 4 (some (.array (.object "java/lang/Object"))) :: ws) ({ frames := 1, cells := 1, slots := 2, locals := 30 } : Room)) (fun arr' U => arr' = #[(.ref d), (.int (Int32.ofNat n)), (.ref mo)] ∧ Z.Warmed39 U.vm ∧ U.heap = h0) (fun _ _ _ _ _ => True) (fun _ U o U' => ∃ v L, o = .returned v ∧ (Q24 Z d mo u n h0 n0) v U'.heap L ∧ FrameEnd U o U' L ({ frames := 1, cells := 1, slots := 2, locals := 30 } : Room).cells ({ frames := 1, cells := 1, slots := 2, locals := 30 } : Room).slots) := by
  refine MetFree.of_bodySF pn_24 hisR ?_
  intro p e s m args below meth c s₁ Bd hml0 hP hK
  obtain ⟨rfl, hZ, hh⟩ := hP
  have hx := Bd.exec
  have hby := Bd.bytes
  have hlk : meth.locks = false := BodyLoose.notSynchronized Bd
  have hml : c.maxLocals = 4 := hml0
  have hown : s.vm.findClass "java/util/Arrays" = some m.cls := findClass_of_methodNamed Bd.named
  have hnm := (name_of_methodNamed Bd.named Bd.method).1
  have X0 : Stand p l e ({ frames := 1, cells := 1, slots := 2, locals := 30 } : Room) s m #[(.ref d), (.int (Int32.ofNat n)), (.ref mo)] below meth c s₁ [] 0 0 := Stand.of_body Bd
  have e0 : s₁.heap = h0 := by rw [← hh, Bd.state]; rfl
  have N := Fr.nil n0
  have Zs := Z0
  change OwnGo p.tables e below (OwnEnd s (Q24 Z d mo u n h0 n0) ({ frames := 1, cells := 1, slots := 2, locals := 30 } : Room).cells ({ frames := 1, cells := 1, slots := 2, locals := 30 } : Room).slots) _
  refine OwnGo.fwd (fun tq' kq' => castTop (ef_24 m d (Int32.ofNat n) mo) kq') ?_
  show OwnGo _ _ _ _ (s₁.setTop (mkF m 0 #[.val (.ref d), .val (.int (Int32.ofNat n)), .val (.ref mo), .unset] []))
  have K : Keep h0 h0 [] := Keep.refl _ _
  refine OwnGo.fwd (fun tq' kq' => XS.aloadN X0.here hx rfl (hb hby d24_0) rfl rfl kq') ?_
  show OwnGo _ _ _ _ (s₁.setTop (mkF m 1 #[.val (.ref d), .val (.int (Int32.ofNat n)), .val (.ref mo), .unset] [(.ref mo)]))
  obtain ⟨T1, X1, e1, st1⟩ := own_ldcM X0 hx hZ hown (hw _ (List.mem_of_getElem? (i := 197) rfl)) e0 M_mo (g := (mkF m 1 #[.val (.ref d), .val (.int (Int32.ofNat n)), .val (.ref mo), .unset] [(.ref mo)])) rfl (hb hby d24_1)
  refine OwnGo.fwd st1 ?_
  show OwnGo _ _ _ _ (T1.setTop (mkF m 3 #[.val (.ref d), .val (.int (Int32.ofNat n)), .val (.ref mo), .unset] [(.ref mo), (.ref mo)]))
  refine OwnGo.fwd (fun tq' kq' => Jvm.RoadKit.acmp (g := (mkF m 3 #[.val (.ref d), .val (.int (Int32.ofNat n)), .val (.ref mo), .unset] [(.ref mo), (.ref mo)])) X1 hx rfl rfl rfl (pc0 := 3) (pc' := 6) (same := true) rfl (hb hby d24_3) rfl (decide_eq_true rfl) (by decide) (by decide) kq') ?_
  show OwnGo _ _ _ _ (T1.setTop (mkF m 6 #[.val (.ref d), .val (.int (Int32.ofNat n)), .val (.ref mo), .unset] []))
  refine OwnGo.fwd (fun tq' kq' => XS.iloadN X1.here hx rfl (hb hby d24_6) rfl kq') ?_
  show OwnGo _ _ _ _ (T1.setTop (mkF m 7 #[.val (.ref d), .val (.int (Int32.ofNat n)), .val (.ref mo), .unset] [(.int (Int32.ofNat n))]))
  obtain ⟨T2, h2, b2, X2, e2, E2, g2, O2, st2⟩ := own_newO (n := n) X1 hx hZ hown (hw _ (List.mem_of_getElem? (i := 198) rfl)) (hw _ (List.mem_of_getElem? (i := 112) rfl)) e1 (g := (mkF m 7 #[.val (.ref d), .val (.int (Int32.ofNat n)), .val (.ref mo), .unset] [(.int (Int32.ofNat n))])) rfl (hb hby d24_7) rfl rfl (cap := 2) hn2 (by decide) (by decide) (by decide)
  have ne_d_b2 : d ≠ b2 := Nat.ne_of_lt (Nat.lt_of_lt_of_le O_d.lt (Nat.le_of_eq g2.symm))
  have g_b2 : n0 ≤ b2 := Nat.le_trans Zs (Nat.le_of_eq g2.symm)
  have sz_b2 : h0.size ≤ b2 := Nat.le_trans K.1 (Nat.le_of_eq g2.symm)
  have K := K.ext E2
  have Zs := Nat.le_trans Zs E2.1
  have O_d := O_d.ext E2
  have O_b2 := O2
  refine OwnGo.fwd st2 ?_
  show OwnGo _ _ _ _ (T2.setTop (mkF m 10 #[.val (.ref d), .val (.int (Int32.ofNat n)), .val (.ref mo), .unset] [(.ref b2)]))
  refine OwnGo.fwd (fun tq' kq' => XS.goto X2.here hx rfl (pc0 := 10) (pc' := 24) rfl (hb hby d24_10) (by decide) (by decide) kq') ?_
  show OwnGo _ _ _ _ (T2.setTop (mkF m 24 #[.val (.ref d), .val (.int (Int32.ofNat n)), .val (.ref mo), .unset] [(.ref b2)]))
  refine OwnGo.fwd (fun tq' kq' => XS.astoreN X2.here hx rfl (hb hby d24_24) rfl rfl (l' := #[.val (.ref d), .val (.int (Int32.ofNat n)), .val (.ref mo), .val (.ref b2)]) rfl kq') ?_
  show OwnGo _ _ _ _ (T2.setTop (mkF m 25 #[.val (.ref d), .val (.int (Int32.ofNat n)), .val (.ref mo), .val (.ref b2)] []))
  refine OwnGo.fwd (fun tq' kq' => XS.aloadN X2.here hx rfl (hb hby d24_25) rfl rfl kq') ?_
  show OwnGo _ _ _ _ (T2.setTop (mkF m 26 #[.val (.ref d), .val (.int (Int32.ofNat n)), .val (.ref mo), .val (.ref b2)] [(.ref d)]))
  refine OwnGo.fwd (fun tq' kq' => XS.iconst X2.here hx rfl (hb hby d24_26) kq') ?_
  show OwnGo _ _ _ _ (T2.setTop (mkF m 27 #[.val (.ref d), .val (.int (Int32.ofNat n)), .val (.ref mo), .val (.ref b2)] [(.int (0 : Int32)), (.ref d)]))
  refine OwnGo.fwd (fun tq' kq' => XS.aloadN X2.here hx rfl (hb hby d24_27) rfl rfl kq') ?_
  show OwnGo _ _ _ _ (T2.setTop (mkF m 28 #[.val (.ref d), .val (.int (Int32.ofNat n)), .val (.ref mo), .val (.ref b2)] [(.ref b2), (.int (0 : Int32)), (.ref d)]))
  refine OwnGo.fwd (fun tq' kq' => XS.iconst X2.here hx rfl (hb hby d24_28) kq') ?_
  show OwnGo _ _ _ _ (T2.setTop (mkF m 29 #[.val (.ref d), .val (.int (Int32.ofNat n)), .val (.ref mo), .val (.ref b2)] [(.int (0 : Int32)), (.ref b2), (.int (0 : Int32)), (.ref d)]))
  refine OwnGo.fwd (fun tq' kq' => XS.aloadN X2.here hx rfl (hb hby d24_29) rfl rfl kq') ?_
  show OwnGo _ _ _ _ (T2.setTop (mkF m 30 #[.val (.ref d), .val (.int (Int32.ofNat n)), .val (.ref mo), .val (.ref b2)] [(.ref d), (.int (0 : Int32)), (.ref b2), (.int (0 : Int32)), (.ref d)]))
  refine OwnGo.fwd (fun tq' kq' => own_lenO X2 hx hZ e2 O_d (g := (mkF m 30 #[.val (.ref d), .val (.int (Int32.ofNat n)), .val (.ref mo), .val (.ref b2)] [(.ref d), (.int (0 : Int32)), (.ref b2), (.int (0 : Int32)), (.ref d)])) rfl rfl (hb hby d24_30) tq' kq') ?_
  show OwnGo _ _ _ _ (T2.setTop (mkF m 31 #[.val (.ref d), .val (.int (Int32.ofNat n)), .val (.ref mo), .val (.ref b2)] [(.int (Int32.ofNat u)), (.int (0 : Int32)), (.ref b2), (.int (0 : Int32)), (.ref d)]))
  refine OwnGo.fwd (fun tq' kq' => XS.iloadN X2.here hx rfl (hb hby d24_31) rfl kq') ?_
  show OwnGo _ _ _ _ (T2.setTop (mkF m 32 #[.val (.ref d), .val (.int (Int32.ofNat n)), .val (.ref mo), .val (.ref b2)] [(.int (Int32.ofNat n)), (.int (Int32.ofNat u)), (.int (0 : Int32)), (.ref b2), (.int (0 : Int32)), (.ref d)]))
  obtain ⟨_, _, ⟨T3, L3, k3, n3⟩, -, X3, ⟨Lc3, hQ3, l3, y3, z3⟩, st3⟩ := Jvm.LawKit.callS X2 hx (y := (⟨"java/lang/Math", "min", "(II)I"⟩ : MethodName)) hown (mvT hZ (hw _ (List.mem_of_getElem? (i := 199) rfl))) (mvT hZ (hw _ (List.mem_of_getElem? (i := 200) rfl))) (mvT hZ (hw _ (List.mem_of_getElem? (i := 109) rfl))) (mvT hZ (hw _ (List.mem_of_getElem? (i := 201) rfl))) (by decide) (backOf (W := 4) (rm25 l Z a0 hw [] u n h2 n0 Zs (by omega) (by omega) hle) hZ (hw _ (List.mem_of_getElem? (i := 201) rfl)) (hw _ (List.mem_of_getElem? (i := 109) rfl)) (by decide) (by decide)) (g := (mkF m 32 #[.val (.ref d), .val (.int (Int32.ofNat n)), .val (.ref mo), .val (.ref b2)] [(.int (Int32.ofNat n)), (.int (Int32.ofNat u)), (.int (0 : Int32)), (.ref b2), (.int (0 : Int32)), (.ref d)])) rfl (by rw [hml]; rfl) (argsL := [(.int (Int32.ofNat u)), (.int (Int32.ofNat n))]) (rest := [(.int (0 : Int32)), (.ref b2), (.int (0 : Int32)), (.ref d)]) (lenOf pd_10 rfl) rfl (by show 2 * 0 + _ ≤ _; exact Nat.le_of_eq rfl) (hb hby d24_32) (fun _ _ => ⟨rfl, e2, (by decide : 1 + 0 ≤ _), (by decide : 2 + 0 ≤ _)⟩)
  dsimp only [Pt.U, Pt.locs, Pt.cells, Pt.slots] at X3 l3 y3 z3 st3 hQ3
  subst l3 y3 z3
  obtain ⟨rfl, N3q, e3⟩ := hQ3
  have N := Fr.app N N3q
  refine OwnGo.fwd st3 ?_
  show OwnGo _ _ _ _ (T3.setTop (mkF m 35 #[.val (.ref d), .val (.int (Int32.ofNat n)), .val (.ref mo), .val (.ref b2)] [(.int (Int32.ofNat n)), (.int (0 : Int32)), (.ref b2), (.int (0 : Int32)), (.ref d)]))
  obtain ⟨T4, h4, L4, X4, e4, N4, K4, O4, st4⟩ := own_cpO X3 hx hZ hown (hw _ (List.mem_of_getElem? (i := 202) rfl)) (hw _ (List.mem_of_getElem? (i := 205) rfl)) (hw _ (List.mem_of_getElem? (i := 203) rfl)) (hw _ (List.mem_of_getElem? (i := 204) rfl)) (hw _ (List.mem_of_getElem? (i := 113) rfl)) e3 O_d O_b2 (q := n) hle (Nat.le_refl _) N g_b2 (g := (mkF m 35 #[.val (.ref d), .val (.int (Int32.ofNat n)), .val (.ref mo), .val (.ref b2)] [(.int (Int32.ofNat n)), (.int (0 : Int32)), (.ref b2), (.int (0 : Int32)), (.ref d)])) rfl (by rw [hml]; rfl) rfl (hb hby d24_35) (by decide) (W := 0) (by show 2 * 0 + _ ≤ _; exact Nat.le_of_eq rfl) (by decide)
  have N := N4
  have Zs := Nat.le_trans Zs K4.1
  have O_d := O_d.keep K4 (ninS ne_d_b2 nin0)
  have K := K.trans K4 (allS (Or.inr sz_b2) all0)
  have O_b2 := O4
  refine OwnGo.fwd st4 ?_
  show OwnGo _ _ _ _ (T4.setTop (mkF m 38 #[.val (.ref d), .val (.int (Int32.ofNat n)), .val (.ref mo), .val (.ref b2)] []))
  refine OwnGo.fwd (fun tq' kq' => XS.aloadN X4.here hx rfl (hb hby d24_38) rfl rfl kq') ?_
  show OwnGo _ _ _ _ (T4.setTop (mkF m 39 #[.val (.ref d), .val (.int (Int32.ofNat n)), .val (.ref mo), .val (.ref b2)] [(.ref b2)]))
  exact own_retA X4 hlk hx Bd.returns rfl rfl (hb hby d24_39) (by decide) (by decide) e4 ⟨N, K, b2, rfl, sz_b2, O_b2⟩
theorem d23_0 : decode jdk_65_method_119_code 0 = .ok (.aload_n 0, 1) := by decide +kernel
theorem d23_1 : decode jdk_65_method_119_code 1 = .ok (.iload_n 1, 1) := by decide +kernel
theorem d23_2 : decode jdk_65_method_119_code 2 = .ok (.aload_n 0, 1) := by decide +kernel
theorem d23_3 : decode jdk_65_method_119_code 3 = .ok (.invokevirtual 86, 3) := by decide +kernel
theorem d23_6 : decode jdk_65_method_119_code 6 = .ok (.invokestatic 300, 3) := by decide +kernel
theorem d23_9 : decode jdk_65_method_119_code 9 = .ok (.areturn, 1) := by decide +kernel
theorem pn_23 : plainFor (⟨"java/util/Arrays", "copyOf", "([Ljava/lang/Object;I)[Ljava/lang/Object;"⟩ : MethodName) = true := plainFor_of_name (by first | (simp [plainName, overriddenIn]; done) | decide +kernel)
theorem ef_23 (m : MethodId) (x0 : Addr) (x1 : Int32) : entryFrame m #[(.ref x0), (.int x1)] 2 = mkF m 0 #[.val (.ref x0), .val (.int x1)] [] := by first | (simp [entryFrame, mkF, argsToLocals, Value.category, maxLocals]; done) | rfl
def Q23 (Z : State) (d : Addr) (mo : Addr) (u : Nat) (n : Nat) (h0 : Heap) (n0 : Nat) (v : Option Value) (h : Heap) (L : List Loc) : Prop := Fr n0 L ∧ Keep h0 h [] ∧ ∃ t, v = some (.ref t) ∧ h0.size ≤ t ∧ OwnOA Z h t n
set_option maxRecDepth 65536 in
set_option maxHeartbeats 40000000 in
theorem rm23 (l : Launch) (Z : State) (a0 : Array Value) (hw : ∀ d ∈ tables_1, d.before a0 Z = true) (ws : List Jvm.Cond) (d : Addr) (mo : Addr) (u : Nat) (n : Nat) (h0 : Heap) (n0 : Nat) (Z0 : n0 ≤ h0.size) (O_d : OwnOA Z h0 d u) (hle : n ≤ u) (hn2 : n ≤ 2) (hu : u ≤ 10) (M_mo : Mir Z "[Ljava/lang/Object;" mo) :
    MetFree l (⟨"java/util/Arrays", "copyOf", "([Ljava/lang/Object;I)[Ljava/lang/Object;"⟩ : MethodName) (head1 (Jvm.Cond.code (⟨"java/util/Arrays", "copyOf", "([Ljava/lang/Object;I)[Ljava/lang/Object;"⟩ : MethodName) jdk_65_method_119_code 2 (some (.array (.object "java/lang/Object"))) :: ws) ({ frames := 2, cells := 1, slots := 2, locals := 45 } : Room)) (fun arr' U => arr' = #[(.ref d), (.int (Int32.ofNat n))] ∧ Z.Warmed39 U.vm ∧ U.heap = h0) (fun _ _ _ _ _ => True) (fun _ U o U' => ∃ v L, o = .returned v ∧ (Q23 Z d mo u n h0 n0) v U'.heap L ∧ FrameEnd U o U' L ({ frames := 2, cells := 1, slots := 2, locals := 45 } : Room).cells ({ frames := 2, cells := 1, slots := 2, locals := 45 } : Room).slots) := by
  refine MetFree.of_bodySF pn_23 hisR ?_
  intro p e s m args below meth c s₁ Bd hml0 hP hK
  obtain ⟨rfl, hZ, hh⟩ := hP
  have hx := Bd.exec
  have hby := Bd.bytes
  have hlk : meth.locks = false := BodyLoose.notSynchronized Bd
  have hml : c.maxLocals = 2 := hml0
  have hown : s.vm.findClass "java/util/Arrays" = some m.cls := findClass_of_methodNamed Bd.named
  have hnm := (name_of_methodNamed Bd.named Bd.method).1
  have X0 : Stand p l e ({ frames := 2, cells := 1, slots := 2, locals := 45 } : Room) s m #[(.ref d), (.int (Int32.ofNat n))] below meth c s₁ [] 0 0 := Stand.of_body Bd
  have e0 : s₁.heap = h0 := by rw [← hh, Bd.state]; rfl
  have N := Fr.nil n0
  have Zs := Z0
  change OwnGo p.tables e below (OwnEnd s (Q23 Z d mo u n h0 n0) ({ frames := 2, cells := 1, slots := 2, locals := 45 } : Room).cells ({ frames := 2, cells := 1, slots := 2, locals := 45 } : Room).slots) _
  refine OwnGo.fwd (fun tq' kq' => castTop (ef_23 m d (Int32.ofNat n)) kq') ?_
  show OwnGo _ _ _ _ (s₁.setTop (mkF m 0 #[.val (.ref d), .val (.int (Int32.ofNat n))] []))
  have K : Keep h0 h0 [] := Keep.refl _ _
  refine OwnGo.fwd (fun tq' kq' => XS.aloadN X0.here hx rfl (hb hby d23_0) rfl rfl kq') ?_
  show OwnGo _ _ _ _ (s₁.setTop (mkF m 1 #[.val (.ref d), .val (.int (Int32.ofNat n))] [(.ref d)]))
  refine OwnGo.fwd (fun tq' kq' => XS.iloadN X0.here hx rfl (hb hby d23_1) rfl kq') ?_
  show OwnGo _ _ _ _ (s₁.setTop (mkF m 2 #[.val (.ref d), .val (.int (Int32.ofNat n))] [(.int (Int32.ofNat n)), (.ref d)]))
  refine OwnGo.fwd (fun tq' kq' => XS.aloadN X0.here hx rfl (hb hby d23_2) rfl rfl kq') ?_
  show OwnGo _ _ _ _ (s₁.setTop (mkF m 3 #[.val (.ref d), .val (.int (Int32.ofNat n))] [(.ref d), (.int (Int32.ofNat n)), (.ref d)]))
  obtain ⟨T1, X1, e1, st1⟩ := gcls X0 hx hZ hown (hw _ (List.mem_of_getElem? (i := 188) rfl)) (hw _ (List.mem_of_getElem? (i := 189) rfl)) (hw _ (List.mem_of_getElem? (i := 58) rfl)) (hw _ (List.mem_of_getElem? (i := 191) rfl)) (hw _ (List.mem_of_getElem? (i := 190) rfl)) (hw _ (List.mem_of_getElem? (i := 192) rfl)) e0 O_d.exa M_mo (g := (mkF m 3 #[.val (.ref d), .val (.int (Int32.ofNat n))] [(.ref d), (.int (Int32.ofNat n)), (.ref d)])) rfl (by rw [hml]; rfl) rfl (hb hby d23_3) (by decide) (W := 2) (by show 2 * 0 + _ ≤ _; exact Nat.le_of_eq rfl) (by decide)
  refine OwnGo.fwd st1 ?_
  show OwnGo _ _ _ _ (T1.setTop (mkF m 6 #[.val (.ref d), .val (.int (Int32.ofNat n))] [(.ref mo), (.int (Int32.ofNat n)), (.ref d)]))
  obtain ⟨_, _, ⟨T2, L2, k2, n2⟩, -, X2, ⟨Lc2, hQ2, l2, y2, z2⟩, st2⟩ := Jvm.LawKit.callS X1 hx (y := (⟨"java/util/Arrays", "copyOf", "([Ljava/lang/Object;ILjava/lang/Class;)[Ljava/lang/Object;"⟩ : MethodName)) hown (mvT hZ (hw _ (List.mem_of_getElem? (i := 194) rfl))) (mvT hZ (hw _ (List.mem_of_getElem? (i := 195) rfl))) (mvT hZ (hw _ (List.mem_of_getElem? (i := 186) rfl))) (mvT hZ (hw _ (List.mem_of_getElem? (i := 196) rfl))) (by decide) (backOf (W := 0) (rm24 l Z a0 hw [] d mo u n h0 n0 Zs O_d hle hn2 hu M_mo) hZ (hw _ (List.mem_of_getElem? (i := 196) rfl)) (hw _ (List.mem_of_getElem? (i := 186) rfl)) (by decide) (by decide)) (g := (mkF m 6 #[.val (.ref d), .val (.int (Int32.ofNat n))] [(.ref mo), (.int (Int32.ofNat n)), (.ref d)])) rfl (by rw [hml]; rfl) (argsL := [(.ref d), (.int (Int32.ofNat n)), (.ref mo)]) (rest := []) (lenOf pd_17 rfl) rfl (by show 2 * 0 + _ ≤ _; exact Nat.le_of_eq rfl) (hb hby d23_6) (fun _ _ => ⟨rfl, e1, (by decide : 0 + 1 ≤ _), (by decide : 0 + 2 ≤ _)⟩)
  dsimp only [Pt.U, Pt.locs, Pt.cells, Pt.slots] at X2 l2 y2 z2 st2 hQ2
  subst l2 y2 z2
  have lt2_d := O_d.lt
  obtain ⟨h2, eh2⟩ : ∃ z, z = T2.heap := ⟨_, rfl⟩
  rw [← eh2] at hQ2
  obtain ⟨N2q, K2, t2, rfl, sq2, O_t2⟩ := hQ2
  have ne_d_t2 : d ≠ t2 := Nat.ne_of_lt (Nat.lt_of_lt_of_le lt2_d sq2)
  have g_t2 : n0 ≤ t2 := Nat.le_trans Zs sq2
  have sz_t2 : h0.size ≤ t2 := Nat.le_trans K.1 sq2
  have N := Fr.app N N2q
  have Zs := Nat.le_trans Zs K2.1
  have O_d := O_d.keep K2 nin0
  have K := K.trans K2 all0
  refine OwnGo.fwd st2 ?_
  show OwnGo _ _ _ _ (T2.setTop (mkF m 9 #[.val (.ref d), .val (.int (Int32.ofNat n))] [(.ref t2)]))
  exact own_retA X2 hlk hx Bd.returns rfl rfl (hb hby d23_9) (by decide) (by decide) eh2.symm ⟨N, K, t2, rfl, sz_t2, O_t2⟩
theorem d22_0 : decode jdk_38_method_16_code 0 = .ok (.aload_n 0, 1) := by decide +kernel
theorem d22_1 : decode jdk_38_method_16_code 1 = .ok (.getfield 9, 3) := by decide +kernel
theorem d22_4 : decode jdk_38_method_16_code 4 = .ok (.aload_n 0, 1) := by decide +kernel
theorem d22_5 : decode jdk_38_method_16_code 5 = .ok (.getfield 48, 3) := by decide +kernel
theorem d22_8 : decode jdk_38_method_16_code 8 = .ok (.invokestatic 66, 3) := by decide +kernel
theorem d22_11 : decode jdk_38_method_16_code 11 = .ok (.areturn, 1) := by decide +kernel
theorem pn_22 : plainFor (⟨"java/util/ArrayList", "toArray", "()[Ljava/lang/Object;"⟩ : MethodName) = true := plainFor_of_name (by first | (simp [plainName, overriddenIn]; done) | decide +kernel)
theorem ef_22 (m : MethodId) (x0 : Addr) : entryFrame m #[(.ref x0)] 1 = mkF m 0 #[.val (.ref x0)] [] := by first | (simp [entryFrame, mkF, argsToLocals, Value.category, maxLocals]; done) | rfl
def Q22 (Z : State) (a : Addr) (d : Addr) (mo : Addr) (u : Nat) (n : Nat) (h0 : Heap) (n0 : Nat) (v : Option Value) (h : Heap) (L : List Loc) : Prop := Fr n0 L ∧ Keep h0 h [] ∧ ∃ t, v = some (.ref t) ∧ h0.size ≤ t ∧ OwnOA Z h t n
set_option maxRecDepth 65536 in
set_option maxHeartbeats 40000000 in
theorem rm22 (l : Launch) (Z : State) (a0 : Array Value) (hw : ∀ d ∈ tables_1, d.before a0 Z = true) (ws : List Jvm.Cond) (a : Addr) (d : Addr) (mo : Addr) (u : Nat) (n : Nat) (h0 : Heap) (n0 : Nat) (Z0 : n0 ≤ h0.size) (F_elementData_a : Fld Z h0 a "java/util/ArrayList" "elementData" "[Ljava/lang/Object;" (.ref d)) (F_size_a : Fld Z h0 a "java/util/ArrayList" "size" "I" (.int (Int32.ofNat n))) (O_d : OwnOA Z h0 d u) (hle : n ≤ u) (hn2 : n ≤ 2) (hu : u ≤ 10) (M_mo : Mir Z "[Ljava/lang/Object;" mo) :
    MetFree l (⟨"java/util/ArrayList", "toArray", "()[Ljava/lang/Object;"⟩ : MethodName) (head1 (Jvm.Cond.code (⟨"java/util/ArrayList", "toArray", "()[Ljava/lang/Object;"⟩ : MethodName) jdk_38_method_16_code 1 (some (.array (.object "java/lang/Object"))) :: ws) ({ frames := 3, cells := 1, slots := 2, locals := 60 } : Room)) (fun arr' U => arr' = #[(.ref a)] ∧ Z.Warmed39 U.vm ∧ U.heap = h0) (fun _ _ _ _ _ => True) (fun _ U o U' => ∃ v L, o = .returned v ∧ (Q22 Z a d mo u n h0 n0) v U'.heap L ∧ FrameEnd U o U' L ({ frames := 3, cells := 1, slots := 2, locals := 60 } : Room).cells ({ frames := 3, cells := 1, slots := 2, locals := 60 } : Room).slots) := by
  refine MetFree.of_bodySF pn_22 hisR ?_
  intro p e s m args below meth c s₁ Bd hml0 hP hK
  obtain ⟨rfl, hZ, hh⟩ := hP
  have hx := Bd.exec
  have hby := Bd.bytes
  have hlk : meth.locks = false := BodyLoose.notSynchronized Bd
  have hml : c.maxLocals = 1 := hml0
  have hown : s.vm.findClass "java/util/ArrayList" = some m.cls := findClass_of_methodNamed Bd.named
  have hnm := (name_of_methodNamed Bd.named Bd.method).1
  have X0 : Stand p l e ({ frames := 3, cells := 1, slots := 2, locals := 60 } : Room) s m #[(.ref a)] below meth c s₁ [] 0 0 := Stand.of_body Bd
  have e0 : s₁.heap = h0 := by rw [← hh, Bd.state]; rfl
  have N := Fr.nil n0
  have Zs := Z0
  change OwnGo p.tables e below (OwnEnd s (Q22 Z a d mo u n h0 n0) ({ frames := 3, cells := 1, slots := 2, locals := 60 } : Room).cells ({ frames := 3, cells := 1, slots := 2, locals := 60 } : Room).slots) _
  refine OwnGo.fwd (fun tq' kq' => castTop (ef_22 m a) kq') ?_
  show OwnGo _ _ _ _ (s₁.setTop (mkF m 0 #[.val (.ref a)] []))
  have K : Keep h0 h0 [] := Keep.refl _ _
  refine OwnGo.fwd (fun tq' kq' => XS.aloadN X0.here hx rfl (hb hby d22_0) rfl rfl kq') ?_
  show OwnGo _ _ _ _ (s₁.setTop (mkF m 1 #[.val (.ref a)] [(.ref a)]))
  obtain ⟨T1, X1, e1, st1⟩ := getF X0 hx hZ hown (host := "") (Or.inl (hw _ (List.mem_of_getElem? (i := 24) rfl))) Via.refl e0 F_elementData_a (g := (mkF m 1 #[.val (.ref a)] [(.ref a)])) rfl rfl (hb hby d22_1)
  refine OwnGo.fwd st1 ?_
  show OwnGo _ _ _ _ (T1.setTop (mkF m 4 #[.val (.ref a)] [(.ref d)]))
  refine OwnGo.fwd (fun tq' kq' => XS.aloadN X1.here hx rfl (hb hby d22_4) rfl rfl kq') ?_
  show OwnGo _ _ _ _ (T1.setTop (mkF m 5 #[.val (.ref a)] [(.ref a), (.ref d)]))
  obtain ⟨T2, X2, e2, st2⟩ := getF X1 hx hZ hown (host := "") (Or.inl (hw _ (List.mem_of_getElem? (i := 90) rfl))) Via.refl e1 F_size_a (g := (mkF m 5 #[.val (.ref a)] [(.ref a), (.ref d)])) rfl rfl (hb hby d22_5)
  refine OwnGo.fwd st2 ?_
  show OwnGo _ _ _ _ (T2.setTop (mkF m 8 #[.val (.ref a)] [(.int (Int32.ofNat n)), (.ref d)]))
  obtain ⟨_, _, ⟨T3, L3, k3, n3⟩, -, X3, ⟨Lc3, hQ3, l3, y3, z3⟩, st3⟩ := Jvm.LawKit.callS X2 hx (y := (⟨"java/util/Arrays", "copyOf", "([Ljava/lang/Object;I)[Ljava/lang/Object;"⟩ : MethodName)) hown (mvT hZ (hw _ (List.mem_of_getElem? (i := 184) rfl))) (mvT hZ (hw _ (List.mem_of_getElem? (i := 185) rfl))) (mvT hZ (hw _ (List.mem_of_getElem? (i := 186) rfl))) (mvT hZ (hw _ (List.mem_of_getElem? (i := 187) rfl))) (by decide) (backOf (W := 0) (rm23 l Z a0 hw [] d mo u n h0 n0 Zs O_d hle hn2 hu M_mo) hZ (hw _ (List.mem_of_getElem? (i := 187) rfl)) (hw _ (List.mem_of_getElem? (i := 186) rfl)) (by decide) (by decide)) (g := (mkF m 8 #[.val (.ref a)] [(.int (Int32.ofNat n)), (.ref d)])) rfl (by rw [hml]; rfl) (argsL := [(.ref d), (.int (Int32.ofNat n))]) (rest := []) (lenOf pd_16 rfl) rfl (by show 2 * 0 + _ ≤ _; exact Nat.le_of_eq rfl) (hb hby d22_8) (fun _ _ => ⟨rfl, e2, (by decide : 0 + 1 ≤ _), (by decide : 0 + 2 ≤ _)⟩)
  dsimp only [Pt.U, Pt.locs, Pt.cells, Pt.slots] at X3 l3 y3 z3 st3 hQ3
  subst l3 y3 z3
  have lt3_a := F_elementData_a.lt
  have lt3_d := O_d.lt
  obtain ⟨h3, eh3⟩ : ∃ z, z = T3.heap := ⟨_, rfl⟩
  rw [← eh3] at hQ3
  obtain ⟨N3q, K3, t3, rfl, sq3, O_t3⟩ := hQ3
  have ne_a_t3 : a ≠ t3 := Nat.ne_of_lt (Nat.lt_of_lt_of_le lt3_a sq3)
  have ne_d_t3 : d ≠ t3 := Nat.ne_of_lt (Nat.lt_of_lt_of_le lt3_d sq3)
  have g_t3 : n0 ≤ t3 := Nat.le_trans Zs sq3
  have sz_t3 : h0.size ≤ t3 := Nat.le_trans K.1 sq3
  have N := Fr.app N N3q
  have Zs := Nat.le_trans Zs K3.1
  have F_elementData_a := F_elementData_a.keep K3 nin0
  have F_size_a := F_size_a.keep K3 nin0
  have O_d := O_d.keep K3 nin0
  have K := K.trans K3 all0
  refine OwnGo.fwd st3 ?_
  show OwnGo _ _ _ _ (T3.setTop (mkF m 11 #[.val (.ref a)] [(.ref t3)]))
  exact own_retA X3 hlk hx Bd.returns rfl rfl (hb hby d22_11) (by decide) (by decide) eh3.symm ⟨N, K, t3, rfl, sz_t3, O_t3⟩
theorem d21_0 : decode jdk_38_method_3_code 0 = .ok (.aload_n 0, 1) := by decide +kernel
theorem d21_1 : decode jdk_38_method_3_code 1 = .ok (.invokespecial 1, 3) := by decide +kernel
theorem d21_4 : decode jdk_38_method_3_code 4 = .ok (.aload_n 1, 1) := by decide +kernel
theorem d21_5 : decode jdk_38_method_3_code 5 = .ok (.invokeinterface 42 1, 5) := by decide +kernel
theorem d21_10 : decode jdk_38_method_3_code 10 = .ok (.astore_n 2, 1) := by decide +kernel
theorem d21_11 : decode jdk_38_method_3_code 11 = .ok (.aload_n 0, 1) := by decide +kernel
theorem d21_12 : decode jdk_38_method_3_code 12 = .ok (.aload_n 2, 1) := by decide +kernel
theorem d21_13 : decode jdk_38_method_3_code 13 = .ok (.arraylength, 1) := by decide +kernel
theorem d21_14 : decode jdk_38_method_3_code 14 = .ok (.dup_x1, 1) := by decide +kernel
theorem d21_15 : decode jdk_38_method_3_code 15 = .ok (.putfield 48, 3) := by decide +kernel
theorem d21_18 : decode jdk_38_method_3_code 18 = .ok (.ifCond .eq 39, 3) := by decide +kernel
theorem d21_21 : decode jdk_38_method_3_code 21 = .ok (.aload_n 1, 1) := by decide +kernel
theorem d21_22 : decode jdk_38_method_3_code 22 = .ok (.invokeinterface 52 1, 5) := by decide +kernel
theorem d21_27 : decode jdk_38_method_3_code 27 = .ok (.ldc 10, 2) := by decide +kernel
theorem d21_29 : decode jdk_38_method_3_code 29 = .ok (.if_acmp .ne 11, 3) := by decide +kernel
theorem d21_32 : decode jdk_38_method_3_code 32 = .ok (.aload_n 0, 1) := by decide +kernel
theorem d21_33 : decode jdk_38_method_3_code 33 = .ok (.aload_n 2, 1) := by decide +kernel
theorem d21_34 : decode jdk_38_method_3_code 34 = .ok (.putfield 9, 3) := by decide +kernel
theorem d21_37 : decode jdk_38_method_3_code 37 = .ok (.goto 27, 3) := by decide +kernel
theorem d21_40 : decode jdk_38_method_3_code 40 = .ok (.aload_n 0, 1) := by decide +kernel
theorem d21_41 : decode jdk_38_method_3_code 41 = .ok (.aload_n 2, 1) := by decide +kernel
theorem d21_42 : decode jdk_38_method_3_code 42 = .ok (.aload_n 0, 1) := by decide +kernel
theorem d21_43 : decode jdk_38_method_3_code 43 = .ok (.getfield 48, 3) := by decide +kernel
theorem d21_46 : decode jdk_38_method_3_code 46 = .ok (.ldc 56, 2) := by decide +kernel
theorem d21_48 : decode jdk_38_method_3_code 48 = .ok (.invokestatic 57, 3) := by decide +kernel
theorem d21_51 : decode jdk_38_method_3_code 51 = .ok (.putfield 9, 3) := by decide +kernel
theorem d21_54 : decode jdk_38_method_3_code 54 = .ok (.goto 10, 3) := by decide +kernel
theorem d21_57 : decode jdk_38_method_3_code 57 = .ok (.aload_n 0, 1) := by decide +kernel
theorem d21_58 : decode jdk_38_method_3_code 58 = .ok (.getstatic 15, 3) := by decide +kernel
theorem d21_61 : decode jdk_38_method_3_code 61 = .ok (.putfield 9, 3) := by decide +kernel
theorem d21_64 : decode jdk_38_method_3_code 64 = .ok (.return_, 1) := by decide +kernel
theorem pn_21 : plainFor (⟨"java/util/ArrayList", "<init>", "(Ljava/util/Collection;)V"⟩ : MethodName) = true := plainFor_of_name (by first | (simp [plainName, overriddenIn]; done) | decide +kernel)
theorem ef_21 (m : MethodId) (x0 : Addr) (x1 : Addr) : entryFrame m #[(.ref x0), (.ref x1)] 3 = mkF m 0 #[.val (.ref x0), .val (.ref x1), .unset] [] := by first | (simp [entryFrame, mkF, argsToLocals, Value.category, maxLocals]; done) | rfl
def Q21 (Z : State) (b : Addr) (a : Addr) (em : Addr) (ma : Addr) (d : Addr) (mo : Addr) (u : Nat) (n : Nat) (h0 : Heap) (n0 : Nat) (v : Option Value) (h : Heap) (L : List Loc) : Prop := v = none ∧ Fr n0 L ∧ Keep h0 h [b] ∧ Exa Z h b "java/util/ArrayList"
set_option maxRecDepth 65536 in
set_option maxHeartbeats 40000000 in
theorem rm21 (l : Launch) (Z : State) (a0 : Array Value) (hw : ∀ d ∈ tables_1, d.before a0 Z = true) (ws : List Jvm.Cond) (b : Addr) (a : Addr) (em : Addr) (ma : Addr) (d : Addr) (mo : Addr) (u : Nat) (n : Nat) (h0 : Heap) (n0 : Nat) (Z0 : n0 ≤ h0.size) (E_b : Exa Z h0 b "java/util/ArrayList") (F_modCount_b : Fld Z h0 b "java/util/AbstractList" "modCount" "I" (.int (0 : Int32))) (F_elementData_b : Fld Z h0 b "java/util/ArrayList" "elementData" "[Ljava/lang/Object;" .null) (F_size_b : Fld Z h0 b "java/util/ArrayList" "size" "I" (.int (0 : Int32))) (g_b : n0 ≤ b) (E_a : Exa Z h0 a "java/util/ArrayList") (F_elementData_a : Fld Z h0 a "java/util/ArrayList" "elementData" "[Ljava/lang/Object;" (.ref d)) (F_size_a : Fld Z h0 a "java/util/ArrayList" "size" "I" (.int (Int32.ofNat n))) (O_d : OwnOA Z h0 d u) (hle : n ≤ u) (hn2 : n ≤ 2) (hu : u ≤ 10) (ne_b_a : b ≠ a) (ne_b_d : b ≠ d) (S0_EMPTY_ELEMENTDATA : Sta Z h0 "java/util/ArrayList" "EMPTY_ELEMENTDATA" "[Ljava/lang/Object;" (.ref em)) (M_mo : Mir Z "[Ljava/lang/Object;" mo) (M_ma : Mir Z "java/util/ArrayList" ma) :
    MetFree l (⟨"java/util/ArrayList", "<init>", "(Ljava/util/Collection;)V"⟩ : MethodName) (head1 (Jvm.Cond.code (⟨"java/util/ArrayList", "<init>", "(Ljava/util/Collection;)V"⟩ : MethodName) jdk_38_method_3_code 3 none :: ws) ({ frames := 4, cells := 1, slots := 2, locals := 75 } : Room)) (fun arr' U => arr' = #[(.ref b), (.ref a)] ∧ Z.Warmed39 U.vm ∧ U.heap = h0) (fun _ _ _ _ _ => True) (fun _ U o U' => ∃ v L, o = .returned v ∧ (Q21 Z b a em ma d mo u n h0 n0) v U'.heap L ∧ FrameEnd U o U' L ({ frames := 4, cells := 1, slots := 2, locals := 75 } : Room).cells ({ frames := 4, cells := 1, slots := 2, locals := 75 } : Room).slots) := by
  refine MetFree.of_bodySF pn_21 hisR ?_
  intro p e s m args below meth c s₁ Bd hml0 hP hK
  obtain ⟨rfl, hZ, hh⟩ := hP
  have hx := Bd.exec
  have hby := Bd.bytes
  have hlk : meth.locks = false := BodyLoose.notSynchronized Bd
  have hml : c.maxLocals = 3 := hml0
  have hown : s.vm.findClass "java/util/ArrayList" = some m.cls := findClass_of_methodNamed Bd.named
  have hnm := (name_of_methodNamed Bd.named Bd.method).1
  have X0 : Stand p l e ({ frames := 4, cells := 1, slots := 2, locals := 75 } : Room) s m #[(.ref b), (.ref a)] below meth c s₁ [] 0 0 := Stand.of_body Bd
  have e0 : s₁.heap = h0 := by rw [← hh, Bd.state]; rfl
  have N := Fr.nil n0
  have Zs := Z0
  change OwnGo p.tables e below (OwnEnd s (Q21 Z b a em ma d mo u n h0 n0) ({ frames := 4, cells := 1, slots := 2, locals := 75 } : Room).cells ({ frames := 4, cells := 1, slots := 2, locals := 75 } : Room).slots) _
  refine OwnGo.fwd (fun tq' kq' => castTop (ef_21 m b a) kq') ?_
  show OwnGo _ _ _ _ (s₁.setTop (mkF m 0 #[.val (.ref b), .val (.ref a), .unset] []))
  have K : Keep h0 h0 [b] := Keep.refl _ _
  have E0_b := E_b
  refine OwnGo.fwd (fun tq' kq' => XS.aloadN X0.here hx rfl (hb hby d21_0) rfl rfl kq') ?_
  show OwnGo _ _ _ _ (s₁.setTop (mkF m 1 #[.val (.ref b), .val (.ref a), .unset] [(.ref b)]))
  obtain ⟨_, _, ⟨T1, L1, k1, n1⟩, -, X1, ⟨Lc1, hQ1, l1, y1, z1⟩, st1⟩ := X0.specialBack hx (y := (⟨"java/util/AbstractList", "<init>", "()V"⟩ : MethodName)) rfl hown (mvT hZ (hw _ (List.mem_of_getElem? (i := 6) rfl))) (mvT hZ (hw _ (List.mem_of_getElem? (i := 7) rfl))) (mvT hZ (hw _ (List.mem_of_getElem? (i := 11) rfl))) (by decide) (backOf (W := 0) (rm2 l Z a0 hw [] b h0 n0 Zs E_b F_modCount_b F_elementData_b F_size_b g_b) hZ (hw _ (List.mem_of_getElem? (i := 11) rfl)) (hw _ (List.mem_of_getElem? (i := 10) rfl)) (by decide) (by decide)) (g := (mkF m 1 #[.val (.ref b), .val (.ref a), .unset] [(.ref b)])) rfl (by rw [hml]; rfl) (Steps.refl _) (a := b) (argsL := []) (rest := []) (lenOf pd_0 rfl) rfl (by show 2 * 0 + _ ≤ _; exact Nat.le_of_eq rfl) (hb hby d21_1) (fun _ _ => ⟨rfl, e0, (by decide : 0 + 0 ≤ _), (by decide : 0 + 0 ≤ _)⟩)
  dsimp only [Pt.U, Pt.locs, Pt.cells, Pt.slots] at X1 l1 y1 z1 st1 hQ1
  subst l1 y1 z1
  obtain ⟨h1, eh1⟩ : ∃ z, z = T1.heap := ⟨_, rfl⟩
  rw [← eh1] at hQ1
  obtain ⟨rfl, N1q, K1, E_b, F_modCount_b, F_elementData_b, F_size_b⟩ := hQ1
  have N := Fr.app N N1q
  have Zs := Nat.le_trans Zs K1.1
  have E_a := E_a.keep K1
  have F_elementData_a := F_elementData_a.keep K1 (ninS (Ne.symm ne_b_a) nin0)
  have F_size_a := F_size_a.keep K1 (ninS (Ne.symm ne_b_a) nin0)
  have O_d := O_d.keep K1 (ninS (Ne.symm ne_b_d) nin0)
  have K := K.trans K1 (allS (Or.inl (List.mem_of_getElem? (i := 0) rfl)) all0)
  refine OwnGo.thru st1 ?_
  show OwnGo _ _ _ _ (T1.setTop (mkF m 4 #[.val (.ref b), .val (.ref a), .unset] []))
  refine OwnGo.fwd (fun tq' kq' => XS.aloadN X1.here hx rfl (hb hby d21_4) rfl rfl kq') ?_
  show OwnGo _ _ _ _ (T1.setTop (mkF m 5 #[.val (.ref b), .val (.ref a), .unset] [(.ref a)]))
  obtain ⟨cq2, kq2, q2a, q2b, q2c⟩ := isOf hZ eh1.symm E_a
  obtain ⟨_, _, ⟨T2, L2, k2, n2⟩, -, X2, ⟨Lc2, hQ2, l2, y2, z2⟩, st2⟩ := X1.interfaceBack hx (xi := (⟨"java/util/Collection", "toArray", "()[Ljava/lang/Object;"⟩ : MethodName)) (y := (⟨"java/util/ArrayList", "toArray", "()[Ljava/lang/Object;"⟩ : MethodName)) (C := "java/util/ArrayList") hown (mvT hZ (hw _ (List.mem_of_getElem? (i := 175) rfl))) (mvT hZ (hw _ (List.mem_of_getElem? (i := 176) rfl))) (mvT hZ (hw _ (List.mem_of_getElem? (i := 177) rfl))) (mvT hZ (hw _ (List.mem_of_getElem? (i := 178) rfl))) (mvT hZ (hw _ (List.mem_of_getElem? (i := 179) rfl))) (mvT hZ (hw _ (List.mem_of_getElem? (i := 180) rfl))) (mvT hZ (hw _ (List.mem_of_getElem? (i := 181) rfl))) (mvT hZ (hw _ (List.mem_of_getElem? (i := 182) rfl))) (by decide) (backOf (W := 0) (rm22 l Z a0 hw [] a d mo u n h1 n0 Zs F_elementData_a F_size_a O_d hle hn2 hu M_mo) hZ (hw _ (List.mem_of_getElem? (i := 183) rfl)) (hw _ (List.mem_of_getElem? (i := 2) rfl)) (by decide) (by decide)) q2a q2b q2c (g := (mkF m 5 #[.val (.ref b), .val (.ref a), .unset] [(.ref a)])) rfl (by rw [hml]; rfl) (Steps.refl _) (argsL := []) (rest := []) (lenOf pd_8 rfl) rfl (by show 2 * 0 + _ ≤ _; exact Nat.le_of_eq rfl) (hb hby d21_5) (fun _ _ => ⟨rfl, eh1.symm, (by decide : 0 + 1 ≤ _), (by decide : 0 + 2 ≤ _)⟩)
  dsimp only [Pt.U, Pt.locs, Pt.cells, Pt.slots] at X2 l2 y2 z2 st2 hQ2
  subst l2 y2 z2
  have lt2_b := E_b.lt
  have lt2_a := E_a.lt
  have lt2_d := O_d.lt
  obtain ⟨h2, eh2⟩ : ∃ z, z = T2.heap := ⟨_, rfl⟩
  rw [← eh2] at hQ2
  obtain ⟨N2q, K2, t2, rfl, sq2, O_t2⟩ := hQ2
  have ne_b_t2 : b ≠ t2 := Nat.ne_of_lt (Nat.lt_of_lt_of_le lt2_b sq2)
  have ne_a_t2 : a ≠ t2 := Nat.ne_of_lt (Nat.lt_of_lt_of_le lt2_a sq2)
  have ne_d_t2 : d ≠ t2 := Nat.ne_of_lt (Nat.lt_of_lt_of_le lt2_d sq2)
  have g_t2 : n0 ≤ t2 := Nat.le_trans Zs sq2
  have sz_t2 : h0.size ≤ t2 := Nat.le_trans K.1 sq2
  have N := Fr.app N N2q
  have Zs := Nat.le_trans Zs K2.1
  have E_b := E_b.keep K2
  have F_modCount_b := F_modCount_b.keep K2 nin0
  have F_elementData_b := F_elementData_b.keep K2 nin0
  have F_size_b := F_size_b.keep K2 nin0
  have E_a := E_a.keep K2
  have F_elementData_a := F_elementData_a.keep K2 nin0
  have F_size_a := F_size_a.keep K2 nin0
  have O_d := O_d.keep K2 nin0
  have K := K.trans K2 all0
  refine OwnGo.thru st2 ?_
  show OwnGo _ _ _ _ (T2.setTop (mkF m 10 #[.val (.ref b), .val (.ref a), .unset] [(.ref t2)]))
  refine OwnGo.fwd (fun tq' kq' => XS.astoreN X2.here hx rfl (hb hby d21_10) rfl rfl (l' := #[.val (.ref b), .val (.ref a), .val (.ref t2)]) rfl kq') ?_
  show OwnGo _ _ _ _ (T2.setTop (mkF m 11 #[.val (.ref b), .val (.ref a), .val (.ref t2)] []))
  refine OwnGo.fwd (fun tq' kq' => XS.aloadN X2.here hx rfl (hb hby d21_11) rfl rfl kq') ?_
  show OwnGo _ _ _ _ (T2.setTop (mkF m 12 #[.val (.ref b), .val (.ref a), .val (.ref t2)] [(.ref b)]))
  refine OwnGo.fwd (fun tq' kq' => XS.aloadN X2.here hx rfl (hb hby d21_12) rfl rfl kq') ?_
  show OwnGo _ _ _ _ (T2.setTop (mkF m 13 #[.val (.ref b), .val (.ref a), .val (.ref t2)] [(.ref t2), (.ref b)]))
  refine OwnGo.fwd (fun tq' kq' => own_lenO X2 hx hZ eh2.symm O_t2 (g := (mkF m 13 #[.val (.ref b), .val (.ref a), .val (.ref t2)] [(.ref t2), (.ref b)])) rfl rfl (hb hby d21_13) tq' kq') ?_
  show OwnGo _ _ _ _ (T2.setTop (mkF m 14 #[.val (.ref b), .val (.ref a), .val (.ref t2)] [(.int (Int32.ofNat n)), (.ref b)]))
  refine OwnGo.fwd (fun tq' kq' => XS.dupX1 X2.here hx rfl (hb hby d21_14) rfl rfl rfl kq') ?_
  show OwnGo _ _ _ _ (T2.setTop (mkF m 15 #[.val (.ref b), .val (.ref a), .val (.ref t2)] [(.int (Int32.ofNat n)), (.ref b), (.int (Int32.ofNat n))]))
  obtain ⟨T3, h3, X3, e3, W3, st3⟩ := putF X2 hx hZ hown (host := "") (Or.inl (hw _ (List.mem_of_getElem? (i := 90) rfl))) Via.refl eh2.symm F_size_b E_b (Or.inl (hw _ (List.mem_of_getElem? (i := 91) rfl))) (hw _ (List.mem_of_getElem? (i := 1) rfl)) (ty := .int) (by decide) rfl rfl (g := (mkF m 15 #[.val (.ref b), .val (.ref a), .val (.ref t2)] [(.int (Int32.ofNat n)), (.ref b), (.int (Int32.ofNat n))])) rfl rfl (hb hby d21_15)
  have E_b := E_b.wr W3
  have F_modCount_b := F_modCount_b.other W3 (Or.inr (slot_ne (Or.inl (hw _ (List.mem_of_getElem? (i := 22) rfl))) (Or.inl (hw _ (List.mem_of_getElem? (i := 91) rfl))) (by decide) (t := .int) (t' := .int) (by decide) (by decide)))
  have F_elementData_b := F_elementData_b.other W3 (Or.inr (slot_ne (Or.inl (hw _ (List.mem_of_getElem? (i := 25) rfl))) (Or.inl (hw _ (List.mem_of_getElem? (i := 91) rfl))) (by decide) (t := (.array (.object "java/lang/Object"))) (t' := .int) (by decide) (by decide)))
  have F_size_b := F_size_b.same W3
  have E_a := E_a.wr W3
  have F_elementData_a := F_elementData_a.other W3 (Or.inl (Ne.symm ne_b_a))
  have F_size_a := F_size_a.other W3 (Or.inl (Ne.symm ne_b_a))
  have O_d := O_d.other W3 (Ne.symm ne_b_d)
  have O_t2 := O_t2.other W3 (Ne.symm ne_b_t2)
  have K := K.wr W3 (Or.inl (List.mem_of_getElem? (i := 0) rfl))
  have Zs := Nat.le_trans Zs (Keep.of_wr W3).1
  have N := Fr.snoc X3 N g_b
  refine OwnGo.fwd st3 ?_
  show OwnGo _ _ _ _ (T3.setTop (mkF m 18 #[.val (.ref b), .val (.ref a), .val (.ref t2)] [(.int (Int32.ofNat n))]))
  by_cases hc18_4 : (Int32.ofNat n).toInt = 0
  · refine OwnGo.fwd (fun tq' kq' => XS.ifYes X3.here hx rfl (pc0 := 18) (pc' := 57) rfl (hb hby d21_18) rfl ((if0 _ _).trans (own_beq rfl (by decide) hc18_4).1) (by decide) (by decide) kq') ?_
    show OwnGo _ _ _ _ (T3.setTop (mkF m 57 #[.val (.ref b), .val (.ref a), .val (.ref t2)] []))
    refine OwnGo.fwd (fun tq' kq' => XS.aloadN X3.here hx rfl (hb hby d21_57) rfl rfl kq') ?_
    show OwnGo _ _ _ _ (T3.setTop (mkF m 58 #[.val (.ref b), .val (.ref a), .val (.ref t2)] [(.ref b)]))
    have S_EMPTY_ELEMENTDATA := own_stK S0_EMPTY_ELEMENTDATA K (allS ⟨_, E0_b⟩ all0)
    obtain ⟨T5, X5, e5, st5⟩ := getS2 X3 hx hZ hown (host := "") (Or.inl (hw _ (List.mem_of_getElem? (i := 206) rfl))) Via.refl e3 S_EMPTY_ELEMENTDATA (g := (mkF m 58 #[.val (.ref b), .val (.ref a), .val (.ref t2)] [(.ref b)])) rfl (hb hby d21_58)
    refine OwnGo.fwd st5 ?_
    show OwnGo _ _ _ _ (T5.setTop (mkF m 61 #[.val (.ref b), .val (.ref a), .val (.ref t2)] [(.ref em), (.ref b)]))
    obtain ⟨T6, h6, X6, e6, W6, st6⟩ := putF X5 hx hZ hown (host := "") (Or.inl (hw _ (List.mem_of_getElem? (i := 24) rfl))) Via.refl e5 F_elementData_b E_b (Or.inl (hw _ (List.mem_of_getElem? (i := 25) rfl))) (hw _ (List.mem_of_getElem? (i := 1) rfl)) (ty := (.array (.object "java/lang/Object"))) (by decide) rfl rfl (g := (mkF m 61 #[.val (.ref b), .val (.ref a), .val (.ref t2)] [(.ref em), (.ref b)])) rfl rfl (hb hby d21_61)
    have E_b := E_b.wr W6
    have F_modCount_b := F_modCount_b.other W6 (Or.inr (slot_ne (Or.inl (hw _ (List.mem_of_getElem? (i := 22) rfl))) (Or.inl (hw _ (List.mem_of_getElem? (i := 25) rfl))) (by decide) (t := .int) (t' := (.array (.object "java/lang/Object"))) (by decide) (by decide)))
    have F_elementData_b := F_elementData_b.same W6
    have F_size_b := F_size_b.other W6 (Or.inr (slot_ne (Or.inl (hw _ (List.mem_of_getElem? (i := 91) rfl))) (Or.inl (hw _ (List.mem_of_getElem? (i := 25) rfl))) (by decide) (t := .int) (t' := (.array (.object "java/lang/Object"))) (by decide) (by decide)))
    have E_a := E_a.wr W6
    have F_elementData_a := F_elementData_a.other W6 (Or.inl (Ne.symm ne_b_a))
    have F_size_a := F_size_a.other W6 (Or.inl (Ne.symm ne_b_a))
    have O_d := O_d.other W6 (Ne.symm ne_b_d)
    have O_t2 := O_t2.other W6 (Ne.symm ne_b_t2)
    have K := K.wr W6 (Or.inl (List.mem_of_getElem? (i := 0) rfl))
    have Zs := Nat.le_trans Zs (Keep.of_wr W6).1
    have N := Fr.snoc X6 N g_b
    refine OwnGo.fwd st6 ?_
    show OwnGo _ _ _ _ (T6.setTop (mkF m 64 #[.val (.ref b), .val (.ref a), .val (.ref t2)] []))
    exact own_retV X6 hlk hx Bd.returns (hb hby d21_64) (by decide) (by decide) e6 ⟨rfl, N, K, E_b⟩
  · refine OwnGo.fwd (fun tq' kq' => XS.ifNo X3.here hx rfl (hb hby d21_18) rfl ((if0 _ _).trans (own_bneq rfl (by decide) hc18_4).1) kq') ?_
    show OwnGo _ _ _ _ (T3.setTop (mkF m 21 #[.val (.ref b), .val (.ref a), .val (.ref t2)] []))
    refine OwnGo.fwd (fun tq' kq' => XS.aloadN X3.here hx rfl (hb hby d21_21) rfl rfl kq') ?_
    show OwnGo _ _ _ _ (T3.setTop (mkF m 22 #[.val (.ref b), .val (.ref a), .val (.ref t2)] [(.ref a)]))
    obtain ⟨T7, X7, e7, st7⟩ := own_gclsI X3 hx hZ (C := "java/util/ArrayList") (I := "java/util/Collection") hown (mvT hZ (hw _ (List.mem_of_getElem? (i := 273) rfl))) (mvT hZ (hw _ (List.mem_of_getElem? (i := 189) rfl))) (Jvm.Free.ULB.iface_rides hZ.alike (hw _ (List.mem_of_getElem? (i := 274) rfl))) (mvT hZ (hw _ (List.mem_of_getElem? (i := 275) rfl))) (mvT hZ (hw _ (List.mem_of_getElem? (i := 190) rfl))) (mvT hZ (hw _ (List.mem_of_getElem? (i := 214) rfl))) (mvT hZ (hw _ (List.mem_of_getElem? (i := 215) rfl))) (mvT hZ (hw _ (List.mem_of_getElem? (i := 182) rfl))) (mvT hZ (hw _ (List.mem_of_getElem? (i := 192) rfl))) (by decide) e3 E_a M_ma (g := (mkF m 22 #[.val (.ref b), .val (.ref a), .val (.ref t2)] [(.ref a)])) rfl (by rw [hml]; rfl) rfl (hb hby d21_22) (by decide) (W := 0) (by show 2 * 0 + _ ≤ _; exact Nat.le_of_eq rfl) (by decide)
    refine OwnGo.fwd st7 ?_
    show OwnGo _ _ _ _ (T7.setTop (mkF m 27 #[.val (.ref b), .val (.ref a), .val (.ref t2)] [(.ref ma)]))
    obtain ⟨T8, X8, e8, st8⟩ := own_ldcM X7 hx hZ hown (hw _ (List.mem_of_getElem? (i := 276) rfl)) e7 M_ma (g := (mkF m 27 #[.val (.ref b), .val (.ref a), .val (.ref t2)] [(.ref ma)])) rfl (hb hby d21_27)
    refine OwnGo.fwd st8 ?_
    show OwnGo _ _ _ _ (T8.setTop (mkF m 29 #[.val (.ref b), .val (.ref a), .val (.ref t2)] [(.ref ma), (.ref ma)]))
    refine OwnGo.fwd (fun tq' kq' => Jvm.RoadKit.acmp (g := (mkF m 29 #[.val (.ref b), .val (.ref a), .val (.ref t2)] [(.ref ma), (.ref ma)])) X8 hx rfl rfl rfl (pc0 := 29) (pc' := 32) (same := true) rfl (hb hby d21_29) rfl (decide_eq_true rfl) (by decide) (by decide) kq') ?_
    show OwnGo _ _ _ _ (T8.setTop (mkF m 32 #[.val (.ref b), .val (.ref a), .val (.ref t2)] []))
    refine OwnGo.fwd (fun tq' kq' => XS.aloadN X8.here hx rfl (hb hby d21_32) rfl rfl kq') ?_
    show OwnGo _ _ _ _ (T8.setTop (mkF m 33 #[.val (.ref b), .val (.ref a), .val (.ref t2)] [(.ref b)]))
    refine OwnGo.fwd (fun tq' kq' => XS.aloadN X8.here hx rfl (hb hby d21_33) rfl rfl kq') ?_
    show OwnGo _ _ _ _ (T8.setTop (mkF m 34 #[.val (.ref b), .val (.ref a), .val (.ref t2)] [(.ref t2), (.ref b)]))
    obtain ⟨T9, h9, X9, e9, W9, st9⟩ := putF X8 hx hZ hown (host := "") (Or.inl (hw _ (List.mem_of_getElem? (i := 24) rfl))) Via.refl e8 F_elementData_b E_b (Or.inl (hw _ (List.mem_of_getElem? (i := 25) rfl))) (hw _ (List.mem_of_getElem? (i := 1) rfl)) (ty := (.array (.object "java/lang/Object"))) (by decide) rfl rfl (g := (mkF m 34 #[.val (.ref b), .val (.ref a), .val (.ref t2)] [(.ref t2), (.ref b)])) rfl rfl (hb hby d21_34)
    have E_b := E_b.wr W9
    have F_modCount_b := F_modCount_b.other W9 (Or.inr (slot_ne (Or.inl (hw _ (List.mem_of_getElem? (i := 22) rfl))) (Or.inl (hw _ (List.mem_of_getElem? (i := 25) rfl))) (by decide) (t := .int) (t' := (.array (.object "java/lang/Object"))) (by decide) (by decide)))
    have F_elementData_b := F_elementData_b.same W9
    have F_size_b := F_size_b.other W9 (Or.inr (slot_ne (Or.inl (hw _ (List.mem_of_getElem? (i := 91) rfl))) (Or.inl (hw _ (List.mem_of_getElem? (i := 25) rfl))) (by decide) (t := .int) (t' := (.array (.object "java/lang/Object"))) (by decide) (by decide)))
    have E_a := E_a.wr W9
    have F_elementData_a := F_elementData_a.other W9 (Or.inl (Ne.symm ne_b_a))
    have F_size_a := F_size_a.other W9 (Or.inl (Ne.symm ne_b_a))
    have O_d := O_d.other W9 (Ne.symm ne_b_d)
    have O_t2 := O_t2.other W9 (Ne.symm ne_b_t2)
    have K := K.wr W9 (Or.inl (List.mem_of_getElem? (i := 0) rfl))
    have Zs := Nat.le_trans Zs (Keep.of_wr W9).1
    have N := Fr.snoc X9 N g_b
    refine OwnGo.fwd st9 ?_
    show OwnGo _ _ _ _ (T9.setTop (mkF m 37 #[.val (.ref b), .val (.ref a), .val (.ref t2)] []))
    refine OwnGo.fwd (fun tq' kq' => XS.goto X9.here hx rfl (pc0 := 37) (pc' := 64) rfl (hb hby d21_37) (by decide) (by decide) kq') ?_
    show OwnGo _ _ _ _ (T9.setTop (mkF m 64 #[.val (.ref b), .val (.ref a), .val (.ref t2)] []))
    exact own_retV X9 hlk hx Bd.returns (hb hby d21_64) (by decide) (by decide) e9 ⟨rfl, N, K, E_b⟩
theorem d29_0 : decode jdk_119_method_1_code 0 = .ok (.aload_n 0, 1) := by decide +kernel
theorem d29_1 : decode jdk_119_method_1_code 1 = .ok (.invokespecial 1, 3) := by decide +kernel
theorem d29_4 : decode jdk_119_method_1_code 4 = .ok (.aload_n 1, 1) := by decide +kernel
theorem d29_5 : decode jdk_119_method_1_code 5 = .ok (.ifnonnull 11, 3) := by decide +kernel
theorem d29_8 : decode jdk_119_method_1_code 8 = .ok (.new 7, 3) := by decide +kernel
theorem d29_11 : decode jdk_119_method_1_code 11 = .ok (.dup, 1) := by decide +kernel
theorem d29_12 : decode jdk_119_method_1_code 12 = .ok (.invokespecial 9, 3) := by decide +kernel
theorem d29_15 : decode jdk_119_method_1_code 15 = .ok (.athrow, 1) := by decide +kernel
theorem d29_16 : decode jdk_119_method_1_code 16 = .ok (.aload_n 0, 1) := by decide +kernel
theorem d29_17 : decode jdk_119_method_1_code 17 = .ok (.aload_n 1, 1) := by decide +kernel
theorem d29_18 : decode jdk_119_method_1_code 18 = .ok (.putfield 10, 3) := by decide +kernel
theorem d29_21 : decode jdk_119_method_1_code 21 = .ok (.return_, 1) := by decide +kernel
theorem pn_29 : plainFor (⟨"java/util/Collections$UnmodifiableCollection", "<init>", "(Ljava/util/Collection;)V"⟩ : MethodName) = true := plainFor_of_name (by first | (simp [plainName, overriddenIn]; done) | decide +kernel)
theorem ef_29 (m : MethodId) (x0 : Addr) (x1 : Addr) : entryFrame m #[(.ref x0), (.ref x1)] 2 = mkF m 0 #[.val (.ref x0), .val (.ref x1)] [] := by first | (simp [entryFrame, mkF, argsToLocals, Value.category, maxLocals]; done) | rfl
def Q29 (Z : State) (a : Addr) (b : Addr) (h0 : Heap) (n0 : Nat) (v : Option Value) (h : Heap) (L : List Loc) : Prop := v = none ∧ Fr n0 L ∧ Keep h0 h [a] ∧ Exa Z h a "java/util/Collections$UnmodifiableRandomAccessList" ∧ Fld Z h a "java/util/Collections$UnmodifiableList" "list" "Ljava/util/List;" .null
set_option maxRecDepth 65536 in
set_option maxHeartbeats 40000000 in
theorem rm29 (l : Launch) (Z : State) (a0 : Array Value) (hw : ∀ d ∈ tables_1, d.before a0 Z = true) (ws : List Jvm.Cond) (a : Addr) (b : Addr) (h0 : Heap) (n0 : Nat) (Z0 : n0 ≤ h0.size) (E_a : Exa Z h0 a "java/util/Collections$UnmodifiableRandomAccessList") (F_c_a : Fld Z h0 a "java/util/Collections$UnmodifiableCollection" "c" "Ljava/util/Collection;" .null) (F_list_a : Fld Z h0 a "java/util/Collections$UnmodifiableList" "list" "Ljava/util/List;" .null) (g_a : n0 ≤ a) :
    MetFree l (⟨"java/util/Collections$UnmodifiableCollection", "<init>", "(Ljava/util/Collection;)V"⟩ : MethodName) (head1 (Jvm.Cond.code (⟨"java/util/Collections$UnmodifiableCollection", "<init>", "(Ljava/util/Collection;)V"⟩ : MethodName) jdk_119_method_1_code 2 none :: ws) ({ frames := 1, cells := 0, slots := 0, locals := 12 } : Room)) (fun arr' U => arr' = #[(.ref a), (.ref b)] ∧ Z.Warmed39 U.vm ∧ U.heap = h0) (fun _ _ _ _ _ => True) (fun _ U o U' => ∃ v L, o = .returned v ∧ (Q29 Z a b h0 n0) v U'.heap L ∧ FrameEnd U o U' L ({ frames := 1, cells := 0, slots := 0, locals := 12 } : Room).cells ({ frames := 1, cells := 0, slots := 0, locals := 12 } : Room).slots) := by
  refine MetFree.of_bodySF pn_29 hisR ?_
  intro p e s m args below meth c s₁ Bd hml0 hP hK
  obtain ⟨rfl, hZ, hh⟩ := hP
  have hx := Bd.exec
  have hby := Bd.bytes
  have hlk : meth.locks = false := BodyLoose.notSynchronized Bd
  have hml : c.maxLocals = 2 := hml0
  have hown : s.vm.findClass "java/util/Collections$UnmodifiableCollection" = some m.cls := findClass_of_methodNamed Bd.named
  have hnm := (name_of_methodNamed Bd.named Bd.method).1
  have X0 : Stand p l e ({ frames := 1, cells := 0, slots := 0, locals := 12 } : Room) s m #[(.ref a), (.ref b)] below meth c s₁ [] 0 0 := Stand.of_body Bd
  have e0 : s₁.heap = h0 := by rw [← hh, Bd.state]; rfl
  have N := Fr.nil n0
  have Zs := Z0
  change OwnGo p.tables e below (OwnEnd s (Q29 Z a b h0 n0) ({ frames := 1, cells := 0, slots := 0, locals := 12 } : Room).cells ({ frames := 1, cells := 0, slots := 0, locals := 12 } : Room).slots) _
  refine OwnGo.fwd (fun tq' kq' => castTop (ef_29 m a b) kq') ?_
  show OwnGo _ _ _ _ (s₁.setTop (mkF m 0 #[.val (.ref a), .val (.ref b)] []))
  have K : Keep h0 h0 [a] := Keep.refl _ _
  have E0_a := E_a
  refine OwnGo.fwd (fun tq' kq' => XS.aloadN X0.here hx rfl (hb hby d29_0) rfl rfl kq') ?_
  show OwnGo _ _ _ _ (s₁.setTop (mkF m 1 #[.val (.ref a), .val (.ref b)] [(.ref a)]))
  obtain ⟨T1, X1, e1, st1⟩ := initO X0 hx hZ hown (hw _ (List.mem_of_getElem? (i := 242) rfl)) (hw _ (List.mem_of_getElem? (i := 19) rfl)) (hw _ (List.mem_of_getElem? (i := 20) rfl)) e0 (g := (mkF m 1 #[.val (.ref a), .val (.ref b)] [(.ref a)])) rfl (by rw [hml]; rfl) rfl (hb hby d29_1) (by decide) (W := 0) (by show 2 * 0 + _ ≤ _; exact Nat.le_of_eq rfl) (by decide)
  refine OwnGo.fwd st1 ?_
  show OwnGo _ _ _ _ (T1.setTop (mkF m 4 #[.val (.ref a), .val (.ref b)] []))
  refine OwnGo.fwd (fun tq' kq' => XS.aloadN X1.here hx rfl (hb hby d29_4) rfl rfl kq') ?_
  show OwnGo _ _ _ _ (T1.setTop (mkF m 5 #[.val (.ref a), .val (.ref b)] [(.ref b)]))
  refine OwnGo.fwd (fun tq' kq' => XS.ifnonnullYes X1.here hx rfl (pc0 := 5) (pc' := 16) rfl (hb hby d29_5) rfl (by decide) (by decide) kq') ?_
  show OwnGo _ _ _ _ (T1.setTop (mkF m 16 #[.val (.ref a), .val (.ref b)] []))
  refine OwnGo.fwd (fun tq' kq' => XS.aloadN X1.here hx rfl (hb hby d29_16) rfl rfl kq') ?_
  show OwnGo _ _ _ _ (T1.setTop (mkF m 17 #[.val (.ref a), .val (.ref b)] [(.ref a)]))
  refine OwnGo.fwd (fun tq' kq' => XS.aloadN X1.here hx rfl (hb hby d29_17) rfl rfl kq') ?_
  show OwnGo _ _ _ _ (T1.setTop (mkF m 18 #[.val (.ref a), .val (.ref b)] [(.ref b), (.ref a)]))
  obtain ⟨T2, h2, X2, e2, W2, st2⟩ := putF X1 hx hZ hown (host := "") (Or.inl (hw _ (List.mem_of_getElem? (i := 243) rfl))) Via.refl e1 F_c_a E_a (Or.inr ⟨(hw _ (List.mem_of_getElem? (i := 244) rfl)), rfl, hnm⟩) (hw _ (List.mem_of_getElem? (i := 225) rfl)) (ty := (.object "java/util/Collection")) (by decide) rfl rfl (g := (mkF m 18 #[.val (.ref a), .val (.ref b)] [(.ref b), (.ref a)])) rfl rfl (hb hby d29_18)
  have E_a := E_a.wr W2
  have F_c_a := F_c_a.same W2
  have F_list_a := F_list_a.other W2 (Or.inr (slot_ne (Or.inr (hw _ (List.mem_of_getElem? (i := 246) rfl))) (Or.inr (hw _ (List.mem_of_getElem? (i := 244) rfl))) (by decide) (t := (.object "java/util/List")) (t' := (.object "java/util/Collection")) (by decide) (by decide)))
  have K := K.wr W2 (Or.inl (List.mem_of_getElem? (i := 0) rfl))
  have Zs := Nat.le_trans Zs (Keep.of_wr W2).1
  have N := Fr.snoc X2 N g_a
  refine OwnGo.fwd st2 ?_
  show OwnGo _ _ _ _ (T2.setTop (mkF m 21 #[.val (.ref a), .val (.ref b)] []))
  exact own_retV X2 hlk hx Bd.returns (hb hby d29_21) (by decide) (by decide) e2 ⟨rfl, N, K, E_a, F_list_a⟩
theorem d28_0 : decode jdk_120_method_1_code 0 = .ok (.aload_n 0, 1) := by decide +kernel
theorem d28_1 : decode jdk_120_method_1_code 1 = .ok (.aload_n 1, 1) := by decide +kernel
theorem d28_2 : decode jdk_120_method_1_code 2 = .ok (.invokespecial 1, 3) := by decide +kernel
theorem d28_5 : decode jdk_120_method_1_code 5 = .ok (.aload_n 0, 1) := by decide +kernel
theorem d28_6 : decode jdk_120_method_1_code 6 = .ok (.aload_n 1, 1) := by decide +kernel
theorem d28_7 : decode jdk_120_method_1_code 7 = .ok (.putfield 7, 3) := by decide +kernel
theorem d28_10 : decode jdk_120_method_1_code 10 = .ok (.return_, 1) := by decide +kernel
theorem pn_28 : plainFor (⟨"java/util/Collections$UnmodifiableList", "<init>", "(Ljava/util/List;)V"⟩ : MethodName) = true := plainFor_of_name (by first | (simp [plainName, overriddenIn]; done) | decide +kernel)
theorem ef_28 (m : MethodId) (x0 : Addr) (x1 : Addr) : entryFrame m #[(.ref x0), (.ref x1)] 2 = mkF m 0 #[.val (.ref x0), .val (.ref x1)] [] := by first | (simp [entryFrame, mkF, argsToLocals, Value.category, maxLocals]; done) | rfl
def Q28 (Z : State) (a : Addr) (b : Addr) (h0 : Heap) (n0 : Nat) (v : Option Value) (h : Heap) (L : List Loc) : Prop := v = none ∧ Fr n0 L ∧ Keep h0 h [a] ∧ Exa Z h a "java/util/Collections$UnmodifiableRandomAccessList"
set_option maxRecDepth 65536 in
set_option maxHeartbeats 40000000 in
theorem rm28 (l : Launch) (Z : State) (a0 : Array Value) (hw : ∀ d ∈ tables_1, d.before a0 Z = true) (ws : List Jvm.Cond) (a : Addr) (b : Addr) (h0 : Heap) (n0 : Nat) (Z0 : n0 ≤ h0.size) (E_a : Exa Z h0 a "java/util/Collections$UnmodifiableRandomAccessList") (F_c_a : Fld Z h0 a "java/util/Collections$UnmodifiableCollection" "c" "Ljava/util/Collection;" .null) (F_list_a : Fld Z h0 a "java/util/Collections$UnmodifiableList" "list" "Ljava/util/List;" .null) (g_a : n0 ≤ a) :
    MetFree l (⟨"java/util/Collections$UnmodifiableList", "<init>", "(Ljava/util/List;)V"⟩ : MethodName) (head1 (Jvm.Cond.code (⟨"java/util/Collections$UnmodifiableList", "<init>", "(Ljava/util/List;)V"⟩ : MethodName) jdk_120_method_1_code 2 none :: ws) ({ frames := 2, cells := 0, slots := 0, locals := 25 } : Room)) (fun arr' U => arr' = #[(.ref a), (.ref b)] ∧ Z.Warmed39 U.vm ∧ U.heap = h0) (fun _ _ _ _ _ => True) (fun _ U o U' => ∃ v L, o = .returned v ∧ (Q28 Z a b h0 n0) v U'.heap L ∧ FrameEnd U o U' L ({ frames := 2, cells := 0, slots := 0, locals := 25 } : Room).cells ({ frames := 2, cells := 0, slots := 0, locals := 25 } : Room).slots) := by
  refine MetFree.of_bodySF pn_28 hisR ?_
  intro p e s m args below meth c s₁ Bd hml0 hP hK
  obtain ⟨rfl, hZ, hh⟩ := hP
  have hx := Bd.exec
  have hby := Bd.bytes
  have hlk : meth.locks = false := BodyLoose.notSynchronized Bd
  have hml : c.maxLocals = 2 := hml0
  have hown : s.vm.findClass "java/util/Collections$UnmodifiableList" = some m.cls := findClass_of_methodNamed Bd.named
  have hnm := (name_of_methodNamed Bd.named Bd.method).1
  have X0 : Stand p l e ({ frames := 2, cells := 0, slots := 0, locals := 25 } : Room) s m #[(.ref a), (.ref b)] below meth c s₁ [] 0 0 := Stand.of_body Bd
  have e0 : s₁.heap = h0 := by rw [← hh, Bd.state]; rfl
  have N := Fr.nil n0
  have Zs := Z0
  change OwnGo p.tables e below (OwnEnd s (Q28 Z a b h0 n0) ({ frames := 2, cells := 0, slots := 0, locals := 25 } : Room).cells ({ frames := 2, cells := 0, slots := 0, locals := 25 } : Room).slots) _
  refine OwnGo.fwd (fun tq' kq' => castTop (ef_28 m a b) kq') ?_
  show OwnGo _ _ _ _ (s₁.setTop (mkF m 0 #[.val (.ref a), .val (.ref b)] []))
  have K : Keep h0 h0 [a] := Keep.refl _ _
  have E0_a := E_a
  refine OwnGo.fwd (fun tq' kq' => XS.aloadN X0.here hx rfl (hb hby d28_0) rfl rfl kq') ?_
  show OwnGo _ _ _ _ (s₁.setTop (mkF m 1 #[.val (.ref a), .val (.ref b)] [(.ref a)]))
  refine OwnGo.fwd (fun tq' kq' => XS.aloadN X0.here hx rfl (hb hby d28_1) rfl rfl kq') ?_
  show OwnGo _ _ _ _ (s₁.setTop (mkF m 2 #[.val (.ref a), .val (.ref b)] [(.ref b), (.ref a)]))
  obtain ⟨_, _, ⟨T1, L1, k1, n1⟩, -, X1, ⟨Lc1, hQ1, l1, y1, z1⟩, st1⟩ := X0.specialBack hx (y := (⟨"java/util/Collections$UnmodifiableCollection", "<init>", "(Ljava/util/Collection;)V"⟩ : MethodName)) rfl hown (mvT hZ (hw _ (List.mem_of_getElem? (i := 236) rfl))) (mvT hZ (hw _ (List.mem_of_getElem? (i := 237) rfl))) (mvT hZ (hw _ (List.mem_of_getElem? (i := 241) rfl))) (by decide) (backOf (W := 0) (rm29 l Z a0 hw [] a b h0 n0 Zs E_a F_c_a F_list_a g_a) hZ (hw _ (List.mem_of_getElem? (i := 241) rfl)) (hw _ (List.mem_of_getElem? (i := 240) rfl)) (by decide) (by decide)) (g := (mkF m 2 #[.val (.ref a), .val (.ref b)] [(.ref b), (.ref a)])) rfl (by rw [hml]; rfl) (Steps.refl _) (a := a) (argsL := [(.ref b)]) (rest := []) (lenOf pd_15 rfl) rfl (by show 2 * 0 + _ ≤ _; exact Nat.le_of_eq rfl) (hb hby d28_2) (fun _ _ => ⟨rfl, e0, (by decide : 0 + 0 ≤ _), (by decide : 0 + 0 ≤ _)⟩)
  dsimp only [Pt.U, Pt.locs, Pt.cells, Pt.slots] at X1 l1 y1 z1 st1 hQ1
  subst l1 y1 z1
  obtain ⟨h1, eh1⟩ : ∃ z, z = T1.heap := ⟨_, rfl⟩
  rw [← eh1] at hQ1
  obtain ⟨rfl, N1q, K1, E_a, F_list_a⟩ := hQ1
  have N := Fr.app N N1q
  have Zs := Nat.le_trans Zs K1.1
  have K := K.trans K1 (allS (Or.inl (List.mem_of_getElem? (i := 0) rfl)) all0)
  refine OwnGo.thru st1 ?_
  show OwnGo _ _ _ _ (T1.setTop (mkF m 5 #[.val (.ref a), .val (.ref b)] []))
  refine OwnGo.fwd (fun tq' kq' => XS.aloadN X1.here hx rfl (hb hby d28_5) rfl rfl kq') ?_
  show OwnGo _ _ _ _ (T1.setTop (mkF m 6 #[.val (.ref a), .val (.ref b)] [(.ref a)]))
  refine OwnGo.fwd (fun tq' kq' => XS.aloadN X1.here hx rfl (hb hby d28_6) rfl rfl kq') ?_
  show OwnGo _ _ _ _ (T1.setTop (mkF m 7 #[.val (.ref a), .val (.ref b)] [(.ref b), (.ref a)]))
  obtain ⟨T2, h2, X2, e2, W2, st2⟩ := putF X1 hx hZ hown (host := "") (Or.inl (hw _ (List.mem_of_getElem? (i := 245) rfl))) Via.refl eh1.symm F_list_a E_a (Or.inr ⟨(hw _ (List.mem_of_getElem? (i := 246) rfl)), rfl, hnm⟩) (hw _ (List.mem_of_getElem? (i := 225) rfl)) (ty := (.object "java/util/List")) (by decide) rfl rfl (g := (mkF m 7 #[.val (.ref a), .val (.ref b)] [(.ref b), (.ref a)])) rfl rfl (hb hby d28_7)
  have E_a := E_a.wr W2
  have F_list_a := F_list_a.same W2
  have K := K.wr W2 (Or.inl (List.mem_of_getElem? (i := 0) rfl))
  have Zs := Nat.le_trans Zs (Keep.of_wr W2).1
  have N := Fr.snoc X2 N g_a
  refine OwnGo.fwd st2 ?_
  show OwnGo _ _ _ _ (T2.setTop (mkF m 10 #[.val (.ref a), .val (.ref b)] []))
  exact own_retV X2 hlk hx Bd.returns (hb hby d28_10) (by decide) (by decide) e2 ⟨rfl, N, K, E_a⟩
theorem d27_0 : decode jdk_121_method_1_code 0 = .ok (.aload_n 0, 1) := by decide +kernel
theorem d27_1 : decode jdk_121_method_1_code 1 = .ok (.aload_n 1, 1) := by decide +kernel
theorem d27_2 : decode jdk_121_method_1_code 2 = .ok (.invokespecial 1, 3) := by decide +kernel
theorem d27_5 : decode jdk_121_method_1_code 5 = .ok (.return_, 1) := by decide +kernel
theorem pn_27 : plainFor (⟨"java/util/Collections$UnmodifiableRandomAccessList", "<init>", "(Ljava/util/List;)V"⟩ : MethodName) = true := plainFor_of_name (by first | (simp [plainName, overriddenIn]; done) | decide +kernel)
theorem ef_27 (m : MethodId) (x0 : Addr) (x1 : Addr) : entryFrame m #[(.ref x0), (.ref x1)] 2 = mkF m 0 #[.val (.ref x0), .val (.ref x1)] [] := by first | (simp [entryFrame, mkF, argsToLocals, Value.category, maxLocals]; done) | rfl
def Q27 (Z : State) (a : Addr) (b : Addr) (h0 : Heap) (n0 : Nat) (v : Option Value) (h : Heap) (L : List Loc) : Prop := v = none ∧ Fr n0 L ∧ Keep h0 h [a] ∧ Exa Z h a "java/util/Collections$UnmodifiableRandomAccessList"
set_option maxRecDepth 65536 in
set_option maxHeartbeats 40000000 in
theorem rm27 (l : Launch) (Z : State) (a0 : Array Value) (hw : ∀ d ∈ tables_1, d.before a0 Z = true) (ws : List Jvm.Cond) (a : Addr) (b : Addr) (h0 : Heap) (n0 : Nat) (Z0 : n0 ≤ h0.size) (E_a : Exa Z h0 a "java/util/Collections$UnmodifiableRandomAccessList") (F_c_a : Fld Z h0 a "java/util/Collections$UnmodifiableCollection" "c" "Ljava/util/Collection;" .null) (F_list_a : Fld Z h0 a "java/util/Collections$UnmodifiableList" "list" "Ljava/util/List;" .null) (g_a : n0 ≤ a) :
    MetFree l (⟨"java/util/Collections$UnmodifiableRandomAccessList", "<init>", "(Ljava/util/List;)V"⟩ : MethodName) (head1 (Jvm.Cond.code (⟨"java/util/Collections$UnmodifiableRandomAccessList", "<init>", "(Ljava/util/List;)V"⟩ : MethodName) jdk_121_method_1_code 2 none :: ws) ({ frames := 3, cells := 0, slots := 0, locals := 38 } : Room)) (fun arr' U => arr' = #[(.ref a), (.ref b)] ∧ Z.Warmed39 U.vm ∧ U.heap = h0) (fun _ _ _ _ _ => True) (fun _ U o U' => ∃ v L, o = .returned v ∧ (Q27 Z a b h0 n0) v U'.heap L ∧ FrameEnd U o U' L ({ frames := 3, cells := 0, slots := 0, locals := 38 } : Room).cells ({ frames := 3, cells := 0, slots := 0, locals := 38 } : Room).slots) := by
  refine MetFree.of_bodySF pn_27 hisR ?_
  intro p e s m args below meth c s₁ Bd hml0 hP hK
  obtain ⟨rfl, hZ, hh⟩ := hP
  have hx := Bd.exec
  have hby := Bd.bytes
  have hlk : meth.locks = false := BodyLoose.notSynchronized Bd
  have hml : c.maxLocals = 2 := hml0
  have hown : s.vm.findClass "java/util/Collections$UnmodifiableRandomAccessList" = some m.cls := findClass_of_methodNamed Bd.named
  have hnm := (name_of_methodNamed Bd.named Bd.method).1
  have X0 : Stand p l e ({ frames := 3, cells := 0, slots := 0, locals := 38 } : Room) s m #[(.ref a), (.ref b)] below meth c s₁ [] 0 0 := Stand.of_body Bd
  have e0 : s₁.heap = h0 := by rw [← hh, Bd.state]; rfl
  have N := Fr.nil n0
  have Zs := Z0
  change OwnGo p.tables e below (OwnEnd s (Q27 Z a b h0 n0) ({ frames := 3, cells := 0, slots := 0, locals := 38 } : Room).cells ({ frames := 3, cells := 0, slots := 0, locals := 38 } : Room).slots) _
  refine OwnGo.fwd (fun tq' kq' => castTop (ef_27 m a b) kq') ?_
  show OwnGo _ _ _ _ (s₁.setTop (mkF m 0 #[.val (.ref a), .val (.ref b)] []))
  have K : Keep h0 h0 [a] := Keep.refl _ _
  have E0_a := E_a
  refine OwnGo.fwd (fun tq' kq' => XS.aloadN X0.here hx rfl (hb hby d27_0) rfl rfl kq') ?_
  show OwnGo _ _ _ _ (s₁.setTop (mkF m 1 #[.val (.ref a), .val (.ref b)] [(.ref a)]))
  refine OwnGo.fwd (fun tq' kq' => XS.aloadN X0.here hx rfl (hb hby d27_1) rfl rfl kq') ?_
  show OwnGo _ _ _ _ (s₁.setTop (mkF m 2 #[.val (.ref a), .val (.ref b)] [(.ref b), (.ref a)]))
  obtain ⟨_, _, ⟨T1, L1, k1, n1⟩, -, X1, ⟨Lc1, hQ1, l1, y1, z1⟩, st1⟩ := X0.specialBack hx (y := (⟨"java/util/Collections$UnmodifiableList", "<init>", "(Ljava/util/List;)V"⟩ : MethodName)) rfl hown (mvT hZ (hw _ (List.mem_of_getElem? (i := 230) rfl))) (mvT hZ (hw _ (List.mem_of_getElem? (i := 231) rfl))) (mvT hZ (hw _ (List.mem_of_getElem? (i := 235) rfl))) (by decide) (backOf (W := 0) (rm28 l Z a0 hw [] a b h0 n0 Zs E_a F_c_a F_list_a g_a) hZ (hw _ (List.mem_of_getElem? (i := 235) rfl)) (hw _ (List.mem_of_getElem? (i := 234) rfl)) (by decide) (by decide)) (g := (mkF m 2 #[.val (.ref a), .val (.ref b)] [(.ref b), (.ref a)])) rfl (by rw [hml]; rfl) (Steps.refl _) (a := a) (argsL := [(.ref b)]) (rest := []) (lenOf pd_14 rfl) rfl (by show 2 * 0 + _ ≤ _; exact Nat.le_of_eq rfl) (hb hby d27_2) (fun _ _ => ⟨rfl, e0, (by decide : 0 + 0 ≤ _), (by decide : 0 + 0 ≤ _)⟩)
  dsimp only [Pt.U, Pt.locs, Pt.cells, Pt.slots] at X1 l1 y1 z1 st1 hQ1
  subst l1 y1 z1
  obtain ⟨h1, eh1⟩ : ∃ z, z = T1.heap := ⟨_, rfl⟩
  rw [← eh1] at hQ1
  obtain ⟨rfl, N1q, K1, E_a⟩ := hQ1
  have N := Fr.app N N1q
  have Zs := Nat.le_trans Zs K1.1
  have K := K.trans K1 (allS (Or.inl (List.mem_of_getElem? (i := 0) rfl)) all0)
  refine OwnGo.thru st1 ?_
  show OwnGo _ _ _ _ (T1.setTop (mkF m 5 #[.val (.ref a), .val (.ref b)] []))
  exact own_retV X1 hlk hx Bd.returns (hb hby d27_5) (by decide) (by decide) eh1.symm ⟨rfl, N, K, E_a⟩
theorem d26_0 : decode jdk_79_method_35_code 0 = .ok (.aload_n 0, 1) := by decide +kernel
theorem d26_1 : decode jdk_79_method_35_code 1 = .ok (.invokeinterface 211 1, 5) := by decide +kernel
theorem d26_6 : decode jdk_79_method_35_code 6 = .ok (.ldc 212, 2) := by decide +kernel
theorem d26_8 : decode jdk_79_method_35_code 8 = .ok (.if_acmp .eq 14, 3) := by decide +kernel
theorem d26_11 : decode jdk_79_method_35_code 11 = .ok (.aload_n 0, 1) := by decide +kernel
theorem d26_12 : decode jdk_79_method_35_code 12 = .ok (.invokeinterface 214 1, 5) := by decide +kernel
theorem d26_17 : decode jdk_79_method_35_code 17 = .ok (.ldc 215, 2) := by decide +kernel
theorem d26_19 : decode jdk_79_method_35_code 19 = .ok (.if_acmp .ne 5, 3) := by decide +kernel
theorem d26_22 : decode jdk_79_method_35_code 22 = .ok (.aload_n 0, 1) := by decide +kernel
theorem d26_23 : decode jdk_79_method_35_code 23 = .ok (.areturn, 1) := by decide +kernel
theorem d26_24 : decode jdk_79_method_35_code 24 = .ok (.aload_n 0, 1) := by decide +kernel
theorem d26_25 : decode jdk_79_method_35_code 25 = .ok (.instanceof 13, 3) := by decide +kernel
theorem d26_28 : decode jdk_79_method_35_code 28 = .ok (.ifCond .eq 14, 3) := by decide +kernel
theorem d26_31 : decode jdk_79_method_35_code 31 = .ok (.new 215, 3) := by decide +kernel
theorem d26_34 : decode jdk_79_method_35_code 34 = .ok (.dup, 1) := by decide +kernel
theorem d26_35 : decode jdk_79_method_35_code 35 = .ok (.aload_n 0, 1) := by decide +kernel
theorem d26_36 : decode jdk_79_method_35_code 36 = .ok (.invokespecial 217, 3) := by decide +kernel
theorem d26_39 : decode jdk_79_method_35_code 39 = .ok (.goto 11, 3) := by decide +kernel
theorem d26_42 : decode jdk_79_method_35_code 42 = .ok (.new 212, 3) := by decide +kernel
theorem d26_45 : decode jdk_79_method_35_code 45 = .ok (.dup, 1) := by decide +kernel
theorem d26_46 : decode jdk_79_method_35_code 46 = .ok (.aload_n 0, 1) := by decide +kernel
theorem d26_47 : decode jdk_79_method_35_code 47 = .ok (.invokespecial 219, 3) := by decide +kernel
theorem d26_50 : decode jdk_79_method_35_code 50 = .ok (.areturn, 1) := by decide +kernel
theorem pn_26 : plainFor (⟨"java/util/Collections", "unmodifiableList", "(Ljava/util/List;)Ljava/util/List;"⟩ : MethodName) = true := plainFor_of_name (by first | (simp [plainName, overriddenIn]; done) | decide +kernel)
theorem ef_26 (m : MethodId) (x0 : Addr) : entryFrame m #[(.ref x0)] 1 = mkF m 0 #[.val (.ref x0)] [] := by first | (simp [entryFrame, mkF, argsToLocals, Value.category, maxLocals]; done) | rfl
def Q26 (Z : State) (b : Addr) (ma : Addr) (mu : Addr) (mr : Addr) (h0 : Heap) (n0 : Nat) (v : Option Value) (h : Heap) (L : List Loc) : Prop := Fr n0 L ∧ Keep h0 h [] ∧ ∃ t, v = some (.ref t)
set_option maxRecDepth 65536 in
set_option maxHeartbeats 40000000 in
theorem rm26 (l : Launch) (Z : State) (a0 : Array Value) (hw : ∀ d ∈ tables_1, d.before a0 Z = true) (ws : List Jvm.Cond) (b : Addr) (ma : Addr) (mu : Addr) (mr : Addr) (h0 : Heap) (n0 : Nat) (Z0 : n0 ≤ h0.size) (E_b : Exa Z h0 b "java/util/ArrayList") (M_ma : Mir Z "java/util/ArrayList" ma) (M_mu : Mir Z "java/util/Collections$UnmodifiableList" mu) (M_mr : Mir Z "java/util/Collections$UnmodifiableRandomAccessList" mr) :
    MetFree l (⟨"java/util/Collections", "unmodifiableList", "(Ljava/util/List;)Ljava/util/List;"⟩ : MethodName) (head1 (Jvm.Cond.code (⟨"java/util/Collections", "unmodifiableList", "(Ljava/util/List;)Ljava/util/List;"⟩ : MethodName) jdk_79_method_35_code 1 (some (.object "java/util/List")) :: ws) ({ frames := 4, cells := 1, slots := 2, locals := 55 } : Room)) (fun arr' U => arr' = #[(.ref b)] ∧ Z.Warmed39 U.vm ∧ U.heap = h0) (fun _ _ _ _ _ => True) (fun _ U o U' => ∃ v L, o = .returned v ∧ (Q26 Z b ma mu mr h0 n0) v U'.heap L ∧ FrameEnd U o U' L ({ frames := 4, cells := 1, slots := 2, locals := 55 } : Room).cells ({ frames := 4, cells := 1, slots := 2, locals := 55 } : Room).slots) := by
  refine MetFree.of_bodySF pn_26 hisR ?_
  intro p e s m args below meth c s₁ Bd hml0 hP hK
  obtain ⟨rfl, hZ, hh⟩ := hP
  have hx := Bd.exec
  have hby := Bd.bytes
  have hlk : meth.locks = false := BodyLoose.notSynchronized Bd
  have hml : c.maxLocals = 1 := hml0
  have hown : s.vm.findClass "java/util/Collections" = some m.cls := findClass_of_methodNamed Bd.named
  have hnm := (name_of_methodNamed Bd.named Bd.method).1
  have X0 : Stand p l e ({ frames := 4, cells := 1, slots := 2, locals := 55 } : Room) s m #[(.ref b)] below meth c s₁ [] 0 0 := Stand.of_body Bd
  have e0 : s₁.heap = h0 := by rw [← hh, Bd.state]; rfl
  have N := Fr.nil n0
  have Zs := Z0
  change OwnGo p.tables e below (OwnEnd s (Q26 Z b ma mu mr h0 n0) ({ frames := 4, cells := 1, slots := 2, locals := 55 } : Room).cells ({ frames := 4, cells := 1, slots := 2, locals := 55 } : Room).slots) _
  refine OwnGo.fwd (fun tq' kq' => castTop (ef_26 m b) kq') ?_
  show OwnGo _ _ _ _ (s₁.setTop (mkF m 0 #[.val (.ref b)] []))
  have K : Keep h0 h0 [] := Keep.refl _ _
  refine OwnGo.fwd (fun tq' kq' => XS.aloadN X0.here hx rfl (hb hby d26_0) rfl rfl kq') ?_
  show OwnGo _ _ _ _ (s₁.setTop (mkF m 1 #[.val (.ref b)] [(.ref b)]))
  obtain ⟨T1, X1, e1, st1⟩ := own_gclsI X0 hx hZ (C := "java/util/ArrayList") (I := "java/util/List") hown (mvT hZ (hw _ (List.mem_of_getElem? (i := 211) rfl))) (mvT hZ (hw _ (List.mem_of_getElem? (i := 189) rfl))) (Jvm.Free.ULB.iface_rides hZ.alike (hw _ (List.mem_of_getElem? (i := 212) rfl))) (mvT hZ (hw _ (List.mem_of_getElem? (i := 213) rfl))) (mvT hZ (hw _ (List.mem_of_getElem? (i := 190) rfl))) (mvT hZ (hw _ (List.mem_of_getElem? (i := 214) rfl))) (mvT hZ (hw _ (List.mem_of_getElem? (i := 215) rfl))) (mvT hZ (hw _ (List.mem_of_getElem? (i := 216) rfl))) (mvT hZ (hw _ (List.mem_of_getElem? (i := 192) rfl))) (by decide) e0 E_b M_ma (g := (mkF m 1 #[.val (.ref b)] [(.ref b)])) rfl (by rw [hml]; rfl) rfl (hb hby d26_1) (by decide) (W := 0) (by show 2 * 0 + _ ≤ _; exact Nat.le_of_eq rfl) (by decide)
  refine OwnGo.fwd st1 ?_
  show OwnGo _ _ _ _ (T1.setTop (mkF m 6 #[.val (.ref b)] [(.ref ma)]))
  obtain ⟨T2, X2, e2, st2⟩ := own_ldcM X1 hx hZ hown (hw _ (List.mem_of_getElem? (i := 218) rfl)) e1 M_mu (g := (mkF m 6 #[.val (.ref b)] [(.ref ma)])) rfl (hb hby d26_6)
  refine OwnGo.fwd st2 ?_
  show OwnGo _ _ _ _ (T2.setTop (mkF m 8 #[.val (.ref b)] [(.ref mu), (.ref ma)]))
  refine OwnGo.fwd (fun tq' kq' => Jvm.RoadKit.acmp (g := (mkF m 8 #[.val (.ref b)] [(.ref mu), (.ref ma)])) X2 hx rfl rfl rfl (pc0 := 8) (pc' := 11) (same := false) rfl (hb hby d26_8) rfl (decide_eq_false fun q => (M_ma.ne M_mu (by decide)) (Value.ref.inj q)) (by decide) (by decide) kq') ?_
  show OwnGo _ _ _ _ (T2.setTop (mkF m 11 #[.val (.ref b)] []))
  refine OwnGo.fwd (fun tq' kq' => XS.aloadN X2.here hx rfl (hb hby d26_11) rfl rfl kq') ?_
  show OwnGo _ _ _ _ (T2.setTop (mkF m 12 #[.val (.ref b)] [(.ref b)]))
  obtain ⟨T3, X3, e3, st3⟩ := own_gclsI X2 hx hZ (C := "java/util/ArrayList") (I := "java/util/List") hown (mvT hZ (hw _ (List.mem_of_getElem? (i := 220) rfl))) (mvT hZ (hw _ (List.mem_of_getElem? (i := 189) rfl))) (Jvm.Free.ULB.iface_rides hZ.alike (hw _ (List.mem_of_getElem? (i := 212) rfl))) (mvT hZ (hw _ (List.mem_of_getElem? (i := 213) rfl))) (mvT hZ (hw _ (List.mem_of_getElem? (i := 190) rfl))) (mvT hZ (hw _ (List.mem_of_getElem? (i := 214) rfl))) (mvT hZ (hw _ (List.mem_of_getElem? (i := 215) rfl))) (mvT hZ (hw _ (List.mem_of_getElem? (i := 216) rfl))) (mvT hZ (hw _ (List.mem_of_getElem? (i := 192) rfl))) (by decide) e2 E_b M_ma (g := (mkF m 12 #[.val (.ref b)] [(.ref b)])) rfl (by rw [hml]; rfl) rfl (hb hby d26_12) (by decide) (W := 0) (by show 2 * 0 + _ ≤ _; exact Nat.le_of_eq rfl) (by decide)
  refine OwnGo.fwd st3 ?_
  show OwnGo _ _ _ _ (T3.setTop (mkF m 17 #[.val (.ref b)] [(.ref ma)]))
  obtain ⟨T4, X4, e4, st4⟩ := own_ldcM X3 hx hZ hown (hw _ (List.mem_of_getElem? (i := 221) rfl)) e3 M_mr (g := (mkF m 17 #[.val (.ref b)] [(.ref ma)])) rfl (hb hby d26_17)
  refine OwnGo.fwd st4 ?_
  show OwnGo _ _ _ _ (T4.setTop (mkF m 19 #[.val (.ref b)] [(.ref mr), (.ref ma)]))
  refine OwnGo.fwd (fun tq' kq' => Jvm.RoadKit.acmp (g := (mkF m 19 #[.val (.ref b)] [(.ref mr), (.ref ma)])) X4 hx rfl rfl rfl (pc0 := 19) (pc' := 24) (same := false) rfl (hb hby d26_19) rfl (decide_eq_false fun q => (M_ma.ne M_mr (by decide)) (Value.ref.inj q)) (by decide) (by decide) kq') ?_
  show OwnGo _ _ _ _ (T4.setTop (mkF m 24 #[.val (.ref b)] []))
  refine OwnGo.fwd (fun tq' kq' => XS.aloadN X4.here hx rfl (hb hby d26_24) rfl rfl kq') ?_
  show OwnGo _ _ _ _ (T4.setTop (mkF m 25 #[.val (.ref b)] [(.ref b)]))
  obtain ⟨T5, X5, e5, st5⟩ := instY X4 hx hZ hown (hw _ (List.mem_of_getElem? (i := 223) rfl)) e4 (Ins.of_exa E_b (hw _ (List.mem_of_getElem? (i := 224) rfl))) (g := (mkF m 25 #[.val (.ref b)] [(.ref b)])) rfl rfl (hb hby d26_25)
  refine OwnGo.fwd st5 ?_
  show OwnGo _ _ _ _ (T5.setTop (mkF m 28 #[.val (.ref b)] [(.int (1 : Int32))]))
  have hc28_6 : ¬ ((1 : Int) = (0 : Int)) := by decide
  refine OwnGo.fwd (fun tq' kq' => XS.ifNo X5.here hx rfl (hb hby d26_28) rfl ((if0 _ _).trans (own_bneq (by decide) (by decide) hc28_6).1) kq') ?_
  show OwnGo _ _ _ _ (T5.setTop (mkF m 31 #[.val (.ref b)] []))
  obtain ⟨T7, h7, X7, e7, E7, A7, D7, -, st7⟩ := newO X5 hx hZ hown (hw _ (List.mem_of_getElem? (i := 221) rfl)) (hw _ (List.mem_of_getElem? (i := 225) rfl)) (hw _ (List.mem_of_getElem? (i := 226) rfl)) e5 (g := (mkF m 31 #[.val (.ref b)] [])) rfl (hb hby d26_31) (by decide) (by decide)
  obtain ⟨b7, g7⟩ : ∃ z, z = h0.size := ⟨_, rfl⟩
  rw [← g7] at A7 D7 st7
  have ne_b_b7 : b ≠ b7 := Nat.ne_of_lt (Nat.lt_of_lt_of_le E_b.lt (Nat.le_of_eq g7.symm))
  have g_b7 : n0 ≤ b7 := Nat.le_trans Zs (Nat.le_of_eq g7.symm)
  have sz_b7 : h0.size ≤ b7 := Nat.le_trans K.1 (Nat.le_of_eq g7.symm)
  have K := K.ext E7
  have Zs := Nat.le_trans Zs E7.1
  have E_b := E_b.ext E7
  have E_b7 := A7
  have F_c_b7 : Fld Z h7 b7 "java/util/Collections$UnmodifiableCollection" "c" "Ljava/util/Collection;" .null := D7 (Or.inr (hw _ (List.mem_of_getElem? (i := 244) rfl))) (ty := (.object "java/util/Collection")) (by decide)
  have F_list_b7 : Fld Z h7 b7 "java/util/Collections$UnmodifiableList" "list" "Ljava/util/List;" .null := D7 (Or.inr (hw _ (List.mem_of_getElem? (i := 246) rfl))) (ty := (.object "java/util/List")) (by decide)
  refine OwnGo.fwd st7 ?_
  show OwnGo _ _ _ _ (T7.setTop (mkF m 34 #[.val (.ref b)] [(.ref b7)]))
  refine OwnGo.fwd (fun tq' kq' => XS.dup X7.here hx rfl (hb hby d26_34) rfl rfl kq') ?_
  show OwnGo _ _ _ _ (T7.setTop (mkF m 35 #[.val (.ref b)] [(.ref b7), (.ref b7)]))
  refine OwnGo.fwd (fun tq' kq' => XS.aloadN X7.here hx rfl (hb hby d26_35) rfl rfl kq') ?_
  show OwnGo _ _ _ _ (T7.setTop (mkF m 36 #[.val (.ref b)] [(.ref b), (.ref b7), (.ref b7)]))
  obtain ⟨_, _, ⟨T8, L8, k8, n8⟩, -, X8, ⟨Lc8, hQ8, l8, y8, z8⟩, st8⟩ := X7.specialBack hx (y := (⟨"java/util/Collections$UnmodifiableRandomAccessList", "<init>", "(Ljava/util/List;)V"⟩ : MethodName)) rfl hown (mvT hZ (hw _ (List.mem_of_getElem? (i := 227) rfl))) (mvT hZ (hw _ (List.mem_of_getElem? (i := 228) rfl))) (mvT hZ (hw _ (List.mem_of_getElem? (i := 229) rfl))) (by decide) (backOf (W := 1) (rm27 l Z a0 hw [] b7 b h7 n0 Zs E_b7 F_c_b7 F_list_b7 g_b7) hZ (hw _ (List.mem_of_getElem? (i := 229) rfl)) (hw _ (List.mem_of_getElem? (i := 226) rfl)) (by decide) (by decide)) (g := (mkF m 36 #[.val (.ref b)] [(.ref b), (.ref b7), (.ref b7)])) rfl (by rw [hml]; rfl) (Steps.refl _) (a := b7) (argsL := [(.ref b)]) (rest := [(.ref b7)]) (lenOf pd_14 rfl) rfl (by show 2 * 0 + _ ≤ _; exact Nat.le_of_eq rfl) (hb hby d26_36) (fun _ _ => ⟨rfl, e7, (by decide : 1 + 0 ≤ _), (by decide : 2 + 0 ≤ _)⟩)
  dsimp only [Pt.U, Pt.locs, Pt.cells, Pt.slots] at X8 l8 y8 z8 st8 hQ8
  subst l8 y8 z8
  obtain ⟨h8, eh8⟩ : ∃ z, z = T8.heap := ⟨_, rfl⟩
  rw [← eh8] at hQ8
  obtain ⟨rfl, N8q, K8, E_b7⟩ := hQ8
  have N := Fr.app N N8q
  have Zs := Nat.le_trans Zs K8.1
  have E_b := E_b.keep K8
  have K := K.trans K8 (allS (Or.inr sz_b7) all0)
  refine OwnGo.thru st8 ?_
  show OwnGo _ _ _ _ (T8.setTop (mkF m 39 #[.val (.ref b)] [(.ref b7)]))
  refine OwnGo.fwd (fun tq' kq' => XS.goto X8.here hx rfl (pc0 := 39) (pc' := 50) rfl (hb hby d26_39) (by decide) (by decide) kq') ?_
  show OwnGo _ _ _ _ (T8.setTop (mkF m 50 #[.val (.ref b)] [(.ref b7)]))
  exact own_retA X8 hlk hx Bd.returns rfl rfl (hb hby d26_50) (by decide) (by decide) eh8.symm ⟨N, K, _, rfl⟩
theorem d19_0 : decode prog_40_method_1_code 0 = .ok (.aload_n 0, 1) := by decide +kernel
theorem d19_1 : decode prog_40_method_1_code 1 = .ok (.invokespecial 1, 3) := by decide +kernel
theorem d19_4 : decode prog_40_method_1_code 4 = .ok (.new 7, 3) := by decide +kernel
theorem d19_7 : decode prog_40_method_1_code 7 = .ok (.dup, 1) := by decide +kernel
theorem d19_8 : decode prog_40_method_1_code 8 = .ok (.aload_n 1, 1) := by decide +kernel
theorem d19_9 : decode prog_40_method_1_code 9 = .ok (.invokespecial 9, 3) := by decide +kernel
theorem d19_12 : decode prog_40_method_1_code 12 = .ok (.invokestatic 12, 3) := by decide +kernel
theorem d19_15 : decode prog_40_method_1_code 15 = .ok (.astore_n 1, 1) := by decide +kernel
theorem d19_16 : decode prog_40_method_1_code 16 = .ok (.aload_n 0, 1) := by decide +kernel
theorem d19_17 : decode prog_40_method_1_code 17 = .ok (.aload_n 1, 1) := by decide +kernel
theorem d19_18 : decode prog_40_method_1_code 18 = .ok (.putfield 18, 3) := by decide +kernel
theorem d19_21 : decode prog_40_method_1_code 21 = .ok (.return_, 1) := by decide +kernel
theorem pn_19 : plainFor (⟨"com/example/rolestack/rolestack/CollectionValue", "<init>", "(Ljava/util/List;)V"⟩ : MethodName) = true := plainFor_of_name (by first | (simp [plainName, overriddenIn]; done) | decide +kernel)
theorem ef_19 (m : MethodId) (x0 : Addr) (x1 : Addr) : entryFrame m #[(.ref x0), (.ref x1)] 2 = mkF m 0 #[.val (.ref x0), .val (.ref x1)] [] := by first | (simp [entryFrame, mkF, argsToLocals, Value.category, maxLocals]; done) | rfl
def Q19 (Z : State) (y : Addr) (a : Addr) (em : Addr) (ma : Addr) (mu : Addr) (mr : Addr) (d : Addr) (mo : Addr) (u : Nat) (n : Nat) (h0 : Heap) (n0 : Nat) (v : Option Value) (h : Heap) (L : List Loc) : Prop := v = none ∧ Fr n0 L ∧ Keep h0 h [y] ∧ Exa Z h y "com/example/rolestack/rolestack/CollectionValue"
set_option maxRecDepth 65536 in
set_option maxHeartbeats 40000000 in
theorem rm19 (l : Launch) (Z : State) (a0 : Array Value) (hw : ∀ d ∈ tables_1, d.before a0 Z = true) (ws : List Jvm.Cond) (y : Addr) (a : Addr) (em : Addr) (ma : Addr) (mu : Addr) (mr : Addr) (d : Addr) (mo : Addr) (u : Nat) (n : Nat) (h0 : Heap) (n0 : Nat) (Z0 : n0 ≤ h0.size) (E_y : Exa Z h0 y "com/example/rolestack/rolestack/CollectionValue") (F_values_y : Fld Z h0 y "com/example/rolestack/rolestack/CollectionValue" "values" "Ljava/util/List;" .null) (g_y : n0 ≤ y) (E_a : Exa Z h0 a "java/util/ArrayList") (F_elementData_a : Fld Z h0 a "java/util/ArrayList" "elementData" "[Ljava/lang/Object;" (.ref d)) (F_size_a : Fld Z h0 a "java/util/ArrayList" "size" "I" (.int (Int32.ofNat n))) (O_d : OwnOA Z h0 d u) (hle : n ≤ u) (hn2 : n ≤ 2) (hu : u ≤ 10) (ne_y_a : y ≠ a) (ne_y_d : y ≠ d) (S0_EMPTY_ELEMENTDATA : Sta Z h0 "java/util/ArrayList" "EMPTY_ELEMENTDATA" "[Ljava/lang/Object;" (.ref em)) (M_mo : Mir Z "[Ljava/lang/Object;" mo) (M_ma : Mir Z "java/util/ArrayList" ma) (M_mu : Mir Z "java/util/Collections$UnmodifiableList" mu) (M_mr : Mir Z "java/util/Collections$UnmodifiableRandomAccessList" mr) :
    MetFree l (⟨"com/example/rolestack/rolestack/CollectionValue", "<init>", "(Ljava/util/List;)V"⟩ : MethodName) (head1 (Jvm.Cond.code (⟨"com/example/rolestack/rolestack/CollectionValue", "<init>", "(Ljava/util/List;)V"⟩ : MethodName) prog_40_method_1_code 2 none :: ws) ({ frames := 5, cells := 3, slots := 7, locals := 95 } : Room)) (fun arr' U => arr' = #[(.ref y), (.ref a)] ∧ Z.Warmed39 U.vm ∧ U.heap = h0) (fun _ _ _ _ _ => True) (fun _ U o U' => ∃ v L, o = .returned v ∧ (Q19 Z y a em ma mu mr d mo u n h0 n0) v U'.heap L ∧ FrameEnd U o U' L ({ frames := 5, cells := 3, slots := 7, locals := 95 } : Room).cells ({ frames := 5, cells := 3, slots := 7, locals := 95 } : Room).slots) := by
  refine MetFree.of_bodySF pn_19 hisR ?_
  intro p e s m args below meth c s₁ Bd hml0 hP hK
  obtain ⟨rfl, hZ, hh⟩ := hP
  have hx := Bd.exec
  have hby := Bd.bytes
  have hlk : meth.locks = false := BodyLoose.notSynchronized Bd
  have hml : c.maxLocals = 2 := hml0
  have hown : s.vm.findClass "com/example/rolestack/rolestack/CollectionValue" = some m.cls := findClass_of_methodNamed Bd.named
  have hnm := (name_of_methodNamed Bd.named Bd.method).1
  have X0 : Stand p l e ({ frames := 5, cells := 3, slots := 7, locals := 95 } : Room) s m #[(.ref y), (.ref a)] below meth c s₁ [] 0 0 := Stand.of_body Bd
  have e0 : s₁.heap = h0 := by rw [← hh, Bd.state]; rfl
  have N := Fr.nil n0
  have Zs := Z0
  change OwnGo p.tables e below (OwnEnd s (Q19 Z y a em ma mu mr d mo u n h0 n0) ({ frames := 5, cells := 3, slots := 7, locals := 95 } : Room).cells ({ frames := 5, cells := 3, slots := 7, locals := 95 } : Room).slots) _
  refine OwnGo.fwd (fun tq' kq' => castTop (ef_19 m y a) kq') ?_
  show OwnGo _ _ _ _ (s₁.setTop (mkF m 0 #[.val (.ref y), .val (.ref a)] []))
  have K : Keep h0 h0 [y] := Keep.refl _ _
  have E0_y := E_y
  refine OwnGo.fwd (fun tq' kq' => XS.aloadN X0.here hx rfl (hb hby d19_0) rfl rfl kq') ?_
  show OwnGo _ _ _ _ (s₁.setTop (mkF m 1 #[.val (.ref y), .val (.ref a)] [(.ref y)]))
  obtain ⟨_, _, ⟨T1, L1, k1, n1⟩, -, X1, ⟨Lc1, hQ1, l1, y1, z1⟩, st1⟩ := X0.specialBack hx (y := (⟨"java/lang/Record", "<init>", "()V"⟩ : MethodName)) rfl hown (mvT hZ (hw _ (List.mem_of_getElem? (i := 165) rfl))) (mvT hZ (hw _ (List.mem_of_getElem? (i := 166) rfl))) (mvT hZ (hw _ (List.mem_of_getElem? (i := 169) rfl))) (by decide) (backOf (W := 0) (rm20 l Z a0 hw [] y h0 n0 Zs) hZ (hw _ (List.mem_of_getElem? (i := 169) rfl)) (hw _ (List.mem_of_getElem? (i := 168) rfl)) (by decide) (by decide)) (g := (mkF m 1 #[.val (.ref y), .val (.ref a)] [(.ref y)])) rfl (by rw [hml]; rfl) (Steps.refl _) (a := y) (argsL := []) (rest := []) (lenOf pd_0 rfl) rfl (by show 2 * 0 + _ ≤ _; exact Nat.le_of_eq rfl) (hb hby d19_1) (fun _ _ => ⟨rfl, e0, (by decide : 0 + 0 ≤ _), (by decide : 0 + 0 ≤ _)⟩)
  dsimp only [Pt.U, Pt.locs, Pt.cells, Pt.slots] at X1 l1 y1 z1 st1 hQ1
  subst l1 y1 z1
  obtain ⟨rfl, N1q, e1⟩ := hQ1
  have N := Fr.app N N1q
  refine OwnGo.thru st1 ?_
  show OwnGo _ _ _ _ (T1.setTop (mkF m 4 #[.val (.ref y), .val (.ref a)] []))
  obtain ⟨T2, h2, X2, e2, E2, A2, D2, -, st2⟩ := newO X1 hx hZ hown (hw _ (List.mem_of_getElem? (i := 171) rfl)) (hw _ (List.mem_of_getElem? (i := 1) rfl)) (hw _ (List.mem_of_getElem? (i := 2) rfl)) e1 (g := (mkF m 4 #[.val (.ref y), .val (.ref a)] [])) rfl (hb hby d19_4) (by decide) (by decide)
  obtain ⟨b2, g2⟩ : ∃ z, z = h0.size := ⟨_, rfl⟩
  rw [← g2] at A2 D2 st2
  have ne_y_b2 : y ≠ b2 := Nat.ne_of_lt (Nat.lt_of_lt_of_le E_y.lt (Nat.le_of_eq g2.symm))
  have ne_a_b2 : a ≠ b2 := Nat.ne_of_lt (Nat.lt_of_lt_of_le E_a.lt (Nat.le_of_eq g2.symm))
  have ne_d_b2 : d ≠ b2 := Nat.ne_of_lt (Nat.lt_of_lt_of_le O_d.lt (Nat.le_of_eq g2.symm))
  have g_b2 : n0 ≤ b2 := Nat.le_trans Zs (Nat.le_of_eq g2.symm)
  have sz_b2 : h0.size ≤ b2 := Nat.le_trans K.1 (Nat.le_of_eq g2.symm)
  have K := K.ext E2
  have Zs := Nat.le_trans Zs E2.1
  have E_y := E_y.ext E2
  have F_values_y := F_values_y.ext E2
  have E_a := E_a.ext E2
  have F_elementData_a := F_elementData_a.ext E2
  have F_size_a := F_size_a.ext E2
  have O_d := O_d.ext E2
  have E_b2 := A2
  have F_modCount_b2 : Fld Z h2 b2 "java/util/AbstractList" "modCount" "I" (.int (0 : Int32)) := D2 (Or.inl (hw _ (List.mem_of_getElem? (i := 22) rfl))) (ty := .int) (by decide)
  have F_elementData_b2 : Fld Z h2 b2 "java/util/ArrayList" "elementData" "[Ljava/lang/Object;" .null := D2 (Or.inl (hw _ (List.mem_of_getElem? (i := 25) rfl))) (ty := (.array (.object "java/lang/Object"))) (by decide)
  have F_size_b2 : Fld Z h2 b2 "java/util/ArrayList" "size" "I" (.int (0 : Int32)) := D2 (Or.inl (hw _ (List.mem_of_getElem? (i := 91) rfl))) (ty := .int) (by decide)
  refine OwnGo.fwd st2 ?_
  show OwnGo _ _ _ _ (T2.setTop (mkF m 7 #[.val (.ref y), .val (.ref a)] [(.ref b2)]))
  refine OwnGo.fwd (fun tq' kq' => XS.dup X2.here hx rfl (hb hby d19_7) rfl rfl kq') ?_
  show OwnGo _ _ _ _ (T2.setTop (mkF m 8 #[.val (.ref y), .val (.ref a)] [(.ref b2), (.ref b2)]))
  refine OwnGo.fwd (fun tq' kq' => XS.aloadN X2.here hx rfl (hb hby d19_8) rfl rfl kq') ?_
  show OwnGo _ _ _ _ (T2.setTop (mkF m 9 #[.val (.ref y), .val (.ref a)] [(.ref a), (.ref b2), (.ref b2)]))
  obtain ⟨_, _, ⟨T3, L3, k3, n3⟩, -, X3, ⟨Lc3, hQ3, l3, y3, z3⟩, st3⟩ := X2.specialBack hx (y := (⟨"java/util/ArrayList", "<init>", "(Ljava/util/Collection;)V"⟩ : MethodName)) rfl hown (mvT hZ (hw _ (List.mem_of_getElem? (i := 172) rfl))) (mvT hZ (hw _ (List.mem_of_getElem? (i := 173) rfl))) (mvT hZ (hw _ (List.mem_of_getElem? (i := 174) rfl))) (by decide) (backOf (W := 1) (rm21 l Z a0 hw [] b2 a em ma d mo u n h2 n0 Zs E_b2 F_modCount_b2 F_elementData_b2 F_size_b2 g_b2 E_a F_elementData_a F_size_a O_d hle hn2 hu (Ne.symm ne_a_b2) (Ne.symm ne_d_b2) (own_stK S0_EMPTY_ELEMENTDATA K (allS ⟨_, E0_y⟩ all0)) M_mo M_ma) hZ (hw _ (List.mem_of_getElem? (i := 174) rfl)) (hw _ (List.mem_of_getElem? (i := 2) rfl)) (by decide) (by decide)) (g := (mkF m 9 #[.val (.ref y), .val (.ref a)] [(.ref a), (.ref b2), (.ref b2)])) rfl (by rw [hml]; rfl) (Steps.refl _) (a := b2) (argsL := [(.ref a)]) (rest := [(.ref b2)]) (lenOf pd_15 rfl) rfl (by show 2 * 0 + _ ≤ _; exact Nat.le_of_eq rfl) (hb hby d19_9) (fun _ _ => ⟨rfl, e2, (by decide : 1 + 1 ≤ _), (by decide : 3 + 2 ≤ _)⟩)
  dsimp only [Pt.U, Pt.locs, Pt.cells, Pt.slots] at X3 l3 y3 z3 st3 hQ3
  subst l3 y3 z3
  obtain ⟨h3, eh3⟩ : ∃ z, z = T3.heap := ⟨_, rfl⟩
  rw [← eh3] at hQ3
  obtain ⟨rfl, N3q, K3, E_b2⟩ := hQ3
  have N := Fr.app N N3q
  have Zs := Nat.le_trans Zs K3.1
  have E_y := E_y.keep K3
  have F_values_y := F_values_y.keep K3 (ninS ne_y_b2 nin0)
  have E_a := E_a.keep K3
  have F_elementData_a := F_elementData_a.keep K3 (ninS ne_a_b2 nin0)
  have F_size_a := F_size_a.keep K3 (ninS ne_a_b2 nin0)
  have O_d := O_d.keep K3 (ninS ne_d_b2 nin0)
  have K := K.trans K3 (allS (Or.inr sz_b2) all0)
  refine OwnGo.thru st3 ?_
  show OwnGo _ _ _ _ (T3.setTop (mkF m 12 #[.val (.ref y), .val (.ref a)] [(.ref b2)]))
  obtain ⟨_, _, ⟨T4, L4, k4, n4⟩, -, X4, ⟨Lc4, hQ4, l4, y4, z4⟩, st4⟩ := Jvm.LawKit.callS X3 hx (y := (⟨"java/util/Collections", "unmodifiableList", "(Ljava/util/List;)Ljava/util/List;"⟩ : MethodName)) hown (mvT hZ (hw _ (List.mem_of_getElem? (i := 207) rfl))) (mvT hZ (hw _ (List.mem_of_getElem? (i := 208) rfl))) (mvT hZ (hw _ (List.mem_of_getElem? (i := 209) rfl))) (mvT hZ (hw _ (List.mem_of_getElem? (i := 210) rfl))) (by decide) (backOf (W := 0) (rm26 l Z a0 hw [] b2 ma mu mr h3 n0 Zs E_b2 M_ma M_mu M_mr) hZ (hw _ (List.mem_of_getElem? (i := 210) rfl)) (hw _ (List.mem_of_getElem? (i := 209) rfl)) (by decide) (by decide)) (g := (mkF m 12 #[.val (.ref y), .val (.ref a)] [(.ref b2)])) rfl (by rw [hml]; rfl) (argsL := [(.ref b2)]) (rest := []) (lenOf pd_18 rfl) rfl (by show 2 * 0 + _ ≤ _; exact Nat.le_of_eq rfl) (hb hby d19_12) (fun _ _ => ⟨rfl, eh3.symm, (by decide : 2 + 1 ≤ _), (by decide : 5 + 2 ≤ _)⟩)
  dsimp only [Pt.U, Pt.locs, Pt.cells, Pt.slots] at X4 l4 y4 z4 st4 hQ4
  subst l4 y4 z4
  obtain ⟨h4, eh4⟩ : ∃ z, z = T4.heap := ⟨_, rfl⟩
  rw [← eh4] at hQ4
  obtain ⟨N4q, K4, t4, rfl⟩ := hQ4
  have N := Fr.app N N4q
  have Zs := Nat.le_trans Zs K4.1
  have E_y := E_y.keep K4
  have F_values_y := F_values_y.keep K4 nin0
  have E_a := E_a.keep K4
  have F_elementData_a := F_elementData_a.keep K4 nin0
  have F_size_a := F_size_a.keep K4 nin0
  have O_d := O_d.keep K4 nin0
  have E_b2 := E_b2.keep K4
  have K := K.trans K4 all0
  refine OwnGo.fwd st4 ?_
  show OwnGo _ _ _ _ (T4.setTop (mkF m 15 #[.val (.ref y), .val (.ref a)] [(.ref t4)]))
  refine OwnGo.fwd (fun tq' kq' => XS.astoreN X4.here hx rfl (hb hby d19_15) rfl rfl (l' := #[.val (.ref y), .val (.ref t4)]) rfl kq') ?_
  show OwnGo _ _ _ _ (T4.setTop (mkF m 16 #[.val (.ref y), .val (.ref t4)] []))
  refine OwnGo.fwd (fun tq' kq' => XS.aloadN X4.here hx rfl (hb hby d19_16) rfl rfl kq') ?_
  show OwnGo _ _ _ _ (T4.setTop (mkF m 17 #[.val (.ref y), .val (.ref t4)] [(.ref y)]))
  refine OwnGo.fwd (fun tq' kq' => XS.aloadN X4.here hx rfl (hb hby d19_17) rfl rfl kq') ?_
  show OwnGo _ _ _ _ (T4.setTop (mkF m 18 #[.val (.ref y), .val (.ref t4)] [(.ref t4), (.ref y)]))
  obtain ⟨T5, h5, X5, e5, W5, st5⟩ := putF X4 hx hZ hown (host := "") (Or.inl (hw _ (List.mem_of_getElem? (i := 247) rfl))) Via.refl eh4.symm F_values_y E_y (Or.inr ⟨(hw _ (List.mem_of_getElem? (i := 248) rfl)), rfl, hnm⟩) (hw _ (List.mem_of_getElem? (i := 160) rfl)) (ty := (.object "java/util/List")) (by decide) rfl rfl (g := (mkF m 18 #[.val (.ref y), .val (.ref t4)] [(.ref t4), (.ref y)])) rfl rfl (hb hby d19_18)
  have E_y := E_y.wr W5
  have F_values_y := F_values_y.same W5
  have E_a := E_a.wr W5
  have F_elementData_a := F_elementData_a.other W5 (Or.inl (Ne.symm ne_y_a))
  have F_size_a := F_size_a.other W5 (Or.inl (Ne.symm ne_y_a))
  have O_d := O_d.other W5 (Ne.symm ne_y_d)
  have E_b2 := E_b2.wr W5
  have K := K.wr W5 (Or.inl (List.mem_of_getElem? (i := 0) rfl))
  have Zs := Nat.le_trans Zs (Keep.of_wr W5).1
  have N := Fr.snoc X5 N g_y
  refine OwnGo.fwd st5 ?_
  show OwnGo _ _ _ _ (T5.setTop (mkF m 21 #[.val (.ref y), .val (.ref t4)] []))
  exact own_retV X5 hlk hx Bd.returns (hb hby d19_21) (by decide) (by decide) e5 ⟨rfl, N, K, E_y⟩
theorem d5_0 : decode prog_216_method_6_code 0 = .ok (.aload_n 0, 1) := by decide +kernel
theorem d5_1 : decode prog_216_method_6_code 1 = .ok (.ifnonnull 10, 3) := by decide +kernel
theorem d5_4 : decode prog_216_method_6_code 4 = .ok (.getstatic 16, 3) := by decide +kernel
theorem d5_7 : decode prog_216_method_6_code 7 = .ok (.astore_n 1, 1) := by decide +kernel
theorem d5_8 : decode prog_216_method_6_code 8 = .ok (.goto 75, 3) := by decide +kernel
theorem d5_11 : decode prog_216_method_6_code 11 = .ok (.aload_n 0, 1) := by decide +kernel
theorem d5_12 : decode prog_216_method_6_code 12 = .ok (.instanceof 55, 3) := by decide +kernel
theorem d5_15 : decode prog_216_method_6_code 15 = .ok (.ifCond .eq 10, 3) := by decide +kernel
theorem d5_18 : decode prog_216_method_6_code 18 = .ok (.getstatic 3, 3) := by decide +kernel
theorem d5_21 : decode prog_216_method_6_code 21 = .ok (.astore_n 1, 1) := by decide +kernel
theorem d5_22 : decode prog_216_method_6_code 22 = .ok (.goto 61, 3) := by decide +kernel
theorem d5_25 : decode prog_216_method_6_code 25 = .ok (.aload_n 0, 1) := by decide +kernel
theorem d5_26 : decode prog_216_method_6_code 26 = .ok (.instanceof 57, 3) := by decide +kernel
theorem d5_29 : decode prog_216_method_6_code 29 = .ok (.ifCond .eq 10, 3) := by decide +kernel
theorem d5_32 : decode prog_216_method_6_code 32 = .ok (.getstatic 7, 3) := by decide +kernel
theorem d5_35 : decode prog_216_method_6_code 35 = .ok (.astore_n 1, 1) := by decide +kernel
theorem d5_36 : decode prog_216_method_6_code 36 = .ok (.goto 47, 3) := by decide +kernel
theorem d5_39 : decode prog_216_method_6_code 39 = .ok (.aload_n 0, 1) := by decide +kernel
theorem d5_40 : decode prog_216_method_6_code 40 = .ok (.instanceof 59, 3) := by decide +kernel
theorem d5_43 : decode prog_216_method_6_code 43 = .ok (.ifCond .eq 10, 3) := by decide +kernel
theorem d5_46 : decode prog_216_method_6_code 46 = .ok (.getstatic 10, 3) := by decide +kernel
theorem d5_49 : decode prog_216_method_6_code 49 = .ok (.astore_n 1, 1) := by decide +kernel
theorem d5_50 : decode prog_216_method_6_code 50 = .ok (.goto 33, 3) := by decide +kernel
theorem d5_53 : decode prog_216_method_6_code 53 = .ok (.aload_n 0, 1) := by decide +kernel
theorem d5_54 : decode prog_216_method_6_code 54 = .ok (.instanceof 61, 3) := by decide +kernel
theorem d5_57 : decode prog_216_method_6_code 57 = .ok (.ifCond .eq 10, 3) := by decide +kernel
theorem d5_60 : decode prog_216_method_6_code 60 = .ok (.getstatic 13, 3) := by decide +kernel
theorem d5_63 : decode prog_216_method_6_code 63 = .ok (.astore_n 1, 1) := by decide +kernel
theorem d5_64 : decode prog_216_method_6_code 64 = .ok (.goto 19, 3) := by decide +kernel
theorem d5_67 : decode prog_216_method_6_code 67 = .ok (.aload_n 0, 1) := by decide +kernel
theorem d5_68 : decode prog_216_method_6_code 68 = .ok (.instanceof 63, 3) := by decide +kernel
theorem d5_71 : decode prog_216_method_6_code 71 = .ok (.ifCond .eq 10, 3) := by decide +kernel
theorem d5_74 : decode prog_216_method_6_code 74 = .ok (.getstatic 19, 3) := by decide +kernel
theorem d5_77 : decode prog_216_method_6_code 77 = .ok (.astore_n 1, 1) := by decide +kernel
theorem d5_78 : decode prog_216_method_6_code 78 = .ok (.goto 5, 3) := by decide +kernel
theorem d5_81 : decode prog_216_method_6_code 81 = .ok (.aconst_null, 1) := by decide +kernel
theorem d5_82 : decode prog_216_method_6_code 82 = .ok (.astore_n 1, 1) := by decide +kernel
theorem d5_83 : decode prog_216_method_6_code 83 = .ok (.aload_n 1, 1) := by decide +kernel
theorem d5_84 : decode prog_216_method_6_code 84 = .ok (.areturn, 1) := by decide +kernel
theorem pn_5 : plainFor (⟨"com/example/rolestack/rolestack/ValueKind", "of", "(Ljava/lang/Object;)Lcom/example/rolestack/rolestack/ValueKind;"⟩ : MethodName) = true := plainFor_of_name (by first | (simp [plainName, overriddenIn]; done) | decide +kernel)
theorem ef_5k (m : MethodId) : entryFrame m #[.null] 2 = mkF m 0 #[.val .null, .unset] [] := by first | (simp [entryFrame, mkF, argsToLocals, Value.category, maxLocals]; done) | rfl
def Q5k (Z : State) (vk : Addr) (h0 : Heap) (n0 : Nat) (v : Option Value) (h : Heap) (L : List Loc) : Prop := v = some (.ref vk) ∧ Fr n0 L ∧ h = h0
set_option maxRecDepth 65536 in
set_option maxHeartbeats 40000000 in
theorem rm5k (l : Launch) (Z : State) (a0 : Array Value) (hw : ∀ d ∈ tables_1, d.before a0 Z = true) (ws : List Jvm.Cond) (vk : Addr) (h0 : Heap) (n0 : Nat) (Z0 : n0 ≤ h0.size) (S0_NULL : Sta Z h0 "com/example/rolestack/rolestack/ValueKind" "NULL" "Lcom/example/rolestack/rolestack/ValueKind;" (.ref vk)) :
    MetFree l (⟨"com/example/rolestack/rolestack/ValueKind", "of", "(Ljava/lang/Object;)Lcom/example/rolestack/rolestack/ValueKind;"⟩ : MethodName) (head1 (Jvm.Cond.code (⟨"com/example/rolestack/rolestack/ValueKind", "of", "(Ljava/lang/Object;)Lcom/example/rolestack/rolestack/ValueKind;"⟩ : MethodName) prog_216_method_6_code 2 (some (.object "com/example/rolestack/rolestack/ValueKind")) :: ws) ({ frames := 0, cells := 0, slots := 0, locals := 0 } : Room)) (fun arr' U => arr' = #[.null] ∧ Z.Warmed39 U.vm ∧ U.heap = h0) (fun _ _ _ _ _ => True) (fun _ U o U' => ∃ v L, o = .returned v ∧ (Q5k Z vk h0 n0) v U'.heap L ∧ FrameEnd U o U' L ({ frames := 0, cells := 0, slots := 0, locals := 0 } : Room).cells ({ frames := 0, cells := 0, slots := 0, locals := 0 } : Room).slots) := by
  refine MetFree.of_bodySF pn_5 hisR ?_
  intro p e s m args below meth c s₁ Bd hml0 hP hK
  obtain ⟨rfl, hZ, hh⟩ := hP
  have hx := Bd.exec
  have hby := Bd.bytes
  have hlk : meth.locks = false := BodyLoose.notSynchronized Bd
  have hml : c.maxLocals = 2 := hml0
  have hown : s.vm.findClass "com/example/rolestack/rolestack/ValueKind" = some m.cls := findClass_of_methodNamed Bd.named
  have hnm := (name_of_methodNamed Bd.named Bd.method).1
  have X0 : Stand p l e ({ frames := 0, cells := 0, slots := 0, locals := 0 } : Room) s m #[.null] below meth c s₁ [] 0 0 := Stand.of_body Bd
  have e0 : s₁.heap = h0 := by rw [← hh, Bd.state]; rfl
  have N := Fr.nil n0
  have Zs := Z0
  change OwnGo p.tables e below (OwnEnd s (Q5k Z vk h0 n0) ({ frames := 0, cells := 0, slots := 0, locals := 0 } : Room).cells ({ frames := 0, cells := 0, slots := 0, locals := 0 } : Room).slots) _
  refine OwnGo.fwd (fun tq' kq' => castTop (ef_5k m) kq') ?_
  show OwnGo _ _ _ _ (s₁.setTop (mkF m 0 #[.val .null, .unset] []))
  refine OwnGo.fwd (fun tq' kq' => XS.aloadN X0.here hx rfl (hb hby d5_0) rfl rfl kq') ?_
  show OwnGo _ _ _ _ (s₁.setTop (mkF m 1 #[.val .null, .unset] [.null]))
  refine OwnGo.fwd (fun tq' kq' => XS.ifnonnullNo X0.here hx rfl (hb hby d5_1) rfl kq') ?_
  show OwnGo _ _ _ _ (s₁.setTop (mkF m 4 #[.val .null, .unset] []))
  have S_NULL := S0_NULL
  obtain ⟨T1, X1, e1, st1⟩ := getS2 X0 hx hZ hown (host := "") (Or.inl (hw _ (List.mem_of_getElem? (i := 34) rfl))) Via.refl e0 S_NULL (g := (mkF m 4 #[.val .null, .unset] [])) rfl (hb hby d5_4)
  refine OwnGo.fwd st1 ?_
  show OwnGo _ _ _ _ (T1.setTop (mkF m 7 #[.val .null, .unset] [(.ref vk)]))
  refine OwnGo.fwd (fun tq' kq' => XS.astoreN X1.here hx rfl (hb hby d5_7) rfl rfl (l' := #[.val .null, .val (.ref vk)]) rfl kq') ?_
  show OwnGo _ _ _ _ (T1.setTop (mkF m 8 #[.val .null, .val (.ref vk)] []))
  refine OwnGo.fwd (fun tq' kq' => XS.goto X1.here hx rfl (pc0 := 8) (pc' := 83) rfl (hb hby d5_8) (by decide) (by decide) kq') ?_
  show OwnGo _ _ _ _ (T1.setTop (mkF m 83 #[.val .null, .val (.ref vk)] []))
  refine OwnGo.fwd (fun tq' kq' => XS.aloadN X1.here hx rfl (hb hby d5_83) rfl rfl kq') ?_
  show OwnGo _ _ _ _ (T1.setTop (mkF m 84 #[.val .null, .val (.ref vk)] [(.ref vk)]))
  exact own_retA X1 hlk hx Bd.returns rfl rfl (hb hby d5_84) (by decide) (by decide) e1 ⟨rfl, N, rfl⟩
theorem ef_5l (m : MethodId) (x0 : Addr) : entryFrame m #[(.ref x0)] 2 = mkF m 0 #[.val (.ref x0), .unset] [] := by first | (simp [entryFrame, mkF, argsToLocals, Value.category, maxLocals]; done) | rfl
def Q5l (Z : State) (y : Addr) (vk : Addr) (h0 : Heap) (n0 : Nat) (v : Option Value) (h : Heap) (L : List Loc) : Prop := v = some (.ref vk) ∧ Fr n0 L ∧ h = h0
set_option maxRecDepth 65536 in
set_option maxHeartbeats 40000000 in
theorem rm5l (l : Launch) (Z : State) (a0 : Array Value) (hw : ∀ d ∈ tables_1, d.before a0 Z = true) (ws : List Jvm.Cond) (y : Addr) (vk : Addr) (h0 : Heap) (n0 : Nat) (Z0 : n0 ≤ h0.size) (S0_INTEGER : Sta Z h0 "com/example/rolestack/rolestack/ValueKind" "INTEGER" "Lcom/example/rolestack/rolestack/ValueKind;" (.ref vk)) (E_y : Exa Z h0 y "java/lang/Long") :
    MetFree l (⟨"com/example/rolestack/rolestack/ValueKind", "of", "(Ljava/lang/Object;)Lcom/example/rolestack/rolestack/ValueKind;"⟩ : MethodName) (head1 (Jvm.Cond.code (⟨"com/example/rolestack/rolestack/ValueKind", "of", "(Ljava/lang/Object;)Lcom/example/rolestack/rolestack/ValueKind;"⟩ : MethodName) prog_216_method_6_code 2 (some (.object "com/example/rolestack/rolestack/ValueKind")) :: ws) ({ frames := 0, cells := 0, slots := 0, locals := 0 } : Room)) (fun arr' U => arr' = #[(.ref y)] ∧ Z.Warmed39 U.vm ∧ U.heap = h0) (fun _ _ _ _ _ => True) (fun _ U o U' => ∃ v L, o = .returned v ∧ (Q5l Z y vk h0 n0) v U'.heap L ∧ FrameEnd U o U' L ({ frames := 0, cells := 0, slots := 0, locals := 0 } : Room).cells ({ frames := 0, cells := 0, slots := 0, locals := 0 } : Room).slots) := by
  refine MetFree.of_bodySF pn_5 hisR ?_
  intro p e s m args below meth c s₁ Bd hml0 hP hK
  obtain ⟨rfl, hZ, hh⟩ := hP
  have hx := Bd.exec
  have hby := Bd.bytes
  have hlk : meth.locks = false := BodyLoose.notSynchronized Bd
  have hml : c.maxLocals = 2 := hml0
  have hown : s.vm.findClass "com/example/rolestack/rolestack/ValueKind" = some m.cls := findClass_of_methodNamed Bd.named
  have hnm := (name_of_methodNamed Bd.named Bd.method).1
  have X0 : Stand p l e ({ frames := 0, cells := 0, slots := 0, locals := 0 } : Room) s m #[(.ref y)] below meth c s₁ [] 0 0 := Stand.of_body Bd
  have e0 : s₁.heap = h0 := by rw [← hh, Bd.state]; rfl
  have N := Fr.nil n0
  have Zs := Z0
  change OwnGo p.tables e below (OwnEnd s (Q5l Z y vk h0 n0) ({ frames := 0, cells := 0, slots := 0, locals := 0 } : Room).cells ({ frames := 0, cells := 0, slots := 0, locals := 0 } : Room).slots) _
  refine OwnGo.fwd (fun tq' kq' => castTop (ef_5l m y) kq') ?_
  show OwnGo _ _ _ _ (s₁.setTop (mkF m 0 #[.val (.ref y), .unset] []))
  refine OwnGo.fwd (fun tq' kq' => XS.aloadN X0.here hx rfl (hb hby d5_0) rfl rfl kq') ?_
  show OwnGo _ _ _ _ (s₁.setTop (mkF m 1 #[.val (.ref y), .unset] [(.ref y)]))
  refine OwnGo.fwd (fun tq' kq' => XS.ifnonnullYes X0.here hx rfl (pc0 := 1) (pc' := 11) rfl (hb hby d5_1) rfl (by decide) (by decide) kq') ?_
  show OwnGo _ _ _ _ (s₁.setTop (mkF m 11 #[.val (.ref y), .unset] []))
  refine OwnGo.fwd (fun tq' kq' => XS.aloadN X0.here hx rfl (hb hby d5_11) rfl rfl kq') ?_
  show OwnGo _ _ _ _ (s₁.setTop (mkF m 12 #[.val (.ref y), .unset] [(.ref y)]))
  obtain ⟨T1, X1, e1, st1⟩ := instY X0 hx hZ hown (hw _ (List.mem_of_getElem? (i := 56) rfl)) e0 (Ins.self E_y) (g := (mkF m 12 #[.val (.ref y), .unset] [(.ref y)])) rfl rfl (hb hby d5_12)
  refine OwnGo.fwd st1 ?_
  show OwnGo _ _ _ _ (T1.setTop (mkF m 15 #[.val (.ref y), .unset] [(.int (1 : Int32))]))
  have hc15_2 : ¬ ((1 : Int) = (0 : Int)) := by decide
  refine OwnGo.fwd (fun tq' kq' => XS.ifNo X1.here hx rfl (hb hby d5_15) rfl ((if0 _ _).trans (own_bneq (by decide) (by decide) hc15_2).1) kq') ?_
  show OwnGo _ _ _ _ (T1.setTop (mkF m 18 #[.val (.ref y), .unset] []))
  have S_INTEGER := S0_INTEGER
  obtain ⟨T3, X3, e3, st3⟩ := getS2 X1 hx hZ hown (host := "") (Or.inl (hw _ (List.mem_of_getElem? (i := 137) rfl))) Via.refl e1 S_INTEGER (g := (mkF m 18 #[.val (.ref y), .unset] [])) rfl (hb hby d5_18)
  refine OwnGo.fwd st3 ?_
  show OwnGo _ _ _ _ (T3.setTop (mkF m 21 #[.val (.ref y), .unset] [(.ref vk)]))
  refine OwnGo.fwd (fun tq' kq' => XS.astoreN X3.here hx rfl (hb hby d5_21) rfl rfl (l' := #[.val (.ref y), .val (.ref vk)]) rfl kq') ?_
  show OwnGo _ _ _ _ (T3.setTop (mkF m 22 #[.val (.ref y), .val (.ref vk)] []))
  refine OwnGo.fwd (fun tq' kq' => XS.goto X3.here hx rfl (pc0 := 22) (pc' := 83) rfl (hb hby d5_22) (by decide) (by decide) kq') ?_
  show OwnGo _ _ _ _ (T3.setTop (mkF m 83 #[.val (.ref y), .val (.ref vk)] []))
  refine OwnGo.fwd (fun tq' kq' => XS.aloadN X3.here hx rfl (hb hby d5_83) rfl rfl kq') ?_
  show OwnGo _ _ _ _ (T3.setTop (mkF m 84 #[.val (.ref y), .val (.ref vk)] [(.ref vk)]))
  exact own_retA X3 hlk hx Bd.returns rfl rfl (hb hby d5_84) (by decide) (by decide) e3 ⟨rfl, N, rfl⟩
theorem ef_5d (m : MethodId) (x0 : Addr) : entryFrame m #[(.ref x0)] 2 = mkF m 0 #[.val (.ref x0), .unset] [] := by first | (simp [entryFrame, mkF, argsToLocals, Value.category, maxLocals]; done) | rfl
def Q5d (Z : State) (y : Addr) (vk : Addr) (h0 : Heap) (n0 : Nat) (v : Option Value) (h : Heap) (L : List Loc) : Prop := v = some (.ref vk) ∧ Fr n0 L ∧ h = h0
set_option maxRecDepth 65536 in
set_option maxHeartbeats 40000000 in
theorem rm5d (l : Launch) (Z : State) (a0 : Array Value) (hw : ∀ d ∈ tables_1, d.before a0 Z = true) (ws : List Jvm.Cond) (y : Addr) (vk : Addr) (h0 : Heap) (n0 : Nat) (Z0 : n0 ≤ h0.size) (S0_REAL : Sta Z h0 "com/example/rolestack/rolestack/ValueKind" "REAL" "Lcom/example/rolestack/rolestack/ValueKind;" (.ref vk)) (E_y : Exa Z h0 y "java/lang/Double") :
    MetFree l (⟨"com/example/rolestack/rolestack/ValueKind", "of", "(Ljava/lang/Object;)Lcom/example/rolestack/rolestack/ValueKind;"⟩ : MethodName) (head1 (Jvm.Cond.code (⟨"com/example/rolestack/rolestack/ValueKind", "of", "(Ljava/lang/Object;)Lcom/example/rolestack/rolestack/ValueKind;"⟩ : MethodName) prog_216_method_6_code 2 (some (.object "com/example/rolestack/rolestack/ValueKind")) :: ws) ({ frames := 0, cells := 0, slots := 0, locals := 0 } : Room)) (fun arr' U => arr' = #[(.ref y)] ∧ Z.Warmed39 U.vm ∧ U.heap = h0) (fun _ _ _ _ _ => True) (fun _ U o U' => ∃ v L, o = .returned v ∧ (Q5d Z y vk h0 n0) v U'.heap L ∧ FrameEnd U o U' L ({ frames := 0, cells := 0, slots := 0, locals := 0 } : Room).cells ({ frames := 0, cells := 0, slots := 0, locals := 0 } : Room).slots) := by
  refine MetFree.of_bodySF pn_5 hisR ?_
  intro p e s m args below meth c s₁ Bd hml0 hP hK
  obtain ⟨rfl, hZ, hh⟩ := hP
  have hx := Bd.exec
  have hby := Bd.bytes
  have hlk : meth.locks = false := BodyLoose.notSynchronized Bd
  have hml : c.maxLocals = 2 := hml0
  have hown : s.vm.findClass "com/example/rolestack/rolestack/ValueKind" = some m.cls := findClass_of_methodNamed Bd.named
  have hnm := (name_of_methodNamed Bd.named Bd.method).1
  have X0 : Stand p l e ({ frames := 0, cells := 0, slots := 0, locals := 0 } : Room) s m #[(.ref y)] below meth c s₁ [] 0 0 := Stand.of_body Bd
  have e0 : s₁.heap = h0 := by rw [← hh, Bd.state]; rfl
  have N := Fr.nil n0
  have Zs := Z0
  change OwnGo p.tables e below (OwnEnd s (Q5d Z y vk h0 n0) ({ frames := 0, cells := 0, slots := 0, locals := 0 } : Room).cells ({ frames := 0, cells := 0, slots := 0, locals := 0 } : Room).slots) _
  refine OwnGo.fwd (fun tq' kq' => castTop (ef_5d m y) kq') ?_
  show OwnGo _ _ _ _ (s₁.setTop (mkF m 0 #[.val (.ref y), .unset] []))
  refine OwnGo.fwd (fun tq' kq' => XS.aloadN X0.here hx rfl (hb hby d5_0) rfl rfl kq') ?_
  show OwnGo _ _ _ _ (s₁.setTop (mkF m 1 #[.val (.ref y), .unset] [(.ref y)]))
  refine OwnGo.fwd (fun tq' kq' => XS.ifnonnullYes X0.here hx rfl (pc0 := 1) (pc' := 11) rfl (hb hby d5_1) rfl (by decide) (by decide) kq') ?_
  show OwnGo _ _ _ _ (s₁.setTop (mkF m 11 #[.val (.ref y), .unset] []))
  refine OwnGo.fwd (fun tq' kq' => XS.aloadN X0.here hx rfl (hb hby d5_11) rfl rfl kq') ?_
  show OwnGo _ _ _ _ (s₁.setTop (mkF m 12 #[.val (.ref y), .unset] [(.ref y)]))
  obtain ⟨T1, X1, e1, st1⟩ := instNo X0 hx hZ hown (hw _ (List.mem_of_getElem? (i := 56) rfl)) e0 E_y (own_NSno (hw _ (List.mem_of_getElem? (i := 271) rfl)) (hw _ (List.mem_of_getElem? (i := 69) rfl)) (NS.step (hw _ (List.mem_of_getElem? (i := 271) rfl)) (NS.step (hw _ (List.mem_of_getElem? (i := 148) rfl)) (own_NSroot (hw _ (List.mem_of_getElem? (i := 58) rfl)) (hw _ (List.mem_of_getElem? (i := 69) rfl)) (by decide)) (by decide)) (by decide)) (by decide)) (g := (mkF m 12 #[.val (.ref y), .unset] [(.ref y)])) rfl rfl (hb hby d5_12)
  refine OwnGo.fwd st1 ?_
  show OwnGo _ _ _ _ (T1.setTop (mkF m 15 #[.val (.ref y), .unset] [(.int (0 : Int32))]))
  have hc15_2 : (0 : Int) = (0 : Int) := rfl
  refine OwnGo.fwd (fun tq' kq' => XS.ifYes X1.here hx rfl (pc0 := 15) (pc' := 25) rfl (hb hby d5_15) rfl ((if0 _ _).trans (own_beq (by decide) (by decide) hc15_2).1) (by decide) (by decide) kq') ?_
  show OwnGo _ _ _ _ (T1.setTop (mkF m 25 #[.val (.ref y), .unset] []))
  refine OwnGo.fwd (fun tq' kq' => XS.aloadN X1.here hx rfl (hb hby d5_25) rfl rfl kq') ?_
  show OwnGo _ _ _ _ (T1.setTop (mkF m 26 #[.val (.ref y), .unset] [(.ref y)]))
  obtain ⟨T3, X3, e3, st3⟩ := instY X1 hx hZ hown (hw _ (List.mem_of_getElem? (i := 59) rfl)) e1 (Ins.self E_y) (g := (mkF m 26 #[.val (.ref y), .unset] [(.ref y)])) rfl rfl (hb hby d5_26)
  refine OwnGo.fwd st3 ?_
  show OwnGo _ _ _ _ (T3.setTop (mkF m 29 #[.val (.ref y), .unset] [(.int (1 : Int32))]))
  have hc29_4 : ¬ ((1 : Int) = (0 : Int)) := by decide
  refine OwnGo.fwd (fun tq' kq' => XS.ifNo X3.here hx rfl (hb hby d5_29) rfl ((if0 _ _).trans (own_bneq (by decide) (by decide) hc29_4).1) kq') ?_
  show OwnGo _ _ _ _ (T3.setTop (mkF m 32 #[.val (.ref y), .unset] []))
  have S_REAL := S0_REAL
  obtain ⟨T5, X5, e5, st5⟩ := getS2 X3 hx hZ hown (host := "") (Or.inl (hw _ (List.mem_of_getElem? (i := 272) rfl))) Via.refl e3 S_REAL (g := (mkF m 32 #[.val (.ref y), .unset] [])) rfl (hb hby d5_32)
  refine OwnGo.fwd st5 ?_
  show OwnGo _ _ _ _ (T5.setTop (mkF m 35 #[.val (.ref y), .unset] [(.ref vk)]))
  refine OwnGo.fwd (fun tq' kq' => XS.astoreN X5.here hx rfl (hb hby d5_35) rfl rfl (l' := #[.val (.ref y), .val (.ref vk)]) rfl kq') ?_
  show OwnGo _ _ _ _ (T5.setTop (mkF m 36 #[.val (.ref y), .val (.ref vk)] []))
  refine OwnGo.fwd (fun tq' kq' => XS.goto X5.here hx rfl (pc0 := 36) (pc' := 83) rfl (hb hby d5_36) (by decide) (by decide) kq') ?_
  show OwnGo _ _ _ _ (T5.setTop (mkF m 83 #[.val (.ref y), .val (.ref vk)] []))
  refine OwnGo.fwd (fun tq' kq' => XS.aloadN X5.here hx rfl (hb hby d5_83) rfl rfl kq') ?_
  show OwnGo _ _ _ _ (T5.setTop (mkF m 84 #[.val (.ref y), .val (.ref vk)] [(.ref vk)]))
  exact own_retA X5 hlk hx Bd.returns rfl rfl (hb hby d5_84) (by decide) (by decide) e5 ⟨rfl, N, rfl⟩
theorem ef_5s (m : MethodId) (x0 : Addr) : entryFrame m #[(.ref x0)] 2 = mkF m 0 #[.val (.ref x0), .unset] [] := by first | (simp [entryFrame, mkF, argsToLocals, Value.category, maxLocals]; done) | rfl
def Q5s (Z : State) (y : Addr) (vk : Addr) (h0 : Heap) (n0 : Nat) (v : Option Value) (h : Heap) (L : List Loc) : Prop := v = some (.ref vk) ∧ Fr n0 L ∧ h = h0
set_option maxRecDepth 65536 in
set_option maxHeartbeats 40000000 in
theorem rm5s (l : Launch) (Z : State) (a0 : Array Value) (hw : ∀ d ∈ tables_1, d.before a0 Z = true) (ws : List Jvm.Cond) (y : Addr) (vk : Addr) (h0 : Heap) (n0 : Nat) (Z0 : n0 ≤ h0.size) (S0_STRING : Sta Z h0 "com/example/rolestack/rolestack/ValueKind" "STRING" "Lcom/example/rolestack/rolestack/ValueKind;" (.ref vk)) (E_y : Exa Z h0 y "java/lang/String") :
    MetFree l (⟨"com/example/rolestack/rolestack/ValueKind", "of", "(Ljava/lang/Object;)Lcom/example/rolestack/rolestack/ValueKind;"⟩ : MethodName) (head1 (Jvm.Cond.code (⟨"com/example/rolestack/rolestack/ValueKind", "of", "(Ljava/lang/Object;)Lcom/example/rolestack/rolestack/ValueKind;"⟩ : MethodName) prog_216_method_6_code 2 (some (.object "com/example/rolestack/rolestack/ValueKind")) :: ws) ({ frames := 0, cells := 0, slots := 0, locals := 0 } : Room)) (fun arr' U => arr' = #[(.ref y)] ∧ Z.Warmed39 U.vm ∧ U.heap = h0) (fun _ _ _ _ _ => True) (fun _ U o U' => ∃ v L, o = .returned v ∧ (Q5s Z y vk h0 n0) v U'.heap L ∧ FrameEnd U o U' L ({ frames := 0, cells := 0, slots := 0, locals := 0 } : Room).cells ({ frames := 0, cells := 0, slots := 0, locals := 0 } : Room).slots) := by
  refine MetFree.of_bodySF pn_5 hisR ?_
  intro p e s m args below meth c s₁ Bd hml0 hP hK
  obtain ⟨rfl, hZ, hh⟩ := hP
  have hx := Bd.exec
  have hby := Bd.bytes
  have hlk : meth.locks = false := BodyLoose.notSynchronized Bd
  have hml : c.maxLocals = 2 := hml0
  have hown : s.vm.findClass "com/example/rolestack/rolestack/ValueKind" = some m.cls := findClass_of_methodNamed Bd.named
  have hnm := (name_of_methodNamed Bd.named Bd.method).1
  have X0 : Stand p l e ({ frames := 0, cells := 0, slots := 0, locals := 0 } : Room) s m #[(.ref y)] below meth c s₁ [] 0 0 := Stand.of_body Bd
  have e0 : s₁.heap = h0 := by rw [← hh, Bd.state]; rfl
  have N := Fr.nil n0
  have Zs := Z0
  change OwnGo p.tables e below (OwnEnd s (Q5s Z y vk h0 n0) ({ frames := 0, cells := 0, slots := 0, locals := 0 } : Room).cells ({ frames := 0, cells := 0, slots := 0, locals := 0 } : Room).slots) _
  refine OwnGo.fwd (fun tq' kq' => castTop (ef_5s m y) kq') ?_
  show OwnGo _ _ _ _ (s₁.setTop (mkF m 0 #[.val (.ref y), .unset] []))
  refine OwnGo.fwd (fun tq' kq' => XS.aloadN X0.here hx rfl (hb hby d5_0) rfl rfl kq') ?_
  show OwnGo _ _ _ _ (s₁.setTop (mkF m 1 #[.val (.ref y), .unset] [(.ref y)]))
  refine OwnGo.fwd (fun tq' kq' => XS.ifnonnullYes X0.here hx rfl (pc0 := 1) (pc' := 11) rfl (hb hby d5_1) rfl (by decide) (by decide) kq') ?_
  show OwnGo _ _ _ _ (s₁.setTop (mkF m 11 #[.val (.ref y), .unset] []))
  refine OwnGo.fwd (fun tq' kq' => XS.aloadN X0.here hx rfl (hb hby d5_11) rfl rfl kq') ?_
  show OwnGo _ _ _ _ (s₁.setTop (mkF m 12 #[.val (.ref y), .unset] [(.ref y)]))
  obtain ⟨T1, X1, e1, st1⟩ := instNo X0 hx hZ hown (hw _ (List.mem_of_getElem? (i := 56) rfl)) e0 E_y (own_NSno (hw _ (List.mem_of_getElem? (i := 57) rfl)) (hw _ (List.mem_of_getElem? (i := 69) rfl)) (NS.step (hw _ (List.mem_of_getElem? (i := 57) rfl)) (own_NSroot (hw _ (List.mem_of_getElem? (i := 58) rfl)) (hw _ (List.mem_of_getElem? (i := 69) rfl)) (by decide)) (by decide)) (by decide)) (g := (mkF m 12 #[.val (.ref y), .unset] [(.ref y)])) rfl rfl (hb hby d5_12)
  refine OwnGo.fwd st1 ?_
  show OwnGo _ _ _ _ (T1.setTop (mkF m 15 #[.val (.ref y), .unset] [(.int (0 : Int32))]))
  have hc15_2 : (0 : Int) = (0 : Int) := rfl
  refine OwnGo.fwd (fun tq' kq' => XS.ifYes X1.here hx rfl (pc0 := 15) (pc' := 25) rfl (hb hby d5_15) rfl ((if0 _ _).trans (own_beq (by decide) (by decide) hc15_2).1) (by decide) (by decide) kq') ?_
  show OwnGo _ _ _ _ (T1.setTop (mkF m 25 #[.val (.ref y), .unset] []))
  refine OwnGo.fwd (fun tq' kq' => XS.aloadN X1.here hx rfl (hb hby d5_25) rfl rfl kq') ?_
  show OwnGo _ _ _ _ (T1.setTop (mkF m 26 #[.val (.ref y), .unset] [(.ref y)]))
  obtain ⟨T3, X3, e3, st3⟩ := instNo X1 hx hZ hown (hw _ (List.mem_of_getElem? (i := 59) rfl)) e1 E_y (own_NSno (hw _ (List.mem_of_getElem? (i := 57) rfl)) (hw _ (List.mem_of_getElem? (i := 260) rfl)) (NS.step (hw _ (List.mem_of_getElem? (i := 57) rfl)) (own_NSroot (hw _ (List.mem_of_getElem? (i := 58) rfl)) (hw _ (List.mem_of_getElem? (i := 260) rfl)) (by decide)) (by decide)) (by decide)) (g := (mkF m 26 #[.val (.ref y), .unset] [(.ref y)])) rfl rfl (hb hby d5_26)
  refine OwnGo.fwd st3 ?_
  show OwnGo _ _ _ _ (T3.setTop (mkF m 29 #[.val (.ref y), .unset] [(.int (0 : Int32))]))
  have hc29_4 : (0 : Int) = (0 : Int) := rfl
  refine OwnGo.fwd (fun tq' kq' => XS.ifYes X3.here hx rfl (pc0 := 29) (pc' := 39) rfl (hb hby d5_29) rfl ((if0 _ _).trans (own_beq (by decide) (by decide) hc29_4).1) (by decide) (by decide) kq') ?_
  show OwnGo _ _ _ _ (T3.setTop (mkF m 39 #[.val (.ref y), .unset] []))
  refine OwnGo.fwd (fun tq' kq' => XS.aloadN X3.here hx rfl (hb hby d5_39) rfl rfl kq') ?_
  show OwnGo _ _ _ _ (T3.setTop (mkF m 40 #[.val (.ref y), .unset] [(.ref y)]))
  obtain ⟨T5, X5, e5, st5⟩ := instY X3 hx hZ hown (hw _ (List.mem_of_getElem? (i := 60) rfl)) e3 (Ins.self E_y) (g := (mkF m 40 #[.val (.ref y), .unset] [(.ref y)])) rfl rfl (hb hby d5_40)
  refine OwnGo.fwd st5 ?_
  show OwnGo _ _ _ _ (T5.setTop (mkF m 43 #[.val (.ref y), .unset] [(.int (1 : Int32))]))
  have hc43_6 : ¬ ((1 : Int) = (0 : Int)) := by decide
  refine OwnGo.fwd (fun tq' kq' => XS.ifNo X5.here hx rfl (hb hby d5_43) rfl ((if0 _ _).trans (own_bneq (by decide) (by decide) hc43_6).1) kq') ?_
  show OwnGo _ _ _ _ (T5.setTop (mkF m 46 #[.val (.ref y), .unset] []))
  have S_STRING := S0_STRING
  obtain ⟨T7, X7, e7, st7⟩ := getS2 X5 hx hZ hown (host := "") (Or.inl (hw _ (List.mem_of_getElem? (i := 61) rfl))) Via.refl e5 S_STRING (g := (mkF m 46 #[.val (.ref y), .unset] [])) rfl (hb hby d5_46)
  refine OwnGo.fwd st7 ?_
  show OwnGo _ _ _ _ (T7.setTop (mkF m 49 #[.val (.ref y), .unset] [(.ref vk)]))
  refine OwnGo.fwd (fun tq' kq' => XS.astoreN X7.here hx rfl (hb hby d5_49) rfl rfl (l' := #[.val (.ref y), .val (.ref vk)]) rfl kq') ?_
  show OwnGo _ _ _ _ (T7.setTop (mkF m 50 #[.val (.ref y), .val (.ref vk)] []))
  refine OwnGo.fwd (fun tq' kq' => XS.goto X7.here hx rfl (pc0 := 50) (pc' := 83) rfl (hb hby d5_50) (by decide) (by decide) kq') ?_
  show OwnGo _ _ _ _ (T7.setTop (mkF m 83 #[.val (.ref y), .val (.ref vk)] []))
  refine OwnGo.fwd (fun tq' kq' => XS.aloadN X7.here hx rfl (hb hby d5_83) rfl rfl kq') ?_
  show OwnGo _ _ _ _ (T7.setTop (mkF m 84 #[.val (.ref y), .val (.ref vk)] [(.ref vk)]))
  exact own_retA X7 hlk hx Bd.returns rfl rfl (hb hby d5_84) (by decide) (by decide) e7 ⟨rfl, N, rfl⟩
theorem ef_5o (m : MethodId) (x0 : Addr) : entryFrame m #[(.ref x0)] 2 = mkF m 0 #[.val (.ref x0), .unset] [] := by first | (simp [entryFrame, mkF, argsToLocals, Value.category, maxLocals]; done) | rfl
def Q5o (Z : State) (y : Addr) (vk : Addr) (h0 : Heap) (n0 : Nat) (v : Option Value) (h : Heap) (L : List Loc) : Prop := v = some (.ref vk) ∧ Fr n0 L ∧ h = h0
set_option maxRecDepth 65536 in
set_option maxHeartbeats 40000000 in
theorem rm5o (l : Launch) (Z : State) (a0 : Array Value) (hw : ∀ d ∈ tables_1, d.before a0 Z = true) (ws : List Jvm.Cond) (y : Addr) (vk : Addr) (h0 : Heap) (n0 : Nat) (Z0 : n0 ≤ h0.size) (S0_LINK : Sta Z h0 "com/example/rolestack/rolestack/ValueKind" "LINK" "Lcom/example/rolestack/rolestack/ValueKind;" (.ref vk)) (E_y : Exa Z h0 y "com/example/rolestack/rolestack/StoredObject") :
    MetFree l (⟨"com/example/rolestack/rolestack/ValueKind", "of", "(Ljava/lang/Object;)Lcom/example/rolestack/rolestack/ValueKind;"⟩ : MethodName) (head1 (Jvm.Cond.code (⟨"com/example/rolestack/rolestack/ValueKind", "of", "(Ljava/lang/Object;)Lcom/example/rolestack/rolestack/ValueKind;"⟩ : MethodName) prog_216_method_6_code 2 (some (.object "com/example/rolestack/rolestack/ValueKind")) :: ws) ({ frames := 0, cells := 0, slots := 0, locals := 0 } : Room)) (fun arr' U => arr' = #[(.ref y)] ∧ Z.Warmed39 U.vm ∧ U.heap = h0) (fun _ _ _ _ _ => True) (fun _ U o U' => ∃ v L, o = .returned v ∧ (Q5o Z y vk h0 n0) v U'.heap L ∧ FrameEnd U o U' L ({ frames := 0, cells := 0, slots := 0, locals := 0 } : Room).cells ({ frames := 0, cells := 0, slots := 0, locals := 0 } : Room).slots) := by
  refine MetFree.of_bodySF pn_5 hisR ?_
  intro p e s m args below meth c s₁ Bd hml0 hP hK
  obtain ⟨rfl, hZ, hh⟩ := hP
  have hx := Bd.exec
  have hby := Bd.bytes
  have hlk : meth.locks = false := BodyLoose.notSynchronized Bd
  have hml : c.maxLocals = 2 := hml0
  have hown : s.vm.findClass "com/example/rolestack/rolestack/ValueKind" = some m.cls := findClass_of_methodNamed Bd.named
  have hnm := (name_of_methodNamed Bd.named Bd.method).1
  have X0 : Stand p l e ({ frames := 0, cells := 0, slots := 0, locals := 0 } : Room) s m #[(.ref y)] below meth c s₁ [] 0 0 := Stand.of_body Bd
  have e0 : s₁.heap = h0 := by rw [← hh, Bd.state]; rfl
  have N := Fr.nil n0
  have Zs := Z0
  change OwnGo p.tables e below (OwnEnd s (Q5o Z y vk h0 n0) ({ frames := 0, cells := 0, slots := 0, locals := 0 } : Room).cells ({ frames := 0, cells := 0, slots := 0, locals := 0 } : Room).slots) _
  refine OwnGo.fwd (fun tq' kq' => castTop (ef_5o m y) kq') ?_
  show OwnGo _ _ _ _ (s₁.setTop (mkF m 0 #[.val (.ref y), .unset] []))
  refine OwnGo.fwd (fun tq' kq' => XS.aloadN X0.here hx rfl (hb hby d5_0) rfl rfl kq') ?_
  show OwnGo _ _ _ _ (s₁.setTop (mkF m 1 #[.val (.ref y), .unset] [(.ref y)]))
  refine OwnGo.fwd (fun tq' kq' => XS.ifnonnullYes X0.here hx rfl (pc0 := 1) (pc' := 11) rfl (hb hby d5_1) rfl (by decide) (by decide) kq') ?_
  show OwnGo _ _ _ _ (s₁.setTop (mkF m 11 #[.val (.ref y), .unset] []))
  refine OwnGo.fwd (fun tq' kq' => XS.aloadN X0.here hx rfl (hb hby d5_11) rfl rfl kq') ?_
  show OwnGo _ _ _ _ (s₁.setTop (mkF m 12 #[.val (.ref y), .unset] [(.ref y)]))
  obtain ⟨T1, X1, e1, st1⟩ := instNo X0 hx hZ hown (hw _ (List.mem_of_getElem? (i := 56) rfl)) e0 E_y (own_NSno (hw _ (List.mem_of_getElem? (i := 132) rfl)) (hw _ (List.mem_of_getElem? (i := 69) rfl)) (NS.step (hw _ (List.mem_of_getElem? (i := 132) rfl)) (own_NSroot (hw _ (List.mem_of_getElem? (i := 58) rfl)) (hw _ (List.mem_of_getElem? (i := 69) rfl)) (by decide)) (by decide)) (by decide)) (g := (mkF m 12 #[.val (.ref y), .unset] [(.ref y)])) rfl rfl (hb hby d5_12)
  refine OwnGo.fwd st1 ?_
  show OwnGo _ _ _ _ (T1.setTop (mkF m 15 #[.val (.ref y), .unset] [(.int (0 : Int32))]))
  have hc15_2 : (0 : Int) = (0 : Int) := rfl
  refine OwnGo.fwd (fun tq' kq' => XS.ifYes X1.here hx rfl (pc0 := 15) (pc' := 25) rfl (hb hby d5_15) rfl ((if0 _ _).trans (own_beq (by decide) (by decide) hc15_2).1) (by decide) (by decide) kq') ?_
  show OwnGo _ _ _ _ (T1.setTop (mkF m 25 #[.val (.ref y), .unset] []))
  refine OwnGo.fwd (fun tq' kq' => XS.aloadN X1.here hx rfl (hb hby d5_25) rfl rfl kq') ?_
  show OwnGo _ _ _ _ (T1.setTop (mkF m 26 #[.val (.ref y), .unset] [(.ref y)]))
  obtain ⟨T3, X3, e3, st3⟩ := instNo X1 hx hZ hown (hw _ (List.mem_of_getElem? (i := 59) rfl)) e1 E_y (own_NSno (hw _ (List.mem_of_getElem? (i := 132) rfl)) (hw _ (List.mem_of_getElem? (i := 260) rfl)) (NS.step (hw _ (List.mem_of_getElem? (i := 132) rfl)) (own_NSroot (hw _ (List.mem_of_getElem? (i := 58) rfl)) (hw _ (List.mem_of_getElem? (i := 260) rfl)) (by decide)) (by decide)) (by decide)) (g := (mkF m 26 #[.val (.ref y), .unset] [(.ref y)])) rfl rfl (hb hby d5_26)
  refine OwnGo.fwd st3 ?_
  show OwnGo _ _ _ _ (T3.setTop (mkF m 29 #[.val (.ref y), .unset] [(.int (0 : Int32))]))
  have hc29_4 : (0 : Int) = (0 : Int) := rfl
  refine OwnGo.fwd (fun tq' kq' => XS.ifYes X3.here hx rfl (pc0 := 29) (pc' := 39) rfl (hb hby d5_29) rfl ((if0 _ _).trans (own_beq (by decide) (by decide) hc29_4).1) (by decide) (by decide) kq') ?_
  show OwnGo _ _ _ _ (T3.setTop (mkF m 39 #[.val (.ref y), .unset] []))
  refine OwnGo.fwd (fun tq' kq' => XS.aloadN X3.here hx rfl (hb hby d5_39) rfl rfl kq') ?_
  show OwnGo _ _ _ _ (T3.setTop (mkF m 40 #[.val (.ref y), .unset] [(.ref y)]))
  obtain ⟨T5, X5, e5, st5⟩ := instNo X3 hx hZ hown (hw _ (List.mem_of_getElem? (i := 60) rfl)) e3 E_y (own_NSno (hw _ (List.mem_of_getElem? (i := 132) rfl)) (hw _ (List.mem_of_getElem? (i := 36) rfl)) (NS.step (hw _ (List.mem_of_getElem? (i := 132) rfl)) (own_NSroot (hw _ (List.mem_of_getElem? (i := 58) rfl)) (hw _ (List.mem_of_getElem? (i := 36) rfl)) (by decide)) (by decide)) (by decide)) (g := (mkF m 40 #[.val (.ref y), .unset] [(.ref y)])) rfl rfl (hb hby d5_40)
  refine OwnGo.fwd st5 ?_
  show OwnGo _ _ _ _ (T5.setTop (mkF m 43 #[.val (.ref y), .unset] [(.int (0 : Int32))]))
  have hc43_6 : (0 : Int) = (0 : Int) := rfl
  refine OwnGo.fwd (fun tq' kq' => XS.ifYes X5.here hx rfl (pc0 := 43) (pc' := 53) rfl (hb hby d5_43) rfl ((if0 _ _).trans (own_beq (by decide) (by decide) hc43_6).1) (by decide) (by decide) kq') ?_
  show OwnGo _ _ _ _ (T5.setTop (mkF m 53 #[.val (.ref y), .unset] []))
  refine OwnGo.fwd (fun tq' kq' => XS.aloadN X5.here hx rfl (hb hby d5_53) rfl rfl kq') ?_
  show OwnGo _ _ _ _ (T5.setTop (mkF m 54 #[.val (.ref y), .unset] [(.ref y)]))
  obtain ⟨T7, X7, e7, st7⟩ := instY X5 hx hZ hown (hw _ (List.mem_of_getElem? (i := 117) rfl)) e5 (Ins.self E_y) (g := (mkF m 54 #[.val (.ref y), .unset] [(.ref y)])) rfl rfl (hb hby d5_54)
  refine OwnGo.fwd st7 ?_
  show OwnGo _ _ _ _ (T7.setTop (mkF m 57 #[.val (.ref y), .unset] [(.int (1 : Int32))]))
  have hc57_8 : ¬ ((1 : Int) = (0 : Int)) := by decide
  refine OwnGo.fwd (fun tq' kq' => XS.ifNo X7.here hx rfl (hb hby d5_57) rfl ((if0 _ _).trans (own_bneq (by decide) (by decide) hc57_8).1) kq') ?_
  show OwnGo _ _ _ _ (T7.setTop (mkF m 60 #[.val (.ref y), .unset] []))
  have S_LINK := S0_LINK
  obtain ⟨T9, X9, e9, st9⟩ := getS2 X7 hx hZ hown (host := "") (Or.inl (hw _ (List.mem_of_getElem? (i := 134) rfl))) Via.refl e7 S_LINK (g := (mkF m 60 #[.val (.ref y), .unset] [])) rfl (hb hby d5_60)
  refine OwnGo.fwd st9 ?_
  show OwnGo _ _ _ _ (T9.setTop (mkF m 63 #[.val (.ref y), .unset] [(.ref vk)]))
  refine OwnGo.fwd (fun tq' kq' => XS.astoreN X9.here hx rfl (hb hby d5_63) rfl rfl (l' := #[.val (.ref y), .val (.ref vk)]) rfl kq') ?_
  show OwnGo _ _ _ _ (T9.setTop (mkF m 64 #[.val (.ref y), .val (.ref vk)] []))
  refine OwnGo.fwd (fun tq' kq' => XS.goto X9.here hx rfl (pc0 := 64) (pc' := 83) rfl (hb hby d5_64) (by decide) (by decide) kq') ?_
  show OwnGo _ _ _ _ (T9.setTop (mkF m 83 #[.val (.ref y), .val (.ref vk)] []))
  refine OwnGo.fwd (fun tq' kq' => XS.aloadN X9.here hx rfl (hb hby d5_83) rfl rfl kq') ?_
  show OwnGo _ _ _ _ (T9.setTop (mkF m 84 #[.val (.ref y), .val (.ref vk)] [(.ref vk)]))
  exact own_retA X9 hlk hx Bd.returns rfl rfl (hb hby d5_84) (by decide) (by decide) e9 ⟨rfl, N, rfl⟩
theorem ef_5c (m : MethodId) (x0 : Addr) : entryFrame m #[(.ref x0)] 2 = mkF m 0 #[.val (.ref x0), .unset] [] := by first | (simp [entryFrame, mkF, argsToLocals, Value.category, maxLocals]; done) | rfl
def Q5c (Z : State) (y : Addr) (vk : Addr) (h0 : Heap) (n0 : Nat) (v : Option Value) (h : Heap) (L : List Loc) : Prop := v = some (.ref vk) ∧ Fr n0 L ∧ h = h0
set_option maxRecDepth 65536 in
set_option maxHeartbeats 40000000 in
theorem rm5c (l : Launch) (Z : State) (a0 : Array Value) (hw : ∀ d ∈ tables_1, d.before a0 Z = true) (ws : List Jvm.Cond) (y : Addr) (vk : Addr) (h0 : Heap) (n0 : Nat) (Z0 : n0 ≤ h0.size) (S0_COLLECTION : Sta Z h0 "com/example/rolestack/rolestack/ValueKind" "COLLECTION" "Lcom/example/rolestack/rolestack/ValueKind;" (.ref vk)) (E_y : Exa Z h0 y "com/example/rolestack/rolestack/CollectionValue") :
    MetFree l (⟨"com/example/rolestack/rolestack/ValueKind", "of", "(Ljava/lang/Object;)Lcom/example/rolestack/rolestack/ValueKind;"⟩ : MethodName) (head1 (Jvm.Cond.code (⟨"com/example/rolestack/rolestack/ValueKind", "of", "(Ljava/lang/Object;)Lcom/example/rolestack/rolestack/ValueKind;"⟩ : MethodName) prog_216_method_6_code 2 (some (.object "com/example/rolestack/rolestack/ValueKind")) :: ws) ({ frames := 0, cells := 0, slots := 0, locals := 0 } : Room)) (fun arr' U => arr' = #[(.ref y)] ∧ Z.Warmed39 U.vm ∧ U.heap = h0) (fun _ _ _ _ _ => True) (fun _ U o U' => ∃ v L, o = .returned v ∧ (Q5c Z y vk h0 n0) v U'.heap L ∧ FrameEnd U o U' L ({ frames := 0, cells := 0, slots := 0, locals := 0 } : Room).cells ({ frames := 0, cells := 0, slots := 0, locals := 0 } : Room).slots) := by
  refine MetFree.of_bodySF pn_5 hisR ?_
  intro p e s m args below meth c s₁ Bd hml0 hP hK
  obtain ⟨rfl, hZ, hh⟩ := hP
  have hx := Bd.exec
  have hby := Bd.bytes
  have hlk : meth.locks = false := BodyLoose.notSynchronized Bd
  have hml : c.maxLocals = 2 := hml0
  have hown : s.vm.findClass "com/example/rolestack/rolestack/ValueKind" = some m.cls := findClass_of_methodNamed Bd.named
  have hnm := (name_of_methodNamed Bd.named Bd.method).1
  have X0 : Stand p l e ({ frames := 0, cells := 0, slots := 0, locals := 0 } : Room) s m #[(.ref y)] below meth c s₁ [] 0 0 := Stand.of_body Bd
  have e0 : s₁.heap = h0 := by rw [← hh, Bd.state]; rfl
  have N := Fr.nil n0
  have Zs := Z0
  change OwnGo p.tables e below (OwnEnd s (Q5c Z y vk h0 n0) ({ frames := 0, cells := 0, slots := 0, locals := 0 } : Room).cells ({ frames := 0, cells := 0, slots := 0, locals := 0 } : Room).slots) _
  refine OwnGo.fwd (fun tq' kq' => castTop (ef_5c m y) kq') ?_
  show OwnGo _ _ _ _ (s₁.setTop (mkF m 0 #[.val (.ref y), .unset] []))
  refine OwnGo.fwd (fun tq' kq' => XS.aloadN X0.here hx rfl (hb hby d5_0) rfl rfl kq') ?_
  show OwnGo _ _ _ _ (s₁.setTop (mkF m 1 #[.val (.ref y), .unset] [(.ref y)]))
  refine OwnGo.fwd (fun tq' kq' => XS.ifnonnullYes X0.here hx rfl (pc0 := 1) (pc' := 11) rfl (hb hby d5_1) rfl (by decide) (by decide) kq') ?_
  show OwnGo _ _ _ _ (s₁.setTop (mkF m 11 #[.val (.ref y), .unset] []))
  refine OwnGo.fwd (fun tq' kq' => XS.aloadN X0.here hx rfl (hb hby d5_11) rfl rfl kq') ?_
  show OwnGo _ _ _ _ (s₁.setTop (mkF m 12 #[.val (.ref y), .unset] [(.ref y)]))
  obtain ⟨T1, X1, e1, st1⟩ := instNo X0 hx hZ hown (hw _ (List.mem_of_getElem? (i := 56) rfl)) e0 E_y (own_NSno (hw _ (List.mem_of_getElem? (i := 251) rfl)) (hw _ (List.mem_of_getElem? (i := 69) rfl)) (NS.step (hw _ (List.mem_of_getElem? (i := 251) rfl)) (NS.step (hw _ (List.mem_of_getElem? (i := 252) rfl)) (own_NSroot (hw _ (List.mem_of_getElem? (i := 58) rfl)) (hw _ (List.mem_of_getElem? (i := 69) rfl)) (by decide)) (by decide)) (by decide)) (by decide)) (g := (mkF m 12 #[.val (.ref y), .unset] [(.ref y)])) rfl rfl (hb hby d5_12)
  refine OwnGo.fwd st1 ?_
  show OwnGo _ _ _ _ (T1.setTop (mkF m 15 #[.val (.ref y), .unset] [(.int (0 : Int32))]))
  have hc15_2 : (0 : Int) = (0 : Int) := rfl
  refine OwnGo.fwd (fun tq' kq' => XS.ifYes X1.here hx rfl (pc0 := 15) (pc' := 25) rfl (hb hby d5_15) rfl ((if0 _ _).trans (own_beq (by decide) (by decide) hc15_2).1) (by decide) (by decide) kq') ?_
  show OwnGo _ _ _ _ (T1.setTop (mkF m 25 #[.val (.ref y), .unset] []))
  refine OwnGo.fwd (fun tq' kq' => XS.aloadN X1.here hx rfl (hb hby d5_25) rfl rfl kq') ?_
  show OwnGo _ _ _ _ (T1.setTop (mkF m 26 #[.val (.ref y), .unset] [(.ref y)]))
  obtain ⟨T3, X3, e3, st3⟩ := instNo X1 hx hZ hown (hw _ (List.mem_of_getElem? (i := 59) rfl)) e1 E_y (own_NSno (hw _ (List.mem_of_getElem? (i := 251) rfl)) (hw _ (List.mem_of_getElem? (i := 260) rfl)) (NS.step (hw _ (List.mem_of_getElem? (i := 251) rfl)) (NS.step (hw _ (List.mem_of_getElem? (i := 252) rfl)) (own_NSroot (hw _ (List.mem_of_getElem? (i := 58) rfl)) (hw _ (List.mem_of_getElem? (i := 260) rfl)) (by decide)) (by decide)) (by decide)) (by decide)) (g := (mkF m 26 #[.val (.ref y), .unset] [(.ref y)])) rfl rfl (hb hby d5_26)
  refine OwnGo.fwd st3 ?_
  show OwnGo _ _ _ _ (T3.setTop (mkF m 29 #[.val (.ref y), .unset] [(.int (0 : Int32))]))
  have hc29_4 : (0 : Int) = (0 : Int) := rfl
  refine OwnGo.fwd (fun tq' kq' => XS.ifYes X3.here hx rfl (pc0 := 29) (pc' := 39) rfl (hb hby d5_29) rfl ((if0 _ _).trans (own_beq (by decide) (by decide) hc29_4).1) (by decide) (by decide) kq') ?_
  show OwnGo _ _ _ _ (T3.setTop (mkF m 39 #[.val (.ref y), .unset] []))
  refine OwnGo.fwd (fun tq' kq' => XS.aloadN X3.here hx rfl (hb hby d5_39) rfl rfl kq') ?_
  show OwnGo _ _ _ _ (T3.setTop (mkF m 40 #[.val (.ref y), .unset] [(.ref y)]))
  obtain ⟨T5, X5, e5, st5⟩ := instNo X3 hx hZ hown (hw _ (List.mem_of_getElem? (i := 60) rfl)) e3 E_y (own_NSno (hw _ (List.mem_of_getElem? (i := 251) rfl)) (hw _ (List.mem_of_getElem? (i := 36) rfl)) (NS.step (hw _ (List.mem_of_getElem? (i := 251) rfl)) (NS.step (hw _ (List.mem_of_getElem? (i := 252) rfl)) (own_NSroot (hw _ (List.mem_of_getElem? (i := 58) rfl)) (hw _ (List.mem_of_getElem? (i := 36) rfl)) (by decide)) (by decide)) (by decide)) (by decide)) (g := (mkF m 40 #[.val (.ref y), .unset] [(.ref y)])) rfl rfl (hb hby d5_40)
  refine OwnGo.fwd st5 ?_
  show OwnGo _ _ _ _ (T5.setTop (mkF m 43 #[.val (.ref y), .unset] [(.int (0 : Int32))]))
  have hc43_6 : (0 : Int) = (0 : Int) := rfl
  refine OwnGo.fwd (fun tq' kq' => XS.ifYes X5.here hx rfl (pc0 := 43) (pc' := 53) rfl (hb hby d5_43) rfl ((if0 _ _).trans (own_beq (by decide) (by decide) hc43_6).1) (by decide) (by decide) kq') ?_
  show OwnGo _ _ _ _ (T5.setTop (mkF m 53 #[.val (.ref y), .unset] []))
  refine OwnGo.fwd (fun tq' kq' => XS.aloadN X5.here hx rfl (hb hby d5_53) rfl rfl kq') ?_
  show OwnGo _ _ _ _ (T5.setTop (mkF m 54 #[.val (.ref y), .unset] [(.ref y)]))
  obtain ⟨T7, X7, e7, st7⟩ := instNo X5 hx hZ hown (hw _ (List.mem_of_getElem? (i := 117) rfl)) e5 E_y (own_NSno (hw _ (List.mem_of_getElem? (i := 251) rfl)) (hw _ (List.mem_of_getElem? (i := 120) rfl)) (NS.step (hw _ (List.mem_of_getElem? (i := 251) rfl)) (NS.step (hw _ (List.mem_of_getElem? (i := 252) rfl)) (own_NSroot (hw _ (List.mem_of_getElem? (i := 58) rfl)) (hw _ (List.mem_of_getElem? (i := 120) rfl)) (by decide)) (by decide)) (by decide)) (by decide)) (g := (mkF m 54 #[.val (.ref y), .unset] [(.ref y)])) rfl rfl (hb hby d5_54)
  refine OwnGo.fwd st7 ?_
  show OwnGo _ _ _ _ (T7.setTop (mkF m 57 #[.val (.ref y), .unset] [(.int (0 : Int32))]))
  have hc57_8 : (0 : Int) = (0 : Int) := rfl
  refine OwnGo.fwd (fun tq' kq' => XS.ifYes X7.here hx rfl (pc0 := 57) (pc' := 67) rfl (hb hby d5_57) rfl ((if0 _ _).trans (own_beq (by decide) (by decide) hc57_8).1) (by decide) (by decide) kq') ?_
  show OwnGo _ _ _ _ (T7.setTop (mkF m 67 #[.val (.ref y), .unset] []))
  refine OwnGo.fwd (fun tq' kq' => XS.aloadN X7.here hx rfl (hb hby d5_67) rfl rfl kq') ?_
  show OwnGo _ _ _ _ (T7.setTop (mkF m 68 #[.val (.ref y), .unset] [(.ref y)]))
  obtain ⟨T9, X9, e9, st9⟩ := instY X7 hx hZ hown (hw _ (List.mem_of_getElem? (i := 118) rfl)) e7 (Ins.self E_y) (g := (mkF m 68 #[.val (.ref y), .unset] [(.ref y)])) rfl rfl (hb hby d5_68)
  refine OwnGo.fwd st9 ?_
  show OwnGo _ _ _ _ (T9.setTop (mkF m 71 #[.val (.ref y), .unset] [(.int (1 : Int32))]))
  have hc71_10 : ¬ ((1 : Int) = (0 : Int)) := by decide
  refine OwnGo.fwd (fun tq' kq' => XS.ifNo X9.here hx rfl (hb hby d5_71) rfl ((if0 _ _).trans (own_bneq (by decide) (by decide) hc71_10).1) kq') ?_
  show OwnGo _ _ _ _ (T9.setTop (mkF m 74 #[.val (.ref y), .unset] []))
  have S_COLLECTION := S0_COLLECTION
  obtain ⟨T11, X11, e11, st11⟩ := getS2 X9 hx hZ hown (host := "") (Or.inl (hw _ (List.mem_of_getElem? (i := 254) rfl))) Via.refl e9 S_COLLECTION (g := (mkF m 74 #[.val (.ref y), .unset] [])) rfl (hb hby d5_74)
  refine OwnGo.fwd st11 ?_
  show OwnGo _ _ _ _ (T11.setTop (mkF m 77 #[.val (.ref y), .unset] [(.ref vk)]))
  refine OwnGo.fwd (fun tq' kq' => XS.astoreN X11.here hx rfl (hb hby d5_77) rfl rfl (l' := #[.val (.ref y), .val (.ref vk)]) rfl kq') ?_
  show OwnGo _ _ _ _ (T11.setTop (mkF m 78 #[.val (.ref y), .val (.ref vk)] []))
  refine OwnGo.fwd (fun tq' kq' => XS.goto X11.here hx rfl (pc0 := 78) (pc' := 83) rfl (hb hby d5_78) (by decide) (by decide) kq') ?_
  show OwnGo _ _ _ _ (T11.setTop (mkF m 83 #[.val (.ref y), .val (.ref vk)] []))
  refine OwnGo.fwd (fun tq' kq' => XS.aloadN X11.here hx rfl (hb hby d5_83) rfl rfl kq') ?_
  show OwnGo _ _ _ _ (T11.setTop (mkF m 84 #[.val (.ref y), .val (.ref vk)] [(.ref vk)]))
  exact own_retA X11 hlk hx Bd.returns rfl rfl (hb hby d5_84) (by decide) (by decide) e11 ⟨rfl, N, rfl⟩
theorem ef_5i (m : MethodId) (x0 : Addr) : entryFrame m #[(.ref x0)] 2 = mkF m 0 #[.val (.ref x0), .unset] [] := by first | (simp [entryFrame, mkF, argsToLocals, Value.category, maxLocals]; done) | rfl
def Q5i (Z : State) (y : Addr) (h0 : Heap) (n0 : Nat) (v : Option Value) (h : Heap) (L : List Loc) : Prop := v = some .null ∧ Fr n0 L ∧ h = h0
set_option maxRecDepth 65536 in
set_option maxHeartbeats 40000000 in
theorem rm5i (l : Launch) (Z : State) (a0 : Array Value) (hw : ∀ d ∈ tables_1, d.before a0 Z = true) (ws : List Jvm.Cond) (y : Addr) (h0 : Heap) (n0 : Nat) (Z0 : n0 ≤ h0.size) (E_y : Exa Z h0 y "java/lang/Integer") :
    MetFree l (⟨"com/example/rolestack/rolestack/ValueKind", "of", "(Ljava/lang/Object;)Lcom/example/rolestack/rolestack/ValueKind;"⟩ : MethodName) (head1 (Jvm.Cond.code (⟨"com/example/rolestack/rolestack/ValueKind", "of", "(Ljava/lang/Object;)Lcom/example/rolestack/rolestack/ValueKind;"⟩ : MethodName) prog_216_method_6_code 2 (some (.object "com/example/rolestack/rolestack/ValueKind")) :: ws) ({ frames := 0, cells := 0, slots := 0, locals := 0 } : Room)) (fun arr' U => arr' = #[(.ref y)] ∧ Z.Warmed39 U.vm ∧ U.heap = h0) (fun _ _ _ _ _ => True) (fun _ U o U' => ∃ v L, o = .returned v ∧ (Q5i Z y h0 n0) v U'.heap L ∧ FrameEnd U o U' L ({ frames := 0, cells := 0, slots := 0, locals := 0 } : Room).cells ({ frames := 0, cells := 0, slots := 0, locals := 0 } : Room).slots) := by
  refine MetFree.of_bodySF pn_5 hisR ?_
  intro p e s m args below meth c s₁ Bd hml0 hP hK
  obtain ⟨rfl, hZ, hh⟩ := hP
  have hx := Bd.exec
  have hby := Bd.bytes
  have hlk : meth.locks = false := BodyLoose.notSynchronized Bd
  have hml : c.maxLocals = 2 := hml0
  have hown : s.vm.findClass "com/example/rolestack/rolestack/ValueKind" = some m.cls := findClass_of_methodNamed Bd.named
  have hnm := (name_of_methodNamed Bd.named Bd.method).1
  have X0 : Stand p l e ({ frames := 0, cells := 0, slots := 0, locals := 0 } : Room) s m #[(.ref y)] below meth c s₁ [] 0 0 := Stand.of_body Bd
  have e0 : s₁.heap = h0 := by rw [← hh, Bd.state]; rfl
  have N := Fr.nil n0
  have Zs := Z0
  change OwnGo p.tables e below (OwnEnd s (Q5i Z y h0 n0) ({ frames := 0, cells := 0, slots := 0, locals := 0 } : Room).cells ({ frames := 0, cells := 0, slots := 0, locals := 0 } : Room).slots) _
  refine OwnGo.fwd (fun tq' kq' => castTop (ef_5i m y) kq') ?_
  show OwnGo _ _ _ _ (s₁.setTop (mkF m 0 #[.val (.ref y), .unset] []))
  refine OwnGo.fwd (fun tq' kq' => XS.aloadN X0.here hx rfl (hb hby d5_0) rfl rfl kq') ?_
  show OwnGo _ _ _ _ (s₁.setTop (mkF m 1 #[.val (.ref y), .unset] [(.ref y)]))
  refine OwnGo.fwd (fun tq' kq' => XS.ifnonnullYes X0.here hx rfl (pc0 := 1) (pc' := 11) rfl (hb hby d5_1) rfl (by decide) (by decide) kq') ?_
  show OwnGo _ _ _ _ (s₁.setTop (mkF m 11 #[.val (.ref y), .unset] []))
  refine OwnGo.fwd (fun tq' kq' => XS.aloadN X0.here hx rfl (hb hby d5_11) rfl rfl kq') ?_
  show OwnGo _ _ _ _ (s₁.setTop (mkF m 12 #[.val (.ref y), .unset] [(.ref y)]))
  obtain ⟨T1, X1, e1, st1⟩ := instNo X0 hx hZ hown (hw _ (List.mem_of_getElem? (i := 56) rfl)) e0 E_y (own_NSno (hw _ (List.mem_of_getElem? (i := 147) rfl)) (hw _ (List.mem_of_getElem? (i := 69) rfl)) (NS.step (hw _ (List.mem_of_getElem? (i := 147) rfl)) (NS.step (hw _ (List.mem_of_getElem? (i := 148) rfl)) (own_NSroot (hw _ (List.mem_of_getElem? (i := 58) rfl)) (hw _ (List.mem_of_getElem? (i := 69) rfl)) (by decide)) (by decide)) (by decide)) (by decide)) (g := (mkF m 12 #[.val (.ref y), .unset] [(.ref y)])) rfl rfl (hb hby d5_12)
  refine OwnGo.fwd st1 ?_
  show OwnGo _ _ _ _ (T1.setTop (mkF m 15 #[.val (.ref y), .unset] [(.int (0 : Int32))]))
  have hc15_2 : (0 : Int) = (0 : Int) := rfl
  refine OwnGo.fwd (fun tq' kq' => XS.ifYes X1.here hx rfl (pc0 := 15) (pc' := 25) rfl (hb hby d5_15) rfl ((if0 _ _).trans (own_beq (by decide) (by decide) hc15_2).1) (by decide) (by decide) kq') ?_
  show OwnGo _ _ _ _ (T1.setTop (mkF m 25 #[.val (.ref y), .unset] []))
  refine OwnGo.fwd (fun tq' kq' => XS.aloadN X1.here hx rfl (hb hby d5_25) rfl rfl kq') ?_
  show OwnGo _ _ _ _ (T1.setTop (mkF m 26 #[.val (.ref y), .unset] [(.ref y)]))
  obtain ⟨T3, X3, e3, st3⟩ := instNo X1 hx hZ hown (hw _ (List.mem_of_getElem? (i := 59) rfl)) e1 E_y (own_NSno (hw _ (List.mem_of_getElem? (i := 147) rfl)) (hw _ (List.mem_of_getElem? (i := 260) rfl)) (NS.step (hw _ (List.mem_of_getElem? (i := 147) rfl)) (NS.step (hw _ (List.mem_of_getElem? (i := 148) rfl)) (own_NSroot (hw _ (List.mem_of_getElem? (i := 58) rfl)) (hw _ (List.mem_of_getElem? (i := 260) rfl)) (by decide)) (by decide)) (by decide)) (by decide)) (g := (mkF m 26 #[.val (.ref y), .unset] [(.ref y)])) rfl rfl (hb hby d5_26)
  refine OwnGo.fwd st3 ?_
  show OwnGo _ _ _ _ (T3.setTop (mkF m 29 #[.val (.ref y), .unset] [(.int (0 : Int32))]))
  have hc29_4 : (0 : Int) = (0 : Int) := rfl
  refine OwnGo.fwd (fun tq' kq' => XS.ifYes X3.here hx rfl (pc0 := 29) (pc' := 39) rfl (hb hby d5_29) rfl ((if0 _ _).trans (own_beq (by decide) (by decide) hc29_4).1) (by decide) (by decide) kq') ?_
  show OwnGo _ _ _ _ (T3.setTop (mkF m 39 #[.val (.ref y), .unset] []))
  refine OwnGo.fwd (fun tq' kq' => XS.aloadN X3.here hx rfl (hb hby d5_39) rfl rfl kq') ?_
  show OwnGo _ _ _ _ (T3.setTop (mkF m 40 #[.val (.ref y), .unset] [(.ref y)]))
  obtain ⟨T5, X5, e5, st5⟩ := instNo X3 hx hZ hown (hw _ (List.mem_of_getElem? (i := 60) rfl)) e3 E_y (own_NSno (hw _ (List.mem_of_getElem? (i := 147) rfl)) (hw _ (List.mem_of_getElem? (i := 36) rfl)) (NS.step (hw _ (List.mem_of_getElem? (i := 147) rfl)) (NS.step (hw _ (List.mem_of_getElem? (i := 148) rfl)) (own_NSroot (hw _ (List.mem_of_getElem? (i := 58) rfl)) (hw _ (List.mem_of_getElem? (i := 36) rfl)) (by decide)) (by decide)) (by decide)) (by decide)) (g := (mkF m 40 #[.val (.ref y), .unset] [(.ref y)])) rfl rfl (hb hby d5_40)
  refine OwnGo.fwd st5 ?_
  show OwnGo _ _ _ _ (T5.setTop (mkF m 43 #[.val (.ref y), .unset] [(.int (0 : Int32))]))
  have hc43_6 : (0 : Int) = (0 : Int) := rfl
  refine OwnGo.fwd (fun tq' kq' => XS.ifYes X5.here hx rfl (pc0 := 43) (pc' := 53) rfl (hb hby d5_43) rfl ((if0 _ _).trans (own_beq (by decide) (by decide) hc43_6).1) (by decide) (by decide) kq') ?_
  show OwnGo _ _ _ _ (T5.setTop (mkF m 53 #[.val (.ref y), .unset] []))
  refine OwnGo.fwd (fun tq' kq' => XS.aloadN X5.here hx rfl (hb hby d5_53) rfl rfl kq') ?_
  show OwnGo _ _ _ _ (T5.setTop (mkF m 54 #[.val (.ref y), .unset] [(.ref y)]))
  obtain ⟨T7, X7, e7, st7⟩ := instNo X5 hx hZ hown (hw _ (List.mem_of_getElem? (i := 117) rfl)) e5 E_y (own_NSno (hw _ (List.mem_of_getElem? (i := 147) rfl)) (hw _ (List.mem_of_getElem? (i := 120) rfl)) (NS.step (hw _ (List.mem_of_getElem? (i := 147) rfl)) (NS.step (hw _ (List.mem_of_getElem? (i := 148) rfl)) (own_NSroot (hw _ (List.mem_of_getElem? (i := 58) rfl)) (hw _ (List.mem_of_getElem? (i := 120) rfl)) (by decide)) (by decide)) (by decide)) (by decide)) (g := (mkF m 54 #[.val (.ref y), .unset] [(.ref y)])) rfl rfl (hb hby d5_54)
  refine OwnGo.fwd st7 ?_
  show OwnGo _ _ _ _ (T7.setTop (mkF m 57 #[.val (.ref y), .unset] [(.int (0 : Int32))]))
  have hc57_8 : (0 : Int) = (0 : Int) := rfl
  refine OwnGo.fwd (fun tq' kq' => XS.ifYes X7.here hx rfl (pc0 := 57) (pc' := 67) rfl (hb hby d5_57) rfl ((if0 _ _).trans (own_beq (by decide) (by decide) hc57_8).1) (by decide) (by decide) kq') ?_
  show OwnGo _ _ _ _ (T7.setTop (mkF m 67 #[.val (.ref y), .unset] []))
  refine OwnGo.fwd (fun tq' kq' => XS.aloadN X7.here hx rfl (hb hby d5_67) rfl rfl kq') ?_
  show OwnGo _ _ _ _ (T7.setTop (mkF m 68 #[.val (.ref y), .unset] [(.ref y)]))
  obtain ⟨T9, X9, e9, st9⟩ := instNo X7 hx hZ hown (hw _ (List.mem_of_getElem? (i := 118) rfl)) e7 E_y (own_NSno (hw _ (List.mem_of_getElem? (i := 147) rfl)) (hw _ (List.mem_of_getElem? (i := 160) rfl)) (NS.step (hw _ (List.mem_of_getElem? (i := 147) rfl)) (NS.step (hw _ (List.mem_of_getElem? (i := 148) rfl)) (own_NSroot (hw _ (List.mem_of_getElem? (i := 58) rfl)) (hw _ (List.mem_of_getElem? (i := 160) rfl)) (by decide)) (by decide)) (by decide)) (by decide)) (g := (mkF m 68 #[.val (.ref y), .unset] [(.ref y)])) rfl rfl (hb hby d5_68)
  refine OwnGo.fwd st9 ?_
  show OwnGo _ _ _ _ (T9.setTop (mkF m 71 #[.val (.ref y), .unset] [(.int (0 : Int32))]))
  have hc71_10 : (0 : Int) = (0 : Int) := rfl
  refine OwnGo.fwd (fun tq' kq' => XS.ifYes X9.here hx rfl (pc0 := 71) (pc' := 81) rfl (hb hby d5_71) rfl ((if0 _ _).trans (own_beq (by decide) (by decide) hc71_10).1) (by decide) (by decide) kq') ?_
  show OwnGo _ _ _ _ (T9.setTop (mkF m 81 #[.val (.ref y), .unset] []))
  refine OwnGo.fwd (fun tq' kq' => XS.aconstNull X9.here hx rfl (hb hby d5_81) kq') ?_
  show OwnGo _ _ _ _ (T9.setTop (mkF m 82 #[.val (.ref y), .unset] [.null]))
  refine OwnGo.fwd (fun tq' kq' => XS.astoreN X9.here hx rfl (hb hby d5_82) rfl rfl (l' := #[.val (.ref y), .val .null]) rfl kq') ?_
  show OwnGo _ _ _ _ (T9.setTop (mkF m 83 #[.val (.ref y), .val .null] []))
  refine OwnGo.fwd (fun tq' kq' => XS.aloadN X9.here hx rfl (hb hby d5_83) rfl rfl kq') ?_
  show OwnGo _ _ _ _ (T9.setTop (mkF m 84 #[.val (.ref y), .val .null] [.null]))
  exact own_retA X9 hlk hx Bd.returns rfl rfl (hb hby d5_84) (by decide) (by decide) e9 ⟨rfl, N, rfl⟩
theorem ef_5a (m : MethodId) (x0 : Addr) : entryFrame m #[(.ref x0)] 2 = mkF m 0 #[.val (.ref x0), .unset] [] := by first | (simp [entryFrame, mkF, argsToLocals, Value.category, maxLocals]; done) | rfl
def Q5a (Z : State) (y : Addr) (h0 : Heap) (n0 : Nat) (v : Option Value) (h : Heap) (L : List Loc) : Prop := v = some .null ∧ Fr n0 L ∧ h = h0
set_option maxRecDepth 65536 in
set_option maxHeartbeats 40000000 in
theorem rm5a (l : Launch) (Z : State) (a0 : Array Value) (hw : ∀ d ∈ tables_1, d.before a0 Z = true) (ws : List Jvm.Cond) (y : Addr) (h0 : Heap) (n0 : Nat) (Z0 : n0 ≤ h0.size) (E_y : Exa Z h0 y "java/util/ArrayList") :
    MetFree l (⟨"com/example/rolestack/rolestack/ValueKind", "of", "(Ljava/lang/Object;)Lcom/example/rolestack/rolestack/ValueKind;"⟩ : MethodName) (head1 (Jvm.Cond.code (⟨"com/example/rolestack/rolestack/ValueKind", "of", "(Ljava/lang/Object;)Lcom/example/rolestack/rolestack/ValueKind;"⟩ : MethodName) prog_216_method_6_code 2 (some (.object "com/example/rolestack/rolestack/ValueKind")) :: ws) ({ frames := 0, cells := 0, slots := 0, locals := 0 } : Room)) (fun arr' U => arr' = #[(.ref y)] ∧ Z.Warmed39 U.vm ∧ U.heap = h0) (fun _ _ _ _ _ => True) (fun _ U o U' => ∃ v L, o = .returned v ∧ (Q5a Z y h0 n0) v U'.heap L ∧ FrameEnd U o U' L ({ frames := 0, cells := 0, slots := 0, locals := 0 } : Room).cells ({ frames := 0, cells := 0, slots := 0, locals := 0 } : Room).slots) := by
  refine MetFree.of_bodySF pn_5 hisR ?_
  intro p e s m args below meth c s₁ Bd hml0 hP hK
  obtain ⟨rfl, hZ, hh⟩ := hP
  have hx := Bd.exec
  have hby := Bd.bytes
  have hlk : meth.locks = false := BodyLoose.notSynchronized Bd
  have hml : c.maxLocals = 2 := hml0
  have hown : s.vm.findClass "com/example/rolestack/rolestack/ValueKind" = some m.cls := findClass_of_methodNamed Bd.named
  have hnm := (name_of_methodNamed Bd.named Bd.method).1
  have X0 : Stand p l e ({ frames := 0, cells := 0, slots := 0, locals := 0 } : Room) s m #[(.ref y)] below meth c s₁ [] 0 0 := Stand.of_body Bd
  have e0 : s₁.heap = h0 := by rw [← hh, Bd.state]; rfl
  have N := Fr.nil n0
  have Zs := Z0
  change OwnGo p.tables e below (OwnEnd s (Q5a Z y h0 n0) ({ frames := 0, cells := 0, slots := 0, locals := 0 } : Room).cells ({ frames := 0, cells := 0, slots := 0, locals := 0 } : Room).slots) _
  refine OwnGo.fwd (fun tq' kq' => castTop (ef_5a m y) kq') ?_
  show OwnGo _ _ _ _ (s₁.setTop (mkF m 0 #[.val (.ref y), .unset] []))
  refine OwnGo.fwd (fun tq' kq' => XS.aloadN X0.here hx rfl (hb hby d5_0) rfl rfl kq') ?_
  show OwnGo _ _ _ _ (s₁.setTop (mkF m 1 #[.val (.ref y), .unset] [(.ref y)]))
  refine OwnGo.fwd (fun tq' kq' => XS.ifnonnullYes X0.here hx rfl (pc0 := 1) (pc' := 11) rfl (hb hby d5_1) rfl (by decide) (by decide) kq') ?_
  show OwnGo _ _ _ _ (s₁.setTop (mkF m 11 #[.val (.ref y), .unset] []))
  refine OwnGo.fwd (fun tq' kq' => XS.aloadN X0.here hx rfl (hb hby d5_11) rfl rfl kq') ?_
  show OwnGo _ _ _ _ (s₁.setTop (mkF m 12 #[.val (.ref y), .unset] [(.ref y)]))
  obtain ⟨T1, X1, e1, st1⟩ := instNo X0 hx hZ hown (hw _ (List.mem_of_getElem? (i := 56) rfl)) e0 E_y (own_NSno (hw _ (List.mem_of_getElem? (i := 114) rfl)) (hw _ (List.mem_of_getElem? (i := 69) rfl)) (NS.step (hw _ (List.mem_of_getElem? (i := 114) rfl)) (NS.step (hw _ (List.mem_of_getElem? (i := 115) rfl)) (NS.step (hw _ (List.mem_of_getElem? (i := 116) rfl)) (own_NSroot (hw _ (List.mem_of_getElem? (i := 58) rfl)) (hw _ (List.mem_of_getElem? (i := 69) rfl)) (by decide)) (by decide)) (by decide)) (by decide)) (by decide)) (g := (mkF m 12 #[.val (.ref y), .unset] [(.ref y)])) rfl rfl (hb hby d5_12)
  refine OwnGo.fwd st1 ?_
  show OwnGo _ _ _ _ (T1.setTop (mkF m 15 #[.val (.ref y), .unset] [(.int (0 : Int32))]))
  have hc15_2 : (0 : Int) = (0 : Int) := rfl
  refine OwnGo.fwd (fun tq' kq' => XS.ifYes X1.here hx rfl (pc0 := 15) (pc' := 25) rfl (hb hby d5_15) rfl ((if0 _ _).trans (own_beq (by decide) (by decide) hc15_2).1) (by decide) (by decide) kq') ?_
  show OwnGo _ _ _ _ (T1.setTop (mkF m 25 #[.val (.ref y), .unset] []))
  refine OwnGo.fwd (fun tq' kq' => XS.aloadN X1.here hx rfl (hb hby d5_25) rfl rfl kq') ?_
  show OwnGo _ _ _ _ (T1.setTop (mkF m 26 #[.val (.ref y), .unset] [(.ref y)]))
  obtain ⟨T3, X3, e3, st3⟩ := instNo X1 hx hZ hown (hw _ (List.mem_of_getElem? (i := 59) rfl)) e1 E_y (own_NSno (hw _ (List.mem_of_getElem? (i := 114) rfl)) (hw _ (List.mem_of_getElem? (i := 260) rfl)) (NS.step (hw _ (List.mem_of_getElem? (i := 114) rfl)) (NS.step (hw _ (List.mem_of_getElem? (i := 115) rfl)) (NS.step (hw _ (List.mem_of_getElem? (i := 116) rfl)) (own_NSroot (hw _ (List.mem_of_getElem? (i := 58) rfl)) (hw _ (List.mem_of_getElem? (i := 260) rfl)) (by decide)) (by decide)) (by decide)) (by decide)) (by decide)) (g := (mkF m 26 #[.val (.ref y), .unset] [(.ref y)])) rfl rfl (hb hby d5_26)
  refine OwnGo.fwd st3 ?_
  show OwnGo _ _ _ _ (T3.setTop (mkF m 29 #[.val (.ref y), .unset] [(.int (0 : Int32))]))
  have hc29_4 : (0 : Int) = (0 : Int) := rfl
  refine OwnGo.fwd (fun tq' kq' => XS.ifYes X3.here hx rfl (pc0 := 29) (pc' := 39) rfl (hb hby d5_29) rfl ((if0 _ _).trans (own_beq (by decide) (by decide) hc29_4).1) (by decide) (by decide) kq') ?_
  show OwnGo _ _ _ _ (T3.setTop (mkF m 39 #[.val (.ref y), .unset] []))
  refine OwnGo.fwd (fun tq' kq' => XS.aloadN X3.here hx rfl (hb hby d5_39) rfl rfl kq') ?_
  show OwnGo _ _ _ _ (T3.setTop (mkF m 40 #[.val (.ref y), .unset] [(.ref y)]))
  obtain ⟨T5, X5, e5, st5⟩ := instNo X3 hx hZ hown (hw _ (List.mem_of_getElem? (i := 60) rfl)) e3 E_y (own_NSno (hw _ (List.mem_of_getElem? (i := 114) rfl)) (hw _ (List.mem_of_getElem? (i := 36) rfl)) (NS.step (hw _ (List.mem_of_getElem? (i := 114) rfl)) (NS.step (hw _ (List.mem_of_getElem? (i := 115) rfl)) (NS.step (hw _ (List.mem_of_getElem? (i := 116) rfl)) (own_NSroot (hw _ (List.mem_of_getElem? (i := 58) rfl)) (hw _ (List.mem_of_getElem? (i := 36) rfl)) (by decide)) (by decide)) (by decide)) (by decide)) (by decide)) (g := (mkF m 40 #[.val (.ref y), .unset] [(.ref y)])) rfl rfl (hb hby d5_40)
  refine OwnGo.fwd st5 ?_
  show OwnGo _ _ _ _ (T5.setTop (mkF m 43 #[.val (.ref y), .unset] [(.int (0 : Int32))]))
  have hc43_6 : (0 : Int) = (0 : Int) := rfl
  refine OwnGo.fwd (fun tq' kq' => XS.ifYes X5.here hx rfl (pc0 := 43) (pc' := 53) rfl (hb hby d5_43) rfl ((if0 _ _).trans (own_beq (by decide) (by decide) hc43_6).1) (by decide) (by decide) kq') ?_
  show OwnGo _ _ _ _ (T5.setTop (mkF m 53 #[.val (.ref y), .unset] []))
  refine OwnGo.fwd (fun tq' kq' => XS.aloadN X5.here hx rfl (hb hby d5_53) rfl rfl kq') ?_
  show OwnGo _ _ _ _ (T5.setTop (mkF m 54 #[.val (.ref y), .unset] [(.ref y)]))
  obtain ⟨T7, X7, e7, st7⟩ := instNo X5 hx hZ hown (hw _ (List.mem_of_getElem? (i := 117) rfl)) e5 E_y (own_NSno (hw _ (List.mem_of_getElem? (i := 114) rfl)) (hw _ (List.mem_of_getElem? (i := 120) rfl)) (NS.step (hw _ (List.mem_of_getElem? (i := 114) rfl)) (NS.step (hw _ (List.mem_of_getElem? (i := 115) rfl)) (NS.step (hw _ (List.mem_of_getElem? (i := 116) rfl)) (own_NSroot (hw _ (List.mem_of_getElem? (i := 58) rfl)) (hw _ (List.mem_of_getElem? (i := 120) rfl)) (by decide)) (by decide)) (by decide)) (by decide)) (by decide)) (g := (mkF m 54 #[.val (.ref y), .unset] [(.ref y)])) rfl rfl (hb hby d5_54)
  refine OwnGo.fwd st7 ?_
  show OwnGo _ _ _ _ (T7.setTop (mkF m 57 #[.val (.ref y), .unset] [(.int (0 : Int32))]))
  have hc57_8 : (0 : Int) = (0 : Int) := rfl
  refine OwnGo.fwd (fun tq' kq' => XS.ifYes X7.here hx rfl (pc0 := 57) (pc' := 67) rfl (hb hby d5_57) rfl ((if0 _ _).trans (own_beq (by decide) (by decide) hc57_8).1) (by decide) (by decide) kq') ?_
  show OwnGo _ _ _ _ (T7.setTop (mkF m 67 #[.val (.ref y), .unset] []))
  refine OwnGo.fwd (fun tq' kq' => XS.aloadN X7.here hx rfl (hb hby d5_67) rfl rfl kq') ?_
  show OwnGo _ _ _ _ (T7.setTop (mkF m 68 #[.val (.ref y), .unset] [(.ref y)]))
  obtain ⟨T9, X9, e9, st9⟩ := instNo X7 hx hZ hown (hw _ (List.mem_of_getElem? (i := 118) rfl)) e7 E_y (own_NSno (hw _ (List.mem_of_getElem? (i := 114) rfl)) (hw _ (List.mem_of_getElem? (i := 160) rfl)) (NS.step (hw _ (List.mem_of_getElem? (i := 114) rfl)) (NS.step (hw _ (List.mem_of_getElem? (i := 115) rfl)) (NS.step (hw _ (List.mem_of_getElem? (i := 116) rfl)) (own_NSroot (hw _ (List.mem_of_getElem? (i := 58) rfl)) (hw _ (List.mem_of_getElem? (i := 160) rfl)) (by decide)) (by decide)) (by decide)) (by decide)) (by decide)) (g := (mkF m 68 #[.val (.ref y), .unset] [(.ref y)])) rfl rfl (hb hby d5_68)
  refine OwnGo.fwd st9 ?_
  show OwnGo _ _ _ _ (T9.setTop (mkF m 71 #[.val (.ref y), .unset] [(.int (0 : Int32))]))
  have hc71_10 : (0 : Int) = (0 : Int) := rfl
  refine OwnGo.fwd (fun tq' kq' => XS.ifYes X9.here hx rfl (pc0 := 71) (pc' := 81) rfl (hb hby d5_71) rfl ((if0 _ _).trans (own_beq (by decide) (by decide) hc71_10).1) (by decide) (by decide) kq') ?_
  show OwnGo _ _ _ _ (T9.setTop (mkF m 81 #[.val (.ref y), .unset] []))
  refine OwnGo.fwd (fun tq' kq' => XS.aconstNull X9.here hx rfl (hb hby d5_81) kq') ?_
  show OwnGo _ _ _ _ (T9.setTop (mkF m 82 #[.val (.ref y), .unset] [.null]))
  refine OwnGo.fwd (fun tq' kq' => XS.astoreN X9.here hx rfl (hb hby d5_82) rfl rfl (l' := #[.val (.ref y), .val .null]) rfl kq') ?_
  show OwnGo _ _ _ _ (T9.setTop (mkF m 83 #[.val (.ref y), .val .null] []))
  refine OwnGo.fwd (fun tq' kq' => XS.aloadN X9.here hx rfl (hb hby d5_83) rfl rfl kq') ?_
  show OwnGo _ _ _ _ (T9.setTop (mkF m 84 #[.val (.ref y), .val .null] [.null]))
  exact own_retA X9 hlk hx Bd.returns rfl rfl (hb hby d5_84) (by decide) (by decide) e9 ⟨rfl, N, rfl⟩
theorem d34_0 : decode jdk_52_method_15_code 0 = .ok (.iload_n 1, 1) := by decide +kernel
theorem d34_1 : decode jdk_52_method_15_code 1 = .ok (.aload_n 0, 1) := by decide +kernel
theorem d34_2 : decode jdk_52_method_15_code 2 = .ok (.arraylength, 1) := by decide +kernel
theorem d34_3 : decode jdk_52_method_15_code 3 = .ok (.isub, 1) := by decide +kernel
theorem d34_4 : decode jdk_52_method_15_code 4 = .ok (.bipush 31, 2) := by decide +kernel
theorem d34_6 : decode jdk_52_method_15_code 6 = .ok (.iushr, 1) := by decide +kernel
theorem d34_7 : decode jdk_52_method_15_code 7 = .ok (.i2b, 1) := by decide +kernel
theorem d34_8 : decode jdk_52_method_15_code 8 = .ok (.ireturn, 1) := by decide +kernel
theorem pn_34 : plainFor (⟨"java/lang/StringUTF16", "coderFromArrayLen", "([BI)B"⟩ : MethodName) = true := plainFor_of_name (by first | (simp [plainName, overriddenIn]; done) | decide +kernel)
theorem ef_34_1 (m : MethodId) (x0 : Addr) (x1 : Int32) : entryFrame m #[(.ref x0), (.int x1)] 2 = mkF m 0 #[.val (.ref x0), .val (.int x1)] [] := by first | (simp [entryFrame, mkF, argsToLocals, Value.category, maxLocals]; done) | rfl
def Q34_1 (Z : State) (b : Addr) (f : Nat → Int32) (h0 : Heap) (n0 : Nat) (v : Option Value) (h : Heap) (L : List Loc) : Prop := v = some (.int 0) ∧ Fr n0 L ∧ h = h0
set_option maxRecDepth 65536 in
set_option maxHeartbeats 40000000 in
theorem rm34_1 (l : Launch) (Z : State) (a0 : Array Value) (hw : ∀ d ∈ tables_1, d.before a0 Z = true) (ws : List Jvm.Cond) (b : Addr) (f : Nat → Int32) (h0 : Heap) (n0 : Nat) (Z0 : n0 ≤ h0.size) (P_b : OwnPA Z h0 b .byte 1 f) :
    MetFree l (⟨"java/lang/StringUTF16", "coderFromArrayLen", "([BI)B"⟩ : MethodName) (head1 (Jvm.Cond.code (⟨"java/lang/StringUTF16", "coderFromArrayLen", "([BI)B"⟩ : MethodName) jdk_52_method_15_code 2 (some .byte) :: ws) ({ frames := 0, cells := 0, slots := 0, locals := 0 } : Room)) (fun arr' U => arr' = #[(.ref b), (.int (1 : Int32))] ∧ Z.Warmed39 U.vm ∧ U.heap = h0) (fun _ _ _ _ _ => True) (fun _ U o U' => ∃ v L, o = .returned v ∧ (Q34_1 Z b f h0 n0) v U'.heap L ∧ FrameEnd U o U' L ({ frames := 0, cells := 0, slots := 0, locals := 0 } : Room).cells ({ frames := 0, cells := 0, slots := 0, locals := 0 } : Room).slots) := by
  refine MetFree.of_bodySF pn_34 hisR ?_
  intro p e s m args below meth c s₁ Bd hml0 hP hK
  obtain ⟨rfl, hZ, hh⟩ := hP
  have hx := Bd.exec
  have hby := Bd.bytes
  have hlk : meth.locks = false := BodyLoose.notSynchronized Bd
  have hml : c.maxLocals = 2 := hml0
  have hown : s.vm.findClass "java/lang/StringUTF16" = some m.cls := findClass_of_methodNamed Bd.named
  have hnm := (name_of_methodNamed Bd.named Bd.method).1
  have X0 : Stand p l e ({ frames := 0, cells := 0, slots := 0, locals := 0 } : Room) s m #[(.ref b), (.int (1 : Int32))] below meth c s₁ [] 0 0 := Stand.of_body Bd
  have e0 : s₁.heap = h0 := by rw [← hh, Bd.state]; rfl
  have N := Fr.nil n0
  have Zs := Z0
  change OwnGo p.tables e below (OwnEnd s (Q34_1 Z b f h0 n0) ({ frames := 0, cells := 0, slots := 0, locals := 0 } : Room).cells ({ frames := 0, cells := 0, slots := 0, locals := 0 } : Room).slots) _
  refine OwnGo.fwd (fun tq' kq' => castTop (ef_34_1 m b (1 : Int32)) kq') ?_
  show OwnGo _ _ _ _ (s₁.setTop (mkF m 0 #[.val (.ref b), .val (.int (1 : Int32))] []))
  refine OwnGo.fwd (fun tq' kq' => XS.iloadN X0.here hx rfl (hb hby d34_0) rfl kq') ?_
  show OwnGo _ _ _ _ (s₁.setTop (mkF m 1 #[.val (.ref b), .val (.int (1 : Int32))] [(.int (1 : Int32))]))
  refine OwnGo.fwd (fun tq' kq' => XS.aloadN X0.here hx rfl (hb hby d34_1) rfl rfl kq') ?_
  show OwnGo _ _ _ _ (s₁.setTop (mkF m 2 #[.val (.ref b), .val (.int (1 : Int32))] [(.ref b), (.int (1 : Int32))]))
  refine OwnGo.fwd (fun tq' kq' => own_lenP X0 hx hZ e0 P_b (g := (mkF m 2 #[.val (.ref b), .val (.int (1 : Int32))] [(.ref b), (.int (1 : Int32))])) rfl rfl (hb hby d34_2) tq' kq') ?_
  show OwnGo _ _ _ _ (s₁.setTop (mkF m 3 #[.val (.ref b), .val (.int (1 : Int32))] [(.int (Int32.ofNat 1)), (.int (1 : Int32))]))
  refine OwnGo.fwd (fun tq' kq' => XS.isub X0.here hx rfl (hb hby d34_3) rfl kq') ?_
  show OwnGo _ _ _ _ (s₁.setTop (mkF m 4 #[.val (.ref b), .val (.int (1 : Int32))] [(.int (0 : Int32))]))
  refine OwnGo.fwd (fun tq' kq' => XS.bipush X0.here hx rfl (hb hby d34_4) kq') ?_
  show OwnGo _ _ _ _ (s₁.setTop (mkF m 6 #[.val (.ref b), .val (.int (1 : Int32))] [(.int (31 : Int32)), (.int (0 : Int32))]))
  refine OwnGo.fwd (fun tq' kq' => XS.iushr X0.here hx rfl (hb hby d34_6) rfl kq') ?_
  show OwnGo _ _ _ _ (s₁.setTop (mkF m 7 #[.val (.ref b), .val (.int (1 : Int32))] [(.int (0 : Int32))]))
  refine OwnGo.fwd (fun tq' kq' => XS.i2b X0.here hx rfl (hb hby d34_7) rfl kq') ?_
  show OwnGo _ _ _ _ (s₁.setTop (mkF m 8 #[.val (.ref b), .val (.int (1 : Int32))] [(.int (0 : Int32).toInt8.toInt32)]))
  exact own_leaf X0 hlk (fun q => by rw [Bd.returns] at q; cases q) (by decide) (by decide) e0 ⟨rfl, N, rfl⟩ fun fs hl => retN X0 hx (t := .byte) Bd.returns (by simp) (hb hby d34_8) hl
theorem d33_0 : decode jdk_52_method_21_code 0 = .ok (.iconst 0, 1) := by decide +kernel
theorem d33_1 : decode jdk_52_method_21_code 1 = .ok (.istore 5, 2) := by decide +kernel
theorem d33_3 : decode jdk_52_method_21_code 3 = .ok (.iload 5, 2) := by decide +kernel
theorem d33_5 : decode jdk_52_method_21_code 5 = .ok (.iload 4, 2) := by decide +kernel
theorem d33_7 : decode jdk_52_method_21_code 7 = .ok (.if_icmp .ge 37, 3) := by decide +kernel
theorem d33_10 : decode jdk_52_method_21_code 10 = .ok (.aload_n 0, 1) := by decide +kernel
theorem d33_11 : decode jdk_52_method_21_code 11 = .ok (.iload_n 1, 1) := by decide +kernel
theorem d33_12 : decode jdk_52_method_21_code 12 = .ok (.caload, 1) := by decide +kernel
theorem d33_13 : decode jdk_52_method_21_code 13 = .ok (.istore 6, 2) := by decide +kernel
theorem d33_15 : decode jdk_52_method_21_code 15 = .ok (.iload 6, 2) := by decide +kernel
theorem d33_17 : decode jdk_52_method_21_code 17 = .ok (.sipush 255, 3) := by decide +kernel
theorem d33_20 : decode jdk_52_method_21_code 20 = .ok (.if_icmp .le 6, 3) := by decide +kernel
theorem d33_23 : decode jdk_52_method_21_code 23 = .ok (.iload 5, 2) := by decide +kernel
theorem d33_25 : decode jdk_52_method_21_code 25 = .ok (.ireturn, 1) := by decide +kernel
theorem d33_26 : decode jdk_52_method_21_code 26 = .ok (.aload_n 2, 1) := by decide +kernel
theorem d33_27 : decode jdk_52_method_21_code 27 = .ok (.iload_n 3, 1) := by decide +kernel
theorem d33_28 : decode jdk_52_method_21_code 28 = .ok (.iload 6, 2) := by decide +kernel
theorem d33_30 : decode jdk_52_method_21_code 30 = .ok (.i2b, 1) := by decide +kernel
theorem d33_31 : decode jdk_52_method_21_code 31 = .ok (.bastore, 1) := by decide +kernel
theorem d33_32 : decode jdk_52_method_21_code 32 = .ok (.iinc 1 1, 3) := by decide +kernel
theorem d33_35 : decode jdk_52_method_21_code 35 = .ok (.iinc 3 1, 3) := by decide +kernel
theorem d33_38 : decode jdk_52_method_21_code 38 = .ok (.iinc 5 1, 3) := by decide +kernel
theorem d33_41 : decode jdk_52_method_21_code 41 = .ok (.goto (-38), 3) := by decide +kernel
theorem d33_44 : decode jdk_52_method_21_code 44 = .ok (.iload 4, 2) := by decide +kernel
theorem d33_46 : decode jdk_52_method_21_code 46 = .ok (.ireturn, 1) := by decide +kernel
theorem pn_33 : plainFor (⟨"java/lang/StringUTF16", "compress", "([CI[BII)I"⟩ : MethodName) = true := plainFor_of_name (by first | (simp [plainName, overriddenIn]; done) | decide +kernel)
theorem ef_33_1 (m : MethodId) (x0 : Addr) (x1 : Int32) (x2 : Addr) (x3 : Int32) (x4 : Int32) : entryFrame m #[(.ref x0), (.int x1), (.ref x2), (.int x3), (.int x4)] 7 = mkF m 0 #[.val (.ref x0), .val (.int x1), .val (.ref x2), .val (.int x3), .val (.int x4), .unset, .unset] [] := by first | (simp [entryFrame, mkF, argsToLocals, Value.category, maxLocals]; done) | rfl
def Q33_1 (Z : State) (y : Addr) (b : Addr) (fC : Nat → Int32) (f : Nat → Int32) (h0 : Heap) (n0 : Nat) (v : Option Value) (h : Heap) (L : List Loc) : Prop := v = some (.int (1 : Int32)) ∧ Fr n0 L ∧ Keep h0 h [b] ∧ ∃ g, OwnPA Z h b .byte 1 g
set_option maxRecDepth 65536 in
set_option maxHeartbeats 40000000 in
theorem rm33_1 (l : Launch) (Z : State) (a0 : Array Value) (hw : ∀ d ∈ tables_1, d.before a0 Z = true) (ws : List Jvm.Cond) (y : Addr) (b : Addr) (fC : Nat → Int32) (f : Nat → Int32) (h0 : Heap) (n0 : Nat) (Z0 : n0 ≤ h0.size) (P_y : OwnPA Z h0 y .char 1 fC) (hle : ∀ i, i < 1 → (fC i).toInt ≤ 255) (P_b : OwnPA Z h0 b .byte 1 f) (g_b : n0 ≤ b) (ne_y_b : y ≠ b) :
    MetFree l (⟨"java/lang/StringUTF16", "compress", "([CI[BII)I"⟩ : MethodName) (head1 (Jvm.Cond.code (⟨"java/lang/StringUTF16", "compress", "([CI[BII)I"⟩ : MethodName) jdk_52_method_21_code 7 (some .int) :: ws) ({ frames := 0, cells := 0, slots := 0, locals := 0 } : Room)) (fun arr' U => arr' = #[(.ref y), (.int (0 : Int32)), (.ref b), (.int (0 : Int32)), (.int (1 : Int32))] ∧ Z.Warmed39 U.vm ∧ U.heap = h0) (fun _ _ _ _ _ => True) (fun _ U o U' => ∃ v L, o = .returned v ∧ (Q33_1 Z y b fC f h0 n0) v U'.heap L ∧ FrameEnd U o U' L ({ frames := 0, cells := 0, slots := 0, locals := 0 } : Room).cells ({ frames := 0, cells := 0, slots := 0, locals := 0 } : Room).slots) := by
  refine MetFree.of_bodySF pn_33 hisR ?_
  intro p e s m args below meth c s₁ Bd hml0 hP hK
  obtain ⟨rfl, hZ, hh⟩ := hP
  have hx := Bd.exec
  have hby := Bd.bytes
  have hlk : meth.locks = false := BodyLoose.notSynchronized Bd
  have hml : c.maxLocals = 7 := hml0
  have hown : s.vm.findClass "java/lang/StringUTF16" = some m.cls := findClass_of_methodNamed Bd.named
  have hnm := (name_of_methodNamed Bd.named Bd.method).1
  have X0 : Stand p l e ({ frames := 0, cells := 0, slots := 0, locals := 0 } : Room) s m #[(.ref y), (.int (0 : Int32)), (.ref b), (.int (0 : Int32)), (.int (1 : Int32))] below meth c s₁ [] 0 0 := Stand.of_body Bd
  have e0 : s₁.heap = h0 := by rw [← hh, Bd.state]; rfl
  have N := Fr.nil n0
  have Zs := Z0
  change OwnGo p.tables e below (OwnEnd s (Q33_1 Z y b fC f h0 n0) ({ frames := 0, cells := 0, slots := 0, locals := 0 } : Room).cells ({ frames := 0, cells := 0, slots := 0, locals := 0 } : Room).slots) _
  refine OwnGo.fwd (fun tq' kq' => castTop (ef_33_1 m y (0 : Int32) b (0 : Int32) (1 : Int32)) kq') ?_
  show OwnGo _ _ _ _ (s₁.setTop (mkF m 0 #[.val (.ref y), .val (.int (0 : Int32)), .val (.ref b), .val (.int (0 : Int32)), .val (.int (1 : Int32)), .unset, .unset] []))
  have K : Keep h0 h0 [b] := Keep.refl _ _
  refine OwnGo.fwd (fun tq' kq' => XS.iconst X0.here hx rfl (hb hby d33_0) kq') ?_
  show OwnGo _ _ _ _ (s₁.setTop (mkF m 1 #[.val (.ref y), .val (.int (0 : Int32)), .val (.ref b), .val (.int (0 : Int32)), .val (.int (1 : Int32)), .unset, .unset] [(.int (0 : Int32))]))
  refine OwnGo.fwd (fun tq' kq' => XS.istore X0.here hx rfl (hb hby d33_1) rfl (l' := #[.val (.ref y), .val (.int (0 : Int32)), .val (.ref b), .val (.int (0 : Int32)), .val (.int (1 : Int32)), .val (.int (0 : Int32)), .unset]) rfl kq') ?_
  show OwnGo _ _ _ _ (s₁.setTop (mkF m 3 #[.val (.ref y), .val (.int (0 : Int32)), .val (.ref b), .val (.int (0 : Int32)), .val (.int (1 : Int32)), .val (.int (0 : Int32)), .unset] []))
  refine OwnGo.fwd (fun tq' kq' => XS.iload X0.here hx rfl (hb hby d33_3) rfl kq') ?_
  show OwnGo _ _ _ _ (s₁.setTop (mkF m 5 #[.val (.ref y), .val (.int (0 : Int32)), .val (.ref b), .val (.int (0 : Int32)), .val (.int (1 : Int32)), .val (.int (0 : Int32)), .unset] [(.int (0 : Int32))]))
  refine OwnGo.fwd (fun tq' kq' => XS.iload X0.here hx rfl (hb hby d33_5) rfl kq') ?_
  show OwnGo _ _ _ _ (s₁.setTop (mkF m 7 #[.val (.ref y), .val (.int (0 : Int32)), .val (.ref b), .val (.int (0 : Int32)), .val (.int (1 : Int32)), .val (.int (0 : Int32)), .unset] [(.int (1 : Int32)), (.int (0 : Int32))]))
  have hc7_1 : (0 : Int) < (1 : Int) := by decide
  refine OwnGo.fwd (fun tq' kq' => XS.icmpNo X0.here hx rfl (hb hby d33_7) rfl (own_blt (by decide) (by decide) hc7_1).2.1 kq') ?_
  show OwnGo _ _ _ _ (s₁.setTop (mkF m 10 #[.val (.ref y), .val (.int (0 : Int32)), .val (.ref b), .val (.int (0 : Int32)), .val (.int (1 : Int32)), .val (.int (0 : Int32)), .unset] []))
  refine OwnGo.fwd (fun tq' kq' => XS.aloadN X0.here hx rfl (hb hby d33_10) rfl rfl kq') ?_
  show OwnGo _ _ _ _ (s₁.setTop (mkF m 11 #[.val (.ref y), .val (.int (0 : Int32)), .val (.ref b), .val (.int (0 : Int32)), .val (.int (1 : Int32)), .val (.int (0 : Int32)), .unset] [(.ref y)]))
  refine OwnGo.fwd (fun tq' kq' => XS.iloadN X0.here hx rfl (hb hby d33_11) rfl kq') ?_
  show OwnGo _ _ _ _ (s₁.setTop (mkF m 12 #[.val (.ref y), .val (.int (0 : Int32)), .val (.ref b), .val (.int (0 : Int32)), .val (.int (1 : Int32)), .val (.int (0 : Int32)), .unset] [(.int (0 : Int32)), (.ref y)]))
  refine OwnGo.fwd (fun tq' kq' => own_caload X0 hx hZ e0 P_y (i := 0) (by decide) (by decide) (g := (mkF m 12 #[.val (.ref y), .val (.int (0 : Int32)), .val (.ref b), .val (.int (0 : Int32)), .val (.int (1 : Int32)), .val (.int (0 : Int32)), .unset] [(.int (0 : Int32)), (.ref y)])) rfl rfl (hb hby d33_12) tq' kq') ?_
  show OwnGo _ _ _ _ (s₁.setTop (mkF m 13 #[.val (.ref y), .val (.int (0 : Int32)), .val (.ref b), .val (.int (0 : Int32)), .val (.int (1 : Int32)), .val (.int (0 : Int32)), .unset] [(.int (fC 0))]))
  refine OwnGo.fwd (fun tq' kq' => XS.istore X0.here hx rfl (hb hby d33_13) rfl (l' := #[.val (.ref y), .val (.int (0 : Int32)), .val (.ref b), .val (.int (0 : Int32)), .val (.int (1 : Int32)), .val (.int (0 : Int32)), .val (.int (fC 0))]) rfl kq') ?_
  show OwnGo _ _ _ _ (s₁.setTop (mkF m 15 #[.val (.ref y), .val (.int (0 : Int32)), .val (.ref b), .val (.int (0 : Int32)), .val (.int (1 : Int32)), .val (.int (0 : Int32)), .val (.int (fC 0))] []))
  refine OwnGo.fwd (fun tq' kq' => XS.iload X0.here hx rfl (hb hby d33_15) rfl kq') ?_
  show OwnGo _ _ _ _ (s₁.setTop (mkF m 17 #[.val (.ref y), .val (.int (0 : Int32)), .val (.ref b), .val (.int (0 : Int32)), .val (.int (1 : Int32)), .val (.int (0 : Int32)), .val (.int (fC 0))] [(.int (fC 0))]))
  refine OwnGo.fwd (fun tq' kq' => XS.sipush X0.here hx rfl (hb hby d33_17) kq') ?_
  show OwnGo _ _ _ _ (s₁.setTop (mkF m 20 #[.val (.ref y), .val (.int (0 : Int32)), .val (.ref b), .val (.int (0 : Int32)), .val (.int (1 : Int32)), .val (.int (0 : Int32)), .val (.int (fC 0))] [(.int (255 : Int32)), (.int (fC 0))]))
  have hc20_2 : ¬ (255 < (fC 0).toInt) := by have q := hle 0 (by decide); omega
  refine OwnGo.fwd (fun tq' kq' => XS.icmpYes X0.here hx rfl (pc0 := 20) (pc' := 26) rfl (hb hby d33_20) rfl (own_bnlt (by decide) rfl hc20_2).2.2.2 (by decide) (by decide) kq') ?_
  show OwnGo _ _ _ _ (s₁.setTop (mkF m 26 #[.val (.ref y), .val (.int (0 : Int32)), .val (.ref b), .val (.int (0 : Int32)), .val (.int (1 : Int32)), .val (.int (0 : Int32)), .val (.int (fC 0))] []))
  refine OwnGo.fwd (fun tq' kq' => XS.aloadN X0.here hx rfl (hb hby d33_26) rfl rfl kq') ?_
  show OwnGo _ _ _ _ (s₁.setTop (mkF m 27 #[.val (.ref y), .val (.int (0 : Int32)), .val (.ref b), .val (.int (0 : Int32)), .val (.int (1 : Int32)), .val (.int (0 : Int32)), .val (.int (fC 0))] [(.ref b)]))
  refine OwnGo.fwd (fun tq' kq' => XS.iloadN X0.here hx rfl (hb hby d33_27) rfl kq') ?_
  show OwnGo _ _ _ _ (s₁.setTop (mkF m 28 #[.val (.ref y), .val (.int (0 : Int32)), .val (.ref b), .val (.int (0 : Int32)), .val (.int (1 : Int32)), .val (.int (0 : Int32)), .val (.int (fC 0))] [(.int (0 : Int32)), (.ref b)]))
  refine OwnGo.fwd (fun tq' kq' => XS.iload X0.here hx rfl (hb hby d33_28) rfl kq') ?_
  show OwnGo _ _ _ _ (s₁.setTop (mkF m 30 #[.val (.ref y), .val (.int (0 : Int32)), .val (.ref b), .val (.int (0 : Int32)), .val (.int (1 : Int32)), .val (.int (0 : Int32)), .val (.int (fC 0))] [(.int (fC 0)), (.int (0 : Int32)), (.ref b)]))
  refine OwnGo.fwd (fun tq' kq' => XS.i2b X0.here hx rfl (hb hby d33_30) rfl kq') ?_
  show OwnGo _ _ _ _ (s₁.setTop (mkF m 31 #[.val (.ref y), .val (.int (0 : Int32)), .val (.ref b), .val (.int (0 : Int32)), .val (.int (1 : Int32)), .val (.int (0 : Int32)), .val (.int (fC 0))] [(.int (fC 0).toInt8.toInt32), (.int (0 : Int32)), (.ref b)]))
  obtain ⟨T3, h3, X3, e3, W3, P3, st3⟩ := own_bastore X0 hx hZ e0 P_b (i := 0) (by decide) (by decide) (g := (mkF m 31 #[.val (.ref y), .val (.int (0 : Int32)), .val (.ref b), .val (.int (0 : Int32)), .val (.int (1 : Int32)), .val (.int (0 : Int32)), .val (.int (fC 0))] [(.int (fC 0).toInt8.toInt32), (.int (0 : Int32)), (.ref b)])) rfl rfl (hb hby d33_31)
  have P_y := P_y.other W3 ne_y_b
  have K := K.wr W3 (Or.inl (List.mem_of_getElem? (i := 0) rfl))
  have Zs := Nat.le_trans Zs (Keep.of_wr W3).1
  have N := Fr.snoc X3 N g_b
  have P_b := P3
  refine OwnGo.fwd st3 ?_
  show OwnGo _ _ _ _ (T3.setTop (mkF m 32 #[.val (.ref y), .val (.int (0 : Int32)), .val (.ref b), .val (.int (0 : Int32)), .val (.int (1 : Int32)), .val (.int (0 : Int32)), .val (.int (fC 0))] []))
  refine OwnGo.fwd (fun tq' kq' => XS.iinc X3.here hx rfl (hb hby d33_32) rfl (l' := #[.val (.ref y), .val (.int (1 : Int32)), .val (.ref b), .val (.int (0 : Int32)), .val (.int (1 : Int32)), .val (.int (0 : Int32)), .val (.int (fC 0))]) rfl kq') ?_
  show OwnGo _ _ _ _ (T3.setTop (mkF m 35 #[.val (.ref y), .val (.int (1 : Int32)), .val (.ref b), .val (.int (0 : Int32)), .val (.int (1 : Int32)), .val (.int (0 : Int32)), .val (.int (fC 0))] []))
  refine OwnGo.fwd (fun tq' kq' => XS.iinc X3.here hx rfl (hb hby d33_35) rfl (l' := #[.val (.ref y), .val (.int (1 : Int32)), .val (.ref b), .val (.int (1 : Int32)), .val (.int (1 : Int32)), .val (.int (0 : Int32)), .val (.int (fC 0))]) rfl kq') ?_
  show OwnGo _ _ _ _ (T3.setTop (mkF m 38 #[.val (.ref y), .val (.int (1 : Int32)), .val (.ref b), .val (.int (1 : Int32)), .val (.int (1 : Int32)), .val (.int (0 : Int32)), .val (.int (fC 0))] []))
  refine OwnGo.fwd (fun tq' kq' => XS.iinc X3.here hx rfl (hb hby d33_38) rfl (l' := #[.val (.ref y), .val (.int (1 : Int32)), .val (.ref b), .val (.int (1 : Int32)), .val (.int (1 : Int32)), .val (.int (1 : Int32)), .val (.int (fC 0))]) rfl kq') ?_
  show OwnGo _ _ _ _ (T3.setTop (mkF m 41 #[.val (.ref y), .val (.int (1 : Int32)), .val (.ref b), .val (.int (1 : Int32)), .val (.int (1 : Int32)), .val (.int (1 : Int32)), .val (.int (fC 0))] []))
  refine OwnGo.fwd (fun tq' kq' => XS.goto X3.here hx rfl (pc0 := 41) (pc' := 3) rfl (hb hby d33_41) (by decide) (by decide) kq') ?_
  show OwnGo _ _ _ _ (T3.setTop (mkF m 3 #[.val (.ref y), .val (.int (1 : Int32)), .val (.ref b), .val (.int (1 : Int32)), .val (.int (1 : Int32)), .val (.int (1 : Int32)), .val (.int (fC 0))] []))
  refine OwnGo.fwd (fun tq' kq' => XS.iload X3.here hx rfl (hb hby d33_3) rfl kq') ?_
  show OwnGo _ _ _ _ (T3.setTop (mkF m 5 #[.val (.ref y), .val (.int (1 : Int32)), .val (.ref b), .val (.int (1 : Int32)), .val (.int (1 : Int32)), .val (.int (1 : Int32)), .val (.int (fC 0))] [(.int (1 : Int32))]))
  refine OwnGo.fwd (fun tq' kq' => XS.iload X3.here hx rfl (hb hby d33_5) rfl kq') ?_
  show OwnGo _ _ _ _ (T3.setTop (mkF m 7 #[.val (.ref y), .val (.int (1 : Int32)), .val (.ref b), .val (.int (1 : Int32)), .val (.int (1 : Int32)), .val (.int (1 : Int32)), .val (.int (fC 0))] [(.int (1 : Int32)), (.int (1 : Int32))]))
  have hc7_4 : ¬ ((1 : Int) < (1 : Int)) := by decide
  refine OwnGo.fwd (fun tq' kq' => XS.icmpYes X3.here hx rfl (pc0 := 7) (pc' := 44) rfl (hb hby d33_7) rfl (own_bnlt (by decide) (by decide) hc7_4).2.1 (by decide) (by decide) kq') ?_
  show OwnGo _ _ _ _ (T3.setTop (mkF m 44 #[.val (.ref y), .val (.int (1 : Int32)), .val (.ref b), .val (.int (1 : Int32)), .val (.int (1 : Int32)), .val (.int (1 : Int32)), .val (.int (fC 0))] []))
  refine OwnGo.fwd (fun tq' kq' => XS.iload X3.here hx rfl (hb hby d33_44) rfl kq') ?_
  show OwnGo _ _ _ _ (T3.setTop (mkF m 46 #[.val (.ref y), .val (.int (1 : Int32)), .val (.ref b), .val (.int (1 : Int32)), .val (.int (1 : Int32)), .val (.int (1 : Int32)), .val (.int (fC 0))] [(.int (1 : Int32))]))
  exact own_retI X3 hlk hx Bd.returns (hb hby d33_46) (by decide) (by decide) e3 ⟨rfl, N, K, _, P_b⟩
theorem d32_0 : decode jdk_52_method_16_code 0 = .ok (.iload_n 2, 1) := by decide +kernel
theorem d32_1 : decode jdk_52_method_16_code 1 = .ok (.newarray .byte, 2) := by decide +kernel
theorem d32_3 : decode jdk_52_method_16_code 3 = .ok (.astore_n 3, 1) := by decide +kernel
theorem d32_4 : decode jdk_52_method_16_code 4 = .ok (.aload_n 0, 1) := by decide +kernel
theorem d32_5 : decode jdk_52_method_16_code 5 = .ok (.iload_n 1, 1) := by decide +kernel
theorem d32_6 : decode jdk_52_method_16_code 6 = .ok (.aload_n 3, 1) := by decide +kernel
theorem d32_7 : decode jdk_52_method_16_code 7 = .ok (.iconst 0, 1) := by decide +kernel
theorem d32_8 : decode jdk_52_method_16_code 8 = .ok (.iload_n 2, 1) := by decide +kernel
theorem d32_9 : decode jdk_52_method_16_code 9 = .ok (.invokestatic 115, 3) := by decide +kernel
theorem d32_12 : decode jdk_52_method_16_code 12 = .ok (.istore 4, 2) := by decide +kernel
theorem d32_14 : decode jdk_52_method_16_code 14 = .ok (.iload 4, 2) := by decide +kernel
theorem d32_16 : decode jdk_52_method_16_code 16 = .ok (.iload_n 2, 1) := by decide +kernel
theorem d32_17 : decode jdk_52_method_16_code 17 = .ok (.if_icmp .eq 40, 3) := by decide +kernel
theorem d32_20 : decode jdk_52_method_16_code 20 = .ok (.aload_n 0, 1) := by decide +kernel
theorem d32_21 : decode jdk_52_method_16_code 21 = .ok (.iload_n 1, 1) := by decide +kernel
theorem d32_22 : decode jdk_52_method_16_code 22 = .ok (.iload_n 2, 1) := by decide +kernel
theorem d32_23 : decode jdk_52_method_16_code 23 = .ok (.invokestatic 119, 3) := by decide +kernel
theorem d32_26 : decode jdk_52_method_16_code 26 = .ok (.astore 5, 2) := by decide +kernel
theorem d32_28 : decode jdk_52_method_16_code 28 = .ok (.aload 5, 2) := by decide +kernel
theorem d32_30 : decode jdk_52_method_16_code 30 = .ok (.iload 4, 2) := by decide +kernel
theorem d32_32 : decode jdk_52_method_16_code 32 = .ok (.invokestatic 71, 3) := by decide +kernel
theorem d32_35 : decode jdk_52_method_16_code 35 = .ok (.sipush 255, 3) := by decide +kernel
theorem d32_38 : decode jdk_52_method_16_code 38 = .ok (.if_icmp .gt 16, 3) := by decide +kernel
theorem d32_41 : decode jdk_52_method_16_code 41 = .ok (.aload 5, 2) := by decide +kernel
theorem d32_43 : decode jdk_52_method_16_code 43 = .ok (.iconst 0, 1) := by decide +kernel
theorem d32_44 : decode jdk_52_method_16_code 44 = .ok (.aload_n 3, 1) := by decide +kernel
theorem d32_45 : decode jdk_52_method_16_code 45 = .ok (.iconst 0, 1) := by decide +kernel
theorem d32_46 : decode jdk_52_method_16_code 46 = .ok (.iload_n 2, 1) := by decide +kernel
theorem d32_47 : decode jdk_52_method_16_code 47 = .ok (.invokestatic 123, 3) := by decide +kernel
theorem d32_50 : decode jdk_52_method_16_code 50 = .ok (.iload_n 2, 1) := by decide +kernel
theorem d32_51 : decode jdk_52_method_16_code 51 = .ok (.if_icmp .eq 6, 3) := by decide +kernel
theorem d32_54 : decode jdk_52_method_16_code 54 = .ok (.aload 5, 2) := by decide +kernel
theorem d32_56 : decode jdk_52_method_16_code 56 = .ok (.areturn, 1) := by decide +kernel
theorem d32_57 : decode jdk_52_method_16_code 57 = .ok (.aload_n 3, 1) := by decide +kernel
theorem d32_58 : decode jdk_52_method_16_code 58 = .ok (.areturn, 1) := by decide +kernel
theorem pn_32 : plainFor (⟨"java/lang/StringUTF16", "compress", "([CII)[B"⟩ : MethodName) = true := plainFor_of_name (by first | (simp [plainName, overriddenIn]; done) | decide +kernel)
theorem ef_32_1 (m : MethodId) (x0 : Addr) (x1 : Int32) (x2 : Int32) : entryFrame m #[(.ref x0), (.int x1), (.int x2)] 6 = mkF m 0 #[.val (.ref x0), .val (.int x1), .val (.int x2), .unset, .unset, .unset] [] := by first | (simp [entryFrame, mkF, argsToLocals, Value.category, maxLocals]; done) | rfl
def Q32_1 (Z : State) (y : Addr) (fC : Nat → Int32) (h0 : Heap) (n0 : Nat) (v : Option Value) (h : Heap) (L : List Loc) : Prop := Fr n0 L ∧ Keep h0 h [] ∧ ∃ t, v = some (.ref t) ∧ h0.size ≤ t ∧ ∃ g, OwnPA Z h t .byte 1 g
set_option maxRecDepth 65536 in
set_option maxHeartbeats 40000000 in
theorem rm32_1 (l : Launch) (Z : State) (a0 : Array Value) (hw : ∀ d ∈ tables_1, d.before a0 Z = true) (ws : List Jvm.Cond) (y : Addr) (fC : Nat → Int32) (h0 : Heap) (n0 : Nat) (Z0 : n0 ≤ h0.size) (P_y : OwnPA Z h0 y .char 1 fC) (hle : ∀ i, i < 1 → (fC i).toInt ≤ 255) :
    MetFree l (⟨"java/lang/StringUTF16", "compress", "([CII)[B"⟩ : MethodName) (head1 (Jvm.Cond.code (⟨"java/lang/StringUTF16", "compress", "([CII)[B"⟩ : MethodName) jdk_52_method_16_code 6 (some (.array .byte)) :: ws) ({ frames := 1, cells := 1, slots := 2, locals := 20 } : Room)) (fun arr' U => arr' = #[(.ref y), (.int (0 : Int32)), (.int (1 : Int32))] ∧ Z.Warmed39 U.vm ∧ U.heap = h0) (fun _ _ _ _ _ => True) (fun _ U o U' => ∃ v L, o = .returned v ∧ (Q32_1 Z y fC h0 n0) v U'.heap L ∧ FrameEnd U o U' L ({ frames := 1, cells := 1, slots := 2, locals := 20 } : Room).cells ({ frames := 1, cells := 1, slots := 2, locals := 20 } : Room).slots) := by
  refine MetFree.of_bodySF pn_32 hisR ?_
  intro p e s m args below meth c s₁ Bd hml0 hP hK
  obtain ⟨rfl, hZ, hh⟩ := hP
  have hx := Bd.exec
  have hby := Bd.bytes
  have hlk : meth.locks = false := BodyLoose.notSynchronized Bd
  have hml : c.maxLocals = 6 := hml0
  have hown : s.vm.findClass "java/lang/StringUTF16" = some m.cls := findClass_of_methodNamed Bd.named
  have hnm := (name_of_methodNamed Bd.named Bd.method).1
  have X0 : Stand p l e ({ frames := 1, cells := 1, slots := 2, locals := 20 } : Room) s m #[(.ref y), (.int (0 : Int32)), (.int (1 : Int32))] below meth c s₁ [] 0 0 := Stand.of_body Bd
  have e0 : s₁.heap = h0 := by rw [← hh, Bd.state]; rfl
  have N := Fr.nil n0
  have Zs := Z0
  change OwnGo p.tables e below (OwnEnd s (Q32_1 Z y fC h0 n0) ({ frames := 1, cells := 1, slots := 2, locals := 20 } : Room).cells ({ frames := 1, cells := 1, slots := 2, locals := 20 } : Room).slots) _
  refine OwnGo.fwd (fun tq' kq' => castTop (ef_32_1 m y (0 : Int32) (1 : Int32)) kq') ?_
  show OwnGo _ _ _ _ (s₁.setTop (mkF m 0 #[.val (.ref y), .val (.int (0 : Int32)), .val (.int (1 : Int32)), .unset, .unset, .unset] []))
  have K : Keep h0 h0 [] := Keep.refl _ _
  refine OwnGo.fwd (fun tq' kq' => XS.iloadN X0.here hx rfl (hb hby d32_0) rfl kq') ?_
  show OwnGo _ _ _ _ (s₁.setTop (mkF m 1 #[.val (.ref y), .val (.int (0 : Int32)), .val (.int (1 : Int32)), .unset, .unset, .unset] [(.int (1 : Int32))]))
  obtain ⟨T1, h1, b1, X1, e1, E1, g1, P1, st1⟩ := own_newP X0 hx hZ (aty := .byte) (hw _ (List.mem_of_getElem? (i := 47) rfl)) e0 (g := (mkF m 1 #[.val (.ref y), .val (.int (0 : Int32)), .val (.int (1 : Int32)), .unset, .unset, .unset] [(.int (1 : Int32))])) rfl (hb hby d32_1) rfl (i := 1) (by decide) (ty := .byte) rfl rfl (cap := 1) (by decide) (by decide) (by decide) (by decide)
  have ne_y_b1 : y ≠ b1 := Nat.ne_of_lt (Nat.lt_of_lt_of_le P_y.lt (Nat.le_of_eq g1.symm))
  have g_b1 : n0 ≤ b1 := Nat.le_trans Zs (Nat.le_of_eq g1.symm)
  have sz_b1 : h0.size ≤ b1 := Nat.le_trans K.1 (Nat.le_of_eq g1.symm)
  have K := K.ext E1
  have Zs := Nat.le_trans Zs E1.1
  have P_y := P_y.ext E1
  have P_b1 := P1
  refine OwnGo.fwd st1 ?_
  show OwnGo _ _ _ _ (T1.setTop (mkF m 3 #[.val (.ref y), .val (.int (0 : Int32)), .val (.int (1 : Int32)), .unset, .unset, .unset] [(.ref b1)]))
  refine OwnGo.fwd (fun tq' kq' => XS.astoreN X1.here hx rfl (hb hby d32_3) rfl rfl (l' := #[.val (.ref y), .val (.int (0 : Int32)), .val (.int (1 : Int32)), .val (.ref b1), .unset, .unset]) rfl kq') ?_
  show OwnGo _ _ _ _ (T1.setTop (mkF m 4 #[.val (.ref y), .val (.int (0 : Int32)), .val (.int (1 : Int32)), .val (.ref b1), .unset, .unset] []))
  refine OwnGo.fwd (fun tq' kq' => XS.aloadN X1.here hx rfl (hb hby d32_4) rfl rfl kq') ?_
  show OwnGo _ _ _ _ (T1.setTop (mkF m 5 #[.val (.ref y), .val (.int (0 : Int32)), .val (.int (1 : Int32)), .val (.ref b1), .unset, .unset] [(.ref y)]))
  refine OwnGo.fwd (fun tq' kq' => XS.iloadN X1.here hx rfl (hb hby d32_5) rfl kq') ?_
  show OwnGo _ _ _ _ (T1.setTop (mkF m 6 #[.val (.ref y), .val (.int (0 : Int32)), .val (.int (1 : Int32)), .val (.ref b1), .unset, .unset] [(.int (0 : Int32)), (.ref y)]))
  refine OwnGo.fwd (fun tq' kq' => XS.aloadN X1.here hx rfl (hb hby d32_6) rfl rfl kq') ?_
  show OwnGo _ _ _ _ (T1.setTop (mkF m 7 #[.val (.ref y), .val (.int (0 : Int32)), .val (.int (1 : Int32)), .val (.ref b1), .unset, .unset] [(.ref b1), (.int (0 : Int32)), (.ref y)]))
  refine OwnGo.fwd (fun tq' kq' => XS.iconst X1.here hx rfl (hb hby d32_7) kq') ?_
  show OwnGo _ _ _ _ (T1.setTop (mkF m 8 #[.val (.ref y), .val (.int (0 : Int32)), .val (.int (1 : Int32)), .val (.ref b1), .unset, .unset] [(.int (0 : Int32)), (.ref b1), (.int (0 : Int32)), (.ref y)]))
  refine OwnGo.fwd (fun tq' kq' => XS.iloadN X1.here hx rfl (hb hby d32_8) rfl kq') ?_
  show OwnGo _ _ _ _ (T1.setTop (mkF m 9 #[.val (.ref y), .val (.int (0 : Int32)), .val (.int (1 : Int32)), .val (.ref b1), .unset, .unset] [(.int (1 : Int32)), (.int (0 : Int32)), (.ref b1), (.int (0 : Int32)), (.ref y)]))
  obtain ⟨_, _, ⟨T2, L2, k2, n2⟩, -, X2, ⟨Lc2, hQ2, l2, y2, z2⟩, st2⟩ := Jvm.LawKit.callS X1 hx (y := (⟨"java/lang/StringUTF16", "compress", "([CI[BII)I"⟩ : MethodName)) hown (mvT hZ (hw _ (List.mem_of_getElem? (i := 282) rfl))) (mvT hZ (hw _ (List.mem_of_getElem? (i := 283) rfl))) (mvT hZ (hw _ (List.mem_of_getElem? (i := 280) rfl))) (mvT hZ (hw _ (List.mem_of_getElem? (i := 284) rfl))) (by decide) (backOf (W := 0) (rm33_1 l Z a0 hw [] y b1 fC _ h1 n0 Zs P_y hle P_b1 g_b1 ne_y_b1) hZ (hw _ (List.mem_of_getElem? (i := 284) rfl)) (hw _ (List.mem_of_getElem? (i := 280) rfl)) (by decide) (by decide)) (g := (mkF m 9 #[.val (.ref y), .val (.int (0 : Int32)), .val (.int (1 : Int32)), .val (.ref b1), .unset, .unset] [(.int (1 : Int32)), (.int (0 : Int32)), (.ref b1), (.int (0 : Int32)), (.ref y)])) rfl (by rw [hml]; rfl) (argsL := [(.ref y), (.int (0 : Int32)), (.ref b1), (.int (0 : Int32)), (.int (1 : Int32))]) (rest := []) (lenOf pd_22 rfl) rfl (by show 2 * 0 + _ ≤ _; exact Nat.le_of_eq rfl) (hb hby d32_9) (fun _ _ => ⟨rfl, e1, (by decide : 1 + 0 ≤ _), (by decide : 1 + 0 ≤ _)⟩)
  dsimp only [Pt.U, Pt.locs, Pt.cells, Pt.slots] at X2 l2 y2 z2 st2 hQ2
  subst l2 y2 z2
  obtain ⟨h2, eh2⟩ : ∃ z, z = T2.heap := ⟨_, rfl⟩
  rw [← eh2] at hQ2
  obtain ⟨rfl, N2q, K2, fb2, P_b1⟩ := hQ2
  have N := Fr.app N N2q
  have Zs := Nat.le_trans Zs K2.1
  have P_y := P_y.keep K2 (ninS ne_y_b1 nin0)
  have K := K.trans K2 (allS (Or.inr sz_b1) all0)
  refine OwnGo.fwd st2 ?_
  show OwnGo _ _ _ _ (T2.setTop (mkF m 12 #[.val (.ref y), .val (.int (0 : Int32)), .val (.int (1 : Int32)), .val (.ref b1), .unset, .unset] [(.int (1 : Int32))]))
  refine OwnGo.fwd (fun tq' kq' => XS.istore X2.here hx rfl (hb hby d32_12) rfl (l' := #[.val (.ref y), .val (.int (0 : Int32)), .val (.int (1 : Int32)), .val (.ref b1), .val (.int (1 : Int32)), .unset]) rfl kq') ?_
  show OwnGo _ _ _ _ (T2.setTop (mkF m 14 #[.val (.ref y), .val (.int (0 : Int32)), .val (.int (1 : Int32)), .val (.ref b1), .val (.int (1 : Int32)), .unset] []))
  refine OwnGo.fwd (fun tq' kq' => XS.iload X2.here hx rfl (hb hby d32_14) rfl kq') ?_
  show OwnGo _ _ _ _ (T2.setTop (mkF m 16 #[.val (.ref y), .val (.int (0 : Int32)), .val (.int (1 : Int32)), .val (.ref b1), .val (.int (1 : Int32)), .unset] [(.int (1 : Int32))]))
  refine OwnGo.fwd (fun tq' kq' => XS.iloadN X2.here hx rfl (hb hby d32_16) rfl kq') ?_
  show OwnGo _ _ _ _ (T2.setTop (mkF m 17 #[.val (.ref y), .val (.int (0 : Int32)), .val (.int (1 : Int32)), .val (.ref b1), .val (.int (1 : Int32)), .unset] [(.int (1 : Int32)), (.int (1 : Int32))]))
  have hc17_3 : (1 : Int) = (1 : Int) := rfl
  refine OwnGo.fwd (fun tq' kq' => XS.icmpYes X2.here hx rfl (pc0 := 17) (pc' := 57) rfl (hb hby d32_17) rfl (own_beq (by decide) (by decide) hc17_3).1 (by decide) (by decide) kq') ?_
  show OwnGo _ _ _ _ (T2.setTop (mkF m 57 #[.val (.ref y), .val (.int (0 : Int32)), .val (.int (1 : Int32)), .val (.ref b1), .val (.int (1 : Int32)), .unset] []))
  refine OwnGo.fwd (fun tq' kq' => XS.aloadN X2.here hx rfl (hb hby d32_57) rfl rfl kq') ?_
  show OwnGo _ _ _ _ (T2.setTop (mkF m 58 #[.val (.ref y), .val (.int (0 : Int32)), .val (.int (1 : Int32)), .val (.ref b1), .val (.int (1 : Int32)), .unset] [(.ref b1)]))
  exact own_retA X2 hlk hx Bd.returns rfl rfl (hb hby d32_58) (by decide) (by decide) eh2.symm ⟨N, K, b1, rfl, sz_b1, _, P_b1⟩
theorem d7_0 : decode jdk_42_method_149_code 0 = .ok (.aload_n 0, 1) := by decide +kernel
theorem d7_1 : decode jdk_42_method_149_code 1 = .ok (.invokespecial 1, 3) := by decide +kernel
theorem d7_4 : decode jdk_42_method_149_code 4 = .ok (.iload_n 3, 1) := by decide +kernel
theorem d7_5 : decode jdk_42_method_149_code 5 = .ok (.ifCond .ne 22, 3) := by decide +kernel
theorem d7_8 : decode jdk_42_method_149_code 8 = .ok (.aload_n 0, 1) := by decide +kernel
theorem d7_9 : decode jdk_42_method_149_code 9 = .ok (.ldc 7, 2) := by decide +kernel
theorem d7_11 : decode jdk_42_method_149_code 11 = .ok (.getfield 9, 3) := by decide +kernel
theorem d7_14 : decode jdk_42_method_149_code 14 = .ok (.putfield 9, 3) := by decide +kernel
theorem d7_17 : decode jdk_42_method_149_code 17 = .ok (.aload_n 0, 1) := by decide +kernel
theorem d7_18 : decode jdk_42_method_149_code 18 = .ok (.ldc 7, 2) := by decide +kernel
theorem d7_20 : decode jdk_42_method_149_code 20 = .ok (.getfield 15, 3) := by decide +kernel
theorem d7_23 : decode jdk_42_method_149_code 23 = .ok (.putfield 15, 3) := by decide +kernel
theorem d7_26 : decode jdk_42_method_149_code 26 = .ok (.return_, 1) := by decide +kernel
theorem d7_27 : decode jdk_42_method_149_code 27 = .ok (.getstatic 38, 3) := by decide +kernel
theorem d7_30 : decode jdk_42_method_149_code 30 = .ok (.ifCond .eq 28, 3) := by decide +kernel
theorem d7_33 : decode jdk_42_method_149_code 33 = .ok (.aload_n 1, 1) := by decide +kernel
theorem d7_34 : decode jdk_42_method_149_code 34 = .ok (.iload_n 2, 1) := by decide +kernel
theorem d7_35 : decode jdk_42_method_149_code 35 = .ok (.iload_n 3, 1) := by decide +kernel
theorem d7_36 : decode jdk_42_method_149_code 36 = .ok (.invokestatic 177, 3) := by decide +kernel
theorem d7_39 : decode jdk_42_method_149_code 39 = .ok (.astore 5, 2) := by decide +kernel
theorem d7_41 : decode jdk_42_method_149_code 41 = .ok (.aload_n 0, 1) := by decide +kernel
theorem d7_42 : decode jdk_42_method_149_code 42 = .ok (.aload 5, 2) := by decide +kernel
theorem d7_44 : decode jdk_42_method_149_code 44 = .ok (.iload_n 3, 1) := by decide +kernel
theorem d7_45 : decode jdk_42_method_149_code 45 = .ok (.invokestatic 47, 3) := by decide +kernel
theorem d7_48 : decode jdk_42_method_149_code 48 = .ok (.putfield 15, 3) := by decide +kernel
theorem d7_51 : decode jdk_42_method_149_code 51 = .ok (.aload_n 0, 1) := by decide +kernel
theorem d7_52 : decode jdk_42_method_149_code 52 = .ok (.aload 5, 2) := by decide +kernel
theorem d7_54 : decode jdk_42_method_149_code 54 = .ok (.putfield 9, 3) := by decide +kernel
theorem d7_57 : decode jdk_42_method_149_code 57 = .ok (.return_, 1) := by decide +kernel
theorem d7_58 : decode jdk_42_method_149_code 58 = .ok (.aload_n 0, 1) := by decide +kernel
theorem d7_59 : decode jdk_42_method_149_code 59 = .ok (.iconst 1, 1) := by decide +kernel
theorem d7_60 : decode jdk_42_method_149_code 60 = .ok (.putfield 15, 3) := by decide +kernel
theorem d7_63 : decode jdk_42_method_149_code 63 = .ok (.aload_n 0, 1) := by decide +kernel
theorem d7_64 : decode jdk_42_method_149_code 64 = .ok (.aload_n 1, 1) := by decide +kernel
theorem d7_65 : decode jdk_42_method_149_code 65 = .ok (.iload_n 2, 1) := by decide +kernel
theorem d7_66 : decode jdk_42_method_149_code 66 = .ok (.iload_n 3, 1) := by decide +kernel
theorem d7_67 : decode jdk_42_method_149_code 67 = .ok (.invokestatic 180, 3) := by decide +kernel
theorem d7_70 : decode jdk_42_method_149_code 70 = .ok (.putfield 9, 3) := by decide +kernel
theorem d7_73 : decode jdk_42_method_149_code 73 = .ok (.return_, 1) := by decide +kernel
theorem pn_7 : plainFor (⟨"java/lang/String", "<init>", "([CIILjava/lang/Void;)V"⟩ : MethodName) = true := plainFor_of_name (by first | (simp [plainName, overriddenIn]; done) | decide +kernel)
theorem ef_7_1 (m : MethodId) (x0 : Addr) (x1 : Addr) (x2 : Int32) (x3 : Int32) : entryFrame m #[(.ref x0), (.ref x1), (.int x2), (.int x3), .null] 6 = mkF m 0 #[.val (.ref x0), .val (.ref x1), .val (.int x2), .val (.int x3), .val .null, .unset] [] := by first | (simp [entryFrame, mkF, argsToLocals, Value.category, maxLocals]; done) | rfl
def Q7_1 (Z : State) (a : Addr) (y : Addr) (cs : Int32) (fC : Nat → Int32) (h0 : Heap) (n0 : Nat) (v : Option Value) (h : Heap) (L : List Loc) : Prop := v = none ∧ Fr n0 L ∧ Keep h0 h [a] ∧ Exa Z h a "java/lang/String"
set_option maxRecDepth 65536 in
set_option maxHeartbeats 40000000 in
theorem rm7_1 (l : Launch) (Z : State) (a0 : Array Value) (hw : ∀ d ∈ tables_1, d.before a0 Z = true) (ws : List Jvm.Cond) (a : Addr) (y : Addr) (cs : Int32) (fC : Nat → Int32) (h0 : Heap) (n0 : Nat) (Z0 : n0 ≤ h0.size) (E_a : Exa Z h0 a "java/lang/String") (F_value_a : Fld Z h0 a "java/lang/String" "value" "[B" .null) (F_coder_a : Fld Z h0 a "java/lang/String" "coder" "B" (.int (0 : Int32))) (g_a : n0 ≤ a) (P_y : OwnPA Z h0 y .char 1 fC) (hle : ∀ i, i < 1 → (fC i).toInt ≤ 255) (ne_a_y : a ≠ y) (S0_COMPACT_STRINGS : Sta Z h0 "java/lang/String" "COMPACT_STRINGS" "Z" (.int cs)) (hcs : ¬ cs.toInt = 0) :
    MetFree l (⟨"java/lang/String", "<init>", "([CIILjava/lang/Void;)V"⟩ : MethodName) (head1 (Jvm.Cond.code (⟨"java/lang/String", "<init>", "([CIILjava/lang/Void;)V"⟩ : MethodName) jdk_42_method_149_code 6 none :: ws) ({ frames := 2, cells := 1, slots := 2, locals := 40 } : Room)) (fun arr' U => arr' = #[(.ref a), (.ref y), (.int (0 : Int32)), (.int (1 : Int32)), .null] ∧ Z.Warmed39 U.vm ∧ U.heap = h0) (fun _ _ _ _ _ => True) (fun _ U o U' => ∃ v L, o = .returned v ∧ (Q7_1 Z a y cs fC h0 n0) v U'.heap L ∧ FrameEnd U o U' L ({ frames := 2, cells := 1, slots := 2, locals := 40 } : Room).cells ({ frames := 2, cells := 1, slots := 2, locals := 40 } : Room).slots) := by
  refine MetFree.of_bodySF pn_7 hisR ?_
  intro p e s m args below meth c s₁ Bd hml0 hP hK
  obtain ⟨rfl, hZ, hh⟩ := hP
  have hx := Bd.exec
  have hby := Bd.bytes
  have hlk : meth.locks = false := BodyLoose.notSynchronized Bd
  have hml : c.maxLocals = 6 := hml0
  have hown : s.vm.findClass "java/lang/String" = some m.cls := findClass_of_methodNamed Bd.named
  have hnm := (name_of_methodNamed Bd.named Bd.method).1
  have X0 : Stand p l e ({ frames := 2, cells := 1, slots := 2, locals := 40 } : Room) s m #[(.ref a), (.ref y), (.int (0 : Int32)), (.int (1 : Int32)), .null] below meth c s₁ [] 0 0 := Stand.of_body Bd
  have e0 : s₁.heap = h0 := by rw [← hh, Bd.state]; rfl
  have N := Fr.nil n0
  have Zs := Z0
  change OwnGo p.tables e below (OwnEnd s (Q7_1 Z a y cs fC h0 n0) ({ frames := 2, cells := 1, slots := 2, locals := 40 } : Room).cells ({ frames := 2, cells := 1, slots := 2, locals := 40 } : Room).slots) _
  refine OwnGo.fwd (fun tq' kq' => castTop (ef_7_1 m a y (0 : Int32) (1 : Int32)) kq') ?_
  show OwnGo _ _ _ _ (s₁.setTop (mkF m 0 #[.val (.ref a), .val (.ref y), .val (.int (0 : Int32)), .val (.int (1 : Int32)), .val .null, .unset] []))
  have K : Keep h0 h0 [a] := Keep.refl _ _
  have E0_a := E_a
  refine OwnGo.fwd (fun tq' kq' => XS.aloadN X0.here hx rfl (hb hby d7_0) rfl rfl kq') ?_
  show OwnGo _ _ _ _ (s₁.setTop (mkF m 1 #[.val (.ref a), .val (.ref y), .val (.int (0 : Int32)), .val (.int (1 : Int32)), .val .null, .unset] [(.ref a)]))
  obtain ⟨T1, X1, e1, st1⟩ := initO X0 hx hZ hown (hw _ (List.mem_of_getElem? (i := 45) rfl)) (hw _ (List.mem_of_getElem? (i := 19) rfl)) (hw _ (List.mem_of_getElem? (i := 20) rfl)) e0 (g := (mkF m 1 #[.val (.ref a), .val (.ref y), .val (.int (0 : Int32)), .val (.int (1 : Int32)), .val .null, .unset] [(.ref a)])) rfl (by rw [hml]; rfl) rfl (hb hby d7_1) (by decide) (W := 0) (by show 2 * 0 + _ ≤ _; exact Nat.le_of_eq rfl) (by decide)
  refine OwnGo.fwd st1 ?_
  show OwnGo _ _ _ _ (T1.setTop (mkF m 4 #[.val (.ref a), .val (.ref y), .val (.int (0 : Int32)), .val (.int (1 : Int32)), .val .null, .unset] []))
  refine OwnGo.fwd (fun tq' kq' => XS.iloadN X1.here hx rfl (hb hby d7_4) rfl kq') ?_
  show OwnGo _ _ _ _ (T1.setTop (mkF m 5 #[.val (.ref a), .val (.ref y), .val (.int (0 : Int32)), .val (.int (1 : Int32)), .val .null, .unset] [(.int (1 : Int32))]))
  have hc5_2 : ¬ ((1 : Int) = (0 : Int)) := by decide
  refine OwnGo.fwd (fun tq' kq' => XS.ifYes X1.here hx rfl (pc0 := 5) (pc' := 27) rfl (hb hby d7_5) rfl ((if0 _ _).trans (own_bneq (by decide) (by decide) hc5_2).2) (by decide) (by decide) kq') ?_
  show OwnGo _ _ _ _ (T1.setTop (mkF m 27 #[.val (.ref a), .val (.ref y), .val (.int (0 : Int32)), .val (.int (1 : Int32)), .val .null, .unset] []))
  have S_COMPACT_STRINGS := own_stK S0_COMPACT_STRINGS K (allS ⟨_, E0_a⟩ all0)
  obtain ⟨T3, X3, e3, st3⟩ := getS2 X1 hx hZ hown (host := "") (Or.inl (hw _ (List.mem_of_getElem? (i := 277) rfl))) Via.refl e1 S_COMPACT_STRINGS (g := (mkF m 27 #[.val (.ref a), .val (.ref y), .val (.int (0 : Int32)), .val (.int (1 : Int32)), .val .null, .unset] [])) rfl (hb hby d7_27)
  refine OwnGo.fwd st3 ?_
  show OwnGo _ _ _ _ (T3.setTop (mkF m 30 #[.val (.ref a), .val (.ref y), .val (.int (0 : Int32)), .val (.int (1 : Int32)), .val .null, .unset] [(.int cs)]))
  have hc30_4 : ¬ (cs.toInt = 0) := hcs
  refine OwnGo.fwd (fun tq' kq' => XS.ifNo X3.here hx rfl (hb hby d7_30) rfl ((if0 _ _).trans (own_bneq rfl (by decide) hc30_4).1) kq') ?_
  show OwnGo _ _ _ _ (T3.setTop (mkF m 33 #[.val (.ref a), .val (.ref y), .val (.int (0 : Int32)), .val (.int (1 : Int32)), .val .null, .unset] []))
  refine OwnGo.fwd (fun tq' kq' => XS.aloadN X3.here hx rfl (hb hby d7_33) rfl rfl kq') ?_
  show OwnGo _ _ _ _ (T3.setTop (mkF m 34 #[.val (.ref a), .val (.ref y), .val (.int (0 : Int32)), .val (.int (1 : Int32)), .val .null, .unset] [(.ref y)]))
  refine OwnGo.fwd (fun tq' kq' => XS.iloadN X3.here hx rfl (hb hby d7_34) rfl kq') ?_
  show OwnGo _ _ _ _ (T3.setTop (mkF m 35 #[.val (.ref a), .val (.ref y), .val (.int (0 : Int32)), .val (.int (1 : Int32)), .val .null, .unset] [(.int (0 : Int32)), (.ref y)]))
  refine OwnGo.fwd (fun tq' kq' => XS.iloadN X3.here hx rfl (hb hby d7_35) rfl kq') ?_
  show OwnGo _ _ _ _ (T3.setTop (mkF m 36 #[.val (.ref a), .val (.ref y), .val (.int (0 : Int32)), .val (.int (1 : Int32)), .val .null, .unset] [(.int (1 : Int32)), (.int (0 : Int32)), (.ref y)]))
  obtain ⟨_, _, ⟨T5, L5, k5, n5⟩, -, X5, ⟨Lc5, hQ5, l5, y5, z5⟩, st5⟩ := Jvm.LawKit.callS X3 hx (y := (⟨"java/lang/StringUTF16", "compress", "([CII)[B"⟩ : MethodName)) hown (mvT hZ (hw _ (List.mem_of_getElem? (i := 278) rfl))) (mvT hZ (hw _ (List.mem_of_getElem? (i := 279) rfl))) (mvT hZ (hw _ (List.mem_of_getElem? (i := 280) rfl))) (mvT hZ (hw _ (List.mem_of_getElem? (i := 281) rfl))) (by decide) (backOf (W := 0) (rm32_1 l Z a0 hw [] y fC h0 n0 Zs P_y hle) hZ (hw _ (List.mem_of_getElem? (i := 281) rfl)) (hw _ (List.mem_of_getElem? (i := 280) rfl)) (by decide) (by decide)) (g := (mkF m 36 #[.val (.ref a), .val (.ref y), .val (.int (0 : Int32)), .val (.int (1 : Int32)), .val .null, .unset] [(.int (1 : Int32)), (.int (0 : Int32)), (.ref y)])) rfl (by rw [hml]; rfl) (argsL := [(.ref y), (.int (0 : Int32)), (.int (1 : Int32))]) (rest := []) (lenOf pd_21 rfl) rfl (by show 2 * 0 + _ ≤ _; exact Nat.le_of_eq rfl) (hb hby d7_36) (fun _ _ => ⟨rfl, e3, (by decide : 0 + 1 ≤ _), (by decide : 0 + 2 ≤ _)⟩)
  dsimp only [Pt.U, Pt.locs, Pt.cells, Pt.slots] at X5 l5 y5 z5 st5 hQ5
  subst l5 y5 z5
  have lt5_a := E_a.lt
  have lt5_y := P_y.lt
  obtain ⟨h5, eh5⟩ : ∃ z, z = T5.heap := ⟨_, rfl⟩
  rw [← eh5] at hQ5
  obtain ⟨N5q, K5, t5, rfl, sq5, fb5, P_t5⟩ := hQ5
  have ne_a_t5 : a ≠ t5 := Nat.ne_of_lt (Nat.lt_of_lt_of_le lt5_a sq5)
  have ne_y_t5 : y ≠ t5 := Nat.ne_of_lt (Nat.lt_of_lt_of_le lt5_y sq5)
  have g_t5 : n0 ≤ t5 := Nat.le_trans Zs sq5
  have sz_t5 : h0.size ≤ t5 := Nat.le_trans K.1 sq5
  have N := Fr.app N N5q
  have Zs := Nat.le_trans Zs K5.1
  have E_a := E_a.keep K5
  have F_value_a := F_value_a.keep K5 nin0
  have F_coder_a := F_coder_a.keep K5 nin0
  have P_y := P_y.keep K5 nin0
  have K := K.trans K5 all0
  refine OwnGo.fwd st5 ?_
  show OwnGo _ _ _ _ (T5.setTop (mkF m 39 #[.val (.ref a), .val (.ref y), .val (.int (0 : Int32)), .val (.int (1 : Int32)), .val .null, .unset] [(.ref t5)]))
  refine OwnGo.fwd (fun tq' kq' => XS.astore X5.here hx rfl (hb hby d7_39) rfl rfl (l' := #[.val (.ref a), .val (.ref y), .val (.int (0 : Int32)), .val (.int (1 : Int32)), .val .null, .val (.ref t5)]) rfl kq') ?_
  show OwnGo _ _ _ _ (T5.setTop (mkF m 41 #[.val (.ref a), .val (.ref y), .val (.int (0 : Int32)), .val (.int (1 : Int32)), .val .null, .val (.ref t5)] []))
  refine OwnGo.fwd (fun tq' kq' => XS.aloadN X5.here hx rfl (hb hby d7_41) rfl rfl kq') ?_
  show OwnGo _ _ _ _ (T5.setTop (mkF m 42 #[.val (.ref a), .val (.ref y), .val (.int (0 : Int32)), .val (.int (1 : Int32)), .val .null, .val (.ref t5)] [(.ref a)]))
  refine OwnGo.fwd (fun tq' kq' => XS.aload X5.here hx rfl (hb hby d7_42) rfl rfl kq') ?_
  show OwnGo _ _ _ _ (T5.setTop (mkF m 44 #[.val (.ref a), .val (.ref y), .val (.int (0 : Int32)), .val (.int (1 : Int32)), .val .null, .val (.ref t5)] [(.ref t5), (.ref a)]))
  refine OwnGo.fwd (fun tq' kq' => XS.iloadN X5.here hx rfl (hb hby d7_44) rfl kq') ?_
  show OwnGo _ _ _ _ (T5.setTop (mkF m 45 #[.val (.ref a), .val (.ref y), .val (.int (0 : Int32)), .val (.int (1 : Int32)), .val .null, .val (.ref t5)] [(.int (1 : Int32)), (.ref t5), (.ref a)]))
  obtain ⟨_, _, ⟨T6, L6, k6, n6⟩, -, X6, ⟨Lc6, hQ6, l6, y6, z6⟩, st6⟩ := Jvm.LawKit.callS X5 hx (y := (⟨"java/lang/StringUTF16", "coderFromArrayLen", "([BI)B"⟩ : MethodName)) hown (mvT hZ (hw _ (List.mem_of_getElem? (i := 285) rfl))) (mvT hZ (hw _ (List.mem_of_getElem? (i := 286) rfl))) (mvT hZ (hw _ (List.mem_of_getElem? (i := 280) rfl))) (mvT hZ (hw _ (List.mem_of_getElem? (i := 287) rfl))) (by decide) (backOf (W := 1) (rm34_1 l Z a0 hw [] t5 _ h5 n0 Zs P_t5) hZ (hw _ (List.mem_of_getElem? (i := 287) rfl)) (hw _ (List.mem_of_getElem? (i := 280) rfl)) (by decide) (by decide)) (g := (mkF m 45 #[.val (.ref a), .val (.ref y), .val (.int (0 : Int32)), .val (.int (1 : Int32)), .val .null, .val (.ref t5)] [(.int (1 : Int32)), (.ref t5), (.ref a)])) rfl (by rw [hml]; rfl) (argsL := [(.ref t5), (.int (1 : Int32))]) (rest := [(.ref a)]) (lenOf pd_23 rfl) rfl (by show 2 * 0 + _ ≤ _; exact Nat.le_of_eq rfl) (hb hby d7_45) (fun _ _ => ⟨rfl, eh5.symm, (by decide : 1 + 0 ≤ _), (by decide : 2 + 0 ≤ _)⟩)
  dsimp only [Pt.U, Pt.locs, Pt.cells, Pt.slots] at X6 l6 y6 z6 st6 hQ6
  subst l6 y6 z6
  obtain ⟨rfl, N6q, e6⟩ := hQ6
  have N := Fr.app N N6q
  refine OwnGo.fwd st6 ?_
  show OwnGo _ _ _ _ (T6.setTop (mkF m 48 #[.val (.ref a), .val (.ref y), .val (.int (0 : Int32)), .val (.int (1 : Int32)), .val .null, .val (.ref t5)] [(.int (0 : Int32)), (.ref a)]))
  obtain ⟨T7, h7, X7, e7, W7, st7⟩ := putF X6 hx hZ hown (host := "") (Or.inl (hw _ (List.mem_of_getElem? (i := 53) rfl))) Via.refl e6 F_coder_a E_a (Or.inr ⟨(hw _ (List.mem_of_getElem? (i := 49) rfl)), rfl, hnm⟩) (hw _ (List.mem_of_getElem? (i := 36) rfl)) (ty := .byte) (by decide) rfl rfl (g := (mkF m 48 #[.val (.ref a), .val (.ref y), .val (.int (0 : Int32)), .val (.int (1 : Int32)), .val .null, .val (.ref t5)] [(.int (0 : Int32)), (.ref a)])) rfl rfl (hb hby d7_48)
  have E_a := E_a.wr W7
  have F_value_a := F_value_a.other W7 (Or.inr (slot_ne (Or.inr (hw _ (List.mem_of_getElem? (i := 48) rfl))) (Or.inr (hw _ (List.mem_of_getElem? (i := 49) rfl))) (by decide) (t := (.array .byte)) (t' := .byte) (by decide) (by decide)))
  have F_coder_a := F_coder_a.same W7
  have P_y := P_y.other W7 (Ne.symm ne_a_y)
  have P_t5 := P_t5.other W7 (Ne.symm ne_a_t5)
  have K := K.wr W7 (Or.inl (List.mem_of_getElem? (i := 0) rfl))
  have Zs := Nat.le_trans Zs (Keep.of_wr W7).1
  have N := Fr.snoc X7 N g_a
  refine OwnGo.fwd st7 ?_
  show OwnGo _ _ _ _ (T7.setTop (mkF m 51 #[.val (.ref a), .val (.ref y), .val (.int (0 : Int32)), .val (.int (1 : Int32)), .val .null, .val (.ref t5)] []))
  refine OwnGo.fwd (fun tq' kq' => XS.aloadN X7.here hx rfl (hb hby d7_51) rfl rfl kq') ?_
  show OwnGo _ _ _ _ (T7.setTop (mkF m 52 #[.val (.ref a), .val (.ref y), .val (.int (0 : Int32)), .val (.int (1 : Int32)), .val .null, .val (.ref t5)] [(.ref a)]))
  refine OwnGo.fwd (fun tq' kq' => XS.aload X7.here hx rfl (hb hby d7_52) rfl rfl kq') ?_
  show OwnGo _ _ _ _ (T7.setTop (mkF m 54 #[.val (.ref a), .val (.ref y), .val (.int (0 : Int32)), .val (.int (1 : Int32)), .val .null, .val (.ref t5)] [(.ref t5), (.ref a)]))
  obtain ⟨T8, h8, X8, e8, W8, st8⟩ := putF X7 hx hZ hown (host := "") (Or.inl (hw _ (List.mem_of_getElem? (i := 52) rfl))) Via.refl e7 F_value_a E_a (Or.inr ⟨(hw _ (List.mem_of_getElem? (i := 48) rfl)), rfl, hnm⟩) (hw _ (List.mem_of_getElem? (i := 36) rfl)) (ty := (.array .byte)) (by decide) rfl rfl (g := (mkF m 54 #[.val (.ref a), .val (.ref y), .val (.int (0 : Int32)), .val (.int (1 : Int32)), .val .null, .val (.ref t5)] [(.ref t5), (.ref a)])) rfl rfl (hb hby d7_54)
  have E_a := E_a.wr W8
  have F_value_a := F_value_a.same W8
  have F_coder_a := F_coder_a.other W8 (Or.inr (slot_ne (Or.inr (hw _ (List.mem_of_getElem? (i := 49) rfl))) (Or.inr (hw _ (List.mem_of_getElem? (i := 48) rfl))) (by decide) (t := .byte) (t' := (.array .byte)) (by decide) (by decide)))
  have P_y := P_y.other W8 (Ne.symm ne_a_y)
  have P_t5 := P_t5.other W8 (Ne.symm ne_a_t5)
  have K := K.wr W8 (Or.inl (List.mem_of_getElem? (i := 0) rfl))
  have Zs := Nat.le_trans Zs (Keep.of_wr W8).1
  have N := Fr.snoc X8 N g_a
  refine OwnGo.fwd st8 ?_
  show OwnGo _ _ _ _ (T8.setTop (mkF m 57 #[.val (.ref a), .val (.ref y), .val (.int (0 : Int32)), .val (.int (1 : Int32)), .val .null, .val (.ref t5)] []))
  exact own_retV X8 hlk hx Bd.returns (hb hby d7_57) (by decide) (by decide) e8 ⟨rfl, N, K, E_a⟩
theorem d6_0 : decode jdk_42_method_3_code 0 = .ok (.aload_n 0, 1) := by decide +kernel
theorem d6_1 : decode jdk_42_method_3_code 1 = .ok (.aload_n 1, 1) := by decide +kernel
theorem d6_2 : decode jdk_42_method_3_code 2 = .ok (.iconst 0, 1) := by decide +kernel
theorem d6_3 : decode jdk_42_method_3_code 3 = .ok (.aload_n 1, 1) := by decide +kernel
theorem d6_4 : decode jdk_42_method_3_code 4 = .ok (.arraylength, 1) := by decide +kernel
theorem d6_5 : decode jdk_42_method_3_code 5 = .ok (.aconst_null, 1) := by decide +kernel
theorem d6_6 : decode jdk_42_method_3_code 6 = .ok (.invokespecial 27, 3) := by decide +kernel
theorem d6_9 : decode jdk_42_method_3_code 9 = .ok (.return_, 1) := by decide +kernel
theorem pn_6 : plainFor (⟨"java/lang/String", "<init>", "([C)V"⟩ : MethodName) = true := plainFor_of_name (by first | (simp [plainName, overriddenIn]; done) | decide +kernel)
theorem ef_6_1 (m : MethodId) (x0 : Addr) (x1 : Addr) : entryFrame m #[(.ref x0), (.ref x1)] 2 = mkF m 0 #[.val (.ref x0), .val (.ref x1)] [] := by first | (simp [entryFrame, mkF, argsToLocals, Value.category, maxLocals]; done) | rfl
def Q6_1 (Z : State) (a : Addr) (y : Addr) (cs : Int32) (fC : Nat → Int32) (h0 : Heap) (n0 : Nat) (v : Option Value) (h : Heap) (L : List Loc) : Prop := v = none ∧ Fr n0 L ∧ Keep h0 h [a] ∧ Exa Z h a "java/lang/String"
set_option maxRecDepth 65536 in
set_option maxHeartbeats 40000000 in
theorem rm6_1 (l : Launch) (Z : State) (a0 : Array Value) (hw : ∀ d ∈ tables_1, d.before a0 Z = true) (ws : List Jvm.Cond) (a : Addr) (y : Addr) (cs : Int32) (fC : Nat → Int32) (h0 : Heap) (n0 : Nat) (Z0 : n0 ≤ h0.size) (E_a : Exa Z h0 a "java/lang/String") (F_value_a : Fld Z h0 a "java/lang/String" "value" "[B" .null) (F_coder_a : Fld Z h0 a "java/lang/String" "coder" "B" (.int (0 : Int32))) (g_a : n0 ≤ a) (P_y : OwnPA Z h0 y .char 1 fC) (hle : ∀ i, i < 1 → (fC i).toInt ≤ 255) (ne_a_y : a ≠ y) (S0_COMPACT_STRINGS : Sta Z h0 "java/lang/String" "COMPACT_STRINGS" "Z" (.int cs)) (hcs : ¬ cs.toInt = 0) :
    MetFree l (⟨"java/lang/String", "<init>", "([C)V"⟩ : MethodName) (head1 (Jvm.Cond.code (⟨"java/lang/String", "<init>", "([C)V"⟩ : MethodName) jdk_42_method_3_code 2 none :: ws) ({ frames := 3, cells := 1, slots := 2, locals := 60 } : Room)) (fun arr' U => arr' = #[(.ref a), (.ref y)] ∧ Z.Warmed39 U.vm ∧ U.heap = h0) (fun _ _ _ _ _ => True) (fun _ U o U' => ∃ v L, o = .returned v ∧ (Q6_1 Z a y cs fC h0 n0) v U'.heap L ∧ FrameEnd U o U' L ({ frames := 3, cells := 1, slots := 2, locals := 60 } : Room).cells ({ frames := 3, cells := 1, slots := 2, locals := 60 } : Room).slots) := by
  refine MetFree.of_bodySF pn_6 hisR ?_
  intro p e s m args below meth c s₁ Bd hml0 hP hK
  obtain ⟨rfl, hZ, hh⟩ := hP
  have hx := Bd.exec
  have hby := Bd.bytes
  have hlk : meth.locks = false := BodyLoose.notSynchronized Bd
  have hml : c.maxLocals = 2 := hml0
  have hown : s.vm.findClass "java/lang/String" = some m.cls := findClass_of_methodNamed Bd.named
  have hnm := (name_of_methodNamed Bd.named Bd.method).1
  have X0 : Stand p l e ({ frames := 3, cells := 1, slots := 2, locals := 60 } : Room) s m #[(.ref a), (.ref y)] below meth c s₁ [] 0 0 := Stand.of_body Bd
  have e0 : s₁.heap = h0 := by rw [← hh, Bd.state]; rfl
  have N := Fr.nil n0
  have Zs := Z0
  change OwnGo p.tables e below (OwnEnd s (Q6_1 Z a y cs fC h0 n0) ({ frames := 3, cells := 1, slots := 2, locals := 60 } : Room).cells ({ frames := 3, cells := 1, slots := 2, locals := 60 } : Room).slots) _
  refine OwnGo.fwd (fun tq' kq' => castTop (ef_6_1 m a y) kq') ?_
  show OwnGo _ _ _ _ (s₁.setTop (mkF m 0 #[.val (.ref a), .val (.ref y)] []))
  have K : Keep h0 h0 [a] := Keep.refl _ _
  have E0_a := E_a
  refine OwnGo.fwd (fun tq' kq' => XS.aloadN X0.here hx rfl (hb hby d6_0) rfl rfl kq') ?_
  show OwnGo _ _ _ _ (s₁.setTop (mkF m 1 #[.val (.ref a), .val (.ref y)] [(.ref a)]))
  refine OwnGo.fwd (fun tq' kq' => XS.aloadN X0.here hx rfl (hb hby d6_1) rfl rfl kq') ?_
  show OwnGo _ _ _ _ (s₁.setTop (mkF m 2 #[.val (.ref a), .val (.ref y)] [(.ref y), (.ref a)]))
  refine OwnGo.fwd (fun tq' kq' => XS.iconst X0.here hx rfl (hb hby d6_2) kq') ?_
  show OwnGo _ _ _ _ (s₁.setTop (mkF m 3 #[.val (.ref a), .val (.ref y)] [(.int (0 : Int32)), (.ref y), (.ref a)]))
  refine OwnGo.fwd (fun tq' kq' => XS.aloadN X0.here hx rfl (hb hby d6_3) rfl rfl kq') ?_
  show OwnGo _ _ _ _ (s₁.setTop (mkF m 4 #[.val (.ref a), .val (.ref y)] [(.ref y), (.int (0 : Int32)), (.ref y), (.ref a)]))
  refine OwnGo.fwd (fun tq' kq' => own_lenP X0 hx hZ e0 P_y (g := (mkF m 4 #[.val (.ref a), .val (.ref y)] [(.ref y), (.int (0 : Int32)), (.ref y), (.ref a)])) rfl rfl (hb hby d6_4) tq' kq') ?_
  show OwnGo _ _ _ _ (s₁.setTop (mkF m 5 #[.val (.ref a), .val (.ref y)] [(.int (Int32.ofNat 1)), (.int (0 : Int32)), (.ref y), (.ref a)]))
  refine OwnGo.fwd (fun tq' kq' => XS.aconstNull X0.here hx rfl (hb hby d6_5) kq') ?_
  show OwnGo _ _ _ _ (s₁.setTop (mkF m 6 #[.val (.ref a), .val (.ref y)] [.null, (.int (Int32.ofNat 1)), (.int (0 : Int32)), (.ref y), (.ref a)]))
  obtain ⟨_, _, ⟨T1, L1, k1, n1⟩, -, X1, ⟨Lc1, hQ1, l1, y1, z1⟩, st1⟩ := X0.specialBack hx (y := (⟨"java/lang/String", "<init>", "([CIILjava/lang/Void;)V"⟩ : MethodName)) rfl hown (mvT hZ (hw _ (List.mem_of_getElem? (i := 41) rfl))) (mvT hZ (hw _ (List.mem_of_getElem? (i := 42) rfl))) (mvT hZ (hw _ (List.mem_of_getElem? (i := 44) rfl))) (by decide) (backOf (W := 0) (rm7_1 l Z a0 hw [] a y cs fC h0 n0 Zs E_a F_value_a F_coder_a g_a P_y hle ne_a_y (own_stK S0_COMPACT_STRINGS K (allS ⟨_, E0_a⟩ all0)) hcs) hZ (hw _ (List.mem_of_getElem? (i := 44) rfl)) (hw _ (List.mem_of_getElem? (i := 37) rfl)) (by decide) (by decide)) (g := (mkF m 6 #[.val (.ref a), .val (.ref y)] [.null, (.int (Int32.ofNat 1)), (.int (0 : Int32)), (.ref y), (.ref a)])) rfl (by rw [hml]; rfl) (Steps.refl _) (a := a) (argsL := [(.ref y), (.int (0 : Int32)), (.int (Int32.ofNat 1)), .null]) (rest := []) (lenOf pd_3 rfl) rfl (by show 2 * 0 + _ ≤ _; exact Nat.le_of_eq rfl) (hb hby d6_6) (fun _ _ => ⟨rfl, e0, (by decide : 0 + 1 ≤ _), (by decide : 0 + 2 ≤ _)⟩)
  dsimp only [Pt.U, Pt.locs, Pt.cells, Pt.slots] at X1 l1 y1 z1 st1 hQ1
  subst l1 y1 z1
  obtain ⟨h1, eh1⟩ : ∃ z, z = T1.heap := ⟨_, rfl⟩
  rw [← eh1] at hQ1
  obtain ⟨rfl, N1q, K1, E_a⟩ := hQ1
  have N := Fr.app N N1q
  have Zs := Nat.le_trans Zs K1.1
  have P_y := P_y.keep K1 (ninS (Ne.symm ne_a_y) nin0)
  have K := K.trans K1 (allS (Or.inl (List.mem_of_getElem? (i := 0) rfl)) all0)
  refine OwnGo.thru st1 ?_
  show OwnGo _ _ _ _ (T1.setTop (mkF m 9 #[.val (.ref a), .val (.ref y)] []))
  exact own_retV X1 hlk hx Bd.returns (hb hby d6_9) (by decide) (by decide) eh1.symm ⟨rfl, N, K, E_a⟩
theorem ef_34_2 (m : MethodId) (x0 : Addr) (x1 : Int32) : entryFrame m #[(.ref x0), (.int x1)] 2 = mkF m 0 #[.val (.ref x0), .val (.int x1)] [] := by first | (simp [entryFrame, mkF, argsToLocals, Value.category, maxLocals]; done) | rfl
def Q34_2 (Z : State) (b : Addr) (f : Nat → Int32) (h0 : Heap) (n0 : Nat) (v : Option Value) (h : Heap) (L : List Loc) : Prop := v = some (.int 0) ∧ Fr n0 L ∧ h = h0
set_option maxRecDepth 65536 in
set_option maxHeartbeats 40000000 in
theorem rm34_2 (l : Launch) (Z : State) (a0 : Array Value) (hw : ∀ d ∈ tables_1, d.before a0 Z = true) (ws : List Jvm.Cond) (b : Addr) (f : Nat → Int32) (h0 : Heap) (n0 : Nat) (Z0 : n0 ≤ h0.size) (P_b : OwnPA Z h0 b .byte 2 f) :
    MetFree l (⟨"java/lang/StringUTF16", "coderFromArrayLen", "([BI)B"⟩ : MethodName) (head1 (Jvm.Cond.code (⟨"java/lang/StringUTF16", "coderFromArrayLen", "([BI)B"⟩ : MethodName) jdk_52_method_15_code 2 (some .byte) :: ws) ({ frames := 0, cells := 0, slots := 0, locals := 0 } : Room)) (fun arr' U => arr' = #[(.ref b), (.int (2 : Int32))] ∧ Z.Warmed39 U.vm ∧ U.heap = h0) (fun _ _ _ _ _ => True) (fun _ U o U' => ∃ v L, o = .returned v ∧ (Q34_2 Z b f h0 n0) v U'.heap L ∧ FrameEnd U o U' L ({ frames := 0, cells := 0, slots := 0, locals := 0 } : Room).cells ({ frames := 0, cells := 0, slots := 0, locals := 0 } : Room).slots) := by
  refine MetFree.of_bodySF pn_34 hisR ?_
  intro p e s m args below meth c s₁ Bd hml0 hP hK
  obtain ⟨rfl, hZ, hh⟩ := hP
  have hx := Bd.exec
  have hby := Bd.bytes
  have hlk : meth.locks = false := BodyLoose.notSynchronized Bd
  have hml : c.maxLocals = 2 := hml0
  have hown : s.vm.findClass "java/lang/StringUTF16" = some m.cls := findClass_of_methodNamed Bd.named
  have hnm := (name_of_methodNamed Bd.named Bd.method).1
  have X0 : Stand p l e ({ frames := 0, cells := 0, slots := 0, locals := 0 } : Room) s m #[(.ref b), (.int (2 : Int32))] below meth c s₁ [] 0 0 := Stand.of_body Bd
  have e0 : s₁.heap = h0 := by rw [← hh, Bd.state]; rfl
  have N := Fr.nil n0
  have Zs := Z0
  change OwnGo p.tables e below (OwnEnd s (Q34_2 Z b f h0 n0) ({ frames := 0, cells := 0, slots := 0, locals := 0 } : Room).cells ({ frames := 0, cells := 0, slots := 0, locals := 0 } : Room).slots) _
  refine OwnGo.fwd (fun tq' kq' => castTop (ef_34_2 m b (2 : Int32)) kq') ?_
  show OwnGo _ _ _ _ (s₁.setTop (mkF m 0 #[.val (.ref b), .val (.int (2 : Int32))] []))
  refine OwnGo.fwd (fun tq' kq' => XS.iloadN X0.here hx rfl (hb hby d34_0) rfl kq') ?_
  show OwnGo _ _ _ _ (s₁.setTop (mkF m 1 #[.val (.ref b), .val (.int (2 : Int32))] [(.int (2 : Int32))]))
  refine OwnGo.fwd (fun tq' kq' => XS.aloadN X0.here hx rfl (hb hby d34_1) rfl rfl kq') ?_
  show OwnGo _ _ _ _ (s₁.setTop (mkF m 2 #[.val (.ref b), .val (.int (2 : Int32))] [(.ref b), (.int (2 : Int32))]))
  refine OwnGo.fwd (fun tq' kq' => own_lenP X0 hx hZ e0 P_b (g := (mkF m 2 #[.val (.ref b), .val (.int (2 : Int32))] [(.ref b), (.int (2 : Int32))])) rfl rfl (hb hby d34_2) tq' kq') ?_
  show OwnGo _ _ _ _ (s₁.setTop (mkF m 3 #[.val (.ref b), .val (.int (2 : Int32))] [(.int (Int32.ofNat 2)), (.int (2 : Int32))]))
  refine OwnGo.fwd (fun tq' kq' => XS.isub X0.here hx rfl (hb hby d34_3) rfl kq') ?_
  show OwnGo _ _ _ _ (s₁.setTop (mkF m 4 #[.val (.ref b), .val (.int (2 : Int32))] [(.int (0 : Int32))]))
  refine OwnGo.fwd (fun tq' kq' => XS.bipush X0.here hx rfl (hb hby d34_4) kq') ?_
  show OwnGo _ _ _ _ (s₁.setTop (mkF m 6 #[.val (.ref b), .val (.int (2 : Int32))] [(.int (31 : Int32)), (.int (0 : Int32))]))
  refine OwnGo.fwd (fun tq' kq' => XS.iushr X0.here hx rfl (hb hby d34_6) rfl kq') ?_
  show OwnGo _ _ _ _ (s₁.setTop (mkF m 7 #[.val (.ref b), .val (.int (2 : Int32))] [(.int (0 : Int32))]))
  refine OwnGo.fwd (fun tq' kq' => XS.i2b X0.here hx rfl (hb hby d34_7) rfl kq') ?_
  show OwnGo _ _ _ _ (s₁.setTop (mkF m 8 #[.val (.ref b), .val (.int (2 : Int32))] [(.int (0 : Int32).toInt8.toInt32)]))
  exact own_leaf X0 hlk (fun q => by rw [Bd.returns] at q; cases q) (by decide) (by decide) e0 ⟨rfl, N, rfl⟩ fun fs hl => retN X0 hx (t := .byte) Bd.returns (by simp) (hb hby d34_8) hl
theorem ef_33_2 (m : MethodId) (x0 : Addr) (x1 : Int32) (x2 : Addr) (x3 : Int32) (x4 : Int32) : entryFrame m #[(.ref x0), (.int x1), (.ref x2), (.int x3), (.int x4)] 7 = mkF m 0 #[.val (.ref x0), .val (.int x1), .val (.ref x2), .val (.int x3), .val (.int x4), .unset, .unset] [] := by first | (simp [entryFrame, mkF, argsToLocals, Value.category, maxLocals]; done) | rfl
def Q33_2 (Z : State) (y : Addr) (b : Addr) (fC : Nat → Int32) (f : Nat → Int32) (h0 : Heap) (n0 : Nat) (v : Option Value) (h : Heap) (L : List Loc) : Prop := v = some (.int (2 : Int32)) ∧ Fr n0 L ∧ Keep h0 h [b] ∧ ∃ g, OwnPA Z h b .byte 2 g
set_option maxRecDepth 65536 in
set_option maxHeartbeats 40000000 in
theorem rm33_2 (l : Launch) (Z : State) (a0 : Array Value) (hw : ∀ d ∈ tables_1, d.before a0 Z = true) (ws : List Jvm.Cond) (y : Addr) (b : Addr) (fC : Nat → Int32) (f : Nat → Int32) (h0 : Heap) (n0 : Nat) (Z0 : n0 ≤ h0.size) (P_y : OwnPA Z h0 y .char 2 fC) (hle : ∀ i, i < 2 → (fC i).toInt ≤ 255) (P_b : OwnPA Z h0 b .byte 2 f) (g_b : n0 ≤ b) (ne_y_b : y ≠ b) :
    MetFree l (⟨"java/lang/StringUTF16", "compress", "([CI[BII)I"⟩ : MethodName) (head1 (Jvm.Cond.code (⟨"java/lang/StringUTF16", "compress", "([CI[BII)I"⟩ : MethodName) jdk_52_method_21_code 7 (some .int) :: ws) ({ frames := 0, cells := 0, slots := 0, locals := 0 } : Room)) (fun arr' U => arr' = #[(.ref y), (.int (0 : Int32)), (.ref b), (.int (0 : Int32)), (.int (2 : Int32))] ∧ Z.Warmed39 U.vm ∧ U.heap = h0) (fun _ _ _ _ _ => True) (fun _ U o U' => ∃ v L, o = .returned v ∧ (Q33_2 Z y b fC f h0 n0) v U'.heap L ∧ FrameEnd U o U' L ({ frames := 0, cells := 0, slots := 0, locals := 0 } : Room).cells ({ frames := 0, cells := 0, slots := 0, locals := 0 } : Room).slots) := by
  refine MetFree.of_bodySF pn_33 hisR ?_
  intro p e s m args below meth c s₁ Bd hml0 hP hK
  obtain ⟨rfl, hZ, hh⟩ := hP
  have hx := Bd.exec
  have hby := Bd.bytes
  have hlk : meth.locks = false := BodyLoose.notSynchronized Bd
  have hml : c.maxLocals = 7 := hml0
  have hown : s.vm.findClass "java/lang/StringUTF16" = some m.cls := findClass_of_methodNamed Bd.named
  have hnm := (name_of_methodNamed Bd.named Bd.method).1
  have X0 : Stand p l e ({ frames := 0, cells := 0, slots := 0, locals := 0 } : Room) s m #[(.ref y), (.int (0 : Int32)), (.ref b), (.int (0 : Int32)), (.int (2 : Int32))] below meth c s₁ [] 0 0 := Stand.of_body Bd
  have e0 : s₁.heap = h0 := by rw [← hh, Bd.state]; rfl
  have N := Fr.nil n0
  have Zs := Z0
  change OwnGo p.tables e below (OwnEnd s (Q33_2 Z y b fC f h0 n0) ({ frames := 0, cells := 0, slots := 0, locals := 0 } : Room).cells ({ frames := 0, cells := 0, slots := 0, locals := 0 } : Room).slots) _
  refine OwnGo.fwd (fun tq' kq' => castTop (ef_33_2 m y (0 : Int32) b (0 : Int32) (2 : Int32)) kq') ?_
  show OwnGo _ _ _ _ (s₁.setTop (mkF m 0 #[.val (.ref y), .val (.int (0 : Int32)), .val (.ref b), .val (.int (0 : Int32)), .val (.int (2 : Int32)), .unset, .unset] []))
  have K : Keep h0 h0 [b] := Keep.refl _ _
  refine OwnGo.fwd (fun tq' kq' => XS.iconst X0.here hx rfl (hb hby d33_0) kq') ?_
  show OwnGo _ _ _ _ (s₁.setTop (mkF m 1 #[.val (.ref y), .val (.int (0 : Int32)), .val (.ref b), .val (.int (0 : Int32)), .val (.int (2 : Int32)), .unset, .unset] [(.int (0 : Int32))]))
  refine OwnGo.fwd (fun tq' kq' => XS.istore X0.here hx rfl (hb hby d33_1) rfl (l' := #[.val (.ref y), .val (.int (0 : Int32)), .val (.ref b), .val (.int (0 : Int32)), .val (.int (2 : Int32)), .val (.int (0 : Int32)), .unset]) rfl kq') ?_
  show OwnGo _ _ _ _ (s₁.setTop (mkF m 3 #[.val (.ref y), .val (.int (0 : Int32)), .val (.ref b), .val (.int (0 : Int32)), .val (.int (2 : Int32)), .val (.int (0 : Int32)), .unset] []))
  refine OwnGo.fwd (fun tq' kq' => XS.iload X0.here hx rfl (hb hby d33_3) rfl kq') ?_
  show OwnGo _ _ _ _ (s₁.setTop (mkF m 5 #[.val (.ref y), .val (.int (0 : Int32)), .val (.ref b), .val (.int (0 : Int32)), .val (.int (2 : Int32)), .val (.int (0 : Int32)), .unset] [(.int (0 : Int32))]))
  refine OwnGo.fwd (fun tq' kq' => XS.iload X0.here hx rfl (hb hby d33_5) rfl kq') ?_
  show OwnGo _ _ _ _ (s₁.setTop (mkF m 7 #[.val (.ref y), .val (.int (0 : Int32)), .val (.ref b), .val (.int (0 : Int32)), .val (.int (2 : Int32)), .val (.int (0 : Int32)), .unset] [(.int (2 : Int32)), (.int (0 : Int32))]))
  have hc7_1 : (0 : Int) < (2 : Int) := by decide
  refine OwnGo.fwd (fun tq' kq' => XS.icmpNo X0.here hx rfl (hb hby d33_7) rfl (own_blt (by decide) (by decide) hc7_1).2.1 kq') ?_
  show OwnGo _ _ _ _ (s₁.setTop (mkF m 10 #[.val (.ref y), .val (.int (0 : Int32)), .val (.ref b), .val (.int (0 : Int32)), .val (.int (2 : Int32)), .val (.int (0 : Int32)), .unset] []))
  refine OwnGo.fwd (fun tq' kq' => XS.aloadN X0.here hx rfl (hb hby d33_10) rfl rfl kq') ?_
  show OwnGo _ _ _ _ (s₁.setTop (mkF m 11 #[.val (.ref y), .val (.int (0 : Int32)), .val (.ref b), .val (.int (0 : Int32)), .val (.int (2 : Int32)), .val (.int (0 : Int32)), .unset] [(.ref y)]))
  refine OwnGo.fwd (fun tq' kq' => XS.iloadN X0.here hx rfl (hb hby d33_11) rfl kq') ?_
  show OwnGo _ _ _ _ (s₁.setTop (mkF m 12 #[.val (.ref y), .val (.int (0 : Int32)), .val (.ref b), .val (.int (0 : Int32)), .val (.int (2 : Int32)), .val (.int (0 : Int32)), .unset] [(.int (0 : Int32)), (.ref y)]))
  refine OwnGo.fwd (fun tq' kq' => own_caload X0 hx hZ e0 P_y (i := 0) (by decide) (by decide) (g := (mkF m 12 #[.val (.ref y), .val (.int (0 : Int32)), .val (.ref b), .val (.int (0 : Int32)), .val (.int (2 : Int32)), .val (.int (0 : Int32)), .unset] [(.int (0 : Int32)), (.ref y)])) rfl rfl (hb hby d33_12) tq' kq') ?_
  show OwnGo _ _ _ _ (s₁.setTop (mkF m 13 #[.val (.ref y), .val (.int (0 : Int32)), .val (.ref b), .val (.int (0 : Int32)), .val (.int (2 : Int32)), .val (.int (0 : Int32)), .unset] [(.int (fC 0))]))
  refine OwnGo.fwd (fun tq' kq' => XS.istore X0.here hx rfl (hb hby d33_13) rfl (l' := #[.val (.ref y), .val (.int (0 : Int32)), .val (.ref b), .val (.int (0 : Int32)), .val (.int (2 : Int32)), .val (.int (0 : Int32)), .val (.int (fC 0))]) rfl kq') ?_
  show OwnGo _ _ _ _ (s₁.setTop (mkF m 15 #[.val (.ref y), .val (.int (0 : Int32)), .val (.ref b), .val (.int (0 : Int32)), .val (.int (2 : Int32)), .val (.int (0 : Int32)), .val (.int (fC 0))] []))
  refine OwnGo.fwd (fun tq' kq' => XS.iload X0.here hx rfl (hb hby d33_15) rfl kq') ?_
  show OwnGo _ _ _ _ (s₁.setTop (mkF m 17 #[.val (.ref y), .val (.int (0 : Int32)), .val (.ref b), .val (.int (0 : Int32)), .val (.int (2 : Int32)), .val (.int (0 : Int32)), .val (.int (fC 0))] [(.int (fC 0))]))
  refine OwnGo.fwd (fun tq' kq' => XS.sipush X0.here hx rfl (hb hby d33_17) kq') ?_
  show OwnGo _ _ _ _ (s₁.setTop (mkF m 20 #[.val (.ref y), .val (.int (0 : Int32)), .val (.ref b), .val (.int (0 : Int32)), .val (.int (2 : Int32)), .val (.int (0 : Int32)), .val (.int (fC 0))] [(.int (255 : Int32)), (.int (fC 0))]))
  have hc20_2 : ¬ (255 < (fC 0).toInt) := by have q := hle 0 (by decide); omega
  refine OwnGo.fwd (fun tq' kq' => XS.icmpYes X0.here hx rfl (pc0 := 20) (pc' := 26) rfl (hb hby d33_20) rfl (own_bnlt (by decide) rfl hc20_2).2.2.2 (by decide) (by decide) kq') ?_
  show OwnGo _ _ _ _ (s₁.setTop (mkF m 26 #[.val (.ref y), .val (.int (0 : Int32)), .val (.ref b), .val (.int (0 : Int32)), .val (.int (2 : Int32)), .val (.int (0 : Int32)), .val (.int (fC 0))] []))
  refine OwnGo.fwd (fun tq' kq' => XS.aloadN X0.here hx rfl (hb hby d33_26) rfl rfl kq') ?_
  show OwnGo _ _ _ _ (s₁.setTop (mkF m 27 #[.val (.ref y), .val (.int (0 : Int32)), .val (.ref b), .val (.int (0 : Int32)), .val (.int (2 : Int32)), .val (.int (0 : Int32)), .val (.int (fC 0))] [(.ref b)]))
  refine OwnGo.fwd (fun tq' kq' => XS.iloadN X0.here hx rfl (hb hby d33_27) rfl kq') ?_
  show OwnGo _ _ _ _ (s₁.setTop (mkF m 28 #[.val (.ref y), .val (.int (0 : Int32)), .val (.ref b), .val (.int (0 : Int32)), .val (.int (2 : Int32)), .val (.int (0 : Int32)), .val (.int (fC 0))] [(.int (0 : Int32)), (.ref b)]))
  refine OwnGo.fwd (fun tq' kq' => XS.iload X0.here hx rfl (hb hby d33_28) rfl kq') ?_
  show OwnGo _ _ _ _ (s₁.setTop (mkF m 30 #[.val (.ref y), .val (.int (0 : Int32)), .val (.ref b), .val (.int (0 : Int32)), .val (.int (2 : Int32)), .val (.int (0 : Int32)), .val (.int (fC 0))] [(.int (fC 0)), (.int (0 : Int32)), (.ref b)]))
  refine OwnGo.fwd (fun tq' kq' => XS.i2b X0.here hx rfl (hb hby d33_30) rfl kq') ?_
  show OwnGo _ _ _ _ (s₁.setTop (mkF m 31 #[.val (.ref y), .val (.int (0 : Int32)), .val (.ref b), .val (.int (0 : Int32)), .val (.int (2 : Int32)), .val (.int (0 : Int32)), .val (.int (fC 0))] [(.int (fC 0).toInt8.toInt32), (.int (0 : Int32)), (.ref b)]))
  obtain ⟨T3, h3, X3, e3, W3, P3, st3⟩ := own_bastore X0 hx hZ e0 P_b (i := 0) (by decide) (by decide) (g := (mkF m 31 #[.val (.ref y), .val (.int (0 : Int32)), .val (.ref b), .val (.int (0 : Int32)), .val (.int (2 : Int32)), .val (.int (0 : Int32)), .val (.int (fC 0))] [(.int (fC 0).toInt8.toInt32), (.int (0 : Int32)), (.ref b)])) rfl rfl (hb hby d33_31)
  have P_y := P_y.other W3 ne_y_b
  have K := K.wr W3 (Or.inl (List.mem_of_getElem? (i := 0) rfl))
  have Zs := Nat.le_trans Zs (Keep.of_wr W3).1
  have N := Fr.snoc X3 N g_b
  have P_b := P3
  refine OwnGo.fwd st3 ?_
  show OwnGo _ _ _ _ (T3.setTop (mkF m 32 #[.val (.ref y), .val (.int (0 : Int32)), .val (.ref b), .val (.int (0 : Int32)), .val (.int (2 : Int32)), .val (.int (0 : Int32)), .val (.int (fC 0))] []))
  refine OwnGo.fwd (fun tq' kq' => XS.iinc X3.here hx rfl (hb hby d33_32) rfl (l' := #[.val (.ref y), .val (.int (1 : Int32)), .val (.ref b), .val (.int (0 : Int32)), .val (.int (2 : Int32)), .val (.int (0 : Int32)), .val (.int (fC 0))]) rfl kq') ?_
  show OwnGo _ _ _ _ (T3.setTop (mkF m 35 #[.val (.ref y), .val (.int (1 : Int32)), .val (.ref b), .val (.int (0 : Int32)), .val (.int (2 : Int32)), .val (.int (0 : Int32)), .val (.int (fC 0))] []))
  refine OwnGo.fwd (fun tq' kq' => XS.iinc X3.here hx rfl (hb hby d33_35) rfl (l' := #[.val (.ref y), .val (.int (1 : Int32)), .val (.ref b), .val (.int (1 : Int32)), .val (.int (2 : Int32)), .val (.int (0 : Int32)), .val (.int (fC 0))]) rfl kq') ?_
  show OwnGo _ _ _ _ (T3.setTop (mkF m 38 #[.val (.ref y), .val (.int (1 : Int32)), .val (.ref b), .val (.int (1 : Int32)), .val (.int (2 : Int32)), .val (.int (0 : Int32)), .val (.int (fC 0))] []))
  refine OwnGo.fwd (fun tq' kq' => XS.iinc X3.here hx rfl (hb hby d33_38) rfl (l' := #[.val (.ref y), .val (.int (1 : Int32)), .val (.ref b), .val (.int (1 : Int32)), .val (.int (2 : Int32)), .val (.int (1 : Int32)), .val (.int (fC 0))]) rfl kq') ?_
  show OwnGo _ _ _ _ (T3.setTop (mkF m 41 #[.val (.ref y), .val (.int (1 : Int32)), .val (.ref b), .val (.int (1 : Int32)), .val (.int (2 : Int32)), .val (.int (1 : Int32)), .val (.int (fC 0))] []))
  refine OwnGo.fwd (fun tq' kq' => XS.goto X3.here hx rfl (pc0 := 41) (pc' := 3) rfl (hb hby d33_41) (by decide) (by decide) kq') ?_
  show OwnGo _ _ _ _ (T3.setTop (mkF m 3 #[.val (.ref y), .val (.int (1 : Int32)), .val (.ref b), .val (.int (1 : Int32)), .val (.int (2 : Int32)), .val (.int (1 : Int32)), .val (.int (fC 0))] []))
  refine OwnGo.fwd (fun tq' kq' => XS.iload X3.here hx rfl (hb hby d33_3) rfl kq') ?_
  show OwnGo _ _ _ _ (T3.setTop (mkF m 5 #[.val (.ref y), .val (.int (1 : Int32)), .val (.ref b), .val (.int (1 : Int32)), .val (.int (2 : Int32)), .val (.int (1 : Int32)), .val (.int (fC 0))] [(.int (1 : Int32))]))
  refine OwnGo.fwd (fun tq' kq' => XS.iload X3.here hx rfl (hb hby d33_5) rfl kq') ?_
  show OwnGo _ _ _ _ (T3.setTop (mkF m 7 #[.val (.ref y), .val (.int (1 : Int32)), .val (.ref b), .val (.int (1 : Int32)), .val (.int (2 : Int32)), .val (.int (1 : Int32)), .val (.int (fC 0))] [(.int (2 : Int32)), (.int (1 : Int32))]))
  have hc7_4 : (1 : Int) < (2 : Int) := by decide
  refine OwnGo.fwd (fun tq' kq' => XS.icmpNo X3.here hx rfl (hb hby d33_7) rfl (own_blt (by decide) (by decide) hc7_4).2.1 kq') ?_
  show OwnGo _ _ _ _ (T3.setTop (mkF m 10 #[.val (.ref y), .val (.int (1 : Int32)), .val (.ref b), .val (.int (1 : Int32)), .val (.int (2 : Int32)), .val (.int (1 : Int32)), .val (.int (fC 0))] []))
  refine OwnGo.fwd (fun tq' kq' => XS.aloadN X3.here hx rfl (hb hby d33_10) rfl rfl kq') ?_
  show OwnGo _ _ _ _ (T3.setTop (mkF m 11 #[.val (.ref y), .val (.int (1 : Int32)), .val (.ref b), .val (.int (1 : Int32)), .val (.int (2 : Int32)), .val (.int (1 : Int32)), .val (.int (fC 0))] [(.ref y)]))
  refine OwnGo.fwd (fun tq' kq' => XS.iloadN X3.here hx rfl (hb hby d33_11) rfl kq') ?_
  show OwnGo _ _ _ _ (T3.setTop (mkF m 12 #[.val (.ref y), .val (.int (1 : Int32)), .val (.ref b), .val (.int (1 : Int32)), .val (.int (2 : Int32)), .val (.int (1 : Int32)), .val (.int (fC 0))] [(.int (1 : Int32)), (.ref y)]))
  refine OwnGo.fwd (fun tq' kq' => own_caload X3 hx hZ e3 P_y (i := 1) (by decide) (by decide) (g := (mkF m 12 #[.val (.ref y), .val (.int (1 : Int32)), .val (.ref b), .val (.int (1 : Int32)), .val (.int (2 : Int32)), .val (.int (1 : Int32)), .val (.int (fC 0))] [(.int (1 : Int32)), (.ref y)])) rfl rfl (hb hby d33_12) tq' kq') ?_
  show OwnGo _ _ _ _ (T3.setTop (mkF m 13 #[.val (.ref y), .val (.int (1 : Int32)), .val (.ref b), .val (.int (1 : Int32)), .val (.int (2 : Int32)), .val (.int (1 : Int32)), .val (.int (fC 0))] [(.int (fC 1))]))
  refine OwnGo.fwd (fun tq' kq' => XS.istore X3.here hx rfl (hb hby d33_13) rfl (l' := #[.val (.ref y), .val (.int (1 : Int32)), .val (.ref b), .val (.int (1 : Int32)), .val (.int (2 : Int32)), .val (.int (1 : Int32)), .val (.int (fC 1))]) rfl kq') ?_
  show OwnGo _ _ _ _ (T3.setTop (mkF m 15 #[.val (.ref y), .val (.int (1 : Int32)), .val (.ref b), .val (.int (1 : Int32)), .val (.int (2 : Int32)), .val (.int (1 : Int32)), .val (.int (fC 1))] []))
  refine OwnGo.fwd (fun tq' kq' => XS.iload X3.here hx rfl (hb hby d33_15) rfl kq') ?_
  show OwnGo _ _ _ _ (T3.setTop (mkF m 17 #[.val (.ref y), .val (.int (1 : Int32)), .val (.ref b), .val (.int (1 : Int32)), .val (.int (2 : Int32)), .val (.int (1 : Int32)), .val (.int (fC 1))] [(.int (fC 1))]))
  refine OwnGo.fwd (fun tq' kq' => XS.sipush X3.here hx rfl (hb hby d33_17) kq') ?_
  show OwnGo _ _ _ _ (T3.setTop (mkF m 20 #[.val (.ref y), .val (.int (1 : Int32)), .val (.ref b), .val (.int (1 : Int32)), .val (.int (2 : Int32)), .val (.int (1 : Int32)), .val (.int (fC 1))] [(.int (255 : Int32)), (.int (fC 1))]))
  have hc20_5 : ¬ (255 < (fC 1).toInt) := by have q := hle 1 (by decide); omega
  refine OwnGo.fwd (fun tq' kq' => XS.icmpYes X3.here hx rfl (pc0 := 20) (pc' := 26) rfl (hb hby d33_20) rfl (own_bnlt (by decide) rfl hc20_5).2.2.2 (by decide) (by decide) kq') ?_
  show OwnGo _ _ _ _ (T3.setTop (mkF m 26 #[.val (.ref y), .val (.int (1 : Int32)), .val (.ref b), .val (.int (1 : Int32)), .val (.int (2 : Int32)), .val (.int (1 : Int32)), .val (.int (fC 1))] []))
  refine OwnGo.fwd (fun tq' kq' => XS.aloadN X3.here hx rfl (hb hby d33_26) rfl rfl kq') ?_
  show OwnGo _ _ _ _ (T3.setTop (mkF m 27 #[.val (.ref y), .val (.int (1 : Int32)), .val (.ref b), .val (.int (1 : Int32)), .val (.int (2 : Int32)), .val (.int (1 : Int32)), .val (.int (fC 1))] [(.ref b)]))
  refine OwnGo.fwd (fun tq' kq' => XS.iloadN X3.here hx rfl (hb hby d33_27) rfl kq') ?_
  show OwnGo _ _ _ _ (T3.setTop (mkF m 28 #[.val (.ref y), .val (.int (1 : Int32)), .val (.ref b), .val (.int (1 : Int32)), .val (.int (2 : Int32)), .val (.int (1 : Int32)), .val (.int (fC 1))] [(.int (1 : Int32)), (.ref b)]))
  refine OwnGo.fwd (fun tq' kq' => XS.iload X3.here hx rfl (hb hby d33_28) rfl kq') ?_
  show OwnGo _ _ _ _ (T3.setTop (mkF m 30 #[.val (.ref y), .val (.int (1 : Int32)), .val (.ref b), .val (.int (1 : Int32)), .val (.int (2 : Int32)), .val (.int (1 : Int32)), .val (.int (fC 1))] [(.int (fC 1)), (.int (1 : Int32)), (.ref b)]))
  refine OwnGo.fwd (fun tq' kq' => XS.i2b X3.here hx rfl (hb hby d33_30) rfl kq') ?_
  show OwnGo _ _ _ _ (T3.setTop (mkF m 31 #[.val (.ref y), .val (.int (1 : Int32)), .val (.ref b), .val (.int (1 : Int32)), .val (.int (2 : Int32)), .val (.int (1 : Int32)), .val (.int (fC 1))] [(.int (fC 1).toInt8.toInt32), (.int (1 : Int32)), (.ref b)]))
  obtain ⟨T6, h6, X6, e6, W6, P6, st6⟩ := own_bastore X3 hx hZ e3 P_b (i := 1) (by decide) (by decide) (g := (mkF m 31 #[.val (.ref y), .val (.int (1 : Int32)), .val (.ref b), .val (.int (1 : Int32)), .val (.int (2 : Int32)), .val (.int (1 : Int32)), .val (.int (fC 1))] [(.int (fC 1).toInt8.toInt32), (.int (1 : Int32)), (.ref b)])) rfl rfl (hb hby d33_31)
  have P_y := P_y.other W6 ne_y_b
  have K := K.wr W6 (Or.inl (List.mem_of_getElem? (i := 0) rfl))
  have Zs := Nat.le_trans Zs (Keep.of_wr W6).1
  have N := Fr.snoc X6 N g_b
  have P_b := P6
  refine OwnGo.fwd st6 ?_
  show OwnGo _ _ _ _ (T6.setTop (mkF m 32 #[.val (.ref y), .val (.int (1 : Int32)), .val (.ref b), .val (.int (1 : Int32)), .val (.int (2 : Int32)), .val (.int (1 : Int32)), .val (.int (fC 1))] []))
  refine OwnGo.fwd (fun tq' kq' => XS.iinc X6.here hx rfl (hb hby d33_32) rfl (l' := #[.val (.ref y), .val (.int (2 : Int32)), .val (.ref b), .val (.int (1 : Int32)), .val (.int (2 : Int32)), .val (.int (1 : Int32)), .val (.int (fC 1))]) rfl kq') ?_
  show OwnGo _ _ _ _ (T6.setTop (mkF m 35 #[.val (.ref y), .val (.int (2 : Int32)), .val (.ref b), .val (.int (1 : Int32)), .val (.int (2 : Int32)), .val (.int (1 : Int32)), .val (.int (fC 1))] []))
  refine OwnGo.fwd (fun tq' kq' => XS.iinc X6.here hx rfl (hb hby d33_35) rfl (l' := #[.val (.ref y), .val (.int (2 : Int32)), .val (.ref b), .val (.int (2 : Int32)), .val (.int (2 : Int32)), .val (.int (1 : Int32)), .val (.int (fC 1))]) rfl kq') ?_
  show OwnGo _ _ _ _ (T6.setTop (mkF m 38 #[.val (.ref y), .val (.int (2 : Int32)), .val (.ref b), .val (.int (2 : Int32)), .val (.int (2 : Int32)), .val (.int (1 : Int32)), .val (.int (fC 1))] []))
  refine OwnGo.fwd (fun tq' kq' => XS.iinc X6.here hx rfl (hb hby d33_38) rfl (l' := #[.val (.ref y), .val (.int (2 : Int32)), .val (.ref b), .val (.int (2 : Int32)), .val (.int (2 : Int32)), .val (.int (2 : Int32)), .val (.int (fC 1))]) rfl kq') ?_
  show OwnGo _ _ _ _ (T6.setTop (mkF m 41 #[.val (.ref y), .val (.int (2 : Int32)), .val (.ref b), .val (.int (2 : Int32)), .val (.int (2 : Int32)), .val (.int (2 : Int32)), .val (.int (fC 1))] []))
  refine OwnGo.fwd (fun tq' kq' => XS.goto X6.here hx rfl (pc0 := 41) (pc' := 3) rfl (hb hby d33_41) (by decide) (by decide) kq') ?_
  show OwnGo _ _ _ _ (T6.setTop (mkF m 3 #[.val (.ref y), .val (.int (2 : Int32)), .val (.ref b), .val (.int (2 : Int32)), .val (.int (2 : Int32)), .val (.int (2 : Int32)), .val (.int (fC 1))] []))
  refine OwnGo.fwd (fun tq' kq' => XS.iload X6.here hx rfl (hb hby d33_3) rfl kq') ?_
  show OwnGo _ _ _ _ (T6.setTop (mkF m 5 #[.val (.ref y), .val (.int (2 : Int32)), .val (.ref b), .val (.int (2 : Int32)), .val (.int (2 : Int32)), .val (.int (2 : Int32)), .val (.int (fC 1))] [(.int (2 : Int32))]))
  refine OwnGo.fwd (fun tq' kq' => XS.iload X6.here hx rfl (hb hby d33_5) rfl kq') ?_
  show OwnGo _ _ _ _ (T6.setTop (mkF m 7 #[.val (.ref y), .val (.int (2 : Int32)), .val (.ref b), .val (.int (2 : Int32)), .val (.int (2 : Int32)), .val (.int (2 : Int32)), .val (.int (fC 1))] [(.int (2 : Int32)), (.int (2 : Int32))]))
  have hc7_7 : ¬ ((2 : Int) < (2 : Int)) := by decide
  refine OwnGo.fwd (fun tq' kq' => XS.icmpYes X6.here hx rfl (pc0 := 7) (pc' := 44) rfl (hb hby d33_7) rfl (own_bnlt (by decide) (by decide) hc7_7).2.1 (by decide) (by decide) kq') ?_
  show OwnGo _ _ _ _ (T6.setTop (mkF m 44 #[.val (.ref y), .val (.int (2 : Int32)), .val (.ref b), .val (.int (2 : Int32)), .val (.int (2 : Int32)), .val (.int (2 : Int32)), .val (.int (fC 1))] []))
  refine OwnGo.fwd (fun tq' kq' => XS.iload X6.here hx rfl (hb hby d33_44) rfl kq') ?_
  show OwnGo _ _ _ _ (T6.setTop (mkF m 46 #[.val (.ref y), .val (.int (2 : Int32)), .val (.ref b), .val (.int (2 : Int32)), .val (.int (2 : Int32)), .val (.int (2 : Int32)), .val (.int (fC 1))] [(.int (2 : Int32))]))
  exact own_retI X6 hlk hx Bd.returns (hb hby d33_46) (by decide) (by decide) e6 ⟨rfl, N, K, _, P_b⟩
theorem ef_32_2 (m : MethodId) (x0 : Addr) (x1 : Int32) (x2 : Int32) : entryFrame m #[(.ref x0), (.int x1), (.int x2)] 6 = mkF m 0 #[.val (.ref x0), .val (.int x1), .val (.int x2), .unset, .unset, .unset] [] := by first | (simp [entryFrame, mkF, argsToLocals, Value.category, maxLocals]; done) | rfl
def Q32_2 (Z : State) (y : Addr) (fC : Nat → Int32) (h0 : Heap) (n0 : Nat) (v : Option Value) (h : Heap) (L : List Loc) : Prop := Fr n0 L ∧ Keep h0 h [] ∧ ∃ t, v = some (.ref t) ∧ h0.size ≤ t ∧ ∃ g, OwnPA Z h t .byte 2 g
set_option maxRecDepth 65536 in
set_option maxHeartbeats 40000000 in
theorem rm32_2 (l : Launch) (Z : State) (a0 : Array Value) (hw : ∀ d ∈ tables_1, d.before a0 Z = true) (ws : List Jvm.Cond) (y : Addr) (fC : Nat → Int32) (h0 : Heap) (n0 : Nat) (Z0 : n0 ≤ h0.size) (P_y : OwnPA Z h0 y .char 2 fC) (hle : ∀ i, i < 2 → (fC i).toInt ≤ 255) :
    MetFree l (⟨"java/lang/StringUTF16", "compress", "([CII)[B"⟩ : MethodName) (head1 (Jvm.Cond.code (⟨"java/lang/StringUTF16", "compress", "([CII)[B"⟩ : MethodName) jdk_52_method_16_code 6 (some (.array .byte)) :: ws) ({ frames := 1, cells := 1, slots := 2, locals := 20 } : Room)) (fun arr' U => arr' = #[(.ref y), (.int (0 : Int32)), (.int (2 : Int32))] ∧ Z.Warmed39 U.vm ∧ U.heap = h0) (fun _ _ _ _ _ => True) (fun _ U o U' => ∃ v L, o = .returned v ∧ (Q32_2 Z y fC h0 n0) v U'.heap L ∧ FrameEnd U o U' L ({ frames := 1, cells := 1, slots := 2, locals := 20 } : Room).cells ({ frames := 1, cells := 1, slots := 2, locals := 20 } : Room).slots) := by
  refine MetFree.of_bodySF pn_32 hisR ?_
  intro p e s m args below meth c s₁ Bd hml0 hP hK
  obtain ⟨rfl, hZ, hh⟩ := hP
  have hx := Bd.exec
  have hby := Bd.bytes
  have hlk : meth.locks = false := BodyLoose.notSynchronized Bd
  have hml : c.maxLocals = 6 := hml0
  have hown : s.vm.findClass "java/lang/StringUTF16" = some m.cls := findClass_of_methodNamed Bd.named
  have hnm := (name_of_methodNamed Bd.named Bd.method).1
  have X0 : Stand p l e ({ frames := 1, cells := 1, slots := 2, locals := 20 } : Room) s m #[(.ref y), (.int (0 : Int32)), (.int (2 : Int32))] below meth c s₁ [] 0 0 := Stand.of_body Bd
  have e0 : s₁.heap = h0 := by rw [← hh, Bd.state]; rfl
  have N := Fr.nil n0
  have Zs := Z0
  change OwnGo p.tables e below (OwnEnd s (Q32_2 Z y fC h0 n0) ({ frames := 1, cells := 1, slots := 2, locals := 20 } : Room).cells ({ frames := 1, cells := 1, slots := 2, locals := 20 } : Room).slots) _
  refine OwnGo.fwd (fun tq' kq' => castTop (ef_32_2 m y (0 : Int32) (2 : Int32)) kq') ?_
  show OwnGo _ _ _ _ (s₁.setTop (mkF m 0 #[.val (.ref y), .val (.int (0 : Int32)), .val (.int (2 : Int32)), .unset, .unset, .unset] []))
  have K : Keep h0 h0 [] := Keep.refl _ _
  refine OwnGo.fwd (fun tq' kq' => XS.iloadN X0.here hx rfl (hb hby d32_0) rfl kq') ?_
  show OwnGo _ _ _ _ (s₁.setTop (mkF m 1 #[.val (.ref y), .val (.int (0 : Int32)), .val (.int (2 : Int32)), .unset, .unset, .unset] [(.int (2 : Int32))]))
  obtain ⟨T1, h1, b1, X1, e1, E1, g1, P1, st1⟩ := own_newP X0 hx hZ (aty := .byte) (hw _ (List.mem_of_getElem? (i := 47) rfl)) e0 (g := (mkF m 1 #[.val (.ref y), .val (.int (0 : Int32)), .val (.int (2 : Int32)), .unset, .unset, .unset] [(.int (2 : Int32))])) rfl (hb hby d32_1) rfl (i := 2) (by decide) (ty := .byte) rfl rfl (cap := 2) (by decide) (by decide) (by decide) (by decide)
  have ne_y_b1 : y ≠ b1 := Nat.ne_of_lt (Nat.lt_of_lt_of_le P_y.lt (Nat.le_of_eq g1.symm))
  have g_b1 : n0 ≤ b1 := Nat.le_trans Zs (Nat.le_of_eq g1.symm)
  have sz_b1 : h0.size ≤ b1 := Nat.le_trans K.1 (Nat.le_of_eq g1.symm)
  have K := K.ext E1
  have Zs := Nat.le_trans Zs E1.1
  have P_y := P_y.ext E1
  have P_b1 := P1
  refine OwnGo.fwd st1 ?_
  show OwnGo _ _ _ _ (T1.setTop (mkF m 3 #[.val (.ref y), .val (.int (0 : Int32)), .val (.int (2 : Int32)), .unset, .unset, .unset] [(.ref b1)]))
  refine OwnGo.fwd (fun tq' kq' => XS.astoreN X1.here hx rfl (hb hby d32_3) rfl rfl (l' := #[.val (.ref y), .val (.int (0 : Int32)), .val (.int (2 : Int32)), .val (.ref b1), .unset, .unset]) rfl kq') ?_
  show OwnGo _ _ _ _ (T1.setTop (mkF m 4 #[.val (.ref y), .val (.int (0 : Int32)), .val (.int (2 : Int32)), .val (.ref b1), .unset, .unset] []))
  refine OwnGo.fwd (fun tq' kq' => XS.aloadN X1.here hx rfl (hb hby d32_4) rfl rfl kq') ?_
  show OwnGo _ _ _ _ (T1.setTop (mkF m 5 #[.val (.ref y), .val (.int (0 : Int32)), .val (.int (2 : Int32)), .val (.ref b1), .unset, .unset] [(.ref y)]))
  refine OwnGo.fwd (fun tq' kq' => XS.iloadN X1.here hx rfl (hb hby d32_5) rfl kq') ?_
  show OwnGo _ _ _ _ (T1.setTop (mkF m 6 #[.val (.ref y), .val (.int (0 : Int32)), .val (.int (2 : Int32)), .val (.ref b1), .unset, .unset] [(.int (0 : Int32)), (.ref y)]))
  refine OwnGo.fwd (fun tq' kq' => XS.aloadN X1.here hx rfl (hb hby d32_6) rfl rfl kq') ?_
  show OwnGo _ _ _ _ (T1.setTop (mkF m 7 #[.val (.ref y), .val (.int (0 : Int32)), .val (.int (2 : Int32)), .val (.ref b1), .unset, .unset] [(.ref b1), (.int (0 : Int32)), (.ref y)]))
  refine OwnGo.fwd (fun tq' kq' => XS.iconst X1.here hx rfl (hb hby d32_7) kq') ?_
  show OwnGo _ _ _ _ (T1.setTop (mkF m 8 #[.val (.ref y), .val (.int (0 : Int32)), .val (.int (2 : Int32)), .val (.ref b1), .unset, .unset] [(.int (0 : Int32)), (.ref b1), (.int (0 : Int32)), (.ref y)]))
  refine OwnGo.fwd (fun tq' kq' => XS.iloadN X1.here hx rfl (hb hby d32_8) rfl kq') ?_
  show OwnGo _ _ _ _ (T1.setTop (mkF m 9 #[.val (.ref y), .val (.int (0 : Int32)), .val (.int (2 : Int32)), .val (.ref b1), .unset, .unset] [(.int (2 : Int32)), (.int (0 : Int32)), (.ref b1), (.int (0 : Int32)), (.ref y)]))
  obtain ⟨_, _, ⟨T2, L2, k2, n2⟩, -, X2, ⟨Lc2, hQ2, l2, y2, z2⟩, st2⟩ := Jvm.LawKit.callS X1 hx (y := (⟨"java/lang/StringUTF16", "compress", "([CI[BII)I"⟩ : MethodName)) hown (mvT hZ (hw _ (List.mem_of_getElem? (i := 282) rfl))) (mvT hZ (hw _ (List.mem_of_getElem? (i := 283) rfl))) (mvT hZ (hw _ (List.mem_of_getElem? (i := 280) rfl))) (mvT hZ (hw _ (List.mem_of_getElem? (i := 284) rfl))) (by decide) (backOf (W := 0) (rm33_2 l Z a0 hw [] y b1 fC _ h1 n0 Zs P_y hle P_b1 g_b1 ne_y_b1) hZ (hw _ (List.mem_of_getElem? (i := 284) rfl)) (hw _ (List.mem_of_getElem? (i := 280) rfl)) (by decide) (by decide)) (g := (mkF m 9 #[.val (.ref y), .val (.int (0 : Int32)), .val (.int (2 : Int32)), .val (.ref b1), .unset, .unset] [(.int (2 : Int32)), (.int (0 : Int32)), (.ref b1), (.int (0 : Int32)), (.ref y)])) rfl (by rw [hml]; rfl) (argsL := [(.ref y), (.int (0 : Int32)), (.ref b1), (.int (0 : Int32)), (.int (2 : Int32))]) (rest := []) (lenOf pd_22 rfl) rfl (by show 2 * 0 + _ ≤ _; exact Nat.le_of_eq rfl) (hb hby d32_9) (fun _ _ => ⟨rfl, e1, (by decide : 1 + 0 ≤ _), (by decide : 2 + 0 ≤ _)⟩)
  dsimp only [Pt.U, Pt.locs, Pt.cells, Pt.slots] at X2 l2 y2 z2 st2 hQ2
  subst l2 y2 z2
  obtain ⟨h2, eh2⟩ : ∃ z, z = T2.heap := ⟨_, rfl⟩
  rw [← eh2] at hQ2
  obtain ⟨rfl, N2q, K2, fb2, P_b1⟩ := hQ2
  have N := Fr.app N N2q
  have Zs := Nat.le_trans Zs K2.1
  have P_y := P_y.keep K2 (ninS ne_y_b1 nin0)
  have K := K.trans K2 (allS (Or.inr sz_b1) all0)
  refine OwnGo.fwd st2 ?_
  show OwnGo _ _ _ _ (T2.setTop (mkF m 12 #[.val (.ref y), .val (.int (0 : Int32)), .val (.int (2 : Int32)), .val (.ref b1), .unset, .unset] [(.int (2 : Int32))]))
  refine OwnGo.fwd (fun tq' kq' => XS.istore X2.here hx rfl (hb hby d32_12) rfl (l' := #[.val (.ref y), .val (.int (0 : Int32)), .val (.int (2 : Int32)), .val (.ref b1), .val (.int (2 : Int32)), .unset]) rfl kq') ?_
  show OwnGo _ _ _ _ (T2.setTop (mkF m 14 #[.val (.ref y), .val (.int (0 : Int32)), .val (.int (2 : Int32)), .val (.ref b1), .val (.int (2 : Int32)), .unset] []))
  refine OwnGo.fwd (fun tq' kq' => XS.iload X2.here hx rfl (hb hby d32_14) rfl kq') ?_
  show OwnGo _ _ _ _ (T2.setTop (mkF m 16 #[.val (.ref y), .val (.int (0 : Int32)), .val (.int (2 : Int32)), .val (.ref b1), .val (.int (2 : Int32)), .unset] [(.int (2 : Int32))]))
  refine OwnGo.fwd (fun tq' kq' => XS.iloadN X2.here hx rfl (hb hby d32_16) rfl kq') ?_
  show OwnGo _ _ _ _ (T2.setTop (mkF m 17 #[.val (.ref y), .val (.int (0 : Int32)), .val (.int (2 : Int32)), .val (.ref b1), .val (.int (2 : Int32)), .unset] [(.int (2 : Int32)), (.int (2 : Int32))]))
  have hc17_3 : (2 : Int) = (2 : Int) := rfl
  refine OwnGo.fwd (fun tq' kq' => XS.icmpYes X2.here hx rfl (pc0 := 17) (pc' := 57) rfl (hb hby d32_17) rfl (own_beq (by decide) (by decide) hc17_3).1 (by decide) (by decide) kq') ?_
  show OwnGo _ _ _ _ (T2.setTop (mkF m 57 #[.val (.ref y), .val (.int (0 : Int32)), .val (.int (2 : Int32)), .val (.ref b1), .val (.int (2 : Int32)), .unset] []))
  refine OwnGo.fwd (fun tq' kq' => XS.aloadN X2.here hx rfl (hb hby d32_57) rfl rfl kq') ?_
  show OwnGo _ _ _ _ (T2.setTop (mkF m 58 #[.val (.ref y), .val (.int (0 : Int32)), .val (.int (2 : Int32)), .val (.ref b1), .val (.int (2 : Int32)), .unset] [(.ref b1)]))
  exact own_retA X2 hlk hx Bd.returns rfl rfl (hb hby d32_58) (by decide) (by decide) eh2.symm ⟨N, K, b1, rfl, sz_b1, _, P_b1⟩
theorem ef_7_2 (m : MethodId) (x0 : Addr) (x1 : Addr) (x2 : Int32) (x3 : Int32) : entryFrame m #[(.ref x0), (.ref x1), (.int x2), (.int x3), .null] 6 = mkF m 0 #[.val (.ref x0), .val (.ref x1), .val (.int x2), .val (.int x3), .val .null, .unset] [] := by first | (simp [entryFrame, mkF, argsToLocals, Value.category, maxLocals]; done) | rfl
def Q7_2 (Z : State) (a : Addr) (y : Addr) (cs : Int32) (fC : Nat → Int32) (h0 : Heap) (n0 : Nat) (v : Option Value) (h : Heap) (L : List Loc) : Prop := v = none ∧ Fr n0 L ∧ Keep h0 h [a] ∧ Exa Z h a "java/lang/String"
set_option maxRecDepth 65536 in
set_option maxHeartbeats 40000000 in
theorem rm7_2 (l : Launch) (Z : State) (a0 : Array Value) (hw : ∀ d ∈ tables_1, d.before a0 Z = true) (ws : List Jvm.Cond) (a : Addr) (y : Addr) (cs : Int32) (fC : Nat → Int32) (h0 : Heap) (n0 : Nat) (Z0 : n0 ≤ h0.size) (E_a : Exa Z h0 a "java/lang/String") (F_value_a : Fld Z h0 a "java/lang/String" "value" "[B" .null) (F_coder_a : Fld Z h0 a "java/lang/String" "coder" "B" (.int (0 : Int32))) (g_a : n0 ≤ a) (P_y : OwnPA Z h0 y .char 2 fC) (hle : ∀ i, i < 2 → (fC i).toInt ≤ 255) (ne_a_y : a ≠ y) (S0_COMPACT_STRINGS : Sta Z h0 "java/lang/String" "COMPACT_STRINGS" "Z" (.int cs)) (hcs : ¬ cs.toInt = 0) :
    MetFree l (⟨"java/lang/String", "<init>", "([CIILjava/lang/Void;)V"⟩ : MethodName) (head1 (Jvm.Cond.code (⟨"java/lang/String", "<init>", "([CIILjava/lang/Void;)V"⟩ : MethodName) jdk_42_method_149_code 6 none :: ws) ({ frames := 2, cells := 1, slots := 2, locals := 40 } : Room)) (fun arr' U => arr' = #[(.ref a), (.ref y), (.int (0 : Int32)), (.int (2 : Int32)), .null] ∧ Z.Warmed39 U.vm ∧ U.heap = h0) (fun _ _ _ _ _ => True) (fun _ U o U' => ∃ v L, o = .returned v ∧ (Q7_2 Z a y cs fC h0 n0) v U'.heap L ∧ FrameEnd U o U' L ({ frames := 2, cells := 1, slots := 2, locals := 40 } : Room).cells ({ frames := 2, cells := 1, slots := 2, locals := 40 } : Room).slots) := by
  refine MetFree.of_bodySF pn_7 hisR ?_
  intro p e s m args below meth c s₁ Bd hml0 hP hK
  obtain ⟨rfl, hZ, hh⟩ := hP
  have hx := Bd.exec
  have hby := Bd.bytes
  have hlk : meth.locks = false := BodyLoose.notSynchronized Bd
  have hml : c.maxLocals = 6 := hml0
  have hown : s.vm.findClass "java/lang/String" = some m.cls := findClass_of_methodNamed Bd.named
  have hnm := (name_of_methodNamed Bd.named Bd.method).1
  have X0 : Stand p l e ({ frames := 2, cells := 1, slots := 2, locals := 40 } : Room) s m #[(.ref a), (.ref y), (.int (0 : Int32)), (.int (2 : Int32)), .null] below meth c s₁ [] 0 0 := Stand.of_body Bd
  have e0 : s₁.heap = h0 := by rw [← hh, Bd.state]; rfl
  have N := Fr.nil n0
  have Zs := Z0
  change OwnGo p.tables e below (OwnEnd s (Q7_2 Z a y cs fC h0 n0) ({ frames := 2, cells := 1, slots := 2, locals := 40 } : Room).cells ({ frames := 2, cells := 1, slots := 2, locals := 40 } : Room).slots) _
  refine OwnGo.fwd (fun tq' kq' => castTop (ef_7_2 m a y (0 : Int32) (2 : Int32)) kq') ?_
  show OwnGo _ _ _ _ (s₁.setTop (mkF m 0 #[.val (.ref a), .val (.ref y), .val (.int (0 : Int32)), .val (.int (2 : Int32)), .val .null, .unset] []))
  have K : Keep h0 h0 [a] := Keep.refl _ _
  have E0_a := E_a
  refine OwnGo.fwd (fun tq' kq' => XS.aloadN X0.here hx rfl (hb hby d7_0) rfl rfl kq') ?_
  show OwnGo _ _ _ _ (s₁.setTop (mkF m 1 #[.val (.ref a), .val (.ref y), .val (.int (0 : Int32)), .val (.int (2 : Int32)), .val .null, .unset] [(.ref a)]))
  obtain ⟨T1, X1, e1, st1⟩ := initO X0 hx hZ hown (hw _ (List.mem_of_getElem? (i := 45) rfl)) (hw _ (List.mem_of_getElem? (i := 19) rfl)) (hw _ (List.mem_of_getElem? (i := 20) rfl)) e0 (g := (mkF m 1 #[.val (.ref a), .val (.ref y), .val (.int (0 : Int32)), .val (.int (2 : Int32)), .val .null, .unset] [(.ref a)])) rfl (by rw [hml]; rfl) rfl (hb hby d7_1) (by decide) (W := 0) (by show 2 * 0 + _ ≤ _; exact Nat.le_of_eq rfl) (by decide)
  refine OwnGo.fwd st1 ?_
  show OwnGo _ _ _ _ (T1.setTop (mkF m 4 #[.val (.ref a), .val (.ref y), .val (.int (0 : Int32)), .val (.int (2 : Int32)), .val .null, .unset] []))
  refine OwnGo.fwd (fun tq' kq' => XS.iloadN X1.here hx rfl (hb hby d7_4) rfl kq') ?_
  show OwnGo _ _ _ _ (T1.setTop (mkF m 5 #[.val (.ref a), .val (.ref y), .val (.int (0 : Int32)), .val (.int (2 : Int32)), .val .null, .unset] [(.int (2 : Int32))]))
  have hc5_2 : ¬ ((2 : Int) = (0 : Int)) := by decide
  refine OwnGo.fwd (fun tq' kq' => XS.ifYes X1.here hx rfl (pc0 := 5) (pc' := 27) rfl (hb hby d7_5) rfl ((if0 _ _).trans (own_bneq (by decide) (by decide) hc5_2).2) (by decide) (by decide) kq') ?_
  show OwnGo _ _ _ _ (T1.setTop (mkF m 27 #[.val (.ref a), .val (.ref y), .val (.int (0 : Int32)), .val (.int (2 : Int32)), .val .null, .unset] []))
  have S_COMPACT_STRINGS := own_stK S0_COMPACT_STRINGS K (allS ⟨_, E0_a⟩ all0)
  obtain ⟨T3, X3, e3, st3⟩ := getS2 X1 hx hZ hown (host := "") (Or.inl (hw _ (List.mem_of_getElem? (i := 277) rfl))) Via.refl e1 S_COMPACT_STRINGS (g := (mkF m 27 #[.val (.ref a), .val (.ref y), .val (.int (0 : Int32)), .val (.int (2 : Int32)), .val .null, .unset] [])) rfl (hb hby d7_27)
  refine OwnGo.fwd st3 ?_
  show OwnGo _ _ _ _ (T3.setTop (mkF m 30 #[.val (.ref a), .val (.ref y), .val (.int (0 : Int32)), .val (.int (2 : Int32)), .val .null, .unset] [(.int cs)]))
  have hc30_4 : ¬ (cs.toInt = 0) := hcs
  refine OwnGo.fwd (fun tq' kq' => XS.ifNo X3.here hx rfl (hb hby d7_30) rfl ((if0 _ _).trans (own_bneq rfl (by decide) hc30_4).1) kq') ?_
  show OwnGo _ _ _ _ (T3.setTop (mkF m 33 #[.val (.ref a), .val (.ref y), .val (.int (0 : Int32)), .val (.int (2 : Int32)), .val .null, .unset] []))
  refine OwnGo.fwd (fun tq' kq' => XS.aloadN X3.here hx rfl (hb hby d7_33) rfl rfl kq') ?_
  show OwnGo _ _ _ _ (T3.setTop (mkF m 34 #[.val (.ref a), .val (.ref y), .val (.int (0 : Int32)), .val (.int (2 : Int32)), .val .null, .unset] [(.ref y)]))
  refine OwnGo.fwd (fun tq' kq' => XS.iloadN X3.here hx rfl (hb hby d7_34) rfl kq') ?_
  show OwnGo _ _ _ _ (T3.setTop (mkF m 35 #[.val (.ref a), .val (.ref y), .val (.int (0 : Int32)), .val (.int (2 : Int32)), .val .null, .unset] [(.int (0 : Int32)), (.ref y)]))
  refine OwnGo.fwd (fun tq' kq' => XS.iloadN X3.here hx rfl (hb hby d7_35) rfl kq') ?_
  show OwnGo _ _ _ _ (T3.setTop (mkF m 36 #[.val (.ref a), .val (.ref y), .val (.int (0 : Int32)), .val (.int (2 : Int32)), .val .null, .unset] [(.int (2 : Int32)), (.int (0 : Int32)), (.ref y)]))
  obtain ⟨_, _, ⟨T5, L5, k5, n5⟩, -, X5, ⟨Lc5, hQ5, l5, y5, z5⟩, st5⟩ := Jvm.LawKit.callS X3 hx (y := (⟨"java/lang/StringUTF16", "compress", "([CII)[B"⟩ : MethodName)) hown (mvT hZ (hw _ (List.mem_of_getElem? (i := 278) rfl))) (mvT hZ (hw _ (List.mem_of_getElem? (i := 279) rfl))) (mvT hZ (hw _ (List.mem_of_getElem? (i := 280) rfl))) (mvT hZ (hw _ (List.mem_of_getElem? (i := 281) rfl))) (by decide) (backOf (W := 0) (rm32_2 l Z a0 hw [] y fC h0 n0 Zs P_y hle) hZ (hw _ (List.mem_of_getElem? (i := 281) rfl)) (hw _ (List.mem_of_getElem? (i := 280) rfl)) (by decide) (by decide)) (g := (mkF m 36 #[.val (.ref a), .val (.ref y), .val (.int (0 : Int32)), .val (.int (2 : Int32)), .val .null, .unset] [(.int (2 : Int32)), (.int (0 : Int32)), (.ref y)])) rfl (by rw [hml]; rfl) (argsL := [(.ref y), (.int (0 : Int32)), (.int (2 : Int32))]) (rest := []) (lenOf pd_21 rfl) rfl (by show 2 * 0 + _ ≤ _; exact Nat.le_of_eq rfl) (hb hby d7_36) (fun _ _ => ⟨rfl, e3, (by decide : 0 + 1 ≤ _), (by decide : 0 + 2 ≤ _)⟩)
  dsimp only [Pt.U, Pt.locs, Pt.cells, Pt.slots] at X5 l5 y5 z5 st5 hQ5
  subst l5 y5 z5
  have lt5_a := E_a.lt
  have lt5_y := P_y.lt
  obtain ⟨h5, eh5⟩ : ∃ z, z = T5.heap := ⟨_, rfl⟩
  rw [← eh5] at hQ5
  obtain ⟨N5q, K5, t5, rfl, sq5, fb5, P_t5⟩ := hQ5
  have ne_a_t5 : a ≠ t5 := Nat.ne_of_lt (Nat.lt_of_lt_of_le lt5_a sq5)
  have ne_y_t5 : y ≠ t5 := Nat.ne_of_lt (Nat.lt_of_lt_of_le lt5_y sq5)
  have g_t5 : n0 ≤ t5 := Nat.le_trans Zs sq5
  have sz_t5 : h0.size ≤ t5 := Nat.le_trans K.1 sq5
  have N := Fr.app N N5q
  have Zs := Nat.le_trans Zs K5.1
  have E_a := E_a.keep K5
  have F_value_a := F_value_a.keep K5 nin0
  have F_coder_a := F_coder_a.keep K5 nin0
  have P_y := P_y.keep K5 nin0
  have K := K.trans K5 all0
  refine OwnGo.fwd st5 ?_
  show OwnGo _ _ _ _ (T5.setTop (mkF m 39 #[.val (.ref a), .val (.ref y), .val (.int (0 : Int32)), .val (.int (2 : Int32)), .val .null, .unset] [(.ref t5)]))
  refine OwnGo.fwd (fun tq' kq' => XS.astore X5.here hx rfl (hb hby d7_39) rfl rfl (l' := #[.val (.ref a), .val (.ref y), .val (.int (0 : Int32)), .val (.int (2 : Int32)), .val .null, .val (.ref t5)]) rfl kq') ?_
  show OwnGo _ _ _ _ (T5.setTop (mkF m 41 #[.val (.ref a), .val (.ref y), .val (.int (0 : Int32)), .val (.int (2 : Int32)), .val .null, .val (.ref t5)] []))
  refine OwnGo.fwd (fun tq' kq' => XS.aloadN X5.here hx rfl (hb hby d7_41) rfl rfl kq') ?_
  show OwnGo _ _ _ _ (T5.setTop (mkF m 42 #[.val (.ref a), .val (.ref y), .val (.int (0 : Int32)), .val (.int (2 : Int32)), .val .null, .val (.ref t5)] [(.ref a)]))
  refine OwnGo.fwd (fun tq' kq' => XS.aload X5.here hx rfl (hb hby d7_42) rfl rfl kq') ?_
  show OwnGo _ _ _ _ (T5.setTop (mkF m 44 #[.val (.ref a), .val (.ref y), .val (.int (0 : Int32)), .val (.int (2 : Int32)), .val .null, .val (.ref t5)] [(.ref t5), (.ref a)]))
  refine OwnGo.fwd (fun tq' kq' => XS.iloadN X5.here hx rfl (hb hby d7_44) rfl kq') ?_
  show OwnGo _ _ _ _ (T5.setTop (mkF m 45 #[.val (.ref a), .val (.ref y), .val (.int (0 : Int32)), .val (.int (2 : Int32)), .val .null, .val (.ref t5)] [(.int (2 : Int32)), (.ref t5), (.ref a)]))
  obtain ⟨_, _, ⟨T6, L6, k6, n6⟩, -, X6, ⟨Lc6, hQ6, l6, y6, z6⟩, st6⟩ := Jvm.LawKit.callS X5 hx (y := (⟨"java/lang/StringUTF16", "coderFromArrayLen", "([BI)B"⟩ : MethodName)) hown (mvT hZ (hw _ (List.mem_of_getElem? (i := 285) rfl))) (mvT hZ (hw _ (List.mem_of_getElem? (i := 286) rfl))) (mvT hZ (hw _ (List.mem_of_getElem? (i := 280) rfl))) (mvT hZ (hw _ (List.mem_of_getElem? (i := 287) rfl))) (by decide) (backOf (W := 1) (rm34_2 l Z a0 hw [] t5 _ h5 n0 Zs P_t5) hZ (hw _ (List.mem_of_getElem? (i := 287) rfl)) (hw _ (List.mem_of_getElem? (i := 280) rfl)) (by decide) (by decide)) (g := (mkF m 45 #[.val (.ref a), .val (.ref y), .val (.int (0 : Int32)), .val (.int (2 : Int32)), .val .null, .val (.ref t5)] [(.int (2 : Int32)), (.ref t5), (.ref a)])) rfl (by rw [hml]; rfl) (argsL := [(.ref t5), (.int (2 : Int32))]) (rest := [(.ref a)]) (lenOf pd_23 rfl) rfl (by show 2 * 0 + _ ≤ _; exact Nat.le_of_eq rfl) (hb hby d7_45) (fun _ _ => ⟨rfl, eh5.symm, (by decide : 1 + 0 ≤ _), (by decide : 2 + 0 ≤ _)⟩)
  dsimp only [Pt.U, Pt.locs, Pt.cells, Pt.slots] at X6 l6 y6 z6 st6 hQ6
  subst l6 y6 z6
  obtain ⟨rfl, N6q, e6⟩ := hQ6
  have N := Fr.app N N6q
  refine OwnGo.fwd st6 ?_
  show OwnGo _ _ _ _ (T6.setTop (mkF m 48 #[.val (.ref a), .val (.ref y), .val (.int (0 : Int32)), .val (.int (2 : Int32)), .val .null, .val (.ref t5)] [(.int (0 : Int32)), (.ref a)]))
  obtain ⟨T7, h7, X7, e7, W7, st7⟩ := putF X6 hx hZ hown (host := "") (Or.inl (hw _ (List.mem_of_getElem? (i := 53) rfl))) Via.refl e6 F_coder_a E_a (Or.inr ⟨(hw _ (List.mem_of_getElem? (i := 49) rfl)), rfl, hnm⟩) (hw _ (List.mem_of_getElem? (i := 36) rfl)) (ty := .byte) (by decide) rfl rfl (g := (mkF m 48 #[.val (.ref a), .val (.ref y), .val (.int (0 : Int32)), .val (.int (2 : Int32)), .val .null, .val (.ref t5)] [(.int (0 : Int32)), (.ref a)])) rfl rfl (hb hby d7_48)
  have E_a := E_a.wr W7
  have F_value_a := F_value_a.other W7 (Or.inr (slot_ne (Or.inr (hw _ (List.mem_of_getElem? (i := 48) rfl))) (Or.inr (hw _ (List.mem_of_getElem? (i := 49) rfl))) (by decide) (t := (.array .byte)) (t' := .byte) (by decide) (by decide)))
  have F_coder_a := F_coder_a.same W7
  have P_y := P_y.other W7 (Ne.symm ne_a_y)
  have P_t5 := P_t5.other W7 (Ne.symm ne_a_t5)
  have K := K.wr W7 (Or.inl (List.mem_of_getElem? (i := 0) rfl))
  have Zs := Nat.le_trans Zs (Keep.of_wr W7).1
  have N := Fr.snoc X7 N g_a
  refine OwnGo.fwd st7 ?_
  show OwnGo _ _ _ _ (T7.setTop (mkF m 51 #[.val (.ref a), .val (.ref y), .val (.int (0 : Int32)), .val (.int (2 : Int32)), .val .null, .val (.ref t5)] []))
  refine OwnGo.fwd (fun tq' kq' => XS.aloadN X7.here hx rfl (hb hby d7_51) rfl rfl kq') ?_
  show OwnGo _ _ _ _ (T7.setTop (mkF m 52 #[.val (.ref a), .val (.ref y), .val (.int (0 : Int32)), .val (.int (2 : Int32)), .val .null, .val (.ref t5)] [(.ref a)]))
  refine OwnGo.fwd (fun tq' kq' => XS.aload X7.here hx rfl (hb hby d7_52) rfl rfl kq') ?_
  show OwnGo _ _ _ _ (T7.setTop (mkF m 54 #[.val (.ref a), .val (.ref y), .val (.int (0 : Int32)), .val (.int (2 : Int32)), .val .null, .val (.ref t5)] [(.ref t5), (.ref a)]))
  obtain ⟨T8, h8, X8, e8, W8, st8⟩ := putF X7 hx hZ hown (host := "") (Or.inl (hw _ (List.mem_of_getElem? (i := 52) rfl))) Via.refl e7 F_value_a E_a (Or.inr ⟨(hw _ (List.mem_of_getElem? (i := 48) rfl)), rfl, hnm⟩) (hw _ (List.mem_of_getElem? (i := 36) rfl)) (ty := (.array .byte)) (by decide) rfl rfl (g := (mkF m 54 #[.val (.ref a), .val (.ref y), .val (.int (0 : Int32)), .val (.int (2 : Int32)), .val .null, .val (.ref t5)] [(.ref t5), (.ref a)])) rfl rfl (hb hby d7_54)
  have E_a := E_a.wr W8
  have F_value_a := F_value_a.same W8
  have F_coder_a := F_coder_a.other W8 (Or.inr (slot_ne (Or.inr (hw _ (List.mem_of_getElem? (i := 49) rfl))) (Or.inr (hw _ (List.mem_of_getElem? (i := 48) rfl))) (by decide) (t := .byte) (t' := (.array .byte)) (by decide) (by decide)))
  have P_y := P_y.other W8 (Ne.symm ne_a_y)
  have P_t5 := P_t5.other W8 (Ne.symm ne_a_t5)
  have K := K.wr W8 (Or.inl (List.mem_of_getElem? (i := 0) rfl))
  have Zs := Nat.le_trans Zs (Keep.of_wr W8).1
  have N := Fr.snoc X8 N g_a
  refine OwnGo.fwd st8 ?_
  show OwnGo _ _ _ _ (T8.setTop (mkF m 57 #[.val (.ref a), .val (.ref y), .val (.int (0 : Int32)), .val (.int (2 : Int32)), .val .null, .val (.ref t5)] []))
  exact own_retV X8 hlk hx Bd.returns (hb hby d7_57) (by decide) (by decide) e8 ⟨rfl, N, K, E_a⟩
theorem ef_6_2 (m : MethodId) (x0 : Addr) (x1 : Addr) : entryFrame m #[(.ref x0), (.ref x1)] 2 = mkF m 0 #[.val (.ref x0), .val (.ref x1)] [] := by first | (simp [entryFrame, mkF, argsToLocals, Value.category, maxLocals]; done) | rfl
def Q6_2 (Z : State) (a : Addr) (y : Addr) (cs : Int32) (fC : Nat → Int32) (h0 : Heap) (n0 : Nat) (v : Option Value) (h : Heap) (L : List Loc) : Prop := v = none ∧ Fr n0 L ∧ Keep h0 h [a] ∧ Exa Z h a "java/lang/String"
set_option maxRecDepth 65536 in
set_option maxHeartbeats 40000000 in
theorem rm6_2 (l : Launch) (Z : State) (a0 : Array Value) (hw : ∀ d ∈ tables_1, d.before a0 Z = true) (ws : List Jvm.Cond) (a : Addr) (y : Addr) (cs : Int32) (fC : Nat → Int32) (h0 : Heap) (n0 : Nat) (Z0 : n0 ≤ h0.size) (E_a : Exa Z h0 a "java/lang/String") (F_value_a : Fld Z h0 a "java/lang/String" "value" "[B" .null) (F_coder_a : Fld Z h0 a "java/lang/String" "coder" "B" (.int (0 : Int32))) (g_a : n0 ≤ a) (P_y : OwnPA Z h0 y .char 2 fC) (hle : ∀ i, i < 2 → (fC i).toInt ≤ 255) (ne_a_y : a ≠ y) (S0_COMPACT_STRINGS : Sta Z h0 "java/lang/String" "COMPACT_STRINGS" "Z" (.int cs)) (hcs : ¬ cs.toInt = 0) :
    MetFree l (⟨"java/lang/String", "<init>", "([C)V"⟩ : MethodName) (head1 (Jvm.Cond.code (⟨"java/lang/String", "<init>", "([C)V"⟩ : MethodName) jdk_42_method_3_code 2 none :: ws) ({ frames := 3, cells := 1, slots := 2, locals := 60 } : Room)) (fun arr' U => arr' = #[(.ref a), (.ref y)] ∧ Z.Warmed39 U.vm ∧ U.heap = h0) (fun _ _ _ _ _ => True) (fun _ U o U' => ∃ v L, o = .returned v ∧ (Q6_2 Z a y cs fC h0 n0) v U'.heap L ∧ FrameEnd U o U' L ({ frames := 3, cells := 1, slots := 2, locals := 60 } : Room).cells ({ frames := 3, cells := 1, slots := 2, locals := 60 } : Room).slots) := by
  refine MetFree.of_bodySF pn_6 hisR ?_
  intro p e s m args below meth c s₁ Bd hml0 hP hK
  obtain ⟨rfl, hZ, hh⟩ := hP
  have hx := Bd.exec
  have hby := Bd.bytes
  have hlk : meth.locks = false := BodyLoose.notSynchronized Bd
  have hml : c.maxLocals = 2 := hml0
  have hown : s.vm.findClass "java/lang/String" = some m.cls := findClass_of_methodNamed Bd.named
  have hnm := (name_of_methodNamed Bd.named Bd.method).1
  have X0 : Stand p l e ({ frames := 3, cells := 1, slots := 2, locals := 60 } : Room) s m #[(.ref a), (.ref y)] below meth c s₁ [] 0 0 := Stand.of_body Bd
  have e0 : s₁.heap = h0 := by rw [← hh, Bd.state]; rfl
  have N := Fr.nil n0
  have Zs := Z0
  change OwnGo p.tables e below (OwnEnd s (Q6_2 Z a y cs fC h0 n0) ({ frames := 3, cells := 1, slots := 2, locals := 60 } : Room).cells ({ frames := 3, cells := 1, slots := 2, locals := 60 } : Room).slots) _
  refine OwnGo.fwd (fun tq' kq' => castTop (ef_6_2 m a y) kq') ?_
  show OwnGo _ _ _ _ (s₁.setTop (mkF m 0 #[.val (.ref a), .val (.ref y)] []))
  have K : Keep h0 h0 [a] := Keep.refl _ _
  have E0_a := E_a
  refine OwnGo.fwd (fun tq' kq' => XS.aloadN X0.here hx rfl (hb hby d6_0) rfl rfl kq') ?_
  show OwnGo _ _ _ _ (s₁.setTop (mkF m 1 #[.val (.ref a), .val (.ref y)] [(.ref a)]))
  refine OwnGo.fwd (fun tq' kq' => XS.aloadN X0.here hx rfl (hb hby d6_1) rfl rfl kq') ?_
  show OwnGo _ _ _ _ (s₁.setTop (mkF m 2 #[.val (.ref a), .val (.ref y)] [(.ref y), (.ref a)]))
  refine OwnGo.fwd (fun tq' kq' => XS.iconst X0.here hx rfl (hb hby d6_2) kq') ?_
  show OwnGo _ _ _ _ (s₁.setTop (mkF m 3 #[.val (.ref a), .val (.ref y)] [(.int (0 : Int32)), (.ref y), (.ref a)]))
  refine OwnGo.fwd (fun tq' kq' => XS.aloadN X0.here hx rfl (hb hby d6_3) rfl rfl kq') ?_
  show OwnGo _ _ _ _ (s₁.setTop (mkF m 4 #[.val (.ref a), .val (.ref y)] [(.ref y), (.int (0 : Int32)), (.ref y), (.ref a)]))
  refine OwnGo.fwd (fun tq' kq' => own_lenP X0 hx hZ e0 P_y (g := (mkF m 4 #[.val (.ref a), .val (.ref y)] [(.ref y), (.int (0 : Int32)), (.ref y), (.ref a)])) rfl rfl (hb hby d6_4) tq' kq') ?_
  show OwnGo _ _ _ _ (s₁.setTop (mkF m 5 #[.val (.ref a), .val (.ref y)] [(.int (Int32.ofNat 2)), (.int (0 : Int32)), (.ref y), (.ref a)]))
  refine OwnGo.fwd (fun tq' kq' => XS.aconstNull X0.here hx rfl (hb hby d6_5) kq') ?_
  show OwnGo _ _ _ _ (s₁.setTop (mkF m 6 #[.val (.ref a), .val (.ref y)] [.null, (.int (Int32.ofNat 2)), (.int (0 : Int32)), (.ref y), (.ref a)]))
  obtain ⟨_, _, ⟨T1, L1, k1, n1⟩, -, X1, ⟨Lc1, hQ1, l1, y1, z1⟩, st1⟩ := X0.specialBack hx (y := (⟨"java/lang/String", "<init>", "([CIILjava/lang/Void;)V"⟩ : MethodName)) rfl hown (mvT hZ (hw _ (List.mem_of_getElem? (i := 41) rfl))) (mvT hZ (hw _ (List.mem_of_getElem? (i := 42) rfl))) (mvT hZ (hw _ (List.mem_of_getElem? (i := 44) rfl))) (by decide) (backOf (W := 0) (rm7_2 l Z a0 hw [] a y cs fC h0 n0 Zs E_a F_value_a F_coder_a g_a P_y hle ne_a_y (own_stK S0_COMPACT_STRINGS K (allS ⟨_, E0_a⟩ all0)) hcs) hZ (hw _ (List.mem_of_getElem? (i := 44) rfl)) (hw _ (List.mem_of_getElem? (i := 37) rfl)) (by decide) (by decide)) (g := (mkF m 6 #[.val (.ref a), .val (.ref y)] [.null, (.int (Int32.ofNat 2)), (.int (0 : Int32)), (.ref y), (.ref a)])) rfl (by rw [hml]; rfl) (Steps.refl _) (a := a) (argsL := [(.ref y), (.int (0 : Int32)), (.int (Int32.ofNat 2)), .null]) (rest := []) (lenOf pd_3 rfl) rfl (by show 2 * 0 + _ ≤ _; exact Nat.le_of_eq rfl) (hb hby d6_6) (fun _ _ => ⟨rfl, e0, (by decide : 0 + 1 ≤ _), (by decide : 0 + 2 ≤ _)⟩)
  dsimp only [Pt.U, Pt.locs, Pt.cells, Pt.slots] at X1 l1 y1 z1 st1 hQ1
  subst l1 y1 z1
  obtain ⟨h1, eh1⟩ : ∃ z, z = T1.heap := ⟨_, rfl⟩
  rw [← eh1] at hQ1
  obtain ⟨rfl, N1q, K1, E_a⟩ := hQ1
  have N := Fr.app N N1q
  have Zs := Nat.le_trans Zs K1.1
  have P_y := P_y.keep K1 (ninS (Ne.symm ne_a_y) nin0)
  have K := K.trans K1 (allS (Or.inl (List.mem_of_getElem? (i := 0) rfl)) all0)
  refine OwnGo.thru st1 ?_
  show OwnGo _ _ _ _ (T1.setTop (mkF m 9 #[.val (.ref a), .val (.ref y)] []))
  exact own_retV X1 hlk hx Bd.returns (hb hby d6_9) (by decide) (by decide) eh1.symm ⟨rfl, N, K, E_a⟩
theorem own_strA : ∀ w ∈ Bundle.stringAtoms, w ∈ tables_1 := by decide +kernel
theorem ef_7e (m : MethodId) (x0 : Addr) (x1 : Addr) (x2 : Int32) (x3 : Int32) : entryFrame m #[(.ref x0), (.ref x1), (.int x2), (.int x3), .null] 6 = mkF m 0 #[.val (.ref x0), .val (.ref x1), .val (.int x2), .val (.int x3), .val .null, .unset] [] := by first | (simp [entryFrame, mkF, argsToLocals, Value.category, maxLocals]; done) | rfl
def Q7e (Z : State) (a : Addr) (y : Addr) (h0 : Heap) (n0 : Nat) (v : Option Value) (h : Heap) (L : List Loc) : Prop := v = none ∧ Fr n0 L ∧ Keep h0 h [a] ∧ Exa Z h a "java/lang/String"
set_option maxRecDepth 65536 in
set_option maxHeartbeats 40000000 in
theorem rm7e (l : Launch) (Z : State) (a0 : Array Value) (hw : ∀ d ∈ tables_1, d.before a0 Z = true) (ws : List Jvm.Cond) (a : Addr) (y : Addr) (h0 : Heap) (n0 : Nat) (Z0 : n0 ≤ h0.size) (E_a : Exa Z h0 a "java/lang/String") (F_value_a : Fld Z h0 a "java/lang/String" "value" "[B" .null) (F_coder_a : Fld Z h0 a "java/lang/String" "coder" "B" (.int (0 : Int32))) (g_a : n0 ≤ a) (hX : ∀ (b : Addr) (cl : Cell), Z.heap[b]? = some cl → h0[b]? = some cl) (hheld : Jvm.Lit.constHeld Z "java/lang/String" 7) (hcw : Jvm.Lit.compactW.before a0 Z = true) :
    MetFree l (⟨"java/lang/String", "<init>", "([CIILjava/lang/Void;)V"⟩ : MethodName) (head1 (Jvm.Cond.code (⟨"java/lang/String", "<init>", "([CIILjava/lang/Void;)V"⟩ : MethodName) jdk_42_method_149_code 6 none :: ws) ({ frames := 1, cells := 2, slots := 4, locals := 12 } : Room)) (fun arr' U => arr' = #[(.ref a), (.ref y), (.int (0 : Int32)), (.int (0 : Int32)), .null] ∧ Z.Warmed39 U.vm ∧ U.heap = h0 ∧ U.vm.interned = Z.vm.interned) (fun _ _ _ _ _ => True) (fun _ U o U' => ∃ v L, o = .returned v ∧ (Q7e Z a y h0 n0) v U'.heap L ∧ ReturnedEndW U o U' L ({ frames := 1, cells := 2, slots := 4, locals := 12 } : Room).cells ({ frames := 1, cells := 2, slots := 4, locals := 12 } : Room).slots) := by
  refine MetFree.of_bodySF pn_7 hisR ?_
  intro p e s m args below meth c s₁ Bd hml0 hP hK
  obtain ⟨rfl, hZ, hh, hi⟩ := hP
  have hx := Bd.exec
  have hby := Bd.bytes
  have hlk : meth.locks = false := BodyLoose.notSynchronized Bd
  have hml : c.maxLocals = 6 := hml0
  have hown : s.vm.findClass "java/lang/String" = some m.cls := findClass_of_methodNamed Bd.named
  have hnm := (name_of_methodNamed Bd.named Bd.method).1
  have X0 : Stand p l e ({ frames := 1, cells := 2, slots := 4, locals := 12 } : Room) s m #[(.ref a), (.ref y), (.int (0 : Int32)), (.int (0 : Int32)), .null] below meth c s₁ [] 0 0 := Stand.of_body Bd
  have e0 : s₁.heap = h0 := by rw [← hh, Bd.state]; rfl
  have N := Fr.nil n0
  have Zs := Z0
  change OwnGo p.tables e below (OwnEndW s (Q7e Z a y h0 n0) ({ frames := 1, cells := 2, slots := 4, locals := 12 } : Room).cells ({ frames := 1, cells := 2, slots := 4, locals := 12 } : Room).slots) _
  refine OwnGo.fwd (fun tq' kq' => castTop (ef_7e m a y (0 : Int32) (0 : Int32)) kq') ?_
  show OwnGo _ _ _ _ (s₁.setTop (mkF m 0 #[.val (.ref a), .val (.ref y), .val (.int (0 : Int32)), .val (.int (0 : Int32)), .val .null, .unset] []))
  have K : Keep h0 h0 [a] := Keep.refl _ _
  have E0_a := E_a
  refine OwnGo.fwd (fun tq' kq' => XS.aloadN X0.here hx rfl (hb hby d7_0) rfl rfl kq') ?_
  show OwnGo _ _ _ _ (s₁.setTop (mkF m 1 #[.val (.ref a), .val (.ref y), .val (.int (0 : Int32)), .val (.int (0 : Int32)), .val .null, .unset] [(.ref a)]))
  obtain ⟨T1, X1, e1, st1⟩ := initO X0 hx hZ hown (hw _ (List.mem_of_getElem? (i := 45) rfl)) (hw _ (List.mem_of_getElem? (i := 19) rfl)) (hw _ (List.mem_of_getElem? (i := 20) rfl)) e0 (g := (mkF m 1 #[.val (.ref a), .val (.ref y), .val (.int (0 : Int32)), .val (.int (0 : Int32)), .val .null, .unset] [(.ref a)])) rfl (by rw [hml]; rfl) rfl (hb hby d7_1) (by decide) (W := 0) (by show 2 * 0 + _ ≤ _; exact Nat.le_of_eq rfl) (by decide)
  refine OwnGo.fwd st1 ?_
  show OwnGo _ _ _ _ (T1.setTop (mkF m 4 #[.val (.ref a), .val (.ref y), .val (.int (0 : Int32)), .val (.int (0 : Int32)), .val .null, .unset] []))
  refine OwnGo.fwd (fun tq' kq' => XS.iloadN X1.here hx rfl (hb hby d7_4) rfl kq') ?_
  show OwnGo _ _ _ _ (T1.setTop (mkF m 5 #[.val (.ref a), .val (.ref y), .val (.int (0 : Int32)), .val (.int (0 : Int32)), .val .null, .unset] [(.int (0 : Int32))]))
  have hc5_2 : (0 : Int) = (0 : Int) := rfl
  refine OwnGo.fwd (fun tq' kq' => XS.ifNo X1.here hx rfl (hb hby d7_5) rfl ((if0 _ _).trans (own_beq (by decide) (by decide) hc5_2).2) kq') ?_
  show OwnGo _ _ _ _ (T1.setTop (mkF m 8 #[.val (.ref a), .val (.ref y), .val (.int (0 : Int32)), .val (.int (0 : Int32)), .val .null, .unset] []))
  refine OwnGo.fwd (fun tq' kq' => XS.aloadN X1.here hx rfl (hb hby d7_8) rfl rfl kq') ?_
  show OwnGo _ _ _ _ (T1.setTop (mkF m 9 #[.val (.ref a), .val (.ref y), .val (.int (0 : Int32)), .val (.int (0 : Int32)), .val .null, .unset] [(.ref a)]))
  obtain ⟨sa, T3, h3, k3, sb, kb, X3, e3, E3, hS, hk3, hZ', hown', E_sa, F_coder_sa, F_value_sa, -, -, -, -, Lt, st3⟩ := ldcSVL (s := s) (vm0 := s.vm) (own := "java/lang/String") (index := 7) (text := "") (Ts := []) X1 hx hZ hown (hw _ (List.mem_of_getElem? (i := 46) rfl)) (fun d hd => hw d (own_strA d hd)) e1 (k0 := h0.size) ((State.WarmedH.refl s).since _) (Nat.le_refl _) (Fr.nil _) (by rw [hh]; exact hX) ⟨#[], by simp [hi], fun q hq => by simp at hq⟩ (by simp) hheld hcw (vs := []) (z := 0) ⟨by simp, rfl⟩ (by decide) rfl (g := (mkF m 9 #[.val (.ref a), .val (.ref y), .val (.int (0 : Int32)), .val (.int (0 : Int32)), .val .null, .unset] [(.ref a)])) rfl (hb hby d7_9) (n := 0) (by decide) (by decide) (by decide) (by decide)
  have E_a := E_a.ext E3
  have F_value_a := F_value_a.ext E3
  have F_coder_a := F_coder_a.ext E3
  have K := K.ext E3
  have Zs := Nat.le_trans Zs E3.1
  have hZ := hZ'
  have hown := hown'
  have hkk := hk3
  have ne_a_sa : a ≠ sa := Fld.ne F_value_a F_value_sa (by simp)
  refine OwnGo.fwd st3 ?_
  show OwnGo _ _ _ _ (T3.setTop (mkF m 11 #[.val (.ref a), .val (.ref y), .val (.int (0 : Int32)), .val (.int (0 : Int32)), .val .null, .unset] [(.ref sa), (.ref a)]))
  obtain ⟨T4, X4, e4, st4⟩ := getF X3 hx hZ hown (host := "") (Or.inl (hw _ (List.mem_of_getElem? (i := 52) rfl))) Via.refl e3 F_value_sa (g := (mkF m 11 #[.val (.ref a), .val (.ref y), .val (.int (0 : Int32)), .val (.int (0 : Int32)), .val .null, .unset] [(.ref sa), (.ref a)])) rfl rfl (hb hby d7_11)
  refine OwnGo.fwd st4 ?_
  show OwnGo _ _ _ _ (T4.setTop (mkF m 14 #[.val (.ref a), .val (.ref y), .val (.int (0 : Int32)), .val (.int (0 : Int32)), .val .null, .unset] [(.ref sb), (.ref a)]))
  obtain ⟨T5, h5, X5, e5, W5, st5⟩ := putF X4 hx hZ hown (host := "") (Or.inl (hw _ (List.mem_of_getElem? (i := 52) rfl))) Via.refl e4 F_value_a E_a (Or.inr ⟨(hw _ (List.mem_of_getElem? (i := 48) rfl)), rfl, hnm⟩) (hw _ (List.mem_of_getElem? (i := 36) rfl)) (ty := (.array .byte)) (by decide) rfl rfl (g := (mkF m 14 #[.val (.ref a), .val (.ref y), .val (.int (0 : Int32)), .val (.int (0 : Int32)), .val .null, .unset] [(.ref sb), (.ref a)])) rfl rfl (hb hby d7_14)
  have E_a := E_a.wr W5
  have F_value_a := F_value_a.same W5
  have F_coder_a := F_coder_a.other W5 (Or.inr (slot_ne (Or.inr (hw _ (List.mem_of_getElem? (i := 49) rfl))) (Or.inr (hw _ (List.mem_of_getElem? (i := 48) rfl))) (by decide) (t := .byte) (t' := (.array .byte)) (by decide) (by decide)))
  have E_sa := E_sa.wr W5
  have F_coder_sa := F_coder_sa.other W5 (Or.inl (Ne.symm ne_a_sa))
  have F_value_sa := F_value_sa.other W5 (Or.inl (Ne.symm ne_a_sa))
  have K := K.wr W5 (Or.inl (List.mem_of_getElem? (i := 0) rfl))
  have Zs := Nat.le_trans Zs (Keep.of_wr W5).1
  have N := Fr.snoc X5 N g_a
  have hkk := Nat.le_trans hkk (Keep.of_wr W5).1
  refine OwnGo.fwd st5 ?_
  show OwnGo _ _ _ _ (T5.setTop (mkF m 17 #[.val (.ref a), .val (.ref y), .val (.int (0 : Int32)), .val (.int (0 : Int32)), .val .null, .unset] []))
  refine OwnGo.fwd (fun tq' kq' => XS.aloadN X5.here hx rfl (hb hby d7_17) rfl rfl kq') ?_
  show OwnGo _ _ _ _ (T5.setTop (mkF m 18 #[.val (.ref a), .val (.ref y), .val (.int (0 : Int32)), .val (.int (0 : Int32)), .val .null, .unset] [(.ref a)]))
  refine OwnGo.fwd (fun tq' kq' => ldcAgain (s := s) (vm0 := T3.vm) X5 hx hZ hown (hw _ (List.mem_of_getElem? (i := 46) rfl)) Lt (g := (mkF m 18 #[.val (.ref a), .val (.ref y), .val (.int (0 : Int32)), .val (.int (0 : Int32)), .val .null, .unset] [(.ref a)])) rfl (hb hby d7_18) tq' kq') ?_
  show OwnGo _ _ _ _ (T5.setTop (mkF m 20 #[.val (.ref a), .val (.ref y), .val (.int (0 : Int32)), .val (.int (0 : Int32)), .val .null, .unset] [(.ref sa), (.ref a)]))
  obtain ⟨T6, X6, e6, st6⟩ := getF X5 hx hZ hown (host := "") (Or.inl (hw _ (List.mem_of_getElem? (i := 53) rfl))) Via.refl e5 F_coder_sa (g := (mkF m 20 #[.val (.ref a), .val (.ref y), .val (.int (0 : Int32)), .val (.int (0 : Int32)), .val .null, .unset] [(.ref sa), (.ref a)])) rfl rfl (hb hby d7_20)
  refine OwnGo.fwd st6 ?_
  show OwnGo _ _ _ _ (T6.setTop (mkF m 23 #[.val (.ref a), .val (.ref y), .val (.int (0 : Int32)), .val (.int (0 : Int32)), .val .null, .unset] [(.int (0 : Int32)), (.ref a)]))
  obtain ⟨T7, h7, X7, e7, W7, st7⟩ := putF X6 hx hZ hown (host := "") (Or.inl (hw _ (List.mem_of_getElem? (i := 53) rfl))) Via.refl e6 F_coder_a E_a (Or.inr ⟨(hw _ (List.mem_of_getElem? (i := 49) rfl)), rfl, hnm⟩) (hw _ (List.mem_of_getElem? (i := 36) rfl)) (ty := .byte) (by decide) rfl rfl (g := (mkF m 23 #[.val (.ref a), .val (.ref y), .val (.int (0 : Int32)), .val (.int (0 : Int32)), .val .null, .unset] [(.int (0 : Int32)), (.ref a)])) rfl rfl (hb hby d7_23)
  have E_a := E_a.wr W7
  have F_value_a := F_value_a.other W7 (Or.inr (slot_ne (Or.inr (hw _ (List.mem_of_getElem? (i := 48) rfl))) (Or.inr (hw _ (List.mem_of_getElem? (i := 49) rfl))) (by decide) (t := (.array .byte)) (t' := .byte) (by decide) (by decide)))
  have F_coder_a := F_coder_a.same W7
  have E_sa := E_sa.wr W7
  have F_coder_sa := F_coder_sa.other W7 (Or.inl (Ne.symm ne_a_sa))
  have F_value_sa := F_value_sa.other W7 (Or.inl (Ne.symm ne_a_sa))
  have K := K.wr W7 (Or.inl (List.mem_of_getElem? (i := 0) rfl))
  have Zs := Nat.le_trans Zs (Keep.of_wr W7).1
  have N := Fr.snoc X7 N g_a
  have hkk := Nat.le_trans hkk (Keep.of_wr W7).1
  refine OwnGo.fwd st7 ?_
  show OwnGo _ _ _ _ (T7.setTop (mkF m 26 #[.val (.ref a), .val (.ref y), .val (.int (0 : Int32)), .val (.int (0 : Int32)), .val .null, .unset] []))
  exact own_retVW X7 hS hkk hlk hx Bd.returns (hb hby d7_26) (by decide) (by decide) e7 ⟨rfl, N, K, E_a⟩
theorem ef_6e (m : MethodId) (x0 : Addr) (x1 : Addr) : entryFrame m #[(.ref x0), (.ref x1)] 2 = mkF m 0 #[.val (.ref x0), .val (.ref x1)] [] := by first | (simp [entryFrame, mkF, argsToLocals, Value.category, maxLocals]; done) | rfl
def Q6e (Z : State) (a : Addr) (y : Addr) (fC : Nat → Int32) (h0 : Heap) (n0 : Nat) (v : Option Value) (h : Heap) (L : List Loc) : Prop := v = none ∧ Fr n0 L ∧ Keep h0 h [a] ∧ Exa Z h a "java/lang/String"
set_option maxRecDepth 65536 in
set_option maxHeartbeats 40000000 in
theorem rm6e (l : Launch) (Z : State) (a0 : Array Value) (hw : ∀ d ∈ tables_1, d.before a0 Z = true) (ws : List Jvm.Cond) (a : Addr) (y : Addr) (fC : Nat → Int32) (h0 : Heap) (n0 : Nat) (Z0 : n0 ≤ h0.size) (E_a : Exa Z h0 a "java/lang/String") (F_value_a : Fld Z h0 a "java/lang/String" "value" "[B" .null) (F_coder_a : Fld Z h0 a "java/lang/String" "coder" "B" (.int (0 : Int32))) (g_a : n0 ≤ a) (P_y : OwnPA Z h0 y .char 0 fC) (ne_a_y : a ≠ y) (hX : ∀ (b : Addr) (cl : Cell), Z.heap[b]? = some cl → h0[b]? = some cl) (hheld : Jvm.Lit.constHeld Z "java/lang/String" 7) (hcw : Jvm.Lit.compactW.before a0 Z = true) :
    MetFree l (⟨"java/lang/String", "<init>", "([C)V"⟩ : MethodName) (head1 (Jvm.Cond.code (⟨"java/lang/String", "<init>", "([C)V"⟩ : MethodName) jdk_42_method_3_code 2 none :: ws) ({ frames := 2, cells := 2, slots := 4, locals := 30 } : Room)) (fun arr' U => arr' = #[(.ref a), (.ref y)] ∧ Z.Warmed39 U.vm ∧ U.heap = h0 ∧ U.vm.interned = Z.vm.interned) (fun _ _ _ _ _ => True) (fun _ U o U' => ∃ v L, o = .returned v ∧ (Q6e Z a y fC h0 n0) v U'.heap L ∧ ReturnedEndW U o U' L ({ frames := 2, cells := 2, slots := 4, locals := 30 } : Room).cells ({ frames := 2, cells := 2, slots := 4, locals := 30 } : Room).slots) := by
  refine MetFree.of_bodySF pn_6 hisR ?_
  intro p e s m args below meth c s₁ Bd hml0 hP hK
  obtain ⟨rfl, hZ, hh, hi⟩ := hP
  have hx := Bd.exec
  have hby := Bd.bytes
  have hlk : meth.locks = false := BodyLoose.notSynchronized Bd
  have hml : c.maxLocals = 2 := hml0
  have hown : s.vm.findClass "java/lang/String" = some m.cls := findClass_of_methodNamed Bd.named
  have hnm := (name_of_methodNamed Bd.named Bd.method).1
  have X0 : Stand p l e ({ frames := 2, cells := 2, slots := 4, locals := 30 } : Room) s m #[(.ref a), (.ref y)] below meth c s₁ [] 0 0 := Stand.of_body Bd
  have e0 : s₁.heap = h0 := by rw [← hh, Bd.state]; rfl
  have N := Fr.nil n0
  have Zs := Z0
  change OwnGo p.tables e below (OwnEndW s (Q6e Z a y fC h0 n0) ({ frames := 2, cells := 2, slots := 4, locals := 30 } : Room).cells ({ frames := 2, cells := 2, slots := 4, locals := 30 } : Room).slots) _
  refine OwnGo.fwd (fun tq' kq' => castTop (ef_6e m a y) kq') ?_
  show OwnGo _ _ _ _ (s₁.setTop (mkF m 0 #[.val (.ref a), .val (.ref y)] []))
  have K : Keep h0 h0 [a] := Keep.refl _ _
  have E0_a := E_a
  refine OwnGo.fwd (fun tq' kq' => XS.aloadN X0.here hx rfl (hb hby d6_0) rfl rfl kq') ?_
  show OwnGo _ _ _ _ (s₁.setTop (mkF m 1 #[.val (.ref a), .val (.ref y)] [(.ref a)]))
  refine OwnGo.fwd (fun tq' kq' => XS.aloadN X0.here hx rfl (hb hby d6_1) rfl rfl kq') ?_
  show OwnGo _ _ _ _ (s₁.setTop (mkF m 2 #[.val (.ref a), .val (.ref y)] [(.ref y), (.ref a)]))
  refine OwnGo.fwd (fun tq' kq' => XS.iconst X0.here hx rfl (hb hby d6_2) kq') ?_
  show OwnGo _ _ _ _ (s₁.setTop (mkF m 3 #[.val (.ref a), .val (.ref y)] [(.int (0 : Int32)), (.ref y), (.ref a)]))
  refine OwnGo.fwd (fun tq' kq' => XS.aloadN X0.here hx rfl (hb hby d6_3) rfl rfl kq') ?_
  show OwnGo _ _ _ _ (s₁.setTop (mkF m 4 #[.val (.ref a), .val (.ref y)] [(.ref y), (.int (0 : Int32)), (.ref y), (.ref a)]))
  refine OwnGo.fwd (fun tq' kq' => own_lenP X0 hx hZ e0 P_y (g := (mkF m 4 #[.val (.ref a), .val (.ref y)] [(.ref y), (.int (0 : Int32)), (.ref y), (.ref a)])) rfl rfl (hb hby d6_4) tq' kq') ?_
  show OwnGo _ _ _ _ (s₁.setTop (mkF m 5 #[.val (.ref a), .val (.ref y)] [(.int (Int32.ofNat 0)), (.int (0 : Int32)), (.ref y), (.ref a)]))
  refine OwnGo.fwd (fun tq' kq' => XS.aconstNull X0.here hx rfl (hb hby d6_5) kq') ?_
  show OwnGo _ _ _ _ (s₁.setTop (mkF m 6 #[.val (.ref a), .val (.ref y)] [.null, (.int (Int32.ofNat 0)), (.int (0 : Int32)), (.ref y), (.ref a)]))
  obtain ⟨_, _, ⟨T1, L1, k1, n1⟩, -, X1, hS1, -, ⟨Lc1, hQ1, l1, y1, z1⟩, st1⟩ := X0.specialBackS hx (y := (⟨"java/lang/String", "<init>", "([CIILjava/lang/Void;)V"⟩ : MethodName)) rfl hown (mvT hZ (hw _ (List.mem_of_getElem? (i := 41) rfl))) (mvT hZ (hw _ (List.mem_of_getElem? (i := 42) rfl))) (mvT hZ (hw _ (List.mem_of_getElem? (i := 44) rfl))) (by decide) (own_backW (W := 0) (rm7e l Z a0 hw [] a y h0 n0 Zs E_a F_value_a F_coder_a g_a hX hheld hcw) hZ hi (hw _ (List.mem_of_getElem? (i := 44) rfl)) (hw _ (List.mem_of_getElem? (i := 37) rfl)) (by decide) (by decide)) (g := (mkF m 6 #[.val (.ref a), .val (.ref y)] [.null, (.int (Int32.ofNat 0)), (.int (0 : Int32)), (.ref y), (.ref a)])) rfl (by rw [hml]; rfl) (Steps.refl _) (a := a) (argsL := [(.ref y), (.int (0 : Int32)), (.int (Int32.ofNat 0)), .null]) (rest := []) (lenOf pd_3 rfl) rfl (by show 2 * 0 + _ ≤ _; exact Nat.le_of_eq rfl) (hb hby d6_6) (fun _ _ => ⟨rfl, e0, (by decide : 0 + 2 ≤ _), (by decide : 0 + 4 ≤ _)⟩)
  dsimp only [Pt.U, Pt.locs, Pt.cells, Pt.slots] at X1 hS1 l1 y1 z1 st1 hQ1
  subst l1 y1 z1
  obtain ⟨h1, eh1⟩ : ∃ z, z = T1.heap := ⟨_, rfl⟩
  rw [← eh1] at hQ1
  obtain ⟨rfl, N1q, K1, E_a⟩ := hQ1
  have N := Fr.app N N1q
  have Zs := Nat.le_trans Zs K1.1
  have P_y := P_y.keep K1 (ninS (Ne.symm ne_a_y) nin0)
  have K := K.trans K1 (allS (Or.inl (List.mem_of_getElem? (i := 0) rfl)) all0)
  have hZ : Z.Warmed39 (s.setVm T1.vm).vm := State.Warmed39.trans hZ hS1.1
  have hown : (s.setVm T1.vm).vm.findClass "java/lang/String" = some m.cls := (hS1.1.alike.findClass _ _).trans hown
  have hkk : T1.heap.size ≤ h1.size := Nat.le_of_eq (by rw [eh1])
  refine OwnGo.thru st1 ?_
  show OwnGo _ _ _ _ (T1.setTop (mkF m 9 #[.val (.ref a), .val (.ref y)] []))
  exact own_retVW X1 hS1 hkk hlk hx Bd.returns (hb hby d6_9) (by decide) (by decide) eh1.symm ⟨rfl, N, K, E_a⟩
theorem pn_0 : plainFor (⟨"com/example/rolestack/rolestack/ValueKindOfPinLaw", "law", "(IJII)Z"⟩ : MethodName) = true := plainFor_of_name (by first | (simp [plainName, overriddenIn]; done) | decide +kernel)
theorem ef_0 (m : MethodId) (x0 : Int32) (x1 : Int64) (x2 : Int32) (x3 : Int32) : entryFrame m #[(.int x0), (.long x1), (.int x2), (.int x3)] maxLocals = mkF m 0 #[.val (.int x0), .val (.long x1), .second, .val (.int x2), .val (.int x3), .unset, .unset, .unset, .unset, .unset, .unset, .unset, .unset, .unset, .unset] [] := by first | (simp [entryFrame, mkF, argsToLocals, Value.category, maxLocals]; done) | rfl
def Q0 (Z : State) (p0 : Int32) (p1 : Int64) (p2 : Int32) (p3 : Int32) (em : Addr) (dc : Addr) (mo : Addr) (ma : Addr) (mu : Addr) (mr : Addr) (cs : Int32) (vkNULL : Addr) (vkSTRING : Addr) (vkLINK : Addr) (vkINTEGER : Addr) (vkCOLLECTION : Addr) (vkREAL : Addr) (h0 : Heap) (n0 : Nat) (v : Option Value) (h : Heap) (L : List Loc) : Prop := v = some (.int 1) ∧ Fr n0 L
set_option maxRecDepth 65536 in
set_option maxHeartbeats 40000000 in
theorem rm0 (l : Launch) (Z : State) (a0 : Array Value) (hw : ∀ d ∈ tables_1, d.before a0 Z = true) (ws : List Jvm.Cond) (p0 : Int32) (p1 : Int64) (p2 : Int32) (p3 : Int32) (em : Addr) (dc : Addr) (mo : Addr) (ma : Addr) (mu : Addr) (mr : Addr) (cs : Int32) (vkNULL : Addr) (vkSTRING : Addr) (vkLINK : Addr) (vkINTEGER : Addr) (vkCOLLECTION : Addr) (vkREAL : Addr) (h0 : Heap) (n0 : Nat) (Z0 : n0 ≤ h0.size) (IC0 : OwnIC Z h0) (LC0 : OwnLC Z h0) (O_dc : OwnOA Z h0 dc 0) (S0_DEFAULTCAPACITY_EMPTY_ELEMENTDATA : Sta Z h0 "java/util/ArrayList" "DEFAULTCAPACITY_EMPTY_ELEMENTDATA" "[Ljava/lang/Object;" (.ref dc)) (S0_EMPTY_ELEMENTDATA : Sta Z h0 "java/util/ArrayList" "EMPTY_ELEMENTDATA" "[Ljava/lang/Object;" (.ref em)) (S0_COMPACT_STRINGS : Sta Z h0 "java/lang/String" "COMPACT_STRINGS" "Z" (.int cs)) (hcs : ¬ cs.toInt = 0) (S0_NULL : Sta Z h0 "com/example/rolestack/rolestack/ValueKind" "NULL" "Lcom/example/rolestack/rolestack/ValueKind;" (.ref vkNULL)) (S0_STRING : Sta Z h0 "com/example/rolestack/rolestack/ValueKind" "STRING" "Lcom/example/rolestack/rolestack/ValueKind;" (.ref vkSTRING)) (S0_LINK : Sta Z h0 "com/example/rolestack/rolestack/ValueKind" "LINK" "Lcom/example/rolestack/rolestack/ValueKind;" (.ref vkLINK)) (S0_INTEGER : Sta Z h0 "com/example/rolestack/rolestack/ValueKind" "INTEGER" "Lcom/example/rolestack/rolestack/ValueKind;" (.ref vkINTEGER)) (S0_COLLECTION : Sta Z h0 "com/example/rolestack/rolestack/ValueKind" "COLLECTION" "Lcom/example/rolestack/rolestack/ValueKind;" (.ref vkCOLLECTION)) (S0_REAL : Sta Z h0 "com/example/rolestack/rolestack/ValueKind" "REAL" "Lcom/example/rolestack/rolestack/ValueKind;" (.ref vkREAL)) (M_mo : Mir Z "[Ljava/lang/Object;" mo) (M_ma : Mir Z "java/util/ArrayList" ma) (M_mu : Mir Z "java/util/Collections$UnmodifiableList" mu) (M_mr : Mir Z "java/util/Collections$UnmodifiableRandomAccessList" mr) (hZh : h0 = Z.heap) (hheld : Jvm.Lit.constHeld Z "java/lang/String" 7) (hcw : Jvm.Lit.compactW.before a0 Z = true) :
    MetFree l x (head1 (Jvm.Cond.code x code maxLocals ret :: ws) room_1) (fun arr' U => arr' = #[(.int p0), (.long p1), (.int p2), (.int p3)] ∧ Z.Warmed39 U.vm ∧ U.heap = h0 ∧ U.vm.interned = Z.vm.interned) (fun _ _ _ _ _ => True) (fun _ U o U' => ∃ v L, o = .returned v ∧ (Q0 Z p0 p1 p2 p3 em dc mo ma mu mr cs vkNULL vkSTRING vkLINK vkINTEGER vkCOLLECTION vkREAL h0 n0) v U'.heap L ∧ ReturnedEndW U o U' L room_1.cells room_1.slots) := by
  refine MetFree.of_bodySF pn_0 hisR ?_
  intro p e s m args below meth c s₁ Bd hml0 hP hK
  obtain ⟨rfl, hZ, hh, hi⟩ := hP
  have hx := Bd.exec
  have hby := Bd.bytes
  have hlk : meth.locks = false := BodyLoose.notSynchronized Bd
  have hml : c.maxLocals = 15 := hml0
  have hown : s.vm.findClass "com/example/rolestack/rolestack/ValueKindOfPinLaw" = some m.cls := findClass_of_methodNamed Bd.named
  have hnm := (name_of_methodNamed Bd.named Bd.method).1
  have X0 : Stand p l e room_1 s m #[(.int p0), (.long p1), (.int p2), (.int p3)] below meth c s₁ [] 0 0 := Stand.of_body Bd
  have e0 : s₁.heap = h0 := by rw [← hh, Bd.state]; rfl
  have N := Fr.nil n0
  have Zs := Z0
  change OwnGo p.tables e below (OwnEndW s (Q0 Z p0 p1 p2 p3 em dc mo ma mu mr cs vkNULL vkSTRING vkLINK vkINTEGER vkCOLLECTION vkREAL h0 n0) room_1.cells room_1.slots) _
  refine OwnGo.fwd (fun tq' kq' => castTop (ef_0 m p0 p1 p2 p3) kq') ?_
  show OwnGo _ _ _ _ (s₁.setTop (mkF m 0 #[.val (.int p0), .val (.long p1), .second, .val (.int p2), .val (.int p3), .unset, .unset, .unset, .unset, .unset, .unset, .unset, .unset, .unset, .unset] []))
  have K : Keep h0 h0 [] := Keep.refl _ _
  refine OwnGo.fwd (fun tq' kq' => XS.iloadN X0.here hx rfl (hb hby at_0) rfl kq') ?_
  show OwnGo _ _ _ _ (s₁.setTop (mkF m 1 #[.val (.int p0), .val (.long p1), .second, .val (.int p2), .val (.int p3), .unset, .unset, .unset, .unset, .unset, .unset, .unset, .unset, .unset, .unset] [(.int p0)]))
  refine OwnGo.fwd (fun tq' kq' => XS.bipush X0.here hx rfl (hb hby at_1) kq') ?_
  show OwnGo _ _ _ _ (s₁.setTop (mkF m 3 #[.val (.int p0), .val (.long p1), .second, .val (.int p2), .val (.int p3), .unset, .unset, .unset, .unset, .unset, .unset, .unset, .unset, .unset, .unset] [(.int (7 : Int32)), (.int p0)]))
  refine OwnGo.fwd (fun tq' kq' => XS.iand X0.here hx rfl (hb hby at_3) rfl kq') ?_
  show OwnGo _ _ _ _ (s₁.setTop (mkF m 4 #[.val (.int p0), .val (.long p1), .second, .val (.int p2), .val (.int p3), .unset, .unset, .unset, .unset, .unset, .unset, .unset, .unset, .unset, .unset] [(.int (p0 &&& (7 : Int32)))]))
  obtain ⟨kk, hv_kk⟩ : ∃ q : Int32, q = (p0 &&& (7 : Int32)) := ⟨_, rfl⟩
  rw [← hv_kk]
  show OwnGo _ _ _ _ (s₁.setTop (mkF m 4 #[.val (.int p0), .val (.long p1), .second, .val (.int p2), .val (.int p3), .unset, .unset, .unset, .unset, .unset, .unset, .unset, .unset, .unset, .unset] [(.int kk)]))
  refine OwnGo.fwd (fun tq' kq' => XS.istore X0.here hx rfl (hb hby at_4) rfl (l' := #[.val (.int p0), .val (.long p1), .second, .val (.int p2), .val (.int p3), .val (.int kk), .unset, .unset, .unset, .unset, .unset, .unset, .unset, .unset, .unset]) rfl kq') ?_
  show OwnGo _ _ _ _ (s₁.setTop (mkF m 6 #[.val (.int p0), .val (.long p1), .second, .val (.int p2), .val (.int p3), .val (.int kk), .unset, .unset, .unset, .unset, .unset, .unset, .unset, .unset, .unset] []))
  obtain ⟨T1, h1, X1, e1, E1, A1, D1, -, st1⟩ := newO X0 hx hZ hown (hw _ (List.mem_of_getElem? (i := 0) rfl)) (hw _ (List.mem_of_getElem? (i := 1) rfl)) (hw _ (List.mem_of_getElem? (i := 2) rfl)) e0 (g := (mkF m 6 #[.val (.int p0), .val (.long p1), .second, .val (.int p2), .val (.int p3), .val (.int kk), .unset, .unset, .unset, .unset, .unset, .unset, .unset, .unset, .unset] [])) rfl (hb hby at_6) (by decide) (by decide)
  obtain ⟨b1, g1⟩ : ∃ z, z = h0.size := ⟨_, rfl⟩
  rw [← g1] at A1 D1 st1
  have ne_dc_b1 : dc ≠ b1 := Nat.ne_of_lt (Nat.lt_of_lt_of_le O_dc.lt (Nat.le_of_eq g1.symm))
  have g_b1 : n0 ≤ b1 := Nat.le_trans Zs (Nat.le_of_eq g1.symm)
  have sz_b1 : h0.size ≤ b1 := Nat.le_trans K.1 (Nat.le_of_eq g1.symm)
  have K := K.ext E1
  have Zs := Nat.le_trans Zs E1.1
  have O_dc := O_dc.ext E1
  have E_b1 := A1
  have F_modCount_b1 : Fld Z h1 b1 "java/util/AbstractList" "modCount" "I" (.int (0 : Int32)) := D1 (Or.inl (hw _ (List.mem_of_getElem? (i := 22) rfl))) (ty := .int) (by decide)
  have F_elementData_b1 : Fld Z h1 b1 "java/util/ArrayList" "elementData" "[Ljava/lang/Object;" .null := D1 (Or.inl (hw _ (List.mem_of_getElem? (i := 25) rfl))) (ty := (.array (.object "java/lang/Object"))) (by decide)
  have F_size_b1 : Fld Z h1 b1 "java/util/ArrayList" "size" "I" (.int (0 : Int32)) := D1 (Or.inl (hw _ (List.mem_of_getElem? (i := 91) rfl))) (ty := .int) (by decide)
  refine OwnGo.fwd st1 ?_
  show OwnGo _ _ _ _ (T1.setTop (mkF m 9 #[.val (.int p0), .val (.long p1), .second, .val (.int p2), .val (.int p3), .val (.int kk), .unset, .unset, .unset, .unset, .unset, .unset, .unset, .unset, .unset] [(.ref b1)]))
  refine OwnGo.fwd (fun tq' kq' => XS.dup X1.here hx rfl (hb hby at_9) rfl rfl kq') ?_
  show OwnGo _ _ _ _ (T1.setTop (mkF m 10 #[.val (.int p0), .val (.long p1), .second, .val (.int p2), .val (.int p3), .val (.int kk), .unset, .unset, .unset, .unset, .unset, .unset, .unset, .unset, .unset] [(.ref b1), (.ref b1)]))
  obtain ⟨_, _, ⟨T2, L2, k2, n2⟩, -, X2, ⟨Lc2, hQ2, l2, y2, z2⟩, st2⟩ := X1.specialBack hx (y := (⟨"java/util/ArrayList", "<init>", "()V"⟩ : MethodName)) rfl hown (mvT hZ (hw _ (List.mem_of_getElem? (i := 3) rfl))) (mvT hZ (hw _ (List.mem_of_getElem? (i := 4) rfl))) (mvT hZ (hw _ (List.mem_of_getElem? (i := 5) rfl))) (by decide) (backOf (W := 1) (rm1 l Z a0 hw [] b1 dc h1 n0 Zs E_b1 F_modCount_b1 F_elementData_b1 F_size_b1 g_b1 (S0_DEFAULTCAPACITY_EMPTY_ELEMENTDATA.ext (own_kext K))) hZ (hw _ (List.mem_of_getElem? (i := 5) rfl)) (hw _ (List.mem_of_getElem? (i := 2) rfl)) (by decide) (by decide)) (g := (mkF m 10 #[.val (.int p0), .val (.long p1), .second, .val (.int p2), .val (.int p3), .val (.int kk), .unset, .unset, .unset, .unset, .unset, .unset, .unset, .unset, .unset] [(.ref b1), (.ref b1)])) rfl (by rw [hml]; rfl) (Steps.refl _) (a := b1) (argsL := []) (rest := [(.ref b1)]) (lenOf pd_0 rfl) rfl (by show 2 * 0 + _ ≤ _; exact Nat.le_of_eq rfl) (hb hby at_10) (fun _ _ => ⟨rfl, e1, (by decide : 1 + 0 ≤ _), (by decide : 3 + 0 ≤ _)⟩)
  dsimp only [Pt.U, Pt.locs, Pt.cells, Pt.slots] at X2 l2 y2 z2 st2 hQ2
  subst l2 y2 z2
  obtain ⟨h2, eh2⟩ : ∃ z, z = T2.heap := ⟨_, rfl⟩
  rw [← eh2] at hQ2
  obtain ⟨rfl, N2q, K2, E_b1, F_modCount_b1, F_elementData_b1, F_size_b1⟩ := hQ2
  have N := Fr.app N N2q
  have Zs := Nat.le_trans Zs K2.1
  have O_dc := O_dc.keep K2 (ninS ne_dc_b1 nin0)
  have K := K.trans K2 (allS (Or.inr sz_b1) all0)
  refine OwnGo.thru st2 ?_
  show OwnGo _ _ _ _ (T2.setTop (mkF m 13 #[.val (.int p0), .val (.long p1), .second, .val (.int p2), .val (.int p3), .val (.int kk), .unset, .unset, .unset, .unset, .unset, .unset, .unset, .unset, .unset] [(.ref b1)]))
  refine OwnGo.fwd (fun tq' kq' => XS.astore X2.here hx rfl (hb hby at_13) rfl rfl (l' := #[.val (.int p0), .val (.long p1), .second, .val (.int p2), .val (.int p3), .val (.int kk), .val (.ref b1), .unset, .unset, .unset, .unset, .unset, .unset, .unset, .unset]) rfl kq') ?_
  show OwnGo _ _ _ _ (T2.setTop (mkF m 15 #[.val (.int p0), .val (.long p1), .second, .val (.int p2), .val (.int p3), .val (.int kk), .val (.ref b1), .unset, .unset, .unset, .unset, .unset, .unset, .unset, .unset] []))
  refine OwnGo.fwd (fun tq' kq' => XS.iloadN X2.here hx rfl (hb hby at_15) rfl kq') ?_
  show OwnGo _ _ _ _ (T2.setTop (mkF m 16 #[.val (.int p0), .val (.long p1), .second, .val (.int p2), .val (.int p3), .val (.int kk), .val (.ref b1), .unset, .unset, .unset, .unset, .unset, .unset, .unset, .unset] [(.int p0)]))
  refine OwnGo.fwd (fun tq' kq' => XS.iconst X2.here hx rfl (hb hby at_16) kq') ?_
  show OwnGo _ _ _ _ (T2.setTop (mkF m 17 #[.val (.int p0), .val (.long p1), .second, .val (.int p2), .val (.int p3), .val (.int kk), .val (.ref b1), .unset, .unset, .unset, .unset, .unset, .unset, .unset, .unset] [(.int (3 : Int32)), (.int p0)]))
  refine OwnGo.fwd (fun tq' kq' => XS.iushr X2.here hx rfl (hb hby at_17) rfl kq') ?_
  show OwnGo _ _ _ _ (T2.setTop (mkF m 18 #[.val (.int p0), .val (.long p1), .second, .val (.int p2), .val (.int p3), .val (.int kk), .val (.ref b1), .unset, .unset, .unset, .unset, .unset, .unset, .unset, .unset] [(.int ((p0.toUInt32 >>> ((3 : Int32) &&& 31).toUInt32).toInt32))]))
  refine OwnGo.fwd (fun tq' kq' => XS.iconst X2.here hx rfl (hb hby at_18) kq') ?_
  show OwnGo _ _ _ _ (T2.setTop (mkF m 19 #[.val (.int p0), .val (.long p1), .second, .val (.int p2), .val (.int p3), .val (.int kk), .val (.ref b1), .unset, .unset, .unset, .unset, .unset, .unset, .unset, .unset] [(.int (1 : Int32)), (.int ((p0.toUInt32 >>> ((3 : Int32) &&& 31).toUInt32).toInt32))]))
  refine OwnGo.fwd (fun tq' kq' => XS.iand X2.here hx rfl (hb hby at_19) rfl kq') ?_
  show OwnGo _ _ _ _ (T2.setTop (mkF m 20 #[.val (.int p0), .val (.long p1), .second, .val (.int p2), .val (.int p3), .val (.int kk), .val (.ref b1), .unset, .unset, .unset, .unset, .unset, .unset, .unset, .unset] [(.int (((p0.toUInt32 >>> ((3 : Int32) &&& 31).toUInt32).toInt32) &&& (1 : Int32)))]))
  have J48 : ∀ (Tj : State) (hj : Heap) (Lj : List Loc), Stand p l e room_1 s m #[(.int p0), (.long p1), (.int p2), (.int p3)] below meth c Tj Lj 4 24 → Tj.heap = hj → Fr n0 Lj → Keep h0 hj [] → OwnLst Z hj b1 → OwnGo p.tables e below (OwnEndW s (Q0 Z p0 p1 p2 p3 em dc mo ma mu mr cs vkNULL vkSTRING vkLINK vkINTEGER vkCOLLECTION vkREAL h0 n0) room_1.cells room_1.slots) (Tj.setTop (mkF m 48 #[.val (.int p0), .val (.long p1), .second, .val (.int p2), .val (.int p3), .val (.int kk), .val (.ref b1), .unset, .unset, .unset, .unset, .unset, .unset, .unset, .unset] [])) := by
    intro Tj hj Lj Xj ej N K hl
    obtain ⟨E_b1, d, u, n, F_elementData_b1, F_size_b1, O_d, hle, hn2, hu⟩ := hl
    have Zs := Nat.le_trans Z0 K.1
    refine OwnGo.fwd (fun tq' kq' => XS.iload Xj.here hx rfl (hb hby at_48) rfl kq') ?_
    show OwnGo _ _ _ _ (Tj.setTop (mkF m 50 #[.val (.int p0), .val (.long p1), .second, .val (.int p2), .val (.int p3), .val (.int kk), .val (.ref b1), .unset, .unset, .unset, .unset, .unset, .unset, .unset, .unset] [(.int p3)]))
    refine OwnGo.fwd (fun tq' kq' => XS.bipush Xj.here hx rfl (hb hby at_50) kq') ?_
    show OwnGo _ _ _ _ (Tj.setTop (mkF m 52 #[.val (.int p0), .val (.long p1), .second, .val (.int p2), .val (.int p3), .val (.int kk), .val (.ref b1), .unset, .unset, .unset, .unset, .unset, .unset, .unset, .unset] [(.int (16 : Int32)), (.int p3)]))
    refine OwnGo.fwd (fun tq' kq' => XS.iushr Xj.here hx rfl (hb hby at_52) rfl kq') ?_
    show OwnGo _ _ _ _ (Tj.setTop (mkF m 53 #[.val (.int p0), .val (.long p1), .second, .val (.int p2), .val (.int p3), .val (.int kk), .val (.ref b1), .unset, .unset, .unset, .unset, .unset, .unset, .unset, .unset] [(.int ((p3.toUInt32 >>> ((16 : Int32) &&& 31).toUInt32).toInt32))]))
    refine OwnGo.fwd (fun tq' kq' => Xj.ldcInt hx hown (mvT hZ (hw _ (List.mem_of_getElem? (i := 26) rfl))) (g := (mkF m 53 #[.val (.int p0), .val (.long p1), .second, .val (.int p2), .val (.int p3), .val (.int kk), .val (.ref b1), .unset, .unset, .unset, .unset, .unset, .unset, .unset, .unset] [(.int ((p3.toUInt32 >>> ((16 : Int32) &&& 31).toUInt32).toInt32))])) rfl (hb hby at_53) tq' kq') ?_
    show OwnGo _ _ _ _ (Tj.setTop (mkF m 55 #[.val (.int p0), .val (.long p1), .second, .val (.int p2), .val (.int p3), .val (.int kk), .val (.ref b1), .unset, .unset, .unset, .unset, .unset, .unset, .unset, .unset] [(.int (2147483647 : Int32)), (.int ((p3.toUInt32 >>> ((16 : Int32) &&& 31).toUInt32).toInt32))]))
    refine OwnGo.fwd (fun tq' kq' => XS.iand Xj.here hx rfl (hb hby at_55) rfl kq') ?_
    show OwnGo _ _ _ _ (Tj.setTop (mkF m 56 #[.val (.int p0), .val (.long p1), .second, .val (.int p2), .val (.int p3), .val (.int kk), .val (.ref b1), .unset, .unset, .unset, .unset, .unset, .unset, .unset, .unset] [(.int (((p3.toUInt32 >>> ((16 : Int32) &&& 31).toUInt32).toInt32) &&& (2147483647 : Int32)))]))
    refine OwnGo.fwd (fun tq' kq' => XS.iconst Xj.here hx rfl (hb hby at_56) kq') ?_
    show OwnGo _ _ _ _ (Tj.setTop (mkF m 57 #[.val (.int p0), .val (.long p1), .second, .val (.int p2), .val (.int p3), .val (.int kk), .val (.ref b1), .unset, .unset, .unset, .unset, .unset, .unset, .unset, .unset] [(.int (3 : Int32)), (.int (((p3.toUInt32 >>> ((16 : Int32) &&& 31).toUInt32).toInt32) &&& (2147483647 : Int32)))]))
    refine OwnGo.fwd (fun tq' kq' => iremM Xj hx rfl (hb hby at_57) rfl (by decide) kq') ?_
    show OwnGo _ _ _ _ (Tj.setTop (mkF m 58 #[.val (.int p0), .val (.long p1), .second, .val (.int p2), .val (.int p3), .val (.int kk), .val (.ref b1), .unset, .unset, .unset, .unset, .unset, .unset, .unset, .unset] [(.int ((((p3.toUInt32 >>> ((16 : Int32) &&& 31).toUInt32).toInt32) &&& (2147483647 : Int32)) % (3 : Int32)))]))
    obtain ⟨len, hv_len⟩ : ∃ q : Int32, q = ((((p3.toUInt32 >>> ((16 : Int32) &&& 31).toUInt32).toInt32) &&& (2147483647 : Int32)) % (3 : Int32)) := ⟨_, rfl⟩
    rw [← hv_len]
    show OwnGo _ _ _ _ (Tj.setTop (mkF m 58 #[.val (.int p0), .val (.long p1), .second, .val (.int p2), .val (.int p3), .val (.int kk), .val (.ref b1), .unset, .unset, .unset, .unset, .unset, .unset, .unset, .unset] [(.int len)]))
    refine OwnGo.fwd (fun tq' kq' => XS.istore Xj.here hx rfl (hb hby at_58) rfl (l' := #[.val (.int p0), .val (.long p1), .second, .val (.int p2), .val (.int p3), .val (.int kk), .val (.ref b1), .val (.int len), .unset, .unset, .unset, .unset, .unset, .unset, .unset]) rfl kq') ?_
    show OwnGo _ _ _ _ (Tj.setTop (mkF m 60 #[.val (.int p0), .val (.long p1), .second, .val (.int p2), .val (.int p3), .val (.int kk), .val (.ref b1), .val (.int len), .unset, .unset, .unset, .unset, .unset, .unset, .unset] []))
    refine OwnGo.fwd (fun tq' kq' => XS.iconst Xj.here hx rfl (hb hby at_60) kq') ?_
    show OwnGo _ _ _ _ (Tj.setTop (mkF m 61 #[.val (.int p0), .val (.long p1), .second, .val (.int p2), .val (.int p3), .val (.int kk), .val (.ref b1), .val (.int len), .unset, .unset, .unset, .unset, .unset, .unset, .unset] [(.int (0 : Int32))]))
    obtain ⟨T3, h3, b3, X3, e3, E3, g3, P3, st3⟩ := own_newP Xj hx hZ (aty := .char) (hw _ (List.mem_of_getElem? (i := 27) rfl)) ej (g := (mkF m 61 #[.val (.int p0), .val (.long p1), .second, .val (.int p2), .val (.int p3), .val (.int kk), .val (.ref b1), .val (.int len), .unset, .unset, .unset, .unset, .unset, .unset, .unset] [(.int (0 : Int32))])) rfl (hb hby at_61) rfl (i := 0) (by decide) (ty := .char) rfl rfl (cap := 0) (by decide) (by decide) (by decide) (by decide)
    have ne_b1_b3 : b1 ≠ b3 := Nat.ne_of_lt (Nat.lt_of_lt_of_le E_b1.lt (Nat.le_of_eq g3.symm))
    have ne_d_b3 : d ≠ b3 := Nat.ne_of_lt (Nat.lt_of_lt_of_le O_d.lt (Nat.le_of_eq g3.symm))
    have g_b3 : n0 ≤ b3 := Nat.le_trans Zs (Nat.le_of_eq g3.symm)
    have sz_b3 : h0.size ≤ b3 := Nat.le_trans K.1 (Nat.le_of_eq g3.symm)
    have K := K.ext E3
    have Zs := Nat.le_trans Zs E3.1
    have E_b1 := E_b1.ext E3
    have F_elementData_b1 := F_elementData_b1.ext E3
    have F_size_b1 := F_size_b1.ext E3
    have O_d := O_d.ext E3
    have P_b3 := P3
    refine OwnGo.fwd st3 ?_
    show OwnGo _ _ _ _ (T3.setTop (mkF m 63 #[.val (.int p0), .val (.long p1), .second, .val (.int p2), .val (.int p3), .val (.int kk), .val (.ref b1), .val (.int len), .unset, .unset, .unset, .unset, .unset, .unset, .unset] [(.ref b3)]))
    refine OwnGo.fwd (fun tq' kq' => XS.astore X3.here hx rfl (hb hby at_63) rfl rfl (l' := #[.val (.int p0), .val (.long p1), .second, .val (.int p2), .val (.int p3), .val (.int kk), .val (.ref b1), .val (.int len), .val (.ref b3), .unset, .unset, .unset, .unset, .unset, .unset]) rfl kq') ?_
    show OwnGo _ _ _ _ (T3.setTop (mkF m 65 #[.val (.int p0), .val (.long p1), .second, .val (.int p2), .val (.int p3), .val (.int kk), .val (.ref b1), .val (.int len), .val (.ref b3), .unset, .unset, .unset, .unset, .unset, .unset] []))
    refine OwnGo.fwd (fun tq' kq' => XS.iconst X3.here hx rfl (hb hby at_65) kq') ?_
    show OwnGo _ _ _ _ (T3.setTop (mkF m 66 #[.val (.int p0), .val (.long p1), .second, .val (.int p2), .val (.int p3), .val (.int kk), .val (.ref b1), .val (.int len), .val (.ref b3), .unset, .unset, .unset, .unset, .unset, .unset] [(.int (1 : Int32))]))
    obtain ⟨T4, h4, b4, X4, e4, E4, g4, P4, st4⟩ := own_newP X3 hx hZ (aty := .char) (hw _ (List.mem_of_getElem? (i := 27) rfl)) e3 (g := (mkF m 66 #[.val (.int p0), .val (.long p1), .second, .val (.int p2), .val (.int p3), .val (.int kk), .val (.ref b1), .val (.int len), .val (.ref b3), .unset, .unset, .unset, .unset, .unset, .unset] [(.int (1 : Int32))])) rfl (hb hby at_66) rfl (i := 1) (by decide) (ty := .char) rfl rfl (cap := 1) (by decide) (by decide) (by decide) (by decide)
    have ne_b1_b4 : b1 ≠ b4 := Nat.ne_of_lt (Nat.lt_of_lt_of_le E_b1.lt (Nat.le_of_eq g4.symm))
    have ne_d_b4 : d ≠ b4 := Nat.ne_of_lt (Nat.lt_of_lt_of_le O_d.lt (Nat.le_of_eq g4.symm))
    have ne_b3_b4 : b3 ≠ b4 := Nat.ne_of_lt (Nat.lt_of_lt_of_le P_b3.lt (Nat.le_of_eq g4.symm))
    have g_b4 : n0 ≤ b4 := Nat.le_trans Zs (Nat.le_of_eq g4.symm)
    have sz_b4 : h0.size ≤ b4 := Nat.le_trans K.1 (Nat.le_of_eq g4.symm)
    have K := K.ext E4
    have Zs := Nat.le_trans Zs E4.1
    have E_b1 := E_b1.ext E4
    have F_elementData_b1 := F_elementData_b1.ext E4
    have F_size_b1 := F_size_b1.ext E4
    have O_d := O_d.ext E4
    have P_b3 := P_b3.ext E4
    have P_b4 := P4
    refine OwnGo.fwd st4 ?_
    show OwnGo _ _ _ _ (T4.setTop (mkF m 68 #[.val (.int p0), .val (.long p1), .second, .val (.int p2), .val (.int p3), .val (.int kk), .val (.ref b1), .val (.int len), .val (.ref b3), .unset, .unset, .unset, .unset, .unset, .unset] [(.ref b4)]))
    refine OwnGo.fwd (fun tq' kq' => XS.astore X4.here hx rfl (hb hby at_68) rfl rfl (l' := #[.val (.int p0), .val (.long p1), .second, .val (.int p2), .val (.int p3), .val (.int kk), .val (.ref b1), .val (.int len), .val (.ref b3), .val (.ref b4), .unset, .unset, .unset, .unset, .unset]) rfl kq') ?_
    show OwnGo _ _ _ _ (T4.setTop (mkF m 70 #[.val (.int p0), .val (.long p1), .second, .val (.int p2), .val (.int p3), .val (.int kk), .val (.ref b1), .val (.int len), .val (.ref b3), .val (.ref b4), .unset, .unset, .unset, .unset, .unset] []))
    refine OwnGo.fwd (fun tq' kq' => XS.iconst X4.here hx rfl (hb hby at_70) kq') ?_
    show OwnGo _ _ _ _ (T4.setTop (mkF m 71 #[.val (.int p0), .val (.long p1), .second, .val (.int p2), .val (.int p3), .val (.int kk), .val (.ref b1), .val (.int len), .val (.ref b3), .val (.ref b4), .unset, .unset, .unset, .unset, .unset] [(.int (2 : Int32))]))
    obtain ⟨T5, h5, b5, X5, e5, E5, g5, P5, st5⟩ := own_newP X4 hx hZ (aty := .char) (hw _ (List.mem_of_getElem? (i := 27) rfl)) e4 (g := (mkF m 71 #[.val (.int p0), .val (.long p1), .second, .val (.int p2), .val (.int p3), .val (.int kk), .val (.ref b1), .val (.int len), .val (.ref b3), .val (.ref b4), .unset, .unset, .unset, .unset, .unset] [(.int (2 : Int32))])) rfl (hb hby at_71) rfl (i := 2) (by decide) (ty := .char) rfl rfl (cap := 2) (by decide) (by decide) (by decide) (by decide)
    have ne_b1_b5 : b1 ≠ b5 := Nat.ne_of_lt (Nat.lt_of_lt_of_le E_b1.lt (Nat.le_of_eq g5.symm))
    have ne_d_b5 : d ≠ b5 := Nat.ne_of_lt (Nat.lt_of_lt_of_le O_d.lt (Nat.le_of_eq g5.symm))
    have ne_b3_b5 : b3 ≠ b5 := Nat.ne_of_lt (Nat.lt_of_lt_of_le P_b3.lt (Nat.le_of_eq g5.symm))
    have ne_b4_b5 : b4 ≠ b5 := Nat.ne_of_lt (Nat.lt_of_lt_of_le P_b4.lt (Nat.le_of_eq g5.symm))
    have g_b5 : n0 ≤ b5 := Nat.le_trans Zs (Nat.le_of_eq g5.symm)
    have sz_b5 : h0.size ≤ b5 := Nat.le_trans K.1 (Nat.le_of_eq g5.symm)
    have K := K.ext E5
    have Zs := Nat.le_trans Zs E5.1
    have E_b1 := E_b1.ext E5
    have F_elementData_b1 := F_elementData_b1.ext E5
    have F_size_b1 := F_size_b1.ext E5
    have O_d := O_d.ext E5
    have P_b3 := P_b3.ext E5
    have P_b4 := P_b4.ext E5
    have P_b5 := P5
    refine OwnGo.fwd st5 ?_
    show OwnGo _ _ _ _ (T5.setTop (mkF m 73 #[.val (.int p0), .val (.long p1), .second, .val (.int p2), .val (.int p3), .val (.int kk), .val (.ref b1), .val (.int len), .val (.ref b3), .val (.ref b4), .unset, .unset, .unset, .unset, .unset] [(.ref b5)]))
    refine OwnGo.fwd (fun tq' kq' => XS.astore X5.here hx rfl (hb hby at_73) rfl rfl (l' := #[.val (.int p0), .val (.long p1), .second, .val (.int p2), .val (.int p3), .val (.int kk), .val (.ref b1), .val (.int len), .val (.ref b3), .val (.ref b4), .val (.ref b5), .unset, .unset, .unset, .unset]) rfl kq') ?_
    show OwnGo _ _ _ _ (T5.setTop (mkF m 75 #[.val (.int p0), .val (.long p1), .second, .val (.int p2), .val (.int p3), .val (.int kk), .val (.ref b1), .val (.int len), .val (.ref b3), .val (.ref b4), .val (.ref b5), .unset, .unset, .unset, .unset] []))
    refine OwnGo.fwd (fun tq' kq' => XS.aload X5.here hx rfl (hb hby at_75) rfl rfl kq') ?_
    show OwnGo _ _ _ _ (T5.setTop (mkF m 77 #[.val (.int p0), .val (.long p1), .second, .val (.int p2), .val (.int p3), .val (.int kk), .val (.ref b1), .val (.int len), .val (.ref b3), .val (.ref b4), .val (.ref b5), .unset, .unset, .unset, .unset] [(.ref b4)]))
    refine OwnGo.fwd (fun tq' kq' => XS.iconst X5.here hx rfl (hb hby at_77) kq') ?_
    show OwnGo _ _ _ _ (T5.setTop (mkF m 78 #[.val (.int p0), .val (.long p1), .second, .val (.int p2), .val (.int p3), .val (.int kk), .val (.ref b1), .val (.int len), .val (.ref b3), .val (.ref b4), .val (.ref b5), .unset, .unset, .unset, .unset] [(.int (0 : Int32)), (.ref b4)]))
    refine OwnGo.fwd (fun tq' kq' => XS.iload X5.here hx rfl (hb hby at_78) rfl kq') ?_
    show OwnGo _ _ _ _ (T5.setTop (mkF m 80 #[.val (.int p0), .val (.long p1), .second, .val (.int p2), .val (.int p3), .val (.int kk), .val (.ref b1), .val (.int len), .val (.ref b3), .val (.ref b4), .val (.ref b5), .unset, .unset, .unset, .unset] [(.int p3), (.int (0 : Int32)), (.ref b4)]))
    refine OwnGo.fwd (fun tq' kq' => XS.sipush X5.here hx rfl (hb hby at_80) kq') ?_
    show OwnGo _ _ _ _ (T5.setTop (mkF m 83 #[.val (.int p0), .val (.long p1), .second, .val (.int p2), .val (.int p3), .val (.int kk), .val (.ref b1), .val (.int len), .val (.ref b3), .val (.ref b4), .val (.ref b5), .unset, .unset, .unset, .unset] [(.int (255 : Int32)), (.int p3), (.int (0 : Int32)), (.ref b4)]))
    refine OwnGo.fwd (fun tq' kq' => XS.iand X5.here hx rfl (hb hby at_83) rfl kq') ?_
    show OwnGo _ _ _ _ (T5.setTop (mkF m 84 #[.val (.int p0), .val (.long p1), .second, .val (.int p2), .val (.int p3), .val (.int kk), .val (.ref b1), .val (.int len), .val (.ref b3), .val (.ref b4), .val (.ref b5), .unset, .unset, .unset, .unset] [(.int (p3 &&& (255 : Int32))), (.int (0 : Int32)), (.ref b4)]))
    refine OwnGo.fwd (fun tq' kq' => XS.i2c X5.here hx rfl (hb hby at_84) rfl kq') ?_
    show OwnGo _ _ _ _ (T5.setTop (mkF m 85 #[.val (.int p0), .val (.long p1), .second, .val (.int p2), .val (.int p3), .val (.int kk), .val (.ref b1), .val (.int len), .val (.ref b3), .val (.ref b4), .val (.ref b5), .unset, .unset, .unset, .unset] [(.int (p3 &&& (255 : Int32)).toUInt32.toUInt16.toUInt32.toInt32), (.int (0 : Int32)), (.ref b4)]))
    obtain ⟨c0, hv_c0⟩ : ∃ q : Int32, q = (p3 &&& (255 : Int32)).toUInt32.toUInt16.toUInt32.toInt32 := ⟨_, rfl⟩
    rw [← hv_c0]
    show OwnGo _ _ _ _ (T5.setTop (mkF m 85 #[.val (.int p0), .val (.long p1), .second, .val (.int p2), .val (.int p3), .val (.int kk), .val (.ref b1), .val (.int len), .val (.ref b3), .val (.ref b4), .val (.ref b5), .unset, .unset, .unset, .unset] [(.int c0), (.int (0 : Int32)), (.ref b4)]))
    obtain ⟨T6, h6, X6, e6, W6, P6, st6⟩ := own_castore X5 hx hZ e5 P_b4 (i := 0) (by decide) (by decide) (g := (mkF m 85 #[.val (.int p0), .val (.long p1), .second, .val (.int p2), .val (.int p3), .val (.int kk), .val (.ref b1), .val (.int len), .val (.ref b3), .val (.ref b4), .val (.ref b5), .unset, .unset, .unset, .unset] [(.int c0), (.int (0 : Int32)), (.ref b4)])) rfl rfl (hb hby at_85)
    have E_b1 := E_b1.wr W6
    have F_elementData_b1 := F_elementData_b1.other W6 (Or.inl ne_b1_b4)
    have F_size_b1 := F_size_b1.other W6 (Or.inl ne_b1_b4)
    have O_d := O_d.other W6 ne_d_b4
    have P_b3 := P_b3.other W6 ne_b3_b4
    have P_b5 := P_b5.other W6 (Ne.symm ne_b4_b5)
    have K := K.wr W6 (Or.inr sz_b4)
    have Zs := Nat.le_trans Zs (Keep.of_wr W6).1
    have N := Fr.snoc X6 N g_b4
    have P_b4 := P6
    refine OwnGo.fwd st6 ?_
    show OwnGo _ _ _ _ (T6.setTop (mkF m 86 #[.val (.int p0), .val (.long p1), .second, .val (.int p2), .val (.int p3), .val (.int kk), .val (.ref b1), .val (.int len), .val (.ref b3), .val (.ref b4), .val (.ref b5), .unset, .unset, .unset, .unset] []))
    refine OwnGo.fwd (fun tq' kq' => XS.aload X6.here hx rfl (hb hby at_86) rfl rfl kq') ?_
    show OwnGo _ _ _ _ (T6.setTop (mkF m 88 #[.val (.int p0), .val (.long p1), .second, .val (.int p2), .val (.int p3), .val (.int kk), .val (.ref b1), .val (.int len), .val (.ref b3), .val (.ref b4), .val (.ref b5), .unset, .unset, .unset, .unset] [(.ref b5)]))
    refine OwnGo.fwd (fun tq' kq' => XS.iconst X6.here hx rfl (hb hby at_88) kq') ?_
    show OwnGo _ _ _ _ (T6.setTop (mkF m 89 #[.val (.int p0), .val (.long p1), .second, .val (.int p2), .val (.int p3), .val (.int kk), .val (.ref b1), .val (.int len), .val (.ref b3), .val (.ref b4), .val (.ref b5), .unset, .unset, .unset, .unset] [(.int (0 : Int32)), (.ref b5)]))
    refine OwnGo.fwd (fun tq' kq' => XS.iload X6.here hx rfl (hb hby at_89) rfl kq') ?_
    show OwnGo _ _ _ _ (T6.setTop (mkF m 91 #[.val (.int p0), .val (.long p1), .second, .val (.int p2), .val (.int p3), .val (.int kk), .val (.ref b1), .val (.int len), .val (.ref b3), .val (.ref b4), .val (.ref b5), .unset, .unset, .unset, .unset] [(.int p3), (.int (0 : Int32)), (.ref b5)]))
    refine OwnGo.fwd (fun tq' kq' => XS.sipush X6.here hx rfl (hb hby at_91) kq') ?_
    show OwnGo _ _ _ _ (T6.setTop (mkF m 94 #[.val (.int p0), .val (.long p1), .second, .val (.int p2), .val (.int p3), .val (.int kk), .val (.ref b1), .val (.int len), .val (.ref b3), .val (.ref b4), .val (.ref b5), .unset, .unset, .unset, .unset] [(.int (255 : Int32)), (.int p3), (.int (0 : Int32)), (.ref b5)]))
    refine OwnGo.fwd (fun tq' kq' => XS.iand X6.here hx rfl (hb hby at_94) rfl kq') ?_
    show OwnGo _ _ _ _ (T6.setTop (mkF m 95 #[.val (.int p0), .val (.long p1), .second, .val (.int p2), .val (.int p3), .val (.int kk), .val (.ref b1), .val (.int len), .val (.ref b3), .val (.ref b4), .val (.ref b5), .unset, .unset, .unset, .unset] [(.int (p3 &&& (255 : Int32))), (.int (0 : Int32)), (.ref b5)]))
    refine OwnGo.fwd (fun tq' kq' => XS.i2c X6.here hx rfl (hb hby at_95) rfl kq') ?_
    show OwnGo _ _ _ _ (T6.setTop (mkF m 96 #[.val (.int p0), .val (.long p1), .second, .val (.int p2), .val (.int p3), .val (.int kk), .val (.ref b1), .val (.int len), .val (.ref b3), .val (.ref b4), .val (.ref b5), .unset, .unset, .unset, .unset] [(.int (p3 &&& (255 : Int32)).toUInt32.toUInt16.toUInt32.toInt32), (.int (0 : Int32)), (.ref b5)]))
    obtain ⟨c1, hv_c1⟩ : ∃ q : Int32, q = (p3 &&& (255 : Int32)).toUInt32.toUInt16.toUInt32.toInt32 := ⟨_, rfl⟩
    rw [← hv_c1]
    show OwnGo _ _ _ _ (T6.setTop (mkF m 96 #[.val (.int p0), .val (.long p1), .second, .val (.int p2), .val (.int p3), .val (.int kk), .val (.ref b1), .val (.int len), .val (.ref b3), .val (.ref b4), .val (.ref b5), .unset, .unset, .unset, .unset] [(.int c1), (.int (0 : Int32)), (.ref b5)]))
    obtain ⟨T7, h7, X7, e7, W7, P7, st7⟩ := own_castore X6 hx hZ e6 P_b5 (i := 0) (by decide) (by decide) (g := (mkF m 96 #[.val (.int p0), .val (.long p1), .second, .val (.int p2), .val (.int p3), .val (.int kk), .val (.ref b1), .val (.int len), .val (.ref b3), .val (.ref b4), .val (.ref b5), .unset, .unset, .unset, .unset] [(.int c1), (.int (0 : Int32)), (.ref b5)])) rfl rfl (hb hby at_96)
    have E_b1 := E_b1.wr W7
    have F_elementData_b1 := F_elementData_b1.other W7 (Or.inl ne_b1_b5)
    have F_size_b1 := F_size_b1.other W7 (Or.inl ne_b1_b5)
    have O_d := O_d.other W7 ne_d_b5
    have P_b3 := P_b3.other W7 ne_b3_b5
    have P_b4 := P_b4.other W7 ne_b4_b5
    have K := K.wr W7 (Or.inr sz_b5)
    have Zs := Nat.le_trans Zs (Keep.of_wr W7).1
    have N := Fr.snoc X7 N g_b5
    have P_b5 := P7
    refine OwnGo.fwd st7 ?_
    show OwnGo _ _ _ _ (T7.setTop (mkF m 97 #[.val (.int p0), .val (.long p1), .second, .val (.int p2), .val (.int p3), .val (.int kk), .val (.ref b1), .val (.int len), .val (.ref b3), .val (.ref b4), .val (.ref b5), .unset, .unset, .unset, .unset] []))
    refine OwnGo.fwd (fun tq' kq' => XS.aload X7.here hx rfl (hb hby at_97) rfl rfl kq') ?_
    show OwnGo _ _ _ _ (T7.setTop (mkF m 99 #[.val (.int p0), .val (.long p1), .second, .val (.int p2), .val (.int p3), .val (.int kk), .val (.ref b1), .val (.int len), .val (.ref b3), .val (.ref b4), .val (.ref b5), .unset, .unset, .unset, .unset] [(.ref b5)]))
    refine OwnGo.fwd (fun tq' kq' => XS.iconst X7.here hx rfl (hb hby at_99) kq') ?_
    show OwnGo _ _ _ _ (T7.setTop (mkF m 100 #[.val (.int p0), .val (.long p1), .second, .val (.int p2), .val (.int p3), .val (.int kk), .val (.ref b1), .val (.int len), .val (.ref b3), .val (.ref b4), .val (.ref b5), .unset, .unset, .unset, .unset] [(.int (1 : Int32)), (.ref b5)]))
    refine OwnGo.fwd (fun tq' kq' => XS.iload X7.here hx rfl (hb hby at_100) rfl kq') ?_
    show OwnGo _ _ _ _ (T7.setTop (mkF m 102 #[.val (.int p0), .val (.long p1), .second, .val (.int p2), .val (.int p3), .val (.int kk), .val (.ref b1), .val (.int len), .val (.ref b3), .val (.ref b4), .val (.ref b5), .unset, .unset, .unset, .unset] [(.int p3), (.int (1 : Int32)), (.ref b5)]))
    refine OwnGo.fwd (fun tq' kq' => XS.bipush X7.here hx rfl (hb hby at_102) kq') ?_
    show OwnGo _ _ _ _ (T7.setTop (mkF m 104 #[.val (.int p0), .val (.long p1), .second, .val (.int p2), .val (.int p3), .val (.int kk), .val (.ref b1), .val (.int len), .val (.ref b3), .val (.ref b4), .val (.ref b5), .unset, .unset, .unset, .unset] [(.int (8 : Int32)), (.int p3), (.int (1 : Int32)), (.ref b5)]))
    refine OwnGo.fwd (fun tq' kq' => XS.iushr X7.here hx rfl (hb hby at_104) rfl kq') ?_
    show OwnGo _ _ _ _ (T7.setTop (mkF m 105 #[.val (.int p0), .val (.long p1), .second, .val (.int p2), .val (.int p3), .val (.int kk), .val (.ref b1), .val (.int len), .val (.ref b3), .val (.ref b4), .val (.ref b5), .unset, .unset, .unset, .unset] [(.int ((p3.toUInt32 >>> ((8 : Int32) &&& 31).toUInt32).toInt32)), (.int (1 : Int32)), (.ref b5)]))
    refine OwnGo.fwd (fun tq' kq' => XS.sipush X7.here hx rfl (hb hby at_105) kq') ?_
    show OwnGo _ _ _ _ (T7.setTop (mkF m 108 #[.val (.int p0), .val (.long p1), .second, .val (.int p2), .val (.int p3), .val (.int kk), .val (.ref b1), .val (.int len), .val (.ref b3), .val (.ref b4), .val (.ref b5), .unset, .unset, .unset, .unset] [(.int (255 : Int32)), (.int ((p3.toUInt32 >>> ((8 : Int32) &&& 31).toUInt32).toInt32)), (.int (1 : Int32)), (.ref b5)]))
    refine OwnGo.fwd (fun tq' kq' => XS.iand X7.here hx rfl (hb hby at_108) rfl kq') ?_
    show OwnGo _ _ _ _ (T7.setTop (mkF m 109 #[.val (.int p0), .val (.long p1), .second, .val (.int p2), .val (.int p3), .val (.int kk), .val (.ref b1), .val (.int len), .val (.ref b3), .val (.ref b4), .val (.ref b5), .unset, .unset, .unset, .unset] [(.int (((p3.toUInt32 >>> ((8 : Int32) &&& 31).toUInt32).toInt32) &&& (255 : Int32))), (.int (1 : Int32)), (.ref b5)]))
    refine OwnGo.fwd (fun tq' kq' => XS.i2c X7.here hx rfl (hb hby at_109) rfl kq') ?_
    show OwnGo _ _ _ _ (T7.setTop (mkF m 110 #[.val (.int p0), .val (.long p1), .second, .val (.int p2), .val (.int p3), .val (.int kk), .val (.ref b1), .val (.int len), .val (.ref b3), .val (.ref b4), .val (.ref b5), .unset, .unset, .unset, .unset] [(.int (((p3.toUInt32 >>> ((8 : Int32) &&& 31).toUInt32).toInt32) &&& (255 : Int32)).toUInt32.toUInt16.toUInt32.toInt32), (.int (1 : Int32)), (.ref b5)]))
    obtain ⟨c2, hv_c2⟩ : ∃ q : Int32, q = (((p3.toUInt32 >>> ((8 : Int32) &&& 31).toUInt32).toInt32) &&& (255 : Int32)).toUInt32.toUInt16.toUInt32.toInt32 := ⟨_, rfl⟩
    rw [← hv_c2]
    show OwnGo _ _ _ _ (T7.setTop (mkF m 110 #[.val (.int p0), .val (.long p1), .second, .val (.int p2), .val (.int p3), .val (.int kk), .val (.ref b1), .val (.int len), .val (.ref b3), .val (.ref b4), .val (.ref b5), .unset, .unset, .unset, .unset] [(.int c2), (.int (1 : Int32)), (.ref b5)]))
    obtain ⟨T8, h8, X8, e8, W8, P8, st8⟩ := own_castore X7 hx hZ e7 P_b5 (i := 1) (by decide) (by decide) (g := (mkF m 110 #[.val (.int p0), .val (.long p1), .second, .val (.int p2), .val (.int p3), .val (.int kk), .val (.ref b1), .val (.int len), .val (.ref b3), .val (.ref b4), .val (.ref b5), .unset, .unset, .unset, .unset] [(.int c2), (.int (1 : Int32)), (.ref b5)])) rfl rfl (hb hby at_110)
    have E_b1 := E_b1.wr W8
    have F_elementData_b1 := F_elementData_b1.other W8 (Or.inl ne_b1_b5)
    have F_size_b1 := F_size_b1.other W8 (Or.inl ne_b1_b5)
    have O_d := O_d.other W8 ne_d_b5
    have P_b3 := P_b3.other W8 ne_b3_b5
    have P_b4 := P_b4.other W8 ne_b4_b5
    have K := K.wr W8 (Or.inr sz_b5)
    have Zs := Nat.le_trans Zs (Keep.of_wr W8).1
    have N := Fr.snoc X8 N g_b5
    have P_b5 := P8
    refine OwnGo.fwd st8 ?_
    show OwnGo _ _ _ _ (T8.setTop (mkF m 111 #[.val (.int p0), .val (.long p1), .second, .val (.int p2), .val (.int p3), .val (.int kk), .val (.ref b1), .val (.int len), .val (.ref b3), .val (.ref b4), .val (.ref b5), .unset, .unset, .unset, .unset] []))
    refine OwnGo.fwd (fun tq' kq' => XS.iload X8.here hx rfl (hb hby at_111) rfl kq') ?_
    show OwnGo _ _ _ _ (T8.setTop (mkF m 113 #[.val (.int p0), .val (.long p1), .second, .val (.int p2), .val (.int p3), .val (.int kk), .val (.ref b1), .val (.int len), .val (.ref b3), .val (.ref b4), .val (.ref b5), .unset, .unset, .unset, .unset] [(.int kk)]))
    by_cases hc113_9 : kk.toInt = 0
    · refine OwnGo.fwd (fun tq' kq' => XS.ifNo X8.here hx rfl (hb hby at_113) rfl ((if0 _ _).trans (own_beq rfl (by decide) hc113_9).2) kq') ?_
      show OwnGo _ _ _ _ (T8.setTop (mkF m 116 #[.val (.int p0), .val (.long p1), .second, .val (.int p2), .val (.int p3), .val (.int kk), .val (.ref b1), .val (.int len), .val (.ref b3), .val (.ref b4), .val (.ref b5), .unset, .unset, .unset, .unset] []))
      refine OwnGo.fwd (fun tq' kq' => XS.aconstNull X8.here hx rfl (hb hby at_116) kq') ?_
      show OwnGo _ _ _ _ (T8.setTop (mkF m 117 #[.val (.int p0), .val (.long p1), .second, .val (.int p2), .val (.int p3), .val (.int kk), .val (.ref b1), .val (.int len), .val (.ref b3), .val (.ref b4), .val (.ref b5), .unset, .unset, .unset, .unset] [.null]))
      refine OwnGo.fwd (fun tq' kq' => XS.astore X8.here hx rfl (hb hby at_117) rfl rfl (l' := #[.val (.int p0), .val (.long p1), .second, .val (.int p2), .val (.int p3), .val (.int kk), .val (.ref b1), .val (.int len), .val (.ref b3), .val (.ref b4), .val (.ref b5), .val .null, .unset, .unset, .unset]) rfl kq') ?_
      show OwnGo _ _ _ _ (T8.setTop (mkF m 119 #[.val (.int p0), .val (.long p1), .second, .val (.int p2), .val (.int p3), .val (.int kk), .val (.ref b1), .val (.int len), .val (.ref b3), .val (.ref b4), .val (.ref b5), .val .null, .unset, .unset, .unset] []))
      have S_NULL := S0_NULL.ext (own_kext K)
      obtain ⟨T10, X10, e10, st10⟩ := getS2 X8 hx hZ hown (host := "") (Or.inl (hw _ (List.mem_of_getElem? (i := 28) rfl))) Via.refl e8 S_NULL (g := (mkF m 119 #[.val (.int p0), .val (.long p1), .second, .val (.int p2), .val (.int p3), .val (.int kk), .val (.ref b1), .val (.int len), .val (.ref b3), .val (.ref b4), .val (.ref b5), .val .null, .unset, .unset, .unset] [])) rfl (hb hby at_119)
      refine OwnGo.fwd st10 ?_
      show OwnGo _ _ _ _ (T10.setTop (mkF m 122 #[.val (.int p0), .val (.long p1), .second, .val (.int p2), .val (.int p3), .val (.int kk), .val (.ref b1), .val (.int len), .val (.ref b3), .val (.ref b4), .val (.ref b5), .val .null, .unset, .unset, .unset] [(.ref vkNULL)]))
      refine OwnGo.fwd (fun tq' kq' => XS.astore X10.here hx rfl (hb hby at_122) rfl rfl (l' := #[.val (.int p0), .val (.long p1), .second, .val (.int p2), .val (.int p3), .val (.int kk), .val (.ref b1), .val (.int len), .val (.ref b3), .val (.ref b4), .val (.ref b5), .val .null, .val (.ref vkNULL), .unset, .unset]) rfl kq') ?_
      show OwnGo _ _ _ _ (T10.setTop (mkF m 124 #[.val (.int p0), .val (.long p1), .second, .val (.int p2), .val (.int p3), .val (.int kk), .val (.ref b1), .val (.int len), .val (.ref b3), .val (.ref b4), .val (.ref b5), .val .null, .val (.ref vkNULL), .unset, .unset] []))
      refine OwnGo.fwd (fun tq' kq' => XS.goto X10.here hx rfl (pc0 := 124) (pc' := 316) rfl (hb hby at_124) (by decide) (by decide) kq') ?_
      show OwnGo _ _ _ _ (T10.setTop (mkF m 316 #[.val (.int p0), .val (.long p1), .second, .val (.int p2), .val (.int p3), .val (.int kk), .val (.ref b1), .val (.int len), .val (.ref b3), .val (.ref b4), .val (.ref b5), .val .null, .val (.ref vkNULL), .unset, .unset] []))
      refine OwnGo.fwd (fun tq' kq' => XS.aload X10.here hx rfl (hb hby at_316) rfl rfl kq') ?_
      show OwnGo _ _ _ _ (T10.setTop (mkF m 318 #[.val (.int p0), .val (.long p1), .second, .val (.int p2), .val (.int p3), .val (.int kk), .val (.ref b1), .val (.int len), .val (.ref b3), .val (.ref b4), .val (.ref b5), .val .null, .val (.ref vkNULL), .unset, .unset] [.null]))
      obtain ⟨_, _, ⟨T11, L11, k11, n11⟩, -, X11, ⟨Lc11, hQ11, l11, y11, z11⟩, st11⟩ := Jvm.LawKit.callS X10 hx (y := (⟨"com/example/rolestack/rolestack/ValueKind", "of", "(Ljava/lang/Object;)Lcom/example/rolestack/rolestack/ValueKind;"⟩ : MethodName)) hown (mvT hZ (hw _ (List.mem_of_getElem? (i := 31) rfl))) (mvT hZ (hw _ (List.mem_of_getElem? (i := 32) rfl))) (mvT hZ (hw _ (List.mem_of_getElem? (i := 29) rfl))) (mvT hZ (hw _ (List.mem_of_getElem? (i := 33) rfl))) (by decide) (backOf (W := 0) (rm5k l Z a0 hw [] vkNULL h8 n0 Zs (S0_NULL.ext (own_kext K))) hZ (hw _ (List.mem_of_getElem? (i := 33) rfl)) (hw _ (List.mem_of_getElem? (i := 29) rfl)) (by decide) (by decide)) (g := (mkF m 318 #[.val (.int p0), .val (.long p1), .second, .val (.int p2), .val (.int p3), .val (.int kk), .val (.ref b1), .val (.int len), .val (.ref b3), .val (.ref b4), .val (.ref b5), .val .null, .val (.ref vkNULL), .unset, .unset] [.null])) rfl (by rw [hml]; rfl) (argsL := [.null]) (rest := []) (lenOf pd_1 rfl) rfl (by show 2 * 0 + _ ≤ _; exact Nat.le_of_eq rfl) (hb hby at_318) (fun _ _ => ⟨rfl, e10, (by decide : 7 + 0 ≤ _), (by decide : 27 + 0 ≤ _)⟩)
      dsimp only [Pt.U, Pt.locs, Pt.cells, Pt.slots] at X11 l11 y11 z11 st11 hQ11
      subst l11 y11 z11
      obtain ⟨rfl, N11q, e11⟩ := hQ11
      have N := Fr.app N N11q
      refine OwnGo.fwd st11 ?_
      show OwnGo _ _ _ _ (T11.setTop (mkF m 321 #[.val (.int p0), .val (.long p1), .second, .val (.int p2), .val (.int p3), .val (.int kk), .val (.ref b1), .val (.int len), .val (.ref b3), .val (.ref b4), .val (.ref b5), .val .null, .val (.ref vkNULL), .unset, .unset] [(.ref vkNULL)]))
      refine OwnGo.fwd (fun tq' kq' => XS.astore X11.here hx rfl (hb hby at_321) rfl rfl (l' := #[.val (.int p0), .val (.long p1), .second, .val (.int p2), .val (.int p3), .val (.int kk), .val (.ref b1), .val (.int len), .val (.ref b3), .val (.ref b4), .val (.ref b5), .val .null, .val (.ref vkNULL), .val (.ref vkNULL), .unset]) rfl kq') ?_
      show OwnGo _ _ _ _ (T11.setTop (mkF m 323 #[.val (.int p0), .val (.long p1), .second, .val (.int p2), .val (.int p3), .val (.int kk), .val (.ref b1), .val (.int len), .val (.ref b3), .val (.ref b4), .val (.ref b5), .val .null, .val (.ref vkNULL), .val (.ref vkNULL), .unset] []))
      refine OwnGo.fwd (fun tq' kq' => XS.aload X11.here hx rfl (hb hby at_323) rfl rfl kq') ?_
      show OwnGo _ _ _ _ (T11.setTop (mkF m 325 #[.val (.int p0), .val (.long p1), .second, .val (.int p2), .val (.int p3), .val (.int kk), .val (.ref b1), .val (.int len), .val (.ref b3), .val (.ref b4), .val (.ref b5), .val .null, .val (.ref vkNULL), .val (.ref vkNULL), .unset] [(.ref vkNULL)]))
      refine OwnGo.fwd (fun tq' kq' => XS.aload X11.here hx rfl (hb hby at_325) rfl rfl kq') ?_
      show OwnGo _ _ _ _ (T11.setTop (mkF m 327 #[.val (.int p0), .val (.long p1), .second, .val (.int p2), .val (.int p3), .val (.int kk), .val (.ref b1), .val (.int len), .val (.ref b3), .val (.ref b4), .val (.ref b5), .val .null, .val (.ref vkNULL), .val (.ref vkNULL), .unset] [(.ref vkNULL), (.ref vkNULL)]))
      refine OwnGo.fwd (fun tq' kq' => Jvm.RoadKit.acmp (g := (mkF m 327 #[.val (.int p0), .val (.long p1), .second, .val (.int p2), .val (.int p3), .val (.int kk), .val (.ref b1), .val (.int len), .val (.ref b3), .val (.ref b4), .val (.ref b5), .val .null, .val (.ref vkNULL), .val (.ref vkNULL), .unset] [(.ref vkNULL), (.ref vkNULL)])) X11 hx rfl rfl rfl (pc0 := 327) (pc' := 330) (same := true) rfl (hb hby at_327) rfl (decide_eq_true rfl) (by decide) (by decide) kq') ?_
      show OwnGo _ _ _ _ (T11.setTop (mkF m 330 #[.val (.int p0), .val (.long p1), .second, .val (.int p2), .val (.int p3), .val (.int kk), .val (.ref b1), .val (.int len), .val (.ref b3), .val (.ref b4), .val (.ref b5), .val .null, .val (.ref vkNULL), .val (.ref vkNULL), .unset] []))
      refine OwnGo.fwd (fun tq' kq' => XS.iconst X11.here hx rfl (hb hby at_330) kq') ?_
      show OwnGo _ _ _ _ (T11.setTop (mkF m 331 #[.val (.int p0), .val (.long p1), .second, .val (.int p2), .val (.int p3), .val (.int kk), .val (.ref b1), .val (.int len), .val (.ref b3), .val (.ref b4), .val (.ref b5), .val .null, .val (.ref vkNULL), .val (.ref vkNULL), .unset] [(.int (1 : Int32))]))
      refine OwnGo.fwd (fun tq' kq' => XS.goto X11.here hx rfl (pc0 := 331) (pc' := 335) rfl (hb hby at_331) (by decide) (by decide) kq') ?_
      show OwnGo _ _ _ _ (T11.setTop (mkF m 335 #[.val (.int p0), .val (.long p1), .second, .val (.int p2), .val (.int p3), .val (.int kk), .val (.ref b1), .val (.int len), .val (.ref b3), .val (.ref b4), .val (.ref b5), .val .null, .val (.ref vkNULL), .val (.ref vkNULL), .unset] [(.int (1 : Int32))]))
      exact OwnGo.wide (own_retZ X11 hlk hx Bd.returns (hb hby at_335) (by decide) (by decide) e11 ⟨rfl, N⟩)
    · refine OwnGo.fwd (fun tq' kq' => XS.ifYes X8.here hx rfl (pc0 := 113) (pc' := 127) rfl (hb hby at_113) rfl ((if0 _ _).trans (own_bneq rfl (by decide) hc113_9).2) (by decide) (by decide) kq') ?_
      show OwnGo _ _ _ _ (T8.setTop (mkF m 127 #[.val (.int p0), .val (.long p1), .second, .val (.int p2), .val (.int p3), .val (.int kk), .val (.ref b1), .val (.int len), .val (.ref b3), .val (.ref b4), .val (.ref b5), .unset, .unset, .unset, .unset] []))
      refine OwnGo.fwd (fun tq' kq' => XS.iload X8.here hx rfl (hb hby at_127) rfl kq') ?_
      show OwnGo _ _ _ _ (T8.setTop (mkF m 129 #[.val (.int p0), .val (.long p1), .second, .val (.int p2), .val (.int p3), .val (.int kk), .val (.ref b1), .val (.int len), .val (.ref b3), .val (.ref b4), .val (.ref b5), .unset, .unset, .unset, .unset] [(.int kk)]))
      refine OwnGo.fwd (fun tq' kq' => XS.iconst X8.here hx rfl (hb hby at_129) kq') ?_
      show OwnGo _ _ _ _ (T8.setTop (mkF m 130 #[.val (.int p0), .val (.long p1), .second, .val (.int p2), .val (.int p3), .val (.int kk), .val (.ref b1), .val (.int len), .val (.ref b3), .val (.ref b4), .val (.ref b5), .unset, .unset, .unset, .unset] [(.int (1 : Int32)), (.int kk)]))
      by_cases hc130_12 : kk.toInt = 1
      · refine OwnGo.fwd (fun tq' kq' => XS.icmpNo X8.here hx rfl (hb hby at_130) rfl (own_beq rfl (by decide) hc130_12).2 kq') ?_
        show OwnGo _ _ _ _ (T8.setTop (mkF m 133 #[.val (.int p0), .val (.long p1), .second, .val (.int p2), .val (.int p3), .val (.int kk), .val (.ref b1), .val (.int len), .val (.ref b3), .val (.ref b4), .val (.ref b5), .unset, .unset, .unset, .unset] []))
        refine OwnGo.fwd (fun tq' kq' => XS.lloadN X8.here hx rfl (hb hby at_133) rfl kq') ?_
        show OwnGo _ _ _ _ (T8.setTop (mkF m 134 #[.val (.int p0), .val (.long p1), .second, .val (.int p2), .val (.int p3), .val (.int kk), .val (.ref b1), .val (.int len), .val (.ref b3), .val (.ref b4), .val (.ref b5), .unset, .unset, .unset, .unset] [(.long p1)]))
        obtain ⟨_, _, ⟨T13, L13, k13, n13⟩, -, X13, ⟨Lc13, hQ13, l13, y13, z13⟩, st13⟩ := Jvm.LawKit.callS X8 hx (y := (⟨"java/lang/Long", "valueOf", "(J)Ljava/lang/Long;"⟩ : MethodName)) hown (mvT hZ (hw _ (List.mem_of_getElem? (i := 62) rfl))) (mvT hZ (hw _ (List.mem_of_getElem? (i := 63) rfl))) (mvT hZ (hw _ (List.mem_of_getElem? (i := 64) rfl))) (mvT hZ (hw _ (List.mem_of_getElem? (i := 65) rfl))) (by decide) (backOf (W := 0) (rm8 l Z a0 hw [] p1 h8 n0 Zs (LC0.ext (own_kext K))) hZ (hw _ (List.mem_of_getElem? (i := 65) rfl)) (hw _ (List.mem_of_getElem? (i := 64) rfl)) (by decide) (by decide)) (g := (mkF m 134 #[.val (.int p0), .val (.long p1), .second, .val (.int p2), .val (.int p3), .val (.int kk), .val (.ref b1), .val (.int len), .val (.ref b3), .val (.ref b4), .val (.ref b5), .unset, .unset, .unset, .unset] [(.long p1)])) rfl (by rw [hml]; rfl) (argsL := [(.long p1)]) (rest := []) (lenOf pd_4 rfl) rfl (by show 2 * 0 + _ ≤ _; exact Nat.le_of_eq rfl) (hb hby at_134) (fun _ _ => ⟨rfl, e8, (by decide : 7 + 1 ≤ _), (by decide : 27 + 1 ≤ _)⟩)
        dsimp only [Pt.U, Pt.locs, Pt.cells, Pt.slots] at X13 l13 y13 z13 st13 hQ13
        subst l13 y13 z13
        obtain ⟨h13, eh13⟩ : ∃ z, z = T13.heap := ⟨_, rfl⟩
        rw [← eh13] at hQ13
        obtain ⟨N13q, K13, bx13, rfl, E_bx13⟩ := hQ13
        have N := Fr.app N N13q
        have Zs := Nat.le_trans Zs K13.1
        have E_b1 := E_b1.keep K13
        have F_elementData_b1 := F_elementData_b1.keep K13 nin0
        have F_size_b1 := F_size_b1.keep K13 nin0
        have O_d := O_d.keep K13 nin0
        have P_b3 := P_b3.keep K13 nin0
        have P_b4 := P_b4.keep K13 nin0
        have P_b5 := P_b5.keep K13 nin0
        have K := K.trans K13 all0
        refine OwnGo.fwd st13 ?_
        show OwnGo _ _ _ _ (T13.setTop (mkF m 137 #[.val (.int p0), .val (.long p1), .second, .val (.int p2), .val (.int p3), .val (.int kk), .val (.ref b1), .val (.int len), .val (.ref b3), .val (.ref b4), .val (.ref b5), .unset, .unset, .unset, .unset] [(.ref bx13)]))
        refine OwnGo.fwd (fun tq' kq' => XS.astore X13.here hx rfl (hb hby at_137) rfl rfl (l' := #[.val (.int p0), .val (.long p1), .second, .val (.int p2), .val (.int p3), .val (.int kk), .val (.ref b1), .val (.int len), .val (.ref b3), .val (.ref b4), .val (.ref b5), .val (.ref bx13), .unset, .unset, .unset]) rfl kq') ?_
        show OwnGo _ _ _ _ (T13.setTop (mkF m 139 #[.val (.int p0), .val (.long p1), .second, .val (.int p2), .val (.int p3), .val (.int kk), .val (.ref b1), .val (.int len), .val (.ref b3), .val (.ref b4), .val (.ref b5), .val (.ref bx13), .unset, .unset, .unset] []))
        have S_INTEGER := S0_INTEGER.ext (own_kext K)
        obtain ⟨T14, X14, e14, st14⟩ := getS2 X13 hx hZ hown (host := "") (Or.inl (hw _ (List.mem_of_getElem? (i := 135) rfl))) Via.refl eh13.symm S_INTEGER (g := (mkF m 139 #[.val (.int p0), .val (.long p1), .second, .val (.int p2), .val (.int p3), .val (.int kk), .val (.ref b1), .val (.int len), .val (.ref b3), .val (.ref b4), .val (.ref b5), .val (.ref bx13), .unset, .unset, .unset] [])) rfl (hb hby at_139)
        refine OwnGo.fwd st14 ?_
        show OwnGo _ _ _ _ (T14.setTop (mkF m 142 #[.val (.int p0), .val (.long p1), .second, .val (.int p2), .val (.int p3), .val (.int kk), .val (.ref b1), .val (.int len), .val (.ref b3), .val (.ref b4), .val (.ref b5), .val (.ref bx13), .unset, .unset, .unset] [(.ref vkINTEGER)]))
        refine OwnGo.fwd (fun tq' kq' => XS.astore X14.here hx rfl (hb hby at_142) rfl rfl (l' := #[.val (.int p0), .val (.long p1), .second, .val (.int p2), .val (.int p3), .val (.int kk), .val (.ref b1), .val (.int len), .val (.ref b3), .val (.ref b4), .val (.ref b5), .val (.ref bx13), .val (.ref vkINTEGER), .unset, .unset]) rfl kq') ?_
        show OwnGo _ _ _ _ (T14.setTop (mkF m 144 #[.val (.int p0), .val (.long p1), .second, .val (.int p2), .val (.int p3), .val (.int kk), .val (.ref b1), .val (.int len), .val (.ref b3), .val (.ref b4), .val (.ref b5), .val (.ref bx13), .val (.ref vkINTEGER), .unset, .unset] []))
        refine OwnGo.fwd (fun tq' kq' => XS.goto X14.here hx rfl (pc0 := 144) (pc' := 316) rfl (hb hby at_144) (by decide) (by decide) kq') ?_
        show OwnGo _ _ _ _ (T14.setTop (mkF m 316 #[.val (.int p0), .val (.long p1), .second, .val (.int p2), .val (.int p3), .val (.int kk), .val (.ref b1), .val (.int len), .val (.ref b3), .val (.ref b4), .val (.ref b5), .val (.ref bx13), .val (.ref vkINTEGER), .unset, .unset] []))
        refine OwnGo.fwd (fun tq' kq' => XS.aload X14.here hx rfl (hb hby at_316) rfl rfl kq') ?_
        show OwnGo _ _ _ _ (T14.setTop (mkF m 318 #[.val (.int p0), .val (.long p1), .second, .val (.int p2), .val (.int p3), .val (.int kk), .val (.ref b1), .val (.int len), .val (.ref b3), .val (.ref b4), .val (.ref b5), .val (.ref bx13), .val (.ref vkINTEGER), .unset, .unset] [(.ref bx13)]))
        obtain ⟨_, _, ⟨T15, L15, k15, n15⟩, -, X15, ⟨Lc15, hQ15, l15, y15, z15⟩, st15⟩ := Jvm.LawKit.callS X14 hx (y := (⟨"com/example/rolestack/rolestack/ValueKind", "of", "(Ljava/lang/Object;)Lcom/example/rolestack/rolestack/ValueKind;"⟩ : MethodName)) hown (mvT hZ (hw _ (List.mem_of_getElem? (i := 31) rfl))) (mvT hZ (hw _ (List.mem_of_getElem? (i := 32) rfl))) (mvT hZ (hw _ (List.mem_of_getElem? (i := 29) rfl))) (mvT hZ (hw _ (List.mem_of_getElem? (i := 33) rfl))) (by decide) (backOf (W := 0) (rm5l l Z a0 hw [] bx13 vkINTEGER h13 n0 Zs (S0_INTEGER.ext (own_kext K)) E_bx13) hZ (hw _ (List.mem_of_getElem? (i := 33) rfl)) (hw _ (List.mem_of_getElem? (i := 29) rfl)) (by decide) (by decide)) (g := (mkF m 318 #[.val (.int p0), .val (.long p1), .second, .val (.int p2), .val (.int p3), .val (.int kk), .val (.ref b1), .val (.int len), .val (.ref b3), .val (.ref b4), .val (.ref b5), .val (.ref bx13), .val (.ref vkINTEGER), .unset, .unset] [(.ref bx13)])) rfl (by rw [hml]; rfl) (argsL := [(.ref bx13)]) (rest := []) (lenOf pd_1 rfl) rfl (by show 2 * 0 + _ ≤ _; exact Nat.le_of_eq rfl) (hb hby at_318) (fun _ _ => ⟨rfl, e14, (by decide : 8 + 0 ≤ _), (by decide : 28 + 0 ≤ _)⟩)
        dsimp only [Pt.U, Pt.locs, Pt.cells, Pt.slots] at X15 l15 y15 z15 st15 hQ15
        subst l15 y15 z15
        obtain ⟨rfl, N15q, e15⟩ := hQ15
        have N := Fr.app N N15q
        refine OwnGo.fwd st15 ?_
        show OwnGo _ _ _ _ (T15.setTop (mkF m 321 #[.val (.int p0), .val (.long p1), .second, .val (.int p2), .val (.int p3), .val (.int kk), .val (.ref b1), .val (.int len), .val (.ref b3), .val (.ref b4), .val (.ref b5), .val (.ref bx13), .val (.ref vkINTEGER), .unset, .unset] [(.ref vkINTEGER)]))
        refine OwnGo.fwd (fun tq' kq' => XS.astore X15.here hx rfl (hb hby at_321) rfl rfl (l' := #[.val (.int p0), .val (.long p1), .second, .val (.int p2), .val (.int p3), .val (.int kk), .val (.ref b1), .val (.int len), .val (.ref b3), .val (.ref b4), .val (.ref b5), .val (.ref bx13), .val (.ref vkINTEGER), .val (.ref vkINTEGER), .unset]) rfl kq') ?_
        show OwnGo _ _ _ _ (T15.setTop (mkF m 323 #[.val (.int p0), .val (.long p1), .second, .val (.int p2), .val (.int p3), .val (.int kk), .val (.ref b1), .val (.int len), .val (.ref b3), .val (.ref b4), .val (.ref b5), .val (.ref bx13), .val (.ref vkINTEGER), .val (.ref vkINTEGER), .unset] []))
        refine OwnGo.fwd (fun tq' kq' => XS.aload X15.here hx rfl (hb hby at_323) rfl rfl kq') ?_
        show OwnGo _ _ _ _ (T15.setTop (mkF m 325 #[.val (.int p0), .val (.long p1), .second, .val (.int p2), .val (.int p3), .val (.int kk), .val (.ref b1), .val (.int len), .val (.ref b3), .val (.ref b4), .val (.ref b5), .val (.ref bx13), .val (.ref vkINTEGER), .val (.ref vkINTEGER), .unset] [(.ref vkINTEGER)]))
        refine OwnGo.fwd (fun tq' kq' => XS.aload X15.here hx rfl (hb hby at_325) rfl rfl kq') ?_
        show OwnGo _ _ _ _ (T15.setTop (mkF m 327 #[.val (.int p0), .val (.long p1), .second, .val (.int p2), .val (.int p3), .val (.int kk), .val (.ref b1), .val (.int len), .val (.ref b3), .val (.ref b4), .val (.ref b5), .val (.ref bx13), .val (.ref vkINTEGER), .val (.ref vkINTEGER), .unset] [(.ref vkINTEGER), (.ref vkINTEGER)]))
        refine OwnGo.fwd (fun tq' kq' => Jvm.RoadKit.acmp (g := (mkF m 327 #[.val (.int p0), .val (.long p1), .second, .val (.int p2), .val (.int p3), .val (.int kk), .val (.ref b1), .val (.int len), .val (.ref b3), .val (.ref b4), .val (.ref b5), .val (.ref bx13), .val (.ref vkINTEGER), .val (.ref vkINTEGER), .unset] [(.ref vkINTEGER), (.ref vkINTEGER)])) X15 hx rfl rfl rfl (pc0 := 327) (pc' := 330) (same := true) rfl (hb hby at_327) rfl (decide_eq_true rfl) (by decide) (by decide) kq') ?_
        show OwnGo _ _ _ _ (T15.setTop (mkF m 330 #[.val (.int p0), .val (.long p1), .second, .val (.int p2), .val (.int p3), .val (.int kk), .val (.ref b1), .val (.int len), .val (.ref b3), .val (.ref b4), .val (.ref b5), .val (.ref bx13), .val (.ref vkINTEGER), .val (.ref vkINTEGER), .unset] []))
        refine OwnGo.fwd (fun tq' kq' => XS.iconst X15.here hx rfl (hb hby at_330) kq') ?_
        show OwnGo _ _ _ _ (T15.setTop (mkF m 331 #[.val (.int p0), .val (.long p1), .second, .val (.int p2), .val (.int p3), .val (.int kk), .val (.ref b1), .val (.int len), .val (.ref b3), .val (.ref b4), .val (.ref b5), .val (.ref bx13), .val (.ref vkINTEGER), .val (.ref vkINTEGER), .unset] [(.int (1 : Int32))]))
        refine OwnGo.fwd (fun tq' kq' => XS.goto X15.here hx rfl (pc0 := 331) (pc' := 335) rfl (hb hby at_331) (by decide) (by decide) kq') ?_
        show OwnGo _ _ _ _ (T15.setTop (mkF m 335 #[.val (.int p0), .val (.long p1), .second, .val (.int p2), .val (.int p3), .val (.int kk), .val (.ref b1), .val (.int len), .val (.ref b3), .val (.ref b4), .val (.ref b5), .val (.ref bx13), .val (.ref vkINTEGER), .val (.ref vkINTEGER), .unset] [(.int (1 : Int32))]))
        exact OwnGo.wide (own_retZ X15 hlk hx Bd.returns (hb hby at_335) (by decide) (by decide) e15 ⟨rfl, N⟩)
      · refine OwnGo.fwd (fun tq' kq' => XS.icmpYes X8.here hx rfl (pc0 := 130) (pc' := 147) rfl (hb hby at_130) rfl (own_bneq rfl (by decide) hc130_12).2 (by decide) (by decide) kq') ?_
        show OwnGo _ _ _ _ (T8.setTop (mkF m 147 #[.val (.int p0), .val (.long p1), .second, .val (.int p2), .val (.int p3), .val (.int kk), .val (.ref b1), .val (.int len), .val (.ref b3), .val (.ref b4), .val (.ref b5), .unset, .unset, .unset, .unset] []))
        refine OwnGo.fwd (fun tq' kq' => XS.iload X8.here hx rfl (hb hby at_147) rfl kq') ?_
        show OwnGo _ _ _ _ (T8.setTop (mkF m 149 #[.val (.int p0), .val (.long p1), .second, .val (.int p2), .val (.int p3), .val (.int kk), .val (.ref b1), .val (.int len), .val (.ref b3), .val (.ref b4), .val (.ref b5), .unset, .unset, .unset, .unset] [(.int kk)]))
        refine OwnGo.fwd (fun tq' kq' => XS.iconst X8.here hx rfl (hb hby at_149) kq') ?_
        show OwnGo _ _ _ _ (T8.setTop (mkF m 150 #[.val (.int p0), .val (.long p1), .second, .val (.int p2), .val (.int p3), .val (.int kk), .val (.ref b1), .val (.int len), .val (.ref b3), .val (.ref b4), .val (.ref b5), .unset, .unset, .unset, .unset] [(.int (2 : Int32)), (.int kk)]))
        by_cases hc150_16 : kk.toInt = 2
        · refine OwnGo.fwd (fun tq' kq' => XS.icmpNo X8.here hx rfl (hb hby at_150) rfl (own_beq rfl (by decide) hc150_16).2 kq') ?_
          show OwnGo _ _ _ _ (T8.setTop (mkF m 153 #[.val (.int p0), .val (.long p1), .second, .val (.int p2), .val (.int p3), .val (.int kk), .val (.ref b1), .val (.int len), .val (.ref b3), .val (.ref b4), .val (.ref b5), .unset, .unset, .unset, .unset] []))
          refine OwnGo.fwd (fun tq' kq' => XS.iloadN X8.here hx rfl (hb hby at_153) rfl kq') ?_
          show OwnGo _ _ _ _ (T8.setTop (mkF m 154 #[.val (.int p0), .val (.long p1), .second, .val (.int p2), .val (.int p3), .val (.int kk), .val (.ref b1), .val (.int len), .val (.ref b3), .val (.ref b4), .val (.ref b5), .unset, .unset, .unset, .unset] [(.int p2)]))
          refine OwnGo.fwd (fun tq' kq' => XS.sipush X8.here hx rfl (hb hby at_154) kq') ?_
          show OwnGo _ _ _ _ (T8.setTop (mkF m 157 #[.val (.int p0), .val (.long p1), .second, .val (.int p2), .val (.int p3), .val (.int kk), .val (.ref b1), .val (.int len), .val (.ref b3), .val (.ref b4), .val (.ref b5), .unset, .unset, .unset, .unset] [(.int (1000 : Int32)), (.int p2)]))
          refine OwnGo.fwd (fun tq' kq' => iremM X8 hx rfl (hb hby at_157) rfl (by decide) kq') ?_
          show OwnGo _ _ _ _ (T8.setTop (mkF m 158 #[.val (.int p0), .val (.long p1), .second, .val (.int p2), .val (.int p3), .val (.int kk), .val (.ref b1), .val (.int len), .val (.ref b3), .val (.ref b4), .val (.ref b5), .unset, .unset, .unset, .unset] [(.int (p2 % (1000 : Int32)))]))
          refine OwnGo.fwd (fun tq' kq' => XS.i2dS X8.here hx rfl (hb hby at_158) rfl rfl kq') ?_
          show OwnGo _ _ _ _ (T8.setTop (mkF m 159 #[.val (.int p0), .val (.long p1), .second, .val (.int p2), .val (.int p3), .val (.int kk), .val (.ref b1), .val (.int len), .val (.ref b3), .val (.ref b4), .val (.ref b5), .unset, .unset, .unset, .unset] [(.double (FP.i2d (p2 % (1000 : Int32))))]))
          refine OwnGo.fwd (fun tq' kq' => XS.dstore X8.here hx rfl (hb hby at_159) rfl (l' := #[.val (.int p0), .val (.long p1), .second, .val (.int p2), .val (.int p3), .val (.int kk), .val (.ref b1), .val (.int len), .val (.ref b3), .val (.ref b4), .val (.ref b5), .unset, .unset, .val (.double (FP.i2d (p2 % (1000 : Int32)))), .second]) rfl kq') ?_
          show OwnGo _ _ _ _ (T8.setTop (mkF m 161 #[.val (.int p0), .val (.long p1), .second, .val (.int p2), .val (.int p3), .val (.int kk), .val (.ref b1), .val (.int len), .val (.ref b3), .val (.ref b4), .val (.ref b5), .unset, .unset, .val (.double (FP.i2d (p2 % (1000 : Int32)))), .second] []))
          refine OwnGo.fwd (fun tq' kq' => XS.dload X8.here hx rfl (hb hby at_161) rfl kq') ?_
          show OwnGo _ _ _ _ (T8.setTop (mkF m 163 #[.val (.int p0), .val (.long p1), .second, .val (.int p2), .val (.int p3), .val (.int kk), .val (.ref b1), .val (.int len), .val (.ref b3), .val (.ref b4), .val (.ref b5), .unset, .unset, .val (.double (FP.i2d (p2 % (1000 : Int32)))), .second] [(.double (FP.i2d (p2 % (1000 : Int32))))]))
          obtain ⟨_, _, ⟨T17, L17, k17, n17⟩, -, X17, ⟨Lc17, hQ17, l17, y17, z17⟩, st17⟩ := Jvm.LawKit.callS X8 hx (y := (⟨"java/lang/Double", "valueOf", "(D)Ljava/lang/Double;"⟩ : MethodName)) hown (mvT hZ (hw _ (List.mem_of_getElem? (i := 255) rfl))) (mvT hZ (hw _ (List.mem_of_getElem? (i := 256) rfl))) (mvT hZ (hw _ (List.mem_of_getElem? (i := 257) rfl))) (mvT hZ (hw _ (List.mem_of_getElem? (i := 258) rfl))) (by decide) (backOf (W := 0) (rm30 l Z a0 hw [] (FP.i2d (p2 % (1000 : Int32))) h8 n0 Zs) hZ (hw _ (List.mem_of_getElem? (i := 258) rfl)) (hw _ (List.mem_of_getElem? (i := 257) rfl)) (by decide) (by decide)) (g := (mkF m 163 #[.val (.int p0), .val (.long p1), .second, .val (.int p2), .val (.int p3), .val (.int kk), .val (.ref b1), .val (.int len), .val (.ref b3), .val (.ref b4), .val (.ref b5), .unset, .unset, .val (.double (FP.i2d (p2 % (1000 : Int32)))), .second] [(.double (FP.i2d (p2 % (1000 : Int32))))])) rfl (by rw [hml]; rfl) (argsL := [(.double (FP.i2d (p2 % (1000 : Int32))))]) (rest := []) (lenOf pd_19 rfl) rfl (by show 2 * 0 + _ ≤ _; exact Nat.le_of_eq rfl) (hb hby at_163) (fun _ _ => ⟨rfl, e8, (by decide : 7 + 1 ≤ _), (by decide : 27 + 1 ≤ _)⟩)
          dsimp only [Pt.U, Pt.locs, Pt.cells, Pt.slots] at X17 l17 y17 z17 st17 hQ17
          subst l17 y17 z17
          obtain ⟨h17, eh17⟩ : ∃ z, z = T17.heap := ⟨_, rfl⟩
          rw [← eh17] at hQ17
          obtain ⟨N17q, K17, bx17, rfl, E_bx17⟩ := hQ17
          have N := Fr.app N N17q
          have Zs := Nat.le_trans Zs K17.1
          have E_b1 := E_b1.keep K17
          have F_elementData_b1 := F_elementData_b1.keep K17 nin0
          have F_size_b1 := F_size_b1.keep K17 nin0
          have O_d := O_d.keep K17 nin0
          have P_b3 := P_b3.keep K17 nin0
          have P_b4 := P_b4.keep K17 nin0
          have P_b5 := P_b5.keep K17 nin0
          have K := K.trans K17 all0
          refine OwnGo.fwd st17 ?_
          show OwnGo _ _ _ _ (T17.setTop (mkF m 166 #[.val (.int p0), .val (.long p1), .second, .val (.int p2), .val (.int p3), .val (.int kk), .val (.ref b1), .val (.int len), .val (.ref b3), .val (.ref b4), .val (.ref b5), .unset, .unset, .val (.double (FP.i2d (p2 % (1000 : Int32)))), .second] [(.ref bx17)]))
          refine OwnGo.fwd (fun tq' kq' => XS.astore X17.here hx rfl (hb hby at_166) rfl rfl (l' := #[.val (.int p0), .val (.long p1), .second, .val (.int p2), .val (.int p3), .val (.int kk), .val (.ref b1), .val (.int len), .val (.ref b3), .val (.ref b4), .val (.ref b5), .val (.ref bx17), .unset, .val (.double (FP.i2d (p2 % (1000 : Int32)))), .second]) rfl kq') ?_
          show OwnGo _ _ _ _ (T17.setTop (mkF m 168 #[.val (.int p0), .val (.long p1), .second, .val (.int p2), .val (.int p3), .val (.int kk), .val (.ref b1), .val (.int len), .val (.ref b3), .val (.ref b4), .val (.ref b5), .val (.ref bx17), .unset, .val (.double (FP.i2d (p2 % (1000 : Int32)))), .second] []))
          have S_REAL := S0_REAL.ext (own_kext K)
          obtain ⟨T18, X18, e18, st18⟩ := getS2 X17 hx hZ hown (host := "") (Or.inl (hw _ (List.mem_of_getElem? (i := 269) rfl))) Via.refl eh17.symm S_REAL (g := (mkF m 168 #[.val (.int p0), .val (.long p1), .second, .val (.int p2), .val (.int p3), .val (.int kk), .val (.ref b1), .val (.int len), .val (.ref b3), .val (.ref b4), .val (.ref b5), .val (.ref bx17), .unset, .val (.double (FP.i2d (p2 % (1000 : Int32)))), .second] [])) rfl (hb hby at_168)
          refine OwnGo.fwd st18 ?_
          show OwnGo _ _ _ _ (T18.setTop (mkF m 171 #[.val (.int p0), .val (.long p1), .second, .val (.int p2), .val (.int p3), .val (.int kk), .val (.ref b1), .val (.int len), .val (.ref b3), .val (.ref b4), .val (.ref b5), .val (.ref bx17), .unset, .val (.double (FP.i2d (p2 % (1000 : Int32)))), .second] [(.ref vkREAL)]))
          refine OwnGo.fwd (fun tq' kq' => XS.astore X18.here hx rfl (hb hby at_171) rfl rfl (l' := #[.val (.int p0), .val (.long p1), .second, .val (.int p2), .val (.int p3), .val (.int kk), .val (.ref b1), .val (.int len), .val (.ref b3), .val (.ref b4), .val (.ref b5), .val (.ref bx17), .val (.ref vkREAL), .val (.double (FP.i2d (p2 % (1000 : Int32)))), .second]) rfl kq') ?_
          show OwnGo _ _ _ _ (T18.setTop (mkF m 173 #[.val (.int p0), .val (.long p1), .second, .val (.int p2), .val (.int p3), .val (.int kk), .val (.ref b1), .val (.int len), .val (.ref b3), .val (.ref b4), .val (.ref b5), .val (.ref bx17), .val (.ref vkREAL), .val (.double (FP.i2d (p2 % (1000 : Int32)))), .second] []))
          refine OwnGo.fwd (fun tq' kq' => XS.goto X18.here hx rfl (pc0 := 173) (pc' := 316) rfl (hb hby at_173) (by decide) (by decide) kq') ?_
          show OwnGo _ _ _ _ (T18.setTop (mkF m 316 #[.val (.int p0), .val (.long p1), .second, .val (.int p2), .val (.int p3), .val (.int kk), .val (.ref b1), .val (.int len), .val (.ref b3), .val (.ref b4), .val (.ref b5), .val (.ref bx17), .val (.ref vkREAL), .val (.double (FP.i2d (p2 % (1000 : Int32)))), .second] []))
          refine OwnGo.fwd (fun tq' kq' => XS.aload X18.here hx rfl (hb hby at_316) rfl rfl kq') ?_
          show OwnGo _ _ _ _ (T18.setTop (mkF m 318 #[.val (.int p0), .val (.long p1), .second, .val (.int p2), .val (.int p3), .val (.int kk), .val (.ref b1), .val (.int len), .val (.ref b3), .val (.ref b4), .val (.ref b5), .val (.ref bx17), .val (.ref vkREAL), .val (.double (FP.i2d (p2 % (1000 : Int32)))), .second] [(.ref bx17)]))
          obtain ⟨_, _, ⟨T19, L19, k19, n19⟩, -, X19, ⟨Lc19, hQ19, l19, y19, z19⟩, st19⟩ := Jvm.LawKit.callS X18 hx (y := (⟨"com/example/rolestack/rolestack/ValueKind", "of", "(Ljava/lang/Object;)Lcom/example/rolestack/rolestack/ValueKind;"⟩ : MethodName)) hown (mvT hZ (hw _ (List.mem_of_getElem? (i := 31) rfl))) (mvT hZ (hw _ (List.mem_of_getElem? (i := 32) rfl))) (mvT hZ (hw _ (List.mem_of_getElem? (i := 29) rfl))) (mvT hZ (hw _ (List.mem_of_getElem? (i := 33) rfl))) (by decide) (backOf (W := 0) (rm5d l Z a0 hw [] bx17 vkREAL h17 n0 Zs (S0_REAL.ext (own_kext K)) E_bx17) hZ (hw _ (List.mem_of_getElem? (i := 33) rfl)) (hw _ (List.mem_of_getElem? (i := 29) rfl)) (by decide) (by decide)) (g := (mkF m 318 #[.val (.int p0), .val (.long p1), .second, .val (.int p2), .val (.int p3), .val (.int kk), .val (.ref b1), .val (.int len), .val (.ref b3), .val (.ref b4), .val (.ref b5), .val (.ref bx17), .val (.ref vkREAL), .val (.double (FP.i2d (p2 % (1000 : Int32)))), .second] [(.ref bx17)])) rfl (by rw [hml]; rfl) (argsL := [(.ref bx17)]) (rest := []) (lenOf pd_1 rfl) rfl (by show 2 * 0 + _ ≤ _; exact Nat.le_of_eq rfl) (hb hby at_318) (fun _ _ => ⟨rfl, e18, (by decide : 8 + 0 ≤ _), (by decide : 28 + 0 ≤ _)⟩)
          dsimp only [Pt.U, Pt.locs, Pt.cells, Pt.slots] at X19 l19 y19 z19 st19 hQ19
          subst l19 y19 z19
          obtain ⟨rfl, N19q, e19⟩ := hQ19
          have N := Fr.app N N19q
          refine OwnGo.fwd st19 ?_
          show OwnGo _ _ _ _ (T19.setTop (mkF m 321 #[.val (.int p0), .val (.long p1), .second, .val (.int p2), .val (.int p3), .val (.int kk), .val (.ref b1), .val (.int len), .val (.ref b3), .val (.ref b4), .val (.ref b5), .val (.ref bx17), .val (.ref vkREAL), .val (.double (FP.i2d (p2 % (1000 : Int32)))), .second] [(.ref vkREAL)]))
          refine OwnGo.fwd (fun tq' kq' => XS.astore X19.here hx rfl (hb hby at_321) rfl rfl (l' := #[.val (.int p0), .val (.long p1), .second, .val (.int p2), .val (.int p3), .val (.int kk), .val (.ref b1), .val (.int len), .val (.ref b3), .val (.ref b4), .val (.ref b5), .val (.ref bx17), .val (.ref vkREAL), .val (.ref vkREAL), .unset]) rfl kq') ?_
          show OwnGo _ _ _ _ (T19.setTop (mkF m 323 #[.val (.int p0), .val (.long p1), .second, .val (.int p2), .val (.int p3), .val (.int kk), .val (.ref b1), .val (.int len), .val (.ref b3), .val (.ref b4), .val (.ref b5), .val (.ref bx17), .val (.ref vkREAL), .val (.ref vkREAL), .unset] []))
          refine OwnGo.fwd (fun tq' kq' => XS.aload X19.here hx rfl (hb hby at_323) rfl rfl kq') ?_
          show OwnGo _ _ _ _ (T19.setTop (mkF m 325 #[.val (.int p0), .val (.long p1), .second, .val (.int p2), .val (.int p3), .val (.int kk), .val (.ref b1), .val (.int len), .val (.ref b3), .val (.ref b4), .val (.ref b5), .val (.ref bx17), .val (.ref vkREAL), .val (.ref vkREAL), .unset] [(.ref vkREAL)]))
          refine OwnGo.fwd (fun tq' kq' => XS.aload X19.here hx rfl (hb hby at_325) rfl rfl kq') ?_
          show OwnGo _ _ _ _ (T19.setTop (mkF m 327 #[.val (.int p0), .val (.long p1), .second, .val (.int p2), .val (.int p3), .val (.int kk), .val (.ref b1), .val (.int len), .val (.ref b3), .val (.ref b4), .val (.ref b5), .val (.ref bx17), .val (.ref vkREAL), .val (.ref vkREAL), .unset] [(.ref vkREAL), (.ref vkREAL)]))
          refine OwnGo.fwd (fun tq' kq' => Jvm.RoadKit.acmp (g := (mkF m 327 #[.val (.int p0), .val (.long p1), .second, .val (.int p2), .val (.int p3), .val (.int kk), .val (.ref b1), .val (.int len), .val (.ref b3), .val (.ref b4), .val (.ref b5), .val (.ref bx17), .val (.ref vkREAL), .val (.ref vkREAL), .unset] [(.ref vkREAL), (.ref vkREAL)])) X19 hx rfl rfl rfl (pc0 := 327) (pc' := 330) (same := true) rfl (hb hby at_327) rfl (decide_eq_true rfl) (by decide) (by decide) kq') ?_
          show OwnGo _ _ _ _ (T19.setTop (mkF m 330 #[.val (.int p0), .val (.long p1), .second, .val (.int p2), .val (.int p3), .val (.int kk), .val (.ref b1), .val (.int len), .val (.ref b3), .val (.ref b4), .val (.ref b5), .val (.ref bx17), .val (.ref vkREAL), .val (.ref vkREAL), .unset] []))
          refine OwnGo.fwd (fun tq' kq' => XS.iconst X19.here hx rfl (hb hby at_330) kq') ?_
          show OwnGo _ _ _ _ (T19.setTop (mkF m 331 #[.val (.int p0), .val (.long p1), .second, .val (.int p2), .val (.int p3), .val (.int kk), .val (.ref b1), .val (.int len), .val (.ref b3), .val (.ref b4), .val (.ref b5), .val (.ref bx17), .val (.ref vkREAL), .val (.ref vkREAL), .unset] [(.int (1 : Int32))]))
          refine OwnGo.fwd (fun tq' kq' => XS.goto X19.here hx rfl (pc0 := 331) (pc' := 335) rfl (hb hby at_331) (by decide) (by decide) kq') ?_
          show OwnGo _ _ _ _ (T19.setTop (mkF m 335 #[.val (.int p0), .val (.long p1), .second, .val (.int p2), .val (.int p3), .val (.int kk), .val (.ref b1), .val (.int len), .val (.ref b3), .val (.ref b4), .val (.ref b5), .val (.ref bx17), .val (.ref vkREAL), .val (.ref vkREAL), .unset] [(.int (1 : Int32))]))
          exact OwnGo.wide (own_retZ X19 hlk hx Bd.returns (hb hby at_335) (by decide) (by decide) e19 ⟨rfl, N⟩)
        · refine OwnGo.fwd (fun tq' kq' => XS.icmpYes X8.here hx rfl (pc0 := 150) (pc' := 176) rfl (hb hby at_150) rfl (own_bneq rfl (by decide) hc150_16).2 (by decide) (by decide) kq') ?_
          show OwnGo _ _ _ _ (T8.setTop (mkF m 176 #[.val (.int p0), .val (.long p1), .second, .val (.int p2), .val (.int p3), .val (.int kk), .val (.ref b1), .val (.int len), .val (.ref b3), .val (.ref b4), .val (.ref b5), .unset, .unset, .unset, .unset] []))
          refine OwnGo.fwd (fun tq' kq' => XS.iload X8.here hx rfl (hb hby at_176) rfl kq') ?_
          show OwnGo _ _ _ _ (T8.setTop (mkF m 178 #[.val (.int p0), .val (.long p1), .second, .val (.int p2), .val (.int p3), .val (.int kk), .val (.ref b1), .val (.int len), .val (.ref b3), .val (.ref b4), .val (.ref b5), .unset, .unset, .unset, .unset] [(.int kk)]))
          refine OwnGo.fwd (fun tq' kq' => XS.iconst X8.here hx rfl (hb hby at_178) kq') ?_
          show OwnGo _ _ _ _ (T8.setTop (mkF m 179 #[.val (.int p0), .val (.long p1), .second, .val (.int p2), .val (.int p3), .val (.int kk), .val (.ref b1), .val (.int len), .val (.ref b3), .val (.ref b4), .val (.ref b5), .unset, .unset, .unset, .unset] [(.int (3 : Int32)), (.int kk)]))
          by_cases hc179_20 : kk.toInt = 3
          · refine OwnGo.fwd (fun tq' kq' => XS.icmpNo X8.here hx rfl (hb hby at_179) rfl (own_beq rfl (by decide) hc179_20).2 kq') ?_
            show OwnGo _ _ _ _ (T8.setTop (mkF m 182 #[.val (.int p0), .val (.long p1), .second, .val (.int p2), .val (.int p3), .val (.int kk), .val (.ref b1), .val (.int len), .val (.ref b3), .val (.ref b4), .val (.ref b5), .unset, .unset, .unset, .unset] []))
            refine OwnGo.fwd (fun tq' kq' => XS.iload X8.here hx rfl (hb hby at_182) rfl kq') ?_
            show OwnGo _ _ _ _ (T8.setTop (mkF m 184 #[.val (.int p0), .val (.long p1), .second, .val (.int p2), .val (.int p3), .val (.int kk), .val (.ref b1), .val (.int len), .val (.ref b3), .val (.ref b4), .val (.ref b5), .unset, .unset, .unset, .unset] [(.int len)]))
            by_cases hc184_21 : len.toInt = 0
            · refine OwnGo.fwd (fun tq' kq' => XS.ifNo X8.here hx rfl (hb hby at_184) rfl ((if0 _ _).trans (own_beq rfl (by decide) hc184_21).2) kq') ?_
              show OwnGo _ _ _ _ (T8.setTop (mkF m 187 #[.val (.int p0), .val (.long p1), .second, .val (.int p2), .val (.int p3), .val (.int kk), .val (.ref b1), .val (.int len), .val (.ref b3), .val (.ref b4), .val (.ref b5), .unset, .unset, .unset, .unset] []))
              obtain ⟨T22, h22, X22, e22, E22, A22, D22, -, st22⟩ := newO X8 hx hZ hown (hw _ (List.mem_of_getElem? (i := 35) rfl)) (hw _ (List.mem_of_getElem? (i := 36) rfl)) (hw _ (List.mem_of_getElem? (i := 37) rfl)) e8 (g := (mkF m 187 #[.val (.int p0), .val (.long p1), .second, .val (.int p2), .val (.int p3), .val (.int kk), .val (.ref b1), .val (.int len), .val (.ref b3), .val (.ref b4), .val (.ref b5), .unset, .unset, .unset, .unset] [])) rfl (hb hby at_187) (by decide) (by decide)
              obtain ⟨b22, g22⟩ : ∃ z, z = h8.size := ⟨_, rfl⟩
              rw [← g22] at A22 D22 st22
              have ne_b1_b22 : b1 ≠ b22 := Nat.ne_of_lt (Nat.lt_of_lt_of_le E_b1.lt (Nat.le_of_eq g22.symm))
              have ne_d_b22 : d ≠ b22 := Nat.ne_of_lt (Nat.lt_of_lt_of_le O_d.lt (Nat.le_of_eq g22.symm))
              have ne_b3_b22 : b3 ≠ b22 := Nat.ne_of_lt (Nat.lt_of_lt_of_le P_b3.lt (Nat.le_of_eq g22.symm))
              have ne_b4_b22 : b4 ≠ b22 := Nat.ne_of_lt (Nat.lt_of_lt_of_le P_b4.lt (Nat.le_of_eq g22.symm))
              have ne_b5_b22 : b5 ≠ b22 := Nat.ne_of_lt (Nat.lt_of_lt_of_le P_b5.lt (Nat.le_of_eq g22.symm))
              have g_b22 : n0 ≤ b22 := Nat.le_trans Zs (Nat.le_of_eq g22.symm)
              have sz_b22 : h0.size ≤ b22 := Nat.le_trans K.1 (Nat.le_of_eq g22.symm)
              have K := K.ext E22
              have Zs := Nat.le_trans Zs E22.1
              have E_b1 := E_b1.ext E22
              have F_elementData_b1 := F_elementData_b1.ext E22
              have F_size_b1 := F_size_b1.ext E22
              have O_d := O_d.ext E22
              have P_b3 := P_b3.ext E22
              have P_b4 := P_b4.ext E22
              have P_b5 := P_b5.ext E22
              have E_b22 := A22
              have F_value_b22 : Fld Z h22 b22 "java/lang/String" "value" "[B" .null := D22 (Or.inr (hw _ (List.mem_of_getElem? (i := 48) rfl))) (ty := (.array .byte)) (by decide)
              have F_coder_b22 : Fld Z h22 b22 "java/lang/String" "coder" "B" (.int (0 : Int32)) := D22 (Or.inr (hw _ (List.mem_of_getElem? (i := 49) rfl))) (ty := .byte) (by decide)
              refine OwnGo.fwd st22 ?_
              show OwnGo _ _ _ _ (T22.setTop (mkF m 190 #[.val (.int p0), .val (.long p1), .second, .val (.int p2), .val (.int p3), .val (.int kk), .val (.ref b1), .val (.int len), .val (.ref b3), .val (.ref b4), .val (.ref b5), .unset, .unset, .unset, .unset] [(.ref b22)]))
              refine OwnGo.fwd (fun tq' kq' => XS.dup X22.here hx rfl (hb hby at_190) rfl rfl kq') ?_
              show OwnGo _ _ _ _ (T22.setTop (mkF m 191 #[.val (.int p0), .val (.long p1), .second, .val (.int p2), .val (.int p3), .val (.int kk), .val (.ref b1), .val (.int len), .val (.ref b3), .val (.ref b4), .val (.ref b5), .unset, .unset, .unset, .unset] [(.ref b22), (.ref b22)]))
              refine OwnGo.fwd (fun tq' kq' => XS.aload X22.here hx rfl (hb hby at_191) rfl rfl kq') ?_
              show OwnGo _ _ _ _ (T22.setTop (mkF m 193 #[.val (.int p0), .val (.long p1), .second, .val (.int p2), .val (.int p3), .val (.int kk), .val (.ref b1), .val (.int len), .val (.ref b3), .val (.ref b4), .val (.ref b5), .unset, .unset, .unset, .unset] [(.ref b3), (.ref b22), (.ref b22)]))
              obtain ⟨_, _, ⟨T23, L23, k23, n23⟩, -, X23, hS23, -, ⟨Lc23, hQ23, l23, y23, z23⟩, st23⟩ := X22.specialBackS hx (y := (⟨"java/lang/String", "<init>", "([C)V"⟩ : MethodName)) rfl hown (mvT hZ (hw _ (List.mem_of_getElem? (i := 38) rfl))) (mvT hZ (hw _ (List.mem_of_getElem? (i := 39) rfl))) (mvT hZ (hw _ (List.mem_of_getElem? (i := 40) rfl))) (by decide) (own_backW (W := 1) (rm6e l Z a0 hw [] b22 b3 _ h22 n0 Zs E_b22 F_value_b22 F_coder_b22 g_b22 P_b3 (Ne.symm ne_b3_b22) (fun b cl q => K.2.1 b cl (by rw [hZh]; exact q) nin0) hheld hcw) hZ hi (hw _ (List.mem_of_getElem? (i := 40) rfl)) (hw _ (List.mem_of_getElem? (i := 37) rfl)) (by decide) (by decide)) (g := (mkF m 193 #[.val (.int p0), .val (.long p1), .second, .val (.int p2), .val (.int p3), .val (.int kk), .val (.ref b1), .val (.int len), .val (.ref b3), .val (.ref b4), .val (.ref b5), .unset, .unset, .unset, .unset] [(.ref b3), (.ref b22), (.ref b22)])) rfl (by rw [hml]; rfl) (Steps.refl _) (a := b22) (argsL := [(.ref b3)]) (rest := [(.ref b22)]) (lenOf pd_2 rfl) rfl (by show 2 * 0 + _ ≤ _; exact Nat.le_of_eq rfl) (hb hby at_193) (fun _ _ => ⟨rfl, e22, (by decide : 8 + 2 ≤ _), (by decide : 31 + 4 ≤ _)⟩)
              dsimp only [Pt.U, Pt.locs, Pt.cells, Pt.slots] at X23 hS23 l23 y23 z23 st23 hQ23
              subst l23 y23 z23
              obtain ⟨h23, eh23⟩ : ∃ z, z = T23.heap := ⟨_, rfl⟩
              rw [← eh23] at hQ23
              obtain ⟨rfl, N23q, K23, E_b22⟩ := hQ23
              have N := Fr.app N N23q
              have Zs := Nat.le_trans Zs K23.1
              have E_b1 := E_b1.keep K23
              have F_elementData_b1 := F_elementData_b1.keep K23 (ninS ne_b1_b22 nin0)
              have F_size_b1 := F_size_b1.keep K23 (ninS ne_b1_b22 nin0)
              have O_d := O_d.keep K23 (ninS ne_d_b22 nin0)
              have P_b3 := P_b3.keep K23 (ninS ne_b3_b22 nin0)
              have P_b4 := P_b4.keep K23 (ninS ne_b4_b22 nin0)
              have P_b5 := P_b5.keep K23 (ninS ne_b5_b22 nin0)
              have K := K.trans K23 (allS (Or.inr sz_b22) all0)
              have hZ : Z.Warmed39 (s.setVm T23.vm).vm := State.Warmed39.trans hZ hS23.1
              have hown : (s.setVm T23.vm).vm.findClass "com/example/rolestack/rolestack/ValueKindOfPinLaw" = some m.cls := (hS23.1.alike.findClass _ _).trans hown
              have hkk : T23.heap.size ≤ h23.size := Nat.le_of_eq (by rw [eh23])
              refine OwnGo.thru st23 ?_
              show OwnGo _ _ _ _ (T23.setTop (mkF m 196 #[.val (.int p0), .val (.long p1), .second, .val (.int p2), .val (.int p3), .val (.int kk), .val (.ref b1), .val (.int len), .val (.ref b3), .val (.ref b4), .val (.ref b5), .unset, .unset, .unset, .unset] [(.ref b22)]))
              refine OwnGo.fwd (fun tq' kq' => XS.astore X23.here hx rfl (hb hby at_196) rfl rfl (l' := #[.val (.int p0), .val (.long p1), .second, .val (.int p2), .val (.int p3), .val (.int kk), .val (.ref b1), .val (.int len), .val (.ref b3), .val (.ref b4), .val (.ref b5), .val (.ref b22), .unset, .unset, .unset]) rfl kq') ?_
              show OwnGo _ _ _ _ (T23.setTop (mkF m 198 #[.val (.int p0), .val (.long p1), .second, .val (.int p2), .val (.int p3), .val (.int kk), .val (.ref b1), .val (.int len), .val (.ref b3), .val (.ref b4), .val (.ref b5), .val (.ref b22), .unset, .unset, .unset] []))
              refine OwnGo.fwd (fun tq' kq' => XS.goto X23.here hx rfl (pc0 := 198) (pc' := 232) rfl (hb hby at_198) (by decide) (by decide) kq') ?_
              show OwnGo _ _ _ _ (T23.setTop (mkF m 232 #[.val (.int p0), .val (.long p1), .second, .val (.int p2), .val (.int p3), .val (.int kk), .val (.ref b1), .val (.int len), .val (.ref b3), .val (.ref b4), .val (.ref b5), .val (.ref b22), .unset, .unset, .unset] []))
              have S_STRING := S0_STRING.ext (own_kext K)
              obtain ⟨T24, X24, e24, st24⟩ := getS2 X23 hx hZ hown (host := "") (Or.inl (hw _ (List.mem_of_getElem? (i := 54) rfl))) Via.refl eh23.symm S_STRING (g := (mkF m 232 #[.val (.int p0), .val (.long p1), .second, .val (.int p2), .val (.int p3), .val (.int kk), .val (.ref b1), .val (.int len), .val (.ref b3), .val (.ref b4), .val (.ref b5), .val (.ref b22), .unset, .unset, .unset] [])) rfl (hb hby at_232)
              refine OwnGo.fwd st24 ?_
              show OwnGo _ _ _ _ (T24.setTop (mkF m 235 #[.val (.int p0), .val (.long p1), .second, .val (.int p2), .val (.int p3), .val (.int kk), .val (.ref b1), .val (.int len), .val (.ref b3), .val (.ref b4), .val (.ref b5), .val (.ref b22), .unset, .unset, .unset] [(.ref vkSTRING)]))
              refine OwnGo.fwd (fun tq' kq' => XS.astore X24.here hx rfl (hb hby at_235) rfl rfl (l' := #[.val (.int p0), .val (.long p1), .second, .val (.int p2), .val (.int p3), .val (.int kk), .val (.ref b1), .val (.int len), .val (.ref b3), .val (.ref b4), .val (.ref b5), .val (.ref b22), .val (.ref vkSTRING), .unset, .unset]) rfl kq') ?_
              show OwnGo _ _ _ _ (T24.setTop (mkF m 237 #[.val (.int p0), .val (.long p1), .second, .val (.int p2), .val (.int p3), .val (.int kk), .val (.ref b1), .val (.int len), .val (.ref b3), .val (.ref b4), .val (.ref b5), .val (.ref b22), .val (.ref vkSTRING), .unset, .unset] []))
              refine OwnGo.fwd (fun tq' kq' => XS.goto X24.here hx rfl (pc0 := 237) (pc' := 316) rfl (hb hby at_237) (by decide) (by decide) kq') ?_
              show OwnGo _ _ _ _ (T24.setTop (mkF m 316 #[.val (.int p0), .val (.long p1), .second, .val (.int p2), .val (.int p3), .val (.int kk), .val (.ref b1), .val (.int len), .val (.ref b3), .val (.ref b4), .val (.ref b5), .val (.ref b22), .val (.ref vkSTRING), .unset, .unset] []))
              refine OwnGo.fwd (fun tq' kq' => XS.aload X24.here hx rfl (hb hby at_316) rfl rfl kq') ?_
              show OwnGo _ _ _ _ (T24.setTop (mkF m 318 #[.val (.int p0), .val (.long p1), .second, .val (.int p2), .val (.int p3), .val (.int kk), .val (.ref b1), .val (.int len), .val (.ref b3), .val (.ref b4), .val (.ref b5), .val (.ref b22), .val (.ref vkSTRING), .unset, .unset] [(.ref b22)]))
              obtain ⟨_, _, ⟨T25, L25, k25, n25⟩, -, X25, ⟨Lc25, hQ25, l25, y25, z25⟩, st25⟩ := Jvm.LawKit.callS X24 hx (y := (⟨"com/example/rolestack/rolestack/ValueKind", "of", "(Ljava/lang/Object;)Lcom/example/rolestack/rolestack/ValueKind;"⟩ : MethodName)) hown (mvT hZ (hw _ (List.mem_of_getElem? (i := 31) rfl))) (mvT hZ (hw _ (List.mem_of_getElem? (i := 32) rfl))) (mvT hZ (hw _ (List.mem_of_getElem? (i := 29) rfl))) (mvT hZ (hw _ (List.mem_of_getElem? (i := 33) rfl))) (by decide) (backOf (W := 0) (rm5s l Z a0 hw [] b22 vkSTRING h23 n0 Zs (S0_STRING.ext (own_kext K)) E_b22) hZ (hw _ (List.mem_of_getElem? (i := 33) rfl)) (hw _ (List.mem_of_getElem? (i := 29) rfl)) (by decide) (by decide)) (g := (mkF m 318 #[.val (.int p0), .val (.long p1), .second, .val (.int p2), .val (.int p3), .val (.int kk), .val (.ref b1), .val (.int len), .val (.ref b3), .val (.ref b4), .val (.ref b5), .val (.ref b22), .val (.ref vkSTRING), .unset, .unset] [(.ref b22)])) rfl (by rw [hml]; rfl) (argsL := [(.ref b22)]) (rest := []) (lenOf pd_1 rfl) rfl (by show 2 * 0 + _ ≤ _; exact Nat.le_of_eq rfl) (hb hby at_318) (fun _ _ => ⟨rfl, e24, (by decide : 10 + 0 ≤ _), (by decide : 35 + 0 ≤ _)⟩)
              dsimp only [Pt.U, Pt.locs, Pt.cells, Pt.slots] at X25 l25 y25 z25 st25 hQ25
              subst l25 y25 z25
              obtain ⟨rfl, N25q, e25⟩ := hQ25
              have N := Fr.app N N25q
              refine OwnGo.fwd st25 ?_
              show OwnGo _ _ _ _ (T25.setTop (mkF m 321 #[.val (.int p0), .val (.long p1), .second, .val (.int p2), .val (.int p3), .val (.int kk), .val (.ref b1), .val (.int len), .val (.ref b3), .val (.ref b4), .val (.ref b5), .val (.ref b22), .val (.ref vkSTRING), .unset, .unset] [(.ref vkSTRING)]))
              refine OwnGo.fwd (fun tq' kq' => XS.astore X25.here hx rfl (hb hby at_321) rfl rfl (l' := #[.val (.int p0), .val (.long p1), .second, .val (.int p2), .val (.int p3), .val (.int kk), .val (.ref b1), .val (.int len), .val (.ref b3), .val (.ref b4), .val (.ref b5), .val (.ref b22), .val (.ref vkSTRING), .val (.ref vkSTRING), .unset]) rfl kq') ?_
              show OwnGo _ _ _ _ (T25.setTop (mkF m 323 #[.val (.int p0), .val (.long p1), .second, .val (.int p2), .val (.int p3), .val (.int kk), .val (.ref b1), .val (.int len), .val (.ref b3), .val (.ref b4), .val (.ref b5), .val (.ref b22), .val (.ref vkSTRING), .val (.ref vkSTRING), .unset] []))
              refine OwnGo.fwd (fun tq' kq' => XS.aload X25.here hx rfl (hb hby at_323) rfl rfl kq') ?_
              show OwnGo _ _ _ _ (T25.setTop (mkF m 325 #[.val (.int p0), .val (.long p1), .second, .val (.int p2), .val (.int p3), .val (.int kk), .val (.ref b1), .val (.int len), .val (.ref b3), .val (.ref b4), .val (.ref b5), .val (.ref b22), .val (.ref vkSTRING), .val (.ref vkSTRING), .unset] [(.ref vkSTRING)]))
              refine OwnGo.fwd (fun tq' kq' => XS.aload X25.here hx rfl (hb hby at_325) rfl rfl kq') ?_
              show OwnGo _ _ _ _ (T25.setTop (mkF m 327 #[.val (.int p0), .val (.long p1), .second, .val (.int p2), .val (.int p3), .val (.int kk), .val (.ref b1), .val (.int len), .val (.ref b3), .val (.ref b4), .val (.ref b5), .val (.ref b22), .val (.ref vkSTRING), .val (.ref vkSTRING), .unset] [(.ref vkSTRING), (.ref vkSTRING)]))
              refine OwnGo.fwd (fun tq' kq' => Jvm.RoadKit.acmp (g := (mkF m 327 #[.val (.int p0), .val (.long p1), .second, .val (.int p2), .val (.int p3), .val (.int kk), .val (.ref b1), .val (.int len), .val (.ref b3), .val (.ref b4), .val (.ref b5), .val (.ref b22), .val (.ref vkSTRING), .val (.ref vkSTRING), .unset] [(.ref vkSTRING), (.ref vkSTRING)])) X25 hx rfl rfl rfl (pc0 := 327) (pc' := 330) (same := true) rfl (hb hby at_327) rfl (decide_eq_true rfl) (by decide) (by decide) kq') ?_
              show OwnGo _ _ _ _ (T25.setTop (mkF m 330 #[.val (.int p0), .val (.long p1), .second, .val (.int p2), .val (.int p3), .val (.int kk), .val (.ref b1), .val (.int len), .val (.ref b3), .val (.ref b4), .val (.ref b5), .val (.ref b22), .val (.ref vkSTRING), .val (.ref vkSTRING), .unset] []))
              refine OwnGo.fwd (fun tq' kq' => XS.iconst X25.here hx rfl (hb hby at_330) kq') ?_
              show OwnGo _ _ _ _ (T25.setTop (mkF m 331 #[.val (.int p0), .val (.long p1), .second, .val (.int p2), .val (.int p3), .val (.int kk), .val (.ref b1), .val (.int len), .val (.ref b3), .val (.ref b4), .val (.ref b5), .val (.ref b22), .val (.ref vkSTRING), .val (.ref vkSTRING), .unset] [(.int (1 : Int32))]))
              refine OwnGo.fwd (fun tq' kq' => XS.goto X25.here hx rfl (pc0 := 331) (pc' := 335) rfl (hb hby at_331) (by decide) (by decide) kq') ?_
              show OwnGo _ _ _ _ (T25.setTop (mkF m 335 #[.val (.int p0), .val (.long p1), .second, .val (.int p2), .val (.int p3), .val (.int kk), .val (.ref b1), .val (.int len), .val (.ref b3), .val (.ref b4), .val (.ref b5), .val (.ref b22), .val (.ref vkSTRING), .val (.ref vkSTRING), .unset] [(.int (1 : Int32))]))
              exact own_retZW X25 hS23 hkk hlk hx Bd.returns (hb hby at_335) (by decide) (by decide) e25 ⟨rfl, N⟩
            · refine OwnGo.fwd (fun tq' kq' => XS.ifYes X8.here hx rfl (pc0 := 184) (pc' := 201) rfl (hb hby at_184) rfl ((if0 _ _).trans (own_bneq rfl (by decide) hc184_21).2) (by decide) (by decide) kq') ?_
              show OwnGo _ _ _ _ (T8.setTop (mkF m 201 #[.val (.int p0), .val (.long p1), .second, .val (.int p2), .val (.int p3), .val (.int kk), .val (.ref b1), .val (.int len), .val (.ref b3), .val (.ref b4), .val (.ref b5), .unset, .unset, .unset, .unset] []))
              refine OwnGo.fwd (fun tq' kq' => XS.iload X8.here hx rfl (hb hby at_201) rfl kq') ?_
              show OwnGo _ _ _ _ (T8.setTop (mkF m 203 #[.val (.int p0), .val (.long p1), .second, .val (.int p2), .val (.int p3), .val (.int kk), .val (.ref b1), .val (.int len), .val (.ref b3), .val (.ref b4), .val (.ref b5), .unset, .unset, .unset, .unset] [(.int len)]))
              refine OwnGo.fwd (fun tq' kq' => XS.iconst X8.here hx rfl (hb hby at_203) kq') ?_
              show OwnGo _ _ _ _ (T8.setTop (mkF m 204 #[.val (.int p0), .val (.long p1), .second, .val (.int p2), .val (.int p3), .val (.int kk), .val (.ref b1), .val (.int len), .val (.ref b3), .val (.ref b4), .val (.ref b5), .unset, .unset, .unset, .unset] [(.int (1 : Int32)), (.int len)]))
              by_cases hc204_26 : len.toInt = 1
              · refine OwnGo.fwd (fun tq' kq' => XS.icmpNo X8.here hx rfl (hb hby at_204) rfl (own_beq rfl (by decide) hc204_26).2 kq') ?_
                show OwnGo _ _ _ _ (T8.setTop (mkF m 207 #[.val (.int p0), .val (.long p1), .second, .val (.int p2), .val (.int p3), .val (.int kk), .val (.ref b1), .val (.int len), .val (.ref b3), .val (.ref b4), .val (.ref b5), .unset, .unset, .unset, .unset] []))
                obtain ⟨T27, h27, X27, e27, E27, A27, D27, -, st27⟩ := newO X8 hx hZ hown (hw _ (List.mem_of_getElem? (i := 35) rfl)) (hw _ (List.mem_of_getElem? (i := 36) rfl)) (hw _ (List.mem_of_getElem? (i := 37) rfl)) e8 (g := (mkF m 207 #[.val (.int p0), .val (.long p1), .second, .val (.int p2), .val (.int p3), .val (.int kk), .val (.ref b1), .val (.int len), .val (.ref b3), .val (.ref b4), .val (.ref b5), .unset, .unset, .unset, .unset] [])) rfl (hb hby at_207) (by decide) (by decide)
                obtain ⟨b27, g27⟩ : ∃ z, z = h8.size := ⟨_, rfl⟩
                rw [← g27] at A27 D27 st27
                have ne_b1_b27 : b1 ≠ b27 := Nat.ne_of_lt (Nat.lt_of_lt_of_le E_b1.lt (Nat.le_of_eq g27.symm))
                have ne_d_b27 : d ≠ b27 := Nat.ne_of_lt (Nat.lt_of_lt_of_le O_d.lt (Nat.le_of_eq g27.symm))
                have ne_b3_b27 : b3 ≠ b27 := Nat.ne_of_lt (Nat.lt_of_lt_of_le P_b3.lt (Nat.le_of_eq g27.symm))
                have ne_b4_b27 : b4 ≠ b27 := Nat.ne_of_lt (Nat.lt_of_lt_of_le P_b4.lt (Nat.le_of_eq g27.symm))
                have ne_b5_b27 : b5 ≠ b27 := Nat.ne_of_lt (Nat.lt_of_lt_of_le P_b5.lt (Nat.le_of_eq g27.symm))
                have g_b27 : n0 ≤ b27 := Nat.le_trans Zs (Nat.le_of_eq g27.symm)
                have sz_b27 : h0.size ≤ b27 := Nat.le_trans K.1 (Nat.le_of_eq g27.symm)
                have K := K.ext E27
                have Zs := Nat.le_trans Zs E27.1
                have E_b1 := E_b1.ext E27
                have F_elementData_b1 := F_elementData_b1.ext E27
                have F_size_b1 := F_size_b1.ext E27
                have O_d := O_d.ext E27
                have P_b3 := P_b3.ext E27
                have P_b4 := P_b4.ext E27
                have P_b5 := P_b5.ext E27
                have E_b27 := A27
                have F_value_b27 : Fld Z h27 b27 "java/lang/String" "value" "[B" .null := D27 (Or.inr (hw _ (List.mem_of_getElem? (i := 48) rfl))) (ty := (.array .byte)) (by decide)
                have F_coder_b27 : Fld Z h27 b27 "java/lang/String" "coder" "B" (.int (0 : Int32)) := D27 (Or.inr (hw _ (List.mem_of_getElem? (i := 49) rfl))) (ty := .byte) (by decide)
                refine OwnGo.fwd st27 ?_
                show OwnGo _ _ _ _ (T27.setTop (mkF m 210 #[.val (.int p0), .val (.long p1), .second, .val (.int p2), .val (.int p3), .val (.int kk), .val (.ref b1), .val (.int len), .val (.ref b3), .val (.ref b4), .val (.ref b5), .unset, .unset, .unset, .unset] [(.ref b27)]))
                refine OwnGo.fwd (fun tq' kq' => XS.dup X27.here hx rfl (hb hby at_210) rfl rfl kq') ?_
                show OwnGo _ _ _ _ (T27.setTop (mkF m 211 #[.val (.int p0), .val (.long p1), .second, .val (.int p2), .val (.int p3), .val (.int kk), .val (.ref b1), .val (.int len), .val (.ref b3), .val (.ref b4), .val (.ref b5), .unset, .unset, .unset, .unset] [(.ref b27), (.ref b27)]))
                refine OwnGo.fwd (fun tq' kq' => XS.aload X27.here hx rfl (hb hby at_211) rfl rfl kq') ?_
                show OwnGo _ _ _ _ (T27.setTop (mkF m 213 #[.val (.int p0), .val (.long p1), .second, .val (.int p2), .val (.int p3), .val (.int kk), .val (.ref b1), .val (.int len), .val (.ref b3), .val (.ref b4), .val (.ref b5), .unset, .unset, .unset, .unset] [(.ref b4), (.ref b27), (.ref b27)]))
                obtain ⟨_, _, ⟨T28, L28, k28, n28⟩, -, X28, ⟨Lc28, hQ28, l28, y28, z28⟩, st28⟩ := X27.specialBack hx (y := (⟨"java/lang/String", "<init>", "([C)V"⟩ : MethodName)) rfl hown (mvT hZ (hw _ (List.mem_of_getElem? (i := 38) rfl))) (mvT hZ (hw _ (List.mem_of_getElem? (i := 39) rfl))) (mvT hZ (hw _ (List.mem_of_getElem? (i := 40) rfl))) (by decide) (backOf (W := 1) (rm6_1 l Z a0 hw [] b27 b4 cs _ h27 n0 Zs E_b27 F_value_b27 F_coder_b27 g_b27 P_b4 (own_le1 (own_ch hv_c0)) (Ne.symm ne_b4_b27) (S0_COMPACT_STRINGS.ext (own_kext K)) hcs) hZ (hw _ (List.mem_of_getElem? (i := 40) rfl)) (hw _ (List.mem_of_getElem? (i := 37) rfl)) (by decide) (by decide)) (g := (mkF m 213 #[.val (.int p0), .val (.long p1), .second, .val (.int p2), .val (.int p3), .val (.int kk), .val (.ref b1), .val (.int len), .val (.ref b3), .val (.ref b4), .val (.ref b5), .unset, .unset, .unset, .unset] [(.ref b4), (.ref b27), (.ref b27)])) rfl (by rw [hml]; rfl) (Steps.refl _) (a := b27) (argsL := [(.ref b4)]) (rest := [(.ref b27)]) (lenOf pd_2 rfl) rfl (by show 2 * 0 + _ ≤ _; exact Nat.le_of_eq rfl) (hb hby at_213) (fun _ _ => ⟨rfl, e27, (by decide : 8 + 1 ≤ _), (by decide : 31 + 2 ≤ _)⟩)
                dsimp only [Pt.U, Pt.locs, Pt.cells, Pt.slots] at X28 l28 y28 z28 st28 hQ28
                subst l28 y28 z28
                obtain ⟨h28, eh28⟩ : ∃ z, z = T28.heap := ⟨_, rfl⟩
                rw [← eh28] at hQ28
                obtain ⟨rfl, N28q, K28, E_b27⟩ := hQ28
                have N := Fr.app N N28q
                have Zs := Nat.le_trans Zs K28.1
                have E_b1 := E_b1.keep K28
                have F_elementData_b1 := F_elementData_b1.keep K28 (ninS ne_b1_b27 nin0)
                have F_size_b1 := F_size_b1.keep K28 (ninS ne_b1_b27 nin0)
                have O_d := O_d.keep K28 (ninS ne_d_b27 nin0)
                have P_b3 := P_b3.keep K28 (ninS ne_b3_b27 nin0)
                have P_b4 := P_b4.keep K28 (ninS ne_b4_b27 nin0)
                have P_b5 := P_b5.keep K28 (ninS ne_b5_b27 nin0)
                have K := K.trans K28 (allS (Or.inr sz_b27) all0)
                refine OwnGo.thru st28 ?_
                show OwnGo _ _ _ _ (T28.setTop (mkF m 216 #[.val (.int p0), .val (.long p1), .second, .val (.int p2), .val (.int p3), .val (.int kk), .val (.ref b1), .val (.int len), .val (.ref b3), .val (.ref b4), .val (.ref b5), .unset, .unset, .unset, .unset] [(.ref b27)]))
                refine OwnGo.fwd (fun tq' kq' => XS.astore X28.here hx rfl (hb hby at_216) rfl rfl (l' := #[.val (.int p0), .val (.long p1), .second, .val (.int p2), .val (.int p3), .val (.int kk), .val (.ref b1), .val (.int len), .val (.ref b3), .val (.ref b4), .val (.ref b5), .val (.ref b27), .unset, .unset, .unset]) rfl kq') ?_
                show OwnGo _ _ _ _ (T28.setTop (mkF m 218 #[.val (.int p0), .val (.long p1), .second, .val (.int p2), .val (.int p3), .val (.int kk), .val (.ref b1), .val (.int len), .val (.ref b3), .val (.ref b4), .val (.ref b5), .val (.ref b27), .unset, .unset, .unset] []))
                refine OwnGo.fwd (fun tq' kq' => XS.goto X28.here hx rfl (pc0 := 218) (pc' := 232) rfl (hb hby at_218) (by decide) (by decide) kq') ?_
                show OwnGo _ _ _ _ (T28.setTop (mkF m 232 #[.val (.int p0), .val (.long p1), .second, .val (.int p2), .val (.int p3), .val (.int kk), .val (.ref b1), .val (.int len), .val (.ref b3), .val (.ref b4), .val (.ref b5), .val (.ref b27), .unset, .unset, .unset] []))
                have S_STRING := S0_STRING.ext (own_kext K)
                obtain ⟨T29, X29, e29, st29⟩ := getS2 X28 hx hZ hown (host := "") (Or.inl (hw _ (List.mem_of_getElem? (i := 54) rfl))) Via.refl eh28.symm S_STRING (g := (mkF m 232 #[.val (.int p0), .val (.long p1), .second, .val (.int p2), .val (.int p3), .val (.int kk), .val (.ref b1), .val (.int len), .val (.ref b3), .val (.ref b4), .val (.ref b5), .val (.ref b27), .unset, .unset, .unset] [])) rfl (hb hby at_232)
                refine OwnGo.fwd st29 ?_
                show OwnGo _ _ _ _ (T29.setTop (mkF m 235 #[.val (.int p0), .val (.long p1), .second, .val (.int p2), .val (.int p3), .val (.int kk), .val (.ref b1), .val (.int len), .val (.ref b3), .val (.ref b4), .val (.ref b5), .val (.ref b27), .unset, .unset, .unset] [(.ref vkSTRING)]))
                refine OwnGo.fwd (fun tq' kq' => XS.astore X29.here hx rfl (hb hby at_235) rfl rfl (l' := #[.val (.int p0), .val (.long p1), .second, .val (.int p2), .val (.int p3), .val (.int kk), .val (.ref b1), .val (.int len), .val (.ref b3), .val (.ref b4), .val (.ref b5), .val (.ref b27), .val (.ref vkSTRING), .unset, .unset]) rfl kq') ?_
                show OwnGo _ _ _ _ (T29.setTop (mkF m 237 #[.val (.int p0), .val (.long p1), .second, .val (.int p2), .val (.int p3), .val (.int kk), .val (.ref b1), .val (.int len), .val (.ref b3), .val (.ref b4), .val (.ref b5), .val (.ref b27), .val (.ref vkSTRING), .unset, .unset] []))
                refine OwnGo.fwd (fun tq' kq' => XS.goto X29.here hx rfl (pc0 := 237) (pc' := 316) rfl (hb hby at_237) (by decide) (by decide) kq') ?_
                show OwnGo _ _ _ _ (T29.setTop (mkF m 316 #[.val (.int p0), .val (.long p1), .second, .val (.int p2), .val (.int p3), .val (.int kk), .val (.ref b1), .val (.int len), .val (.ref b3), .val (.ref b4), .val (.ref b5), .val (.ref b27), .val (.ref vkSTRING), .unset, .unset] []))
                refine OwnGo.fwd (fun tq' kq' => XS.aload X29.here hx rfl (hb hby at_316) rfl rfl kq') ?_
                show OwnGo _ _ _ _ (T29.setTop (mkF m 318 #[.val (.int p0), .val (.long p1), .second, .val (.int p2), .val (.int p3), .val (.int kk), .val (.ref b1), .val (.int len), .val (.ref b3), .val (.ref b4), .val (.ref b5), .val (.ref b27), .val (.ref vkSTRING), .unset, .unset] [(.ref b27)]))
                obtain ⟨_, _, ⟨T30, L30, k30, n30⟩, -, X30, ⟨Lc30, hQ30, l30, y30, z30⟩, st30⟩ := Jvm.LawKit.callS X29 hx (y := (⟨"com/example/rolestack/rolestack/ValueKind", "of", "(Ljava/lang/Object;)Lcom/example/rolestack/rolestack/ValueKind;"⟩ : MethodName)) hown (mvT hZ (hw _ (List.mem_of_getElem? (i := 31) rfl))) (mvT hZ (hw _ (List.mem_of_getElem? (i := 32) rfl))) (mvT hZ (hw _ (List.mem_of_getElem? (i := 29) rfl))) (mvT hZ (hw _ (List.mem_of_getElem? (i := 33) rfl))) (by decide) (backOf (W := 0) (rm5s l Z a0 hw [] b27 vkSTRING h28 n0 Zs (S0_STRING.ext (own_kext K)) E_b27) hZ (hw _ (List.mem_of_getElem? (i := 33) rfl)) (hw _ (List.mem_of_getElem? (i := 29) rfl)) (by decide) (by decide)) (g := (mkF m 318 #[.val (.int p0), .val (.long p1), .second, .val (.int p2), .val (.int p3), .val (.int kk), .val (.ref b1), .val (.int len), .val (.ref b3), .val (.ref b4), .val (.ref b5), .val (.ref b27), .val (.ref vkSTRING), .unset, .unset] [(.ref b27)])) rfl (by rw [hml]; rfl) (argsL := [(.ref b27)]) (rest := []) (lenOf pd_1 rfl) rfl (by show 2 * 0 + _ ≤ _; exact Nat.le_of_eq rfl) (hb hby at_318) (fun _ _ => ⟨rfl, e29, (by decide : 9 + 0 ≤ _), (by decide : 33 + 0 ≤ _)⟩)
                dsimp only [Pt.U, Pt.locs, Pt.cells, Pt.slots] at X30 l30 y30 z30 st30 hQ30
                subst l30 y30 z30
                obtain ⟨rfl, N30q, e30⟩ := hQ30
                have N := Fr.app N N30q
                refine OwnGo.fwd st30 ?_
                show OwnGo _ _ _ _ (T30.setTop (mkF m 321 #[.val (.int p0), .val (.long p1), .second, .val (.int p2), .val (.int p3), .val (.int kk), .val (.ref b1), .val (.int len), .val (.ref b3), .val (.ref b4), .val (.ref b5), .val (.ref b27), .val (.ref vkSTRING), .unset, .unset] [(.ref vkSTRING)]))
                refine OwnGo.fwd (fun tq' kq' => XS.astore X30.here hx rfl (hb hby at_321) rfl rfl (l' := #[.val (.int p0), .val (.long p1), .second, .val (.int p2), .val (.int p3), .val (.int kk), .val (.ref b1), .val (.int len), .val (.ref b3), .val (.ref b4), .val (.ref b5), .val (.ref b27), .val (.ref vkSTRING), .val (.ref vkSTRING), .unset]) rfl kq') ?_
                show OwnGo _ _ _ _ (T30.setTop (mkF m 323 #[.val (.int p0), .val (.long p1), .second, .val (.int p2), .val (.int p3), .val (.int kk), .val (.ref b1), .val (.int len), .val (.ref b3), .val (.ref b4), .val (.ref b5), .val (.ref b27), .val (.ref vkSTRING), .val (.ref vkSTRING), .unset] []))
                refine OwnGo.fwd (fun tq' kq' => XS.aload X30.here hx rfl (hb hby at_323) rfl rfl kq') ?_
                show OwnGo _ _ _ _ (T30.setTop (mkF m 325 #[.val (.int p0), .val (.long p1), .second, .val (.int p2), .val (.int p3), .val (.int kk), .val (.ref b1), .val (.int len), .val (.ref b3), .val (.ref b4), .val (.ref b5), .val (.ref b27), .val (.ref vkSTRING), .val (.ref vkSTRING), .unset] [(.ref vkSTRING)]))
                refine OwnGo.fwd (fun tq' kq' => XS.aload X30.here hx rfl (hb hby at_325) rfl rfl kq') ?_
                show OwnGo _ _ _ _ (T30.setTop (mkF m 327 #[.val (.int p0), .val (.long p1), .second, .val (.int p2), .val (.int p3), .val (.int kk), .val (.ref b1), .val (.int len), .val (.ref b3), .val (.ref b4), .val (.ref b5), .val (.ref b27), .val (.ref vkSTRING), .val (.ref vkSTRING), .unset] [(.ref vkSTRING), (.ref vkSTRING)]))
                refine OwnGo.fwd (fun tq' kq' => Jvm.RoadKit.acmp (g := (mkF m 327 #[.val (.int p0), .val (.long p1), .second, .val (.int p2), .val (.int p3), .val (.int kk), .val (.ref b1), .val (.int len), .val (.ref b3), .val (.ref b4), .val (.ref b5), .val (.ref b27), .val (.ref vkSTRING), .val (.ref vkSTRING), .unset] [(.ref vkSTRING), (.ref vkSTRING)])) X30 hx rfl rfl rfl (pc0 := 327) (pc' := 330) (same := true) rfl (hb hby at_327) rfl (decide_eq_true rfl) (by decide) (by decide) kq') ?_
                show OwnGo _ _ _ _ (T30.setTop (mkF m 330 #[.val (.int p0), .val (.long p1), .second, .val (.int p2), .val (.int p3), .val (.int kk), .val (.ref b1), .val (.int len), .val (.ref b3), .val (.ref b4), .val (.ref b5), .val (.ref b27), .val (.ref vkSTRING), .val (.ref vkSTRING), .unset] []))
                refine OwnGo.fwd (fun tq' kq' => XS.iconst X30.here hx rfl (hb hby at_330) kq') ?_
                show OwnGo _ _ _ _ (T30.setTop (mkF m 331 #[.val (.int p0), .val (.long p1), .second, .val (.int p2), .val (.int p3), .val (.int kk), .val (.ref b1), .val (.int len), .val (.ref b3), .val (.ref b4), .val (.ref b5), .val (.ref b27), .val (.ref vkSTRING), .val (.ref vkSTRING), .unset] [(.int (1 : Int32))]))
                refine OwnGo.fwd (fun tq' kq' => XS.goto X30.here hx rfl (pc0 := 331) (pc' := 335) rfl (hb hby at_331) (by decide) (by decide) kq') ?_
                show OwnGo _ _ _ _ (T30.setTop (mkF m 335 #[.val (.int p0), .val (.long p1), .second, .val (.int p2), .val (.int p3), .val (.int kk), .val (.ref b1), .val (.int len), .val (.ref b3), .val (.ref b4), .val (.ref b5), .val (.ref b27), .val (.ref vkSTRING), .val (.ref vkSTRING), .unset] [(.int (1 : Int32))]))
                exact OwnGo.wide (own_retZ X30 hlk hx Bd.returns (hb hby at_335) (by decide) (by decide) e30 ⟨rfl, N⟩)
              · refine OwnGo.fwd (fun tq' kq' => XS.icmpYes X8.here hx rfl (pc0 := 204) (pc' := 221) rfl (hb hby at_204) rfl (own_bneq rfl (by decide) hc204_26).2 (by decide) (by decide) kq') ?_
                show OwnGo _ _ _ _ (T8.setTop (mkF m 221 #[.val (.int p0), .val (.long p1), .second, .val (.int p2), .val (.int p3), .val (.int kk), .val (.ref b1), .val (.int len), .val (.ref b3), .val (.ref b4), .val (.ref b5), .unset, .unset, .unset, .unset] []))
                obtain ⟨T31, h31, X31, e31, E31, A31, D31, -, st31⟩ := newO X8 hx hZ hown (hw _ (List.mem_of_getElem? (i := 35) rfl)) (hw _ (List.mem_of_getElem? (i := 36) rfl)) (hw _ (List.mem_of_getElem? (i := 37) rfl)) e8 (g := (mkF m 221 #[.val (.int p0), .val (.long p1), .second, .val (.int p2), .val (.int p3), .val (.int kk), .val (.ref b1), .val (.int len), .val (.ref b3), .val (.ref b4), .val (.ref b5), .unset, .unset, .unset, .unset] [])) rfl (hb hby at_221) (by decide) (by decide)
                obtain ⟨b31, g31⟩ : ∃ z, z = h8.size := ⟨_, rfl⟩
                rw [← g31] at A31 D31 st31
                have ne_b1_b31 : b1 ≠ b31 := Nat.ne_of_lt (Nat.lt_of_lt_of_le E_b1.lt (Nat.le_of_eq g31.symm))
                have ne_d_b31 : d ≠ b31 := Nat.ne_of_lt (Nat.lt_of_lt_of_le O_d.lt (Nat.le_of_eq g31.symm))
                have ne_b3_b31 : b3 ≠ b31 := Nat.ne_of_lt (Nat.lt_of_lt_of_le P_b3.lt (Nat.le_of_eq g31.symm))
                have ne_b4_b31 : b4 ≠ b31 := Nat.ne_of_lt (Nat.lt_of_lt_of_le P_b4.lt (Nat.le_of_eq g31.symm))
                have ne_b5_b31 : b5 ≠ b31 := Nat.ne_of_lt (Nat.lt_of_lt_of_le P_b5.lt (Nat.le_of_eq g31.symm))
                have g_b31 : n0 ≤ b31 := Nat.le_trans Zs (Nat.le_of_eq g31.symm)
                have sz_b31 : h0.size ≤ b31 := Nat.le_trans K.1 (Nat.le_of_eq g31.symm)
                have K := K.ext E31
                have Zs := Nat.le_trans Zs E31.1
                have E_b1 := E_b1.ext E31
                have F_elementData_b1 := F_elementData_b1.ext E31
                have F_size_b1 := F_size_b1.ext E31
                have O_d := O_d.ext E31
                have P_b3 := P_b3.ext E31
                have P_b4 := P_b4.ext E31
                have P_b5 := P_b5.ext E31
                have E_b31 := A31
                have F_value_b31 : Fld Z h31 b31 "java/lang/String" "value" "[B" .null := D31 (Or.inr (hw _ (List.mem_of_getElem? (i := 48) rfl))) (ty := (.array .byte)) (by decide)
                have F_coder_b31 : Fld Z h31 b31 "java/lang/String" "coder" "B" (.int (0 : Int32)) := D31 (Or.inr (hw _ (List.mem_of_getElem? (i := 49) rfl))) (ty := .byte) (by decide)
                refine OwnGo.fwd st31 ?_
                show OwnGo _ _ _ _ (T31.setTop (mkF m 224 #[.val (.int p0), .val (.long p1), .second, .val (.int p2), .val (.int p3), .val (.int kk), .val (.ref b1), .val (.int len), .val (.ref b3), .val (.ref b4), .val (.ref b5), .unset, .unset, .unset, .unset] [(.ref b31)]))
                refine OwnGo.fwd (fun tq' kq' => XS.dup X31.here hx rfl (hb hby at_224) rfl rfl kq') ?_
                show OwnGo _ _ _ _ (T31.setTop (mkF m 225 #[.val (.int p0), .val (.long p1), .second, .val (.int p2), .val (.int p3), .val (.int kk), .val (.ref b1), .val (.int len), .val (.ref b3), .val (.ref b4), .val (.ref b5), .unset, .unset, .unset, .unset] [(.ref b31), (.ref b31)]))
                refine OwnGo.fwd (fun tq' kq' => XS.aload X31.here hx rfl (hb hby at_225) rfl rfl kq') ?_
                show OwnGo _ _ _ _ (T31.setTop (mkF m 227 #[.val (.int p0), .val (.long p1), .second, .val (.int p2), .val (.int p3), .val (.int kk), .val (.ref b1), .val (.int len), .val (.ref b3), .val (.ref b4), .val (.ref b5), .unset, .unset, .unset, .unset] [(.ref b5), (.ref b31), (.ref b31)]))
                obtain ⟨_, _, ⟨T32, L32, k32, n32⟩, -, X32, ⟨Lc32, hQ32, l32, y32, z32⟩, st32⟩ := X31.specialBack hx (y := (⟨"java/lang/String", "<init>", "([C)V"⟩ : MethodName)) rfl hown (mvT hZ (hw _ (List.mem_of_getElem? (i := 38) rfl))) (mvT hZ (hw _ (List.mem_of_getElem? (i := 39) rfl))) (mvT hZ (hw _ (List.mem_of_getElem? (i := 40) rfl))) (by decide) (backOf (W := 1) (rm6_2 l Z a0 hw [] b31 b5 cs _ h31 n0 Zs E_b31 F_value_b31 F_coder_b31 g_b31 P_b5 (own_le2 (own_ch hv_c1) (own_ch hv_c2)) (Ne.symm ne_b5_b31) (S0_COMPACT_STRINGS.ext (own_kext K)) hcs) hZ (hw _ (List.mem_of_getElem? (i := 40) rfl)) (hw _ (List.mem_of_getElem? (i := 37) rfl)) (by decide) (by decide)) (g := (mkF m 227 #[.val (.int p0), .val (.long p1), .second, .val (.int p2), .val (.int p3), .val (.int kk), .val (.ref b1), .val (.int len), .val (.ref b3), .val (.ref b4), .val (.ref b5), .unset, .unset, .unset, .unset] [(.ref b5), (.ref b31), (.ref b31)])) rfl (by rw [hml]; rfl) (Steps.refl _) (a := b31) (argsL := [(.ref b5)]) (rest := [(.ref b31)]) (lenOf pd_2 rfl) rfl (by show 2 * 0 + _ ≤ _; exact Nat.le_of_eq rfl) (hb hby at_227) (fun _ _ => ⟨rfl, e31, (by decide : 8 + 1 ≤ _), (by decide : 31 + 2 ≤ _)⟩)
                dsimp only [Pt.U, Pt.locs, Pt.cells, Pt.slots] at X32 l32 y32 z32 st32 hQ32
                subst l32 y32 z32
                obtain ⟨h32, eh32⟩ : ∃ z, z = T32.heap := ⟨_, rfl⟩
                rw [← eh32] at hQ32
                obtain ⟨rfl, N32q, K32, E_b31⟩ := hQ32
                have N := Fr.app N N32q
                have Zs := Nat.le_trans Zs K32.1
                have E_b1 := E_b1.keep K32
                have F_elementData_b1 := F_elementData_b1.keep K32 (ninS ne_b1_b31 nin0)
                have F_size_b1 := F_size_b1.keep K32 (ninS ne_b1_b31 nin0)
                have O_d := O_d.keep K32 (ninS ne_d_b31 nin0)
                have P_b3 := P_b3.keep K32 (ninS ne_b3_b31 nin0)
                have P_b4 := P_b4.keep K32 (ninS ne_b4_b31 nin0)
                have P_b5 := P_b5.keep K32 (ninS ne_b5_b31 nin0)
                have K := K.trans K32 (allS (Or.inr sz_b31) all0)
                refine OwnGo.thru st32 ?_
                show OwnGo _ _ _ _ (T32.setTop (mkF m 230 #[.val (.int p0), .val (.long p1), .second, .val (.int p2), .val (.int p3), .val (.int kk), .val (.ref b1), .val (.int len), .val (.ref b3), .val (.ref b4), .val (.ref b5), .unset, .unset, .unset, .unset] [(.ref b31)]))
                refine OwnGo.fwd (fun tq' kq' => XS.astore X32.here hx rfl (hb hby at_230) rfl rfl (l' := #[.val (.int p0), .val (.long p1), .second, .val (.int p2), .val (.int p3), .val (.int kk), .val (.ref b1), .val (.int len), .val (.ref b3), .val (.ref b4), .val (.ref b5), .val (.ref b31), .unset, .unset, .unset]) rfl kq') ?_
                show OwnGo _ _ _ _ (T32.setTop (mkF m 232 #[.val (.int p0), .val (.long p1), .second, .val (.int p2), .val (.int p3), .val (.int kk), .val (.ref b1), .val (.int len), .val (.ref b3), .val (.ref b4), .val (.ref b5), .val (.ref b31), .unset, .unset, .unset] []))
                have S_STRING := S0_STRING.ext (own_kext K)
                obtain ⟨T33, X33, e33, st33⟩ := getS2 X32 hx hZ hown (host := "") (Or.inl (hw _ (List.mem_of_getElem? (i := 54) rfl))) Via.refl eh32.symm S_STRING (g := (mkF m 232 #[.val (.int p0), .val (.long p1), .second, .val (.int p2), .val (.int p3), .val (.int kk), .val (.ref b1), .val (.int len), .val (.ref b3), .val (.ref b4), .val (.ref b5), .val (.ref b31), .unset, .unset, .unset] [])) rfl (hb hby at_232)
                refine OwnGo.fwd st33 ?_
                show OwnGo _ _ _ _ (T33.setTop (mkF m 235 #[.val (.int p0), .val (.long p1), .second, .val (.int p2), .val (.int p3), .val (.int kk), .val (.ref b1), .val (.int len), .val (.ref b3), .val (.ref b4), .val (.ref b5), .val (.ref b31), .unset, .unset, .unset] [(.ref vkSTRING)]))
                refine OwnGo.fwd (fun tq' kq' => XS.astore X33.here hx rfl (hb hby at_235) rfl rfl (l' := #[.val (.int p0), .val (.long p1), .second, .val (.int p2), .val (.int p3), .val (.int kk), .val (.ref b1), .val (.int len), .val (.ref b3), .val (.ref b4), .val (.ref b5), .val (.ref b31), .val (.ref vkSTRING), .unset, .unset]) rfl kq') ?_
                show OwnGo _ _ _ _ (T33.setTop (mkF m 237 #[.val (.int p0), .val (.long p1), .second, .val (.int p2), .val (.int p3), .val (.int kk), .val (.ref b1), .val (.int len), .val (.ref b3), .val (.ref b4), .val (.ref b5), .val (.ref b31), .val (.ref vkSTRING), .unset, .unset] []))
                refine OwnGo.fwd (fun tq' kq' => XS.goto X33.here hx rfl (pc0 := 237) (pc' := 316) rfl (hb hby at_237) (by decide) (by decide) kq') ?_
                show OwnGo _ _ _ _ (T33.setTop (mkF m 316 #[.val (.int p0), .val (.long p1), .second, .val (.int p2), .val (.int p3), .val (.int kk), .val (.ref b1), .val (.int len), .val (.ref b3), .val (.ref b4), .val (.ref b5), .val (.ref b31), .val (.ref vkSTRING), .unset, .unset] []))
                refine OwnGo.fwd (fun tq' kq' => XS.aload X33.here hx rfl (hb hby at_316) rfl rfl kq') ?_
                show OwnGo _ _ _ _ (T33.setTop (mkF m 318 #[.val (.int p0), .val (.long p1), .second, .val (.int p2), .val (.int p3), .val (.int kk), .val (.ref b1), .val (.int len), .val (.ref b3), .val (.ref b4), .val (.ref b5), .val (.ref b31), .val (.ref vkSTRING), .unset, .unset] [(.ref b31)]))
                obtain ⟨_, _, ⟨T34, L34, k34, n34⟩, -, X34, ⟨Lc34, hQ34, l34, y34, z34⟩, st34⟩ := Jvm.LawKit.callS X33 hx (y := (⟨"com/example/rolestack/rolestack/ValueKind", "of", "(Ljava/lang/Object;)Lcom/example/rolestack/rolestack/ValueKind;"⟩ : MethodName)) hown (mvT hZ (hw _ (List.mem_of_getElem? (i := 31) rfl))) (mvT hZ (hw _ (List.mem_of_getElem? (i := 32) rfl))) (mvT hZ (hw _ (List.mem_of_getElem? (i := 29) rfl))) (mvT hZ (hw _ (List.mem_of_getElem? (i := 33) rfl))) (by decide) (backOf (W := 0) (rm5s l Z a0 hw [] b31 vkSTRING h32 n0 Zs (S0_STRING.ext (own_kext K)) E_b31) hZ (hw _ (List.mem_of_getElem? (i := 33) rfl)) (hw _ (List.mem_of_getElem? (i := 29) rfl)) (by decide) (by decide)) (g := (mkF m 318 #[.val (.int p0), .val (.long p1), .second, .val (.int p2), .val (.int p3), .val (.int kk), .val (.ref b1), .val (.int len), .val (.ref b3), .val (.ref b4), .val (.ref b5), .val (.ref b31), .val (.ref vkSTRING), .unset, .unset] [(.ref b31)])) rfl (by rw [hml]; rfl) (argsL := [(.ref b31)]) (rest := []) (lenOf pd_1 rfl) rfl (by show 2 * 0 + _ ≤ _; exact Nat.le_of_eq rfl) (hb hby at_318) (fun _ _ => ⟨rfl, e33, (by decide : 9 + 0 ≤ _), (by decide : 33 + 0 ≤ _)⟩)
                dsimp only [Pt.U, Pt.locs, Pt.cells, Pt.slots] at X34 l34 y34 z34 st34 hQ34
                subst l34 y34 z34
                obtain ⟨rfl, N34q, e34⟩ := hQ34
                have N := Fr.app N N34q
                refine OwnGo.fwd st34 ?_
                show OwnGo _ _ _ _ (T34.setTop (mkF m 321 #[.val (.int p0), .val (.long p1), .second, .val (.int p2), .val (.int p3), .val (.int kk), .val (.ref b1), .val (.int len), .val (.ref b3), .val (.ref b4), .val (.ref b5), .val (.ref b31), .val (.ref vkSTRING), .unset, .unset] [(.ref vkSTRING)]))
                refine OwnGo.fwd (fun tq' kq' => XS.astore X34.here hx rfl (hb hby at_321) rfl rfl (l' := #[.val (.int p0), .val (.long p1), .second, .val (.int p2), .val (.int p3), .val (.int kk), .val (.ref b1), .val (.int len), .val (.ref b3), .val (.ref b4), .val (.ref b5), .val (.ref b31), .val (.ref vkSTRING), .val (.ref vkSTRING), .unset]) rfl kq') ?_
                show OwnGo _ _ _ _ (T34.setTop (mkF m 323 #[.val (.int p0), .val (.long p1), .second, .val (.int p2), .val (.int p3), .val (.int kk), .val (.ref b1), .val (.int len), .val (.ref b3), .val (.ref b4), .val (.ref b5), .val (.ref b31), .val (.ref vkSTRING), .val (.ref vkSTRING), .unset] []))
                refine OwnGo.fwd (fun tq' kq' => XS.aload X34.here hx rfl (hb hby at_323) rfl rfl kq') ?_
                show OwnGo _ _ _ _ (T34.setTop (mkF m 325 #[.val (.int p0), .val (.long p1), .second, .val (.int p2), .val (.int p3), .val (.int kk), .val (.ref b1), .val (.int len), .val (.ref b3), .val (.ref b4), .val (.ref b5), .val (.ref b31), .val (.ref vkSTRING), .val (.ref vkSTRING), .unset] [(.ref vkSTRING)]))
                refine OwnGo.fwd (fun tq' kq' => XS.aload X34.here hx rfl (hb hby at_325) rfl rfl kq') ?_
                show OwnGo _ _ _ _ (T34.setTop (mkF m 327 #[.val (.int p0), .val (.long p1), .second, .val (.int p2), .val (.int p3), .val (.int kk), .val (.ref b1), .val (.int len), .val (.ref b3), .val (.ref b4), .val (.ref b5), .val (.ref b31), .val (.ref vkSTRING), .val (.ref vkSTRING), .unset] [(.ref vkSTRING), (.ref vkSTRING)]))
                refine OwnGo.fwd (fun tq' kq' => Jvm.RoadKit.acmp (g := (mkF m 327 #[.val (.int p0), .val (.long p1), .second, .val (.int p2), .val (.int p3), .val (.int kk), .val (.ref b1), .val (.int len), .val (.ref b3), .val (.ref b4), .val (.ref b5), .val (.ref b31), .val (.ref vkSTRING), .val (.ref vkSTRING), .unset] [(.ref vkSTRING), (.ref vkSTRING)])) X34 hx rfl rfl rfl (pc0 := 327) (pc' := 330) (same := true) rfl (hb hby at_327) rfl (decide_eq_true rfl) (by decide) (by decide) kq') ?_
                show OwnGo _ _ _ _ (T34.setTop (mkF m 330 #[.val (.int p0), .val (.long p1), .second, .val (.int p2), .val (.int p3), .val (.int kk), .val (.ref b1), .val (.int len), .val (.ref b3), .val (.ref b4), .val (.ref b5), .val (.ref b31), .val (.ref vkSTRING), .val (.ref vkSTRING), .unset] []))
                refine OwnGo.fwd (fun tq' kq' => XS.iconst X34.here hx rfl (hb hby at_330) kq') ?_
                show OwnGo _ _ _ _ (T34.setTop (mkF m 331 #[.val (.int p0), .val (.long p1), .second, .val (.int p2), .val (.int p3), .val (.int kk), .val (.ref b1), .val (.int len), .val (.ref b3), .val (.ref b4), .val (.ref b5), .val (.ref b31), .val (.ref vkSTRING), .val (.ref vkSTRING), .unset] [(.int (1 : Int32))]))
                refine OwnGo.fwd (fun tq' kq' => XS.goto X34.here hx rfl (pc0 := 331) (pc' := 335) rfl (hb hby at_331) (by decide) (by decide) kq') ?_
                show OwnGo _ _ _ _ (T34.setTop (mkF m 335 #[.val (.int p0), .val (.long p1), .second, .val (.int p2), .val (.int p3), .val (.int kk), .val (.ref b1), .val (.int len), .val (.ref b3), .val (.ref b4), .val (.ref b5), .val (.ref b31), .val (.ref vkSTRING), .val (.ref vkSTRING), .unset] [(.int (1 : Int32))]))
                exact OwnGo.wide (own_retZ X34 hlk hx Bd.returns (hb hby at_335) (by decide) (by decide) e34 ⟨rfl, N⟩)
          · refine OwnGo.fwd (fun tq' kq' => XS.icmpYes X8.here hx rfl (pc0 := 179) (pc' := 240) rfl (hb hby at_179) rfl (own_bneq rfl (by decide) hc179_20).2 (by decide) (by decide) kq') ?_
            show OwnGo _ _ _ _ (T8.setTop (mkF m 240 #[.val (.int p0), .val (.long p1), .second, .val (.int p2), .val (.int p3), .val (.int kk), .val (.ref b1), .val (.int len), .val (.ref b3), .val (.ref b4), .val (.ref b5), .unset, .unset, .unset, .unset] []))
            refine OwnGo.fwd (fun tq' kq' => XS.iload X8.here hx rfl (hb hby at_240) rfl kq') ?_
            show OwnGo _ _ _ _ (T8.setTop (mkF m 242 #[.val (.int p0), .val (.long p1), .second, .val (.int p2), .val (.int p3), .val (.int kk), .val (.ref b1), .val (.int len), .val (.ref b3), .val (.ref b4), .val (.ref b5), .unset, .unset, .unset, .unset] [(.int kk)]))
            refine OwnGo.fwd (fun tq' kq' => XS.iconst X8.here hx rfl (hb hby at_242) kq') ?_
            show OwnGo _ _ _ _ (T8.setTop (mkF m 243 #[.val (.int p0), .val (.long p1), .second, .val (.int p2), .val (.int p3), .val (.int kk), .val (.ref b1), .val (.int len), .val (.ref b3), .val (.ref b4), .val (.ref b5), .unset, .unset, .unset, .unset] [(.int (4 : Int32)), (.int kk)]))
            by_cases hc243_35 : kk.toInt = 4
            · refine OwnGo.fwd (fun tq' kq' => XS.icmpNo X8.here hx rfl (hb hby at_243) rfl (own_beq rfl (by decide) hc243_35).2 kq') ?_
              show OwnGo _ _ _ _ (T8.setTop (mkF m 246 #[.val (.int p0), .val (.long p1), .second, .val (.int p2), .val (.int p3), .val (.int kk), .val (.ref b1), .val (.int len), .val (.ref b3), .val (.ref b4), .val (.ref b5), .unset, .unset, .unset, .unset] []))
              obtain ⟨T36, h36, X36, e36, E36, A36, D36, -, st36⟩ := newO X8 hx hZ hown (hw _ (List.mem_of_getElem? (i := 119) rfl)) (hw _ (List.mem_of_getElem? (i := 120) rfl)) (hw _ (List.mem_of_getElem? (i := 121) rfl)) e8 (g := (mkF m 246 #[.val (.int p0), .val (.long p1), .second, .val (.int p2), .val (.int p3), .val (.int kk), .val (.ref b1), .val (.int len), .val (.ref b3), .val (.ref b4), .val (.ref b5), .unset, .unset, .unset, .unset] [])) rfl (hb hby at_246) (by decide) (by decide)
              obtain ⟨b36, g36⟩ : ∃ z, z = h8.size := ⟨_, rfl⟩
              rw [← g36] at A36 D36 st36
              have ne_b1_b36 : b1 ≠ b36 := Nat.ne_of_lt (Nat.lt_of_lt_of_le E_b1.lt (Nat.le_of_eq g36.symm))
              have ne_d_b36 : d ≠ b36 := Nat.ne_of_lt (Nat.lt_of_lt_of_le O_d.lt (Nat.le_of_eq g36.symm))
              have ne_b3_b36 : b3 ≠ b36 := Nat.ne_of_lt (Nat.lt_of_lt_of_le P_b3.lt (Nat.le_of_eq g36.symm))
              have ne_b4_b36 : b4 ≠ b36 := Nat.ne_of_lt (Nat.lt_of_lt_of_le P_b4.lt (Nat.le_of_eq g36.symm))
              have ne_b5_b36 : b5 ≠ b36 := Nat.ne_of_lt (Nat.lt_of_lt_of_le P_b5.lt (Nat.le_of_eq g36.symm))
              have g_b36 : n0 ≤ b36 := Nat.le_trans Zs (Nat.le_of_eq g36.symm)
              have sz_b36 : h0.size ≤ b36 := Nat.le_trans K.1 (Nat.le_of_eq g36.symm)
              have K := K.ext E36
              have Zs := Nat.le_trans Zs E36.1
              have E_b1 := E_b1.ext E36
              have F_elementData_b1 := F_elementData_b1.ext E36
              have F_size_b1 := F_size_b1.ext E36
              have O_d := O_d.ext E36
              have P_b3 := P_b3.ext E36
              have P_b4 := P_b4.ext E36
              have P_b5 := P_b5.ext E36
              have E_b36 := A36
              have F_database_b36 : Fld Z h36 b36 "com/example/rolestack/rolestack/StoredObject" "database" "Lcom/example/rolestack/rolestack/Database;" .null := D36 (Or.inr (hw _ (List.mem_of_getElem? (i := 127) rfl))) (ty := (.object "com/example/rolestack/rolestack/Database")) (by decide)
              have F_id_b36 : Fld Z h36 b36 "com/example/rolestack/rolestack/StoredObject" "id" "I" (.int (0 : Int32)) := D36 (Or.inr (hw _ (List.mem_of_getElem? (i := 129) rfl))) (ty := .int) (by decide)
              refine OwnGo.fwd st36 ?_
              show OwnGo _ _ _ _ (T36.setTop (mkF m 249 #[.val (.int p0), .val (.long p1), .second, .val (.int p2), .val (.int p3), .val (.int kk), .val (.ref b1), .val (.int len), .val (.ref b3), .val (.ref b4), .val (.ref b5), .unset, .unset, .unset, .unset] [(.ref b36)]))
              refine OwnGo.fwd (fun tq' kq' => XS.dup X36.here hx rfl (hb hby at_249) rfl rfl kq') ?_
              show OwnGo _ _ _ _ (T36.setTop (mkF m 250 #[.val (.int p0), .val (.long p1), .second, .val (.int p2), .val (.int p3), .val (.int kk), .val (.ref b1), .val (.int len), .val (.ref b3), .val (.ref b4), .val (.ref b5), .unset, .unset, .unset, .unset] [(.ref b36), (.ref b36)]))
              refine OwnGo.fwd (fun tq' kq' => XS.aconstNull X36.here hx rfl (hb hby at_250) kq') ?_
              show OwnGo _ _ _ _ (T36.setTop (mkF m 251 #[.val (.int p0), .val (.long p1), .second, .val (.int p2), .val (.int p3), .val (.int kk), .val (.ref b1), .val (.int len), .val (.ref b3), .val (.ref b4), .val (.ref b5), .unset, .unset, .unset, .unset] [.null, (.ref b36), (.ref b36)]))
              refine OwnGo.fwd (fun tq' kq' => XS.iloadN X36.here hx rfl (hb hby at_251) rfl kq') ?_
              show OwnGo _ _ _ _ (T36.setTop (mkF m 252 #[.val (.int p0), .val (.long p1), .second, .val (.int p2), .val (.int p3), .val (.int kk), .val (.ref b1), .val (.int len), .val (.ref b3), .val (.ref b4), .val (.ref b5), .unset, .unset, .unset, .unset] [(.int p2), .null, (.ref b36), (.ref b36)]))
              obtain ⟨_, _, ⟨T37, L37, k37, n37⟩, -, X37, ⟨Lc37, hQ37, l37, y37, z37⟩, st37⟩ := X36.specialBack hx (y := (⟨"com/example/rolestack/rolestack/StoredObject", "<init>", "(Lcom/example/rolestack/rolestack/Database;I)V"⟩ : MethodName)) rfl hown (mvT hZ (hw _ (List.mem_of_getElem? (i := 122) rfl))) (mvT hZ (hw _ (List.mem_of_getElem? (i := 123) rfl))) (mvT hZ (hw _ (List.mem_of_getElem? (i := 124) rfl))) (by decide) (backOf (W := 1) (rm16 l Z a0 hw [] b36 p2 h36 n0 Zs E_b36 F_database_b36 F_id_b36 g_b36) hZ (hw _ (List.mem_of_getElem? (i := 124) rfl)) (hw _ (List.mem_of_getElem? (i := 121) rfl)) (by decide) (by decide)) (g := (mkF m 252 #[.val (.int p0), .val (.long p1), .second, .val (.int p2), .val (.int p3), .val (.int kk), .val (.ref b1), .val (.int len), .val (.ref b3), .val (.ref b4), .val (.ref b5), .unset, .unset, .unset, .unset] [(.int p2), .null, (.ref b36), (.ref b36)])) rfl (by rw [hml]; rfl) (Steps.refl _) (a := b36) (argsL := [.null, (.int p2)]) (rest := [(.ref b36)]) (lenOf pd_11 rfl) rfl (by show 2 * 0 + _ ≤ _; exact Nat.le_of_eq rfl) (hb hby at_252) (fun _ _ => ⟨rfl, e36, (by decide : 8 + 0 ≤ _), (by decide : 29 + 0 ≤ _)⟩)
              dsimp only [Pt.U, Pt.locs, Pt.cells, Pt.slots] at X37 l37 y37 z37 st37 hQ37
              subst l37 y37 z37
              obtain ⟨h37, eh37⟩ : ∃ z, z = T37.heap := ⟨_, rfl⟩
              rw [← eh37] at hQ37
              obtain ⟨rfl, N37q, K37, E_b36⟩ := hQ37
              have N := Fr.app N N37q
              have Zs := Nat.le_trans Zs K37.1
              have E_b1 := E_b1.keep K37
              have F_elementData_b1 := F_elementData_b1.keep K37 (ninS ne_b1_b36 nin0)
              have F_size_b1 := F_size_b1.keep K37 (ninS ne_b1_b36 nin0)
              have O_d := O_d.keep K37 (ninS ne_d_b36 nin0)
              have P_b3 := P_b3.keep K37 (ninS ne_b3_b36 nin0)
              have P_b4 := P_b4.keep K37 (ninS ne_b4_b36 nin0)
              have P_b5 := P_b5.keep K37 (ninS ne_b5_b36 nin0)
              have K := K.trans K37 (allS (Or.inr sz_b36) all0)
              refine OwnGo.thru st37 ?_
              show OwnGo _ _ _ _ (T37.setTop (mkF m 255 #[.val (.int p0), .val (.long p1), .second, .val (.int p2), .val (.int p3), .val (.int kk), .val (.ref b1), .val (.int len), .val (.ref b3), .val (.ref b4), .val (.ref b5), .unset, .unset, .unset, .unset] [(.ref b36)]))
              refine OwnGo.fwd (fun tq' kq' => XS.astore X37.here hx rfl (hb hby at_255) rfl rfl (l' := #[.val (.int p0), .val (.long p1), .second, .val (.int p2), .val (.int p3), .val (.int kk), .val (.ref b1), .val (.int len), .val (.ref b3), .val (.ref b4), .val (.ref b5), .val (.ref b36), .unset, .unset, .unset]) rfl kq') ?_
              show OwnGo _ _ _ _ (T37.setTop (mkF m 257 #[.val (.int p0), .val (.long p1), .second, .val (.int p2), .val (.int p3), .val (.int kk), .val (.ref b1), .val (.int len), .val (.ref b3), .val (.ref b4), .val (.ref b5), .val (.ref b36), .unset, .unset, .unset] []))
              have S_LINK := S0_LINK.ext (own_kext K)
              obtain ⟨T38, X38, e38, st38⟩ := getS2 X37 hx hZ hown (host := "") (Or.inl (hw _ (List.mem_of_getElem? (i := 130) rfl))) Via.refl eh37.symm S_LINK (g := (mkF m 257 #[.val (.int p0), .val (.long p1), .second, .val (.int p2), .val (.int p3), .val (.int kk), .val (.ref b1), .val (.int len), .val (.ref b3), .val (.ref b4), .val (.ref b5), .val (.ref b36), .unset, .unset, .unset] [])) rfl (hb hby at_257)
              refine OwnGo.fwd st38 ?_
              show OwnGo _ _ _ _ (T38.setTop (mkF m 260 #[.val (.int p0), .val (.long p1), .second, .val (.int p2), .val (.int p3), .val (.int kk), .val (.ref b1), .val (.int len), .val (.ref b3), .val (.ref b4), .val (.ref b5), .val (.ref b36), .unset, .unset, .unset] [(.ref vkLINK)]))
              refine OwnGo.fwd (fun tq' kq' => XS.astore X38.here hx rfl (hb hby at_260) rfl rfl (l' := #[.val (.int p0), .val (.long p1), .second, .val (.int p2), .val (.int p3), .val (.int kk), .val (.ref b1), .val (.int len), .val (.ref b3), .val (.ref b4), .val (.ref b5), .val (.ref b36), .val (.ref vkLINK), .unset, .unset]) rfl kq') ?_
              show OwnGo _ _ _ _ (T38.setTop (mkF m 262 #[.val (.int p0), .val (.long p1), .second, .val (.int p2), .val (.int p3), .val (.int kk), .val (.ref b1), .val (.int len), .val (.ref b3), .val (.ref b4), .val (.ref b5), .val (.ref b36), .val (.ref vkLINK), .unset, .unset] []))
              refine OwnGo.fwd (fun tq' kq' => XS.goto X38.here hx rfl (pc0 := 262) (pc' := 316) rfl (hb hby at_262) (by decide) (by decide) kq') ?_
              show OwnGo _ _ _ _ (T38.setTop (mkF m 316 #[.val (.int p0), .val (.long p1), .second, .val (.int p2), .val (.int p3), .val (.int kk), .val (.ref b1), .val (.int len), .val (.ref b3), .val (.ref b4), .val (.ref b5), .val (.ref b36), .val (.ref vkLINK), .unset, .unset] []))
              refine OwnGo.fwd (fun tq' kq' => XS.aload X38.here hx rfl (hb hby at_316) rfl rfl kq') ?_
              show OwnGo _ _ _ _ (T38.setTop (mkF m 318 #[.val (.int p0), .val (.long p1), .second, .val (.int p2), .val (.int p3), .val (.int kk), .val (.ref b1), .val (.int len), .val (.ref b3), .val (.ref b4), .val (.ref b5), .val (.ref b36), .val (.ref vkLINK), .unset, .unset] [(.ref b36)]))
              obtain ⟨_, _, ⟨T39, L39, k39, n39⟩, -, X39, ⟨Lc39, hQ39, l39, y39, z39⟩, st39⟩ := Jvm.LawKit.callS X38 hx (y := (⟨"com/example/rolestack/rolestack/ValueKind", "of", "(Ljava/lang/Object;)Lcom/example/rolestack/rolestack/ValueKind;"⟩ : MethodName)) hown (mvT hZ (hw _ (List.mem_of_getElem? (i := 31) rfl))) (mvT hZ (hw _ (List.mem_of_getElem? (i := 32) rfl))) (mvT hZ (hw _ (List.mem_of_getElem? (i := 29) rfl))) (mvT hZ (hw _ (List.mem_of_getElem? (i := 33) rfl))) (by decide) (backOf (W := 0) (rm5o l Z a0 hw [] b36 vkLINK h37 n0 Zs (S0_LINK.ext (own_kext K)) E_b36) hZ (hw _ (List.mem_of_getElem? (i := 33) rfl)) (hw _ (List.mem_of_getElem? (i := 29) rfl)) (by decide) (by decide)) (g := (mkF m 318 #[.val (.int p0), .val (.long p1), .second, .val (.int p2), .val (.int p3), .val (.int kk), .val (.ref b1), .val (.int len), .val (.ref b3), .val (.ref b4), .val (.ref b5), .val (.ref b36), .val (.ref vkLINK), .unset, .unset] [(.ref b36)])) rfl (by rw [hml]; rfl) (argsL := [(.ref b36)]) (rest := []) (lenOf pd_1 rfl) rfl (by show 2 * 0 + _ ≤ _; exact Nat.le_of_eq rfl) (hb hby at_318) (fun _ _ => ⟨rfl, e38, (by decide : 8 + 0 ≤ _), (by decide : 29 + 0 ≤ _)⟩)
              dsimp only [Pt.U, Pt.locs, Pt.cells, Pt.slots] at X39 l39 y39 z39 st39 hQ39
              subst l39 y39 z39
              obtain ⟨rfl, N39q, e39⟩ := hQ39
              have N := Fr.app N N39q
              refine OwnGo.fwd st39 ?_
              show OwnGo _ _ _ _ (T39.setTop (mkF m 321 #[.val (.int p0), .val (.long p1), .second, .val (.int p2), .val (.int p3), .val (.int kk), .val (.ref b1), .val (.int len), .val (.ref b3), .val (.ref b4), .val (.ref b5), .val (.ref b36), .val (.ref vkLINK), .unset, .unset] [(.ref vkLINK)]))
              refine OwnGo.fwd (fun tq' kq' => XS.astore X39.here hx rfl (hb hby at_321) rfl rfl (l' := #[.val (.int p0), .val (.long p1), .second, .val (.int p2), .val (.int p3), .val (.int kk), .val (.ref b1), .val (.int len), .val (.ref b3), .val (.ref b4), .val (.ref b5), .val (.ref b36), .val (.ref vkLINK), .val (.ref vkLINK), .unset]) rfl kq') ?_
              show OwnGo _ _ _ _ (T39.setTop (mkF m 323 #[.val (.int p0), .val (.long p1), .second, .val (.int p2), .val (.int p3), .val (.int kk), .val (.ref b1), .val (.int len), .val (.ref b3), .val (.ref b4), .val (.ref b5), .val (.ref b36), .val (.ref vkLINK), .val (.ref vkLINK), .unset] []))
              refine OwnGo.fwd (fun tq' kq' => XS.aload X39.here hx rfl (hb hby at_323) rfl rfl kq') ?_
              show OwnGo _ _ _ _ (T39.setTop (mkF m 325 #[.val (.int p0), .val (.long p1), .second, .val (.int p2), .val (.int p3), .val (.int kk), .val (.ref b1), .val (.int len), .val (.ref b3), .val (.ref b4), .val (.ref b5), .val (.ref b36), .val (.ref vkLINK), .val (.ref vkLINK), .unset] [(.ref vkLINK)]))
              refine OwnGo.fwd (fun tq' kq' => XS.aload X39.here hx rfl (hb hby at_325) rfl rfl kq') ?_
              show OwnGo _ _ _ _ (T39.setTop (mkF m 327 #[.val (.int p0), .val (.long p1), .second, .val (.int p2), .val (.int p3), .val (.int kk), .val (.ref b1), .val (.int len), .val (.ref b3), .val (.ref b4), .val (.ref b5), .val (.ref b36), .val (.ref vkLINK), .val (.ref vkLINK), .unset] [(.ref vkLINK), (.ref vkLINK)]))
              refine OwnGo.fwd (fun tq' kq' => Jvm.RoadKit.acmp (g := (mkF m 327 #[.val (.int p0), .val (.long p1), .second, .val (.int p2), .val (.int p3), .val (.int kk), .val (.ref b1), .val (.int len), .val (.ref b3), .val (.ref b4), .val (.ref b5), .val (.ref b36), .val (.ref vkLINK), .val (.ref vkLINK), .unset] [(.ref vkLINK), (.ref vkLINK)])) X39 hx rfl rfl rfl (pc0 := 327) (pc' := 330) (same := true) rfl (hb hby at_327) rfl (decide_eq_true rfl) (by decide) (by decide) kq') ?_
              show OwnGo _ _ _ _ (T39.setTop (mkF m 330 #[.val (.int p0), .val (.long p1), .second, .val (.int p2), .val (.int p3), .val (.int kk), .val (.ref b1), .val (.int len), .val (.ref b3), .val (.ref b4), .val (.ref b5), .val (.ref b36), .val (.ref vkLINK), .val (.ref vkLINK), .unset] []))
              refine OwnGo.fwd (fun tq' kq' => XS.iconst X39.here hx rfl (hb hby at_330) kq') ?_
              show OwnGo _ _ _ _ (T39.setTop (mkF m 331 #[.val (.int p0), .val (.long p1), .second, .val (.int p2), .val (.int p3), .val (.int kk), .val (.ref b1), .val (.int len), .val (.ref b3), .val (.ref b4), .val (.ref b5), .val (.ref b36), .val (.ref vkLINK), .val (.ref vkLINK), .unset] [(.int (1 : Int32))]))
              refine OwnGo.fwd (fun tq' kq' => XS.goto X39.here hx rfl (pc0 := 331) (pc' := 335) rfl (hb hby at_331) (by decide) (by decide) kq') ?_
              show OwnGo _ _ _ _ (T39.setTop (mkF m 335 #[.val (.int p0), .val (.long p1), .second, .val (.int p2), .val (.int p3), .val (.int kk), .val (.ref b1), .val (.int len), .val (.ref b3), .val (.ref b4), .val (.ref b5), .val (.ref b36), .val (.ref vkLINK), .val (.ref vkLINK), .unset] [(.int (1 : Int32))]))
              exact OwnGo.wide (own_retZ X39 hlk hx Bd.returns (hb hby at_335) (by decide) (by decide) e39 ⟨rfl, N⟩)
            · refine OwnGo.fwd (fun tq' kq' => XS.icmpYes X8.here hx rfl (pc0 := 243) (pc' := 265) rfl (hb hby at_243) rfl (own_bneq rfl (by decide) hc243_35).2 (by decide) (by decide) kq') ?_
              show OwnGo _ _ _ _ (T8.setTop (mkF m 265 #[.val (.int p0), .val (.long p1), .second, .val (.int p2), .val (.int p3), .val (.int kk), .val (.ref b1), .val (.int len), .val (.ref b3), .val (.ref b4), .val (.ref b5), .unset, .unset, .unset, .unset] []))
              refine OwnGo.fwd (fun tq' kq' => XS.iload X8.here hx rfl (hb hby at_265) rfl kq') ?_
              show OwnGo _ _ _ _ (T8.setTop (mkF m 267 #[.val (.int p0), .val (.long p1), .second, .val (.int p2), .val (.int p3), .val (.int kk), .val (.ref b1), .val (.int len), .val (.ref b3), .val (.ref b4), .val (.ref b5), .unset, .unset, .unset, .unset] [(.int kk)]))
              refine OwnGo.fwd (fun tq' kq' => XS.iconst X8.here hx rfl (hb hby at_267) kq') ?_
              show OwnGo _ _ _ _ (T8.setTop (mkF m 268 #[.val (.int p0), .val (.long p1), .second, .val (.int p2), .val (.int p3), .val (.int kk), .val (.ref b1), .val (.int len), .val (.ref b3), .val (.ref b4), .val (.ref b5), .unset, .unset, .unset, .unset] [(.int (5 : Int32)), (.int kk)]))
              by_cases hc268_40 : kk.toInt = 5
              · refine OwnGo.fwd (fun tq' kq' => XS.icmpNo X8.here hx rfl (hb hby at_268) rfl (own_beq rfl (by decide) hc268_40).2 kq') ?_
                show OwnGo _ _ _ _ (T8.setTop (mkF m 271 #[.val (.int p0), .val (.long p1), .second, .val (.int p2), .val (.int p3), .val (.int kk), .val (.ref b1), .val (.int len), .val (.ref b3), .val (.ref b4), .val (.ref b5), .unset, .unset, .unset, .unset] []))
                obtain ⟨T41, h41, X41, e41, E41, A41, D41, -, st41⟩ := newO X8 hx hZ hown (hw _ (List.mem_of_getElem? (i := 159) rfl)) (hw _ (List.mem_of_getElem? (i := 160) rfl)) (hw _ (List.mem_of_getElem? (i := 161) rfl)) e8 (g := (mkF m 271 #[.val (.int p0), .val (.long p1), .second, .val (.int p2), .val (.int p3), .val (.int kk), .val (.ref b1), .val (.int len), .val (.ref b3), .val (.ref b4), .val (.ref b5), .unset, .unset, .unset, .unset] [])) rfl (hb hby at_271) (by decide) (by decide)
                obtain ⟨b41, g41⟩ : ∃ z, z = h8.size := ⟨_, rfl⟩
                rw [← g41] at A41 D41 st41
                have ne_b1_b41 : b1 ≠ b41 := Nat.ne_of_lt (Nat.lt_of_lt_of_le E_b1.lt (Nat.le_of_eq g41.symm))
                have ne_d_b41 : d ≠ b41 := Nat.ne_of_lt (Nat.lt_of_lt_of_le O_d.lt (Nat.le_of_eq g41.symm))
                have ne_b3_b41 : b3 ≠ b41 := Nat.ne_of_lt (Nat.lt_of_lt_of_le P_b3.lt (Nat.le_of_eq g41.symm))
                have ne_b4_b41 : b4 ≠ b41 := Nat.ne_of_lt (Nat.lt_of_lt_of_le P_b4.lt (Nat.le_of_eq g41.symm))
                have ne_b5_b41 : b5 ≠ b41 := Nat.ne_of_lt (Nat.lt_of_lt_of_le P_b5.lt (Nat.le_of_eq g41.symm))
                have g_b41 : n0 ≤ b41 := Nat.le_trans Zs (Nat.le_of_eq g41.symm)
                have sz_b41 : h0.size ≤ b41 := Nat.le_trans K.1 (Nat.le_of_eq g41.symm)
                have K := K.ext E41
                have Zs := Nat.le_trans Zs E41.1
                have E_b1 := E_b1.ext E41
                have F_elementData_b1 := F_elementData_b1.ext E41
                have F_size_b1 := F_size_b1.ext E41
                have O_d := O_d.ext E41
                have P_b3 := P_b3.ext E41
                have P_b4 := P_b4.ext E41
                have P_b5 := P_b5.ext E41
                have E_b41 := A41
                have F_values_b41 : Fld Z h41 b41 "com/example/rolestack/rolestack/CollectionValue" "values" "Ljava/util/List;" .null := D41 (Or.inr (hw _ (List.mem_of_getElem? (i := 248) rfl))) (ty := (.object "java/util/List")) (by decide)
                refine OwnGo.fwd st41 ?_
                show OwnGo _ _ _ _ (T41.setTop (mkF m 274 #[.val (.int p0), .val (.long p1), .second, .val (.int p2), .val (.int p3), .val (.int kk), .val (.ref b1), .val (.int len), .val (.ref b3), .val (.ref b4), .val (.ref b5), .unset, .unset, .unset, .unset] [(.ref b41)]))
                refine OwnGo.fwd (fun tq' kq' => XS.dup X41.here hx rfl (hb hby at_274) rfl rfl kq') ?_
                show OwnGo _ _ _ _ (T41.setTop (mkF m 275 #[.val (.int p0), .val (.long p1), .second, .val (.int p2), .val (.int p3), .val (.int kk), .val (.ref b1), .val (.int len), .val (.ref b3), .val (.ref b4), .val (.ref b5), .unset, .unset, .unset, .unset] [(.ref b41), (.ref b41)]))
                refine OwnGo.fwd (fun tq' kq' => XS.aload X41.here hx rfl (hb hby at_275) rfl rfl kq') ?_
                show OwnGo _ _ _ _ (T41.setTop (mkF m 277 #[.val (.int p0), .val (.long p1), .second, .val (.int p2), .val (.int p3), .val (.int kk), .val (.ref b1), .val (.int len), .val (.ref b3), .val (.ref b4), .val (.ref b5), .unset, .unset, .unset, .unset] [(.ref b1), (.ref b41), (.ref b41)]))
                obtain ⟨_, _, ⟨T42, L42, k42, n42⟩, -, X42, ⟨Lc42, hQ42, l42, y42, z42⟩, st42⟩ := X41.specialBack hx (y := (⟨"com/example/rolestack/rolestack/CollectionValue", "<init>", "(Ljava/util/List;)V"⟩ : MethodName)) rfl hown (mvT hZ (hw _ (List.mem_of_getElem? (i := 162) rfl))) (mvT hZ (hw _ (List.mem_of_getElem? (i := 163) rfl))) (mvT hZ (hw _ (List.mem_of_getElem? (i := 164) rfl))) (by decide) (backOf (W := 1) (rm19 l Z a0 hw [] b41 b1 em ma mu mr d mo u n h41 n0 Zs E_b41 F_values_b41 g_b41 E_b1 F_elementData_b1 F_size_b1 O_d hle hn2 hu (Ne.symm ne_b1_b41) (Ne.symm ne_d_b41) (S0_EMPTY_ELEMENTDATA.ext (own_kext K)) M_mo M_ma M_mu M_mr) hZ (hw _ (List.mem_of_getElem? (i := 164) rfl)) (hw _ (List.mem_of_getElem? (i := 161) rfl)) (by decide) (by decide)) (g := (mkF m 277 #[.val (.int p0), .val (.long p1), .second, .val (.int p2), .val (.int p3), .val (.int kk), .val (.ref b1), .val (.int len), .val (.ref b3), .val (.ref b4), .val (.ref b5), .unset, .unset, .unset, .unset] [(.ref b1), (.ref b41), (.ref b41)])) rfl (by rw [hml]; rfl) (Steps.refl _) (a := b41) (argsL := [(.ref b1)]) (rest := [(.ref b41)]) (lenOf pd_14 rfl) rfl (by show 2 * 0 + _ ≤ _; exact Nat.le_of_eq rfl) (hb hby at_277) (fun _ _ => ⟨rfl, e41, (by decide : 8 + 3 ≤ _), (by decide : 28 + 7 ≤ _)⟩)
                dsimp only [Pt.U, Pt.locs, Pt.cells, Pt.slots] at X42 l42 y42 z42 st42 hQ42
                subst l42 y42 z42
                obtain ⟨h42, eh42⟩ : ∃ z, z = T42.heap := ⟨_, rfl⟩
                rw [← eh42] at hQ42
                obtain ⟨rfl, N42q, K42, E_b41⟩ := hQ42
                have N := Fr.app N N42q
                have Zs := Nat.le_trans Zs K42.1
                have E_b1 := E_b1.keep K42
                have F_elementData_b1 := F_elementData_b1.keep K42 (ninS ne_b1_b41 nin0)
                have F_size_b1 := F_size_b1.keep K42 (ninS ne_b1_b41 nin0)
                have O_d := O_d.keep K42 (ninS ne_d_b41 nin0)
                have P_b3 := P_b3.keep K42 (ninS ne_b3_b41 nin0)
                have P_b4 := P_b4.keep K42 (ninS ne_b4_b41 nin0)
                have P_b5 := P_b5.keep K42 (ninS ne_b5_b41 nin0)
                have K := K.trans K42 (allS (Or.inr sz_b41) all0)
                refine OwnGo.thru st42 ?_
                show OwnGo _ _ _ _ (T42.setTop (mkF m 280 #[.val (.int p0), .val (.long p1), .second, .val (.int p2), .val (.int p3), .val (.int kk), .val (.ref b1), .val (.int len), .val (.ref b3), .val (.ref b4), .val (.ref b5), .unset, .unset, .unset, .unset] [(.ref b41)]))
                refine OwnGo.fwd (fun tq' kq' => XS.astore X42.here hx rfl (hb hby at_280) rfl rfl (l' := #[.val (.int p0), .val (.long p1), .second, .val (.int p2), .val (.int p3), .val (.int kk), .val (.ref b1), .val (.int len), .val (.ref b3), .val (.ref b4), .val (.ref b5), .val (.ref b41), .unset, .unset, .unset]) rfl kq') ?_
                show OwnGo _ _ _ _ (T42.setTop (mkF m 282 #[.val (.int p0), .val (.long p1), .second, .val (.int p2), .val (.int p3), .val (.int kk), .val (.ref b1), .val (.int len), .val (.ref b3), .val (.ref b4), .val (.ref b5), .val (.ref b41), .unset, .unset, .unset] []))
                have S_COLLECTION := S0_COLLECTION.ext (own_kext K)
                obtain ⟨T43, X43, e43, st43⟩ := getS2 X42 hx hZ hown (host := "") (Or.inl (hw _ (List.mem_of_getElem? (i := 249) rfl))) Via.refl eh42.symm S_COLLECTION (g := (mkF m 282 #[.val (.int p0), .val (.long p1), .second, .val (.int p2), .val (.int p3), .val (.int kk), .val (.ref b1), .val (.int len), .val (.ref b3), .val (.ref b4), .val (.ref b5), .val (.ref b41), .unset, .unset, .unset] [])) rfl (hb hby at_282)
                refine OwnGo.fwd st43 ?_
                show OwnGo _ _ _ _ (T43.setTop (mkF m 285 #[.val (.int p0), .val (.long p1), .second, .val (.int p2), .val (.int p3), .val (.int kk), .val (.ref b1), .val (.int len), .val (.ref b3), .val (.ref b4), .val (.ref b5), .val (.ref b41), .unset, .unset, .unset] [(.ref vkCOLLECTION)]))
                refine OwnGo.fwd (fun tq' kq' => XS.astore X43.here hx rfl (hb hby at_285) rfl rfl (l' := #[.val (.int p0), .val (.long p1), .second, .val (.int p2), .val (.int p3), .val (.int kk), .val (.ref b1), .val (.int len), .val (.ref b3), .val (.ref b4), .val (.ref b5), .val (.ref b41), .val (.ref vkCOLLECTION), .unset, .unset]) rfl kq') ?_
                show OwnGo _ _ _ _ (T43.setTop (mkF m 287 #[.val (.int p0), .val (.long p1), .second, .val (.int p2), .val (.int p3), .val (.int kk), .val (.ref b1), .val (.int len), .val (.ref b3), .val (.ref b4), .val (.ref b5), .val (.ref b41), .val (.ref vkCOLLECTION), .unset, .unset] []))
                refine OwnGo.fwd (fun tq' kq' => XS.goto X43.here hx rfl (pc0 := 287) (pc' := 316) rfl (hb hby at_287) (by decide) (by decide) kq') ?_
                show OwnGo _ _ _ _ (T43.setTop (mkF m 316 #[.val (.int p0), .val (.long p1), .second, .val (.int p2), .val (.int p3), .val (.int kk), .val (.ref b1), .val (.int len), .val (.ref b3), .val (.ref b4), .val (.ref b5), .val (.ref b41), .val (.ref vkCOLLECTION), .unset, .unset] []))
                refine OwnGo.fwd (fun tq' kq' => XS.aload X43.here hx rfl (hb hby at_316) rfl rfl kq') ?_
                show OwnGo _ _ _ _ (T43.setTop (mkF m 318 #[.val (.int p0), .val (.long p1), .second, .val (.int p2), .val (.int p3), .val (.int kk), .val (.ref b1), .val (.int len), .val (.ref b3), .val (.ref b4), .val (.ref b5), .val (.ref b41), .val (.ref vkCOLLECTION), .unset, .unset] [(.ref b41)]))
                obtain ⟨_, _, ⟨T44, L44, k44, n44⟩, -, X44, ⟨Lc44, hQ44, l44, y44, z44⟩, st44⟩ := Jvm.LawKit.callS X43 hx (y := (⟨"com/example/rolestack/rolestack/ValueKind", "of", "(Ljava/lang/Object;)Lcom/example/rolestack/rolestack/ValueKind;"⟩ : MethodName)) hown (mvT hZ (hw _ (List.mem_of_getElem? (i := 31) rfl))) (mvT hZ (hw _ (List.mem_of_getElem? (i := 32) rfl))) (mvT hZ (hw _ (List.mem_of_getElem? (i := 29) rfl))) (mvT hZ (hw _ (List.mem_of_getElem? (i := 33) rfl))) (by decide) (backOf (W := 0) (rm5c l Z a0 hw [] b41 vkCOLLECTION h42 n0 Zs (S0_COLLECTION.ext (own_kext K)) E_b41) hZ (hw _ (List.mem_of_getElem? (i := 33) rfl)) (hw _ (List.mem_of_getElem? (i := 29) rfl)) (by decide) (by decide)) (g := (mkF m 318 #[.val (.int p0), .val (.long p1), .second, .val (.int p2), .val (.int p3), .val (.int kk), .val (.ref b1), .val (.int len), .val (.ref b3), .val (.ref b4), .val (.ref b5), .val (.ref b41), .val (.ref vkCOLLECTION), .unset, .unset] [(.ref b41)])) rfl (by rw [hml]; rfl) (argsL := [(.ref b41)]) (rest := []) (lenOf pd_1 rfl) rfl (by show 2 * 0 + _ ≤ _; exact Nat.le_of_eq rfl) (hb hby at_318) (fun _ _ => ⟨rfl, e43, (by decide : 11 + 0 ≤ _), (by decide : 35 + 0 ≤ _)⟩)
                dsimp only [Pt.U, Pt.locs, Pt.cells, Pt.slots] at X44 l44 y44 z44 st44 hQ44
                subst l44 y44 z44
                obtain ⟨rfl, N44q, e44⟩ := hQ44
                have N := Fr.app N N44q
                refine OwnGo.fwd st44 ?_
                show OwnGo _ _ _ _ (T44.setTop (mkF m 321 #[.val (.int p0), .val (.long p1), .second, .val (.int p2), .val (.int p3), .val (.int kk), .val (.ref b1), .val (.int len), .val (.ref b3), .val (.ref b4), .val (.ref b5), .val (.ref b41), .val (.ref vkCOLLECTION), .unset, .unset] [(.ref vkCOLLECTION)]))
                refine OwnGo.fwd (fun tq' kq' => XS.astore X44.here hx rfl (hb hby at_321) rfl rfl (l' := #[.val (.int p0), .val (.long p1), .second, .val (.int p2), .val (.int p3), .val (.int kk), .val (.ref b1), .val (.int len), .val (.ref b3), .val (.ref b4), .val (.ref b5), .val (.ref b41), .val (.ref vkCOLLECTION), .val (.ref vkCOLLECTION), .unset]) rfl kq') ?_
                show OwnGo _ _ _ _ (T44.setTop (mkF m 323 #[.val (.int p0), .val (.long p1), .second, .val (.int p2), .val (.int p3), .val (.int kk), .val (.ref b1), .val (.int len), .val (.ref b3), .val (.ref b4), .val (.ref b5), .val (.ref b41), .val (.ref vkCOLLECTION), .val (.ref vkCOLLECTION), .unset] []))
                refine OwnGo.fwd (fun tq' kq' => XS.aload X44.here hx rfl (hb hby at_323) rfl rfl kq') ?_
                show OwnGo _ _ _ _ (T44.setTop (mkF m 325 #[.val (.int p0), .val (.long p1), .second, .val (.int p2), .val (.int p3), .val (.int kk), .val (.ref b1), .val (.int len), .val (.ref b3), .val (.ref b4), .val (.ref b5), .val (.ref b41), .val (.ref vkCOLLECTION), .val (.ref vkCOLLECTION), .unset] [(.ref vkCOLLECTION)]))
                refine OwnGo.fwd (fun tq' kq' => XS.aload X44.here hx rfl (hb hby at_325) rfl rfl kq') ?_
                show OwnGo _ _ _ _ (T44.setTop (mkF m 327 #[.val (.int p0), .val (.long p1), .second, .val (.int p2), .val (.int p3), .val (.int kk), .val (.ref b1), .val (.int len), .val (.ref b3), .val (.ref b4), .val (.ref b5), .val (.ref b41), .val (.ref vkCOLLECTION), .val (.ref vkCOLLECTION), .unset] [(.ref vkCOLLECTION), (.ref vkCOLLECTION)]))
                refine OwnGo.fwd (fun tq' kq' => Jvm.RoadKit.acmp (g := (mkF m 327 #[.val (.int p0), .val (.long p1), .second, .val (.int p2), .val (.int p3), .val (.int kk), .val (.ref b1), .val (.int len), .val (.ref b3), .val (.ref b4), .val (.ref b5), .val (.ref b41), .val (.ref vkCOLLECTION), .val (.ref vkCOLLECTION), .unset] [(.ref vkCOLLECTION), (.ref vkCOLLECTION)])) X44 hx rfl rfl rfl (pc0 := 327) (pc' := 330) (same := true) rfl (hb hby at_327) rfl (decide_eq_true rfl) (by decide) (by decide) kq') ?_
                show OwnGo _ _ _ _ (T44.setTop (mkF m 330 #[.val (.int p0), .val (.long p1), .second, .val (.int p2), .val (.int p3), .val (.int kk), .val (.ref b1), .val (.int len), .val (.ref b3), .val (.ref b4), .val (.ref b5), .val (.ref b41), .val (.ref vkCOLLECTION), .val (.ref vkCOLLECTION), .unset] []))
                refine OwnGo.fwd (fun tq' kq' => XS.iconst X44.here hx rfl (hb hby at_330) kq') ?_
                show OwnGo _ _ _ _ (T44.setTop (mkF m 331 #[.val (.int p0), .val (.long p1), .second, .val (.int p2), .val (.int p3), .val (.int kk), .val (.ref b1), .val (.int len), .val (.ref b3), .val (.ref b4), .val (.ref b5), .val (.ref b41), .val (.ref vkCOLLECTION), .val (.ref vkCOLLECTION), .unset] [(.int (1 : Int32))]))
                refine OwnGo.fwd (fun tq' kq' => XS.goto X44.here hx rfl (pc0 := 331) (pc' := 335) rfl (hb hby at_331) (by decide) (by decide) kq') ?_
                show OwnGo _ _ _ _ (T44.setTop (mkF m 335 #[.val (.int p0), .val (.long p1), .second, .val (.int p2), .val (.int p3), .val (.int kk), .val (.ref b1), .val (.int len), .val (.ref b3), .val (.ref b4), .val (.ref b5), .val (.ref b41), .val (.ref vkCOLLECTION), .val (.ref vkCOLLECTION), .unset] [(.int (1 : Int32))]))
                exact OwnGo.wide (own_retZ X44 hlk hx Bd.returns (hb hby at_335) (by decide) (by decide) e44 ⟨rfl, N⟩)
              · refine OwnGo.fwd (fun tq' kq' => XS.icmpYes X8.here hx rfl (pc0 := 268) (pc' := 290) rfl (hb hby at_268) rfl (own_bneq rfl (by decide) hc268_40).2 (by decide) (by decide) kq') ?_
                show OwnGo _ _ _ _ (T8.setTop (mkF m 290 #[.val (.int p0), .val (.long p1), .second, .val (.int p2), .val (.int p3), .val (.int kk), .val (.ref b1), .val (.int len), .val (.ref b3), .val (.ref b4), .val (.ref b5), .unset, .unset, .unset, .unset] []))
                refine OwnGo.fwd (fun tq' kq' => XS.iload X8.here hx rfl (hb hby at_290) rfl kq') ?_
                show OwnGo _ _ _ _ (T8.setTop (mkF m 292 #[.val (.int p0), .val (.long p1), .second, .val (.int p2), .val (.int p3), .val (.int kk), .val (.ref b1), .val (.int len), .val (.ref b3), .val (.ref b4), .val (.ref b5), .unset, .unset, .unset, .unset] [(.int kk)]))
                refine OwnGo.fwd (fun tq' kq' => XS.bipush X8.here hx rfl (hb hby at_292) kq') ?_
                show OwnGo _ _ _ _ (T8.setTop (mkF m 294 #[.val (.int p0), .val (.long p1), .second, .val (.int p2), .val (.int p3), .val (.int kk), .val (.ref b1), .val (.int len), .val (.ref b3), .val (.ref b4), .val (.ref b5), .unset, .unset, .unset, .unset] [(.int (6 : Int32)), (.int kk)]))
                by_cases hc294_45 : kk.toInt = 6
                · refine OwnGo.fwd (fun tq' kq' => XS.icmpNo X8.here hx rfl (hb hby at_294) rfl (own_beq rfl (by decide) hc294_45).2 kq') ?_
                  show OwnGo _ _ _ _ (T8.setTop (mkF m 297 #[.val (.int p0), .val (.long p1), .second, .val (.int p2), .val (.int p3), .val (.int kk), .val (.ref b1), .val (.int len), .val (.ref b3), .val (.ref b4), .val (.ref b5), .unset, .unset, .unset, .unset] []))
                  refine OwnGo.fwd (fun tq' kq' => XS.iloadN X8.here hx rfl (hb hby at_297) rfl kq') ?_
                  show OwnGo _ _ _ _ (T8.setTop (mkF m 298 #[.val (.int p0), .val (.long p1), .second, .val (.int p2), .val (.int p3), .val (.int kk), .val (.ref b1), .val (.int len), .val (.ref b3), .val (.ref b4), .val (.ref b5), .unset, .unset, .unset, .unset] [(.int p2)]))
                  obtain ⟨_, _, ⟨T46, L46, k46, n46⟩, -, X46, ⟨Lc46, hQ46, l46, y46, z46⟩, st46⟩ := Jvm.LawKit.callS X8 hx (y := (⟨"java/lang/Integer", "valueOf", "(I)Ljava/lang/Integer;"⟩ : MethodName)) hown (mvT hZ (hw _ (List.mem_of_getElem? (i := 140) rfl))) (mvT hZ (hw _ (List.mem_of_getElem? (i := 141) rfl))) (mvT hZ (hw _ (List.mem_of_getElem? (i := 142) rfl))) (mvT hZ (hw _ (List.mem_of_getElem? (i := 143) rfl))) (by decide) (backOf (W := 0) (rm17 l Z a0 hw [] p2 h8 n0 Zs (IC0.ext (own_kext K))) hZ (hw _ (List.mem_of_getElem? (i := 143) rfl)) (hw _ (List.mem_of_getElem? (i := 142) rfl)) (by decide) (by decide)) (g := (mkF m 298 #[.val (.int p0), .val (.long p1), .second, .val (.int p2), .val (.int p3), .val (.int kk), .val (.ref b1), .val (.int len), .val (.ref b3), .val (.ref b4), .val (.ref b5), .unset, .unset, .unset, .unset] [(.int p2)])) rfl (by rw [hml]; rfl) (argsL := [(.int p2)]) (rest := []) (lenOf pd_12 rfl) rfl (by show 2 * 0 + _ ≤ _; exact Nat.le_of_eq rfl) (hb hby at_298) (fun _ _ => ⟨rfl, e8, (by decide : 7 + 1 ≤ _), (by decide : 27 + 1 ≤ _)⟩)
                  dsimp only [Pt.U, Pt.locs, Pt.cells, Pt.slots] at X46 l46 y46 z46 st46 hQ46
                  subst l46 y46 z46
                  obtain ⟨h46, eh46⟩ : ∃ z, z = T46.heap := ⟨_, rfl⟩
                  rw [← eh46] at hQ46
                  obtain ⟨N46q, K46, bx46, rfl, E_bx46⟩ := hQ46
                  have N := Fr.app N N46q
                  have Zs := Nat.le_trans Zs K46.1
                  have E_b1 := E_b1.keep K46
                  have F_elementData_b1 := F_elementData_b1.keep K46 nin0
                  have F_size_b1 := F_size_b1.keep K46 nin0
                  have O_d := O_d.keep K46 nin0
                  have P_b3 := P_b3.keep K46 nin0
                  have P_b4 := P_b4.keep K46 nin0
                  have P_b5 := P_b5.keep K46 nin0
                  have K := K.trans K46 all0
                  refine OwnGo.fwd st46 ?_
                  show OwnGo _ _ _ _ (T46.setTop (mkF m 301 #[.val (.int p0), .val (.long p1), .second, .val (.int p2), .val (.int p3), .val (.int kk), .val (.ref b1), .val (.int len), .val (.ref b3), .val (.ref b4), .val (.ref b5), .unset, .unset, .unset, .unset] [(.ref bx46)]))
                  refine OwnGo.fwd (fun tq' kq' => XS.astore X46.here hx rfl (hb hby at_301) rfl rfl (l' := #[.val (.int p0), .val (.long p1), .second, .val (.int p2), .val (.int p3), .val (.int kk), .val (.ref b1), .val (.int len), .val (.ref b3), .val (.ref b4), .val (.ref b5), .val (.ref bx46), .unset, .unset, .unset]) rfl kq') ?_
                  show OwnGo _ _ _ _ (T46.setTop (mkF m 303 #[.val (.int p0), .val (.long p1), .second, .val (.int p2), .val (.int p3), .val (.int kk), .val (.ref b1), .val (.int len), .val (.ref b3), .val (.ref b4), .val (.ref b5), .val (.ref bx46), .unset, .unset, .unset] []))
                  refine OwnGo.fwd (fun tq' kq' => XS.aconstNull X46.here hx rfl (hb hby at_303) kq') ?_
                  show OwnGo _ _ _ _ (T46.setTop (mkF m 304 #[.val (.int p0), .val (.long p1), .second, .val (.int p2), .val (.int p3), .val (.int kk), .val (.ref b1), .val (.int len), .val (.ref b3), .val (.ref b4), .val (.ref b5), .val (.ref bx46), .unset, .unset, .unset] [.null]))
                  refine OwnGo.fwd (fun tq' kq' => XS.astore X46.here hx rfl (hb hby at_304) rfl rfl (l' := #[.val (.int p0), .val (.long p1), .second, .val (.int p2), .val (.int p3), .val (.int kk), .val (.ref b1), .val (.int len), .val (.ref b3), .val (.ref b4), .val (.ref b5), .val (.ref bx46), .val .null, .unset, .unset]) rfl kq') ?_
                  show OwnGo _ _ _ _ (T46.setTop (mkF m 306 #[.val (.int p0), .val (.long p1), .second, .val (.int p2), .val (.int p3), .val (.int kk), .val (.ref b1), .val (.int len), .val (.ref b3), .val (.ref b4), .val (.ref b5), .val (.ref bx46), .val .null, .unset, .unset] []))
                  refine OwnGo.fwd (fun tq' kq' => XS.goto X46.here hx rfl (pc0 := 306) (pc' := 316) rfl (hb hby at_306) (by decide) (by decide) kq') ?_
                  show OwnGo _ _ _ _ (T46.setTop (mkF m 316 #[.val (.int p0), .val (.long p1), .second, .val (.int p2), .val (.int p3), .val (.int kk), .val (.ref b1), .val (.int len), .val (.ref b3), .val (.ref b4), .val (.ref b5), .val (.ref bx46), .val .null, .unset, .unset] []))
                  refine OwnGo.fwd (fun tq' kq' => XS.aload X46.here hx rfl (hb hby at_316) rfl rfl kq') ?_
                  show OwnGo _ _ _ _ (T46.setTop (mkF m 318 #[.val (.int p0), .val (.long p1), .second, .val (.int p2), .val (.int p3), .val (.int kk), .val (.ref b1), .val (.int len), .val (.ref b3), .val (.ref b4), .val (.ref b5), .val (.ref bx46), .val .null, .unset, .unset] [(.ref bx46)]))
                  obtain ⟨_, _, ⟨T47, L47, k47, n47⟩, -, X47, ⟨Lc47, hQ47, l47, y47, z47⟩, st47⟩ := Jvm.LawKit.callS X46 hx (y := (⟨"com/example/rolestack/rolestack/ValueKind", "of", "(Ljava/lang/Object;)Lcom/example/rolestack/rolestack/ValueKind;"⟩ : MethodName)) hown (mvT hZ (hw _ (List.mem_of_getElem? (i := 31) rfl))) (mvT hZ (hw _ (List.mem_of_getElem? (i := 32) rfl))) (mvT hZ (hw _ (List.mem_of_getElem? (i := 29) rfl))) (mvT hZ (hw _ (List.mem_of_getElem? (i := 33) rfl))) (by decide) (backOf (W := 0) (rm5i l Z a0 hw [] bx46 h46 n0 Zs E_bx46) hZ (hw _ (List.mem_of_getElem? (i := 33) rfl)) (hw _ (List.mem_of_getElem? (i := 29) rfl)) (by decide) (by decide)) (g := (mkF m 318 #[.val (.int p0), .val (.long p1), .second, .val (.int p2), .val (.int p3), .val (.int kk), .val (.ref b1), .val (.int len), .val (.ref b3), .val (.ref b4), .val (.ref b5), .val (.ref bx46), .val .null, .unset, .unset] [(.ref bx46)])) rfl (by rw [hml]; rfl) (argsL := [(.ref bx46)]) (rest := []) (lenOf pd_1 rfl) rfl (by show 2 * 0 + _ ≤ _; exact Nat.le_of_eq rfl) (hb hby at_318) (fun _ _ => ⟨rfl, eh46.symm, (by decide : 8 + 0 ≤ _), (by decide : 28 + 0 ≤ _)⟩)
                  dsimp only [Pt.U, Pt.locs, Pt.cells, Pt.slots] at X47 l47 y47 z47 st47 hQ47
                  subst l47 y47 z47
                  obtain ⟨rfl, N47q, e47⟩ := hQ47
                  have N := Fr.app N N47q
                  refine OwnGo.fwd st47 ?_
                  show OwnGo _ _ _ _ (T47.setTop (mkF m 321 #[.val (.int p0), .val (.long p1), .second, .val (.int p2), .val (.int p3), .val (.int kk), .val (.ref b1), .val (.int len), .val (.ref b3), .val (.ref b4), .val (.ref b5), .val (.ref bx46), .val .null, .unset, .unset] [.null]))
                  refine OwnGo.fwd (fun tq' kq' => XS.astore X47.here hx rfl (hb hby at_321) rfl rfl (l' := #[.val (.int p0), .val (.long p1), .second, .val (.int p2), .val (.int p3), .val (.int kk), .val (.ref b1), .val (.int len), .val (.ref b3), .val (.ref b4), .val (.ref b5), .val (.ref bx46), .val .null, .val .null, .unset]) rfl kq') ?_
                  show OwnGo _ _ _ _ (T47.setTop (mkF m 323 #[.val (.int p0), .val (.long p1), .second, .val (.int p2), .val (.int p3), .val (.int kk), .val (.ref b1), .val (.int len), .val (.ref b3), .val (.ref b4), .val (.ref b5), .val (.ref bx46), .val .null, .val .null, .unset] []))
                  refine OwnGo.fwd (fun tq' kq' => XS.aload X47.here hx rfl (hb hby at_323) rfl rfl kq') ?_
                  show OwnGo _ _ _ _ (T47.setTop (mkF m 325 #[.val (.int p0), .val (.long p1), .second, .val (.int p2), .val (.int p3), .val (.int kk), .val (.ref b1), .val (.int len), .val (.ref b3), .val (.ref b4), .val (.ref b5), .val (.ref bx46), .val .null, .val .null, .unset] [.null]))
                  refine OwnGo.fwd (fun tq' kq' => XS.aload X47.here hx rfl (hb hby at_325) rfl rfl kq') ?_
                  show OwnGo _ _ _ _ (T47.setTop (mkF m 327 #[.val (.int p0), .val (.long p1), .second, .val (.int p2), .val (.int p3), .val (.int kk), .val (.ref b1), .val (.int len), .val (.ref b3), .val (.ref b4), .val (.ref b5), .val (.ref bx46), .val .null, .val .null, .unset] [.null, .null]))
                  refine OwnGo.fwd (fun tq' kq' => Jvm.RoadKit.acmp (g := (mkF m 327 #[.val (.int p0), .val (.long p1), .second, .val (.int p2), .val (.int p3), .val (.int kk), .val (.ref b1), .val (.int len), .val (.ref b3), .val (.ref b4), .val (.ref b5), .val (.ref bx46), .val .null, .val .null, .unset] [.null, .null])) X47 hx rfl rfl rfl (pc0 := 327) (pc' := 330) (same := true) rfl (hb hby at_327) rfl (decide_eq_true rfl) (by decide) (by decide) kq') ?_
                  show OwnGo _ _ _ _ (T47.setTop (mkF m 330 #[.val (.int p0), .val (.long p1), .second, .val (.int p2), .val (.int p3), .val (.int kk), .val (.ref b1), .val (.int len), .val (.ref b3), .val (.ref b4), .val (.ref b5), .val (.ref bx46), .val .null, .val .null, .unset] []))
                  refine OwnGo.fwd (fun tq' kq' => XS.iconst X47.here hx rfl (hb hby at_330) kq') ?_
                  show OwnGo _ _ _ _ (T47.setTop (mkF m 331 #[.val (.int p0), .val (.long p1), .second, .val (.int p2), .val (.int p3), .val (.int kk), .val (.ref b1), .val (.int len), .val (.ref b3), .val (.ref b4), .val (.ref b5), .val (.ref bx46), .val .null, .val .null, .unset] [(.int (1 : Int32))]))
                  refine OwnGo.fwd (fun tq' kq' => XS.goto X47.here hx rfl (pc0 := 331) (pc' := 335) rfl (hb hby at_331) (by decide) (by decide) kq') ?_
                  show OwnGo _ _ _ _ (T47.setTop (mkF m 335 #[.val (.int p0), .val (.long p1), .second, .val (.int p2), .val (.int p3), .val (.int kk), .val (.ref b1), .val (.int len), .val (.ref b3), .val (.ref b4), .val (.ref b5), .val (.ref bx46), .val .null, .val .null, .unset] [(.int (1 : Int32))]))
                  exact OwnGo.wide (own_retZ X47 hlk hx Bd.returns (hb hby at_335) (by decide) (by decide) e47 ⟨rfl, N⟩)
                · refine OwnGo.fwd (fun tq' kq' => XS.icmpYes X8.here hx rfl (pc0 := 294) (pc' := 309) rfl (hb hby at_294) rfl (own_bneq rfl (by decide) hc294_45).2 (by decide) (by decide) kq') ?_
                  show OwnGo _ _ _ _ (T8.setTop (mkF m 309 #[.val (.int p0), .val (.long p1), .second, .val (.int p2), .val (.int p3), .val (.int kk), .val (.ref b1), .val (.int len), .val (.ref b3), .val (.ref b4), .val (.ref b5), .unset, .unset, .unset, .unset] []))
                  refine OwnGo.fwd (fun tq' kq' => XS.aload X8.here hx rfl (hb hby at_309) rfl rfl kq') ?_
                  show OwnGo _ _ _ _ (T8.setTop (mkF m 311 #[.val (.int p0), .val (.long p1), .second, .val (.int p2), .val (.int p3), .val (.int kk), .val (.ref b1), .val (.int len), .val (.ref b3), .val (.ref b4), .val (.ref b5), .unset, .unset, .unset, .unset] [(.ref b1)]))
                  refine OwnGo.fwd (fun tq' kq' => XS.astore X8.here hx rfl (hb hby at_311) rfl rfl (l' := #[.val (.int p0), .val (.long p1), .second, .val (.int p2), .val (.int p3), .val (.int kk), .val (.ref b1), .val (.int len), .val (.ref b3), .val (.ref b4), .val (.ref b5), .val (.ref b1), .unset, .unset, .unset]) rfl kq') ?_
                  show OwnGo _ _ _ _ (T8.setTop (mkF m 313 #[.val (.int p0), .val (.long p1), .second, .val (.int p2), .val (.int p3), .val (.int kk), .val (.ref b1), .val (.int len), .val (.ref b3), .val (.ref b4), .val (.ref b5), .val (.ref b1), .unset, .unset, .unset] []))
                  refine OwnGo.fwd (fun tq' kq' => XS.aconstNull X8.here hx rfl (hb hby at_313) kq') ?_
                  show OwnGo _ _ _ _ (T8.setTop (mkF m 314 #[.val (.int p0), .val (.long p1), .second, .val (.int p2), .val (.int p3), .val (.int kk), .val (.ref b1), .val (.int len), .val (.ref b3), .val (.ref b4), .val (.ref b5), .val (.ref b1), .unset, .unset, .unset] [.null]))
                  refine OwnGo.fwd (fun tq' kq' => XS.astore X8.here hx rfl (hb hby at_314) rfl rfl (l' := #[.val (.int p0), .val (.long p1), .second, .val (.int p2), .val (.int p3), .val (.int kk), .val (.ref b1), .val (.int len), .val (.ref b3), .val (.ref b4), .val (.ref b5), .val (.ref b1), .val .null, .unset, .unset]) rfl kq') ?_
                  show OwnGo _ _ _ _ (T8.setTop (mkF m 316 #[.val (.int p0), .val (.long p1), .second, .val (.int p2), .val (.int p3), .val (.int kk), .val (.ref b1), .val (.int len), .val (.ref b3), .val (.ref b4), .val (.ref b5), .val (.ref b1), .val .null, .unset, .unset] []))
                  refine OwnGo.fwd (fun tq' kq' => XS.aload X8.here hx rfl (hb hby at_316) rfl rfl kq') ?_
                  show OwnGo _ _ _ _ (T8.setTop (mkF m 318 #[.val (.int p0), .val (.long p1), .second, .val (.int p2), .val (.int p3), .val (.int kk), .val (.ref b1), .val (.int len), .val (.ref b3), .val (.ref b4), .val (.ref b5), .val (.ref b1), .val .null, .unset, .unset] [(.ref b1)]))
                  obtain ⟨_, _, ⟨T48, L48, k48, n48⟩, -, X48, ⟨Lc48, hQ48, l48, y48, z48⟩, st48⟩ := Jvm.LawKit.callS X8 hx (y := (⟨"com/example/rolestack/rolestack/ValueKind", "of", "(Ljava/lang/Object;)Lcom/example/rolestack/rolestack/ValueKind;"⟩ : MethodName)) hown (mvT hZ (hw _ (List.mem_of_getElem? (i := 31) rfl))) (mvT hZ (hw _ (List.mem_of_getElem? (i := 32) rfl))) (mvT hZ (hw _ (List.mem_of_getElem? (i := 29) rfl))) (mvT hZ (hw _ (List.mem_of_getElem? (i := 33) rfl))) (by decide) (backOf (W := 0) (rm5a l Z a0 hw [] b1 h8 n0 Zs E_b1) hZ (hw _ (List.mem_of_getElem? (i := 33) rfl)) (hw _ (List.mem_of_getElem? (i := 29) rfl)) (by decide) (by decide)) (g := (mkF m 318 #[.val (.int p0), .val (.long p1), .second, .val (.int p2), .val (.int p3), .val (.int kk), .val (.ref b1), .val (.int len), .val (.ref b3), .val (.ref b4), .val (.ref b5), .val (.ref b1), .val .null, .unset, .unset] [(.ref b1)])) rfl (by rw [hml]; rfl) (argsL := [(.ref b1)]) (rest := []) (lenOf pd_1 rfl) rfl (by show 2 * 0 + _ ≤ _; exact Nat.le_of_eq rfl) (hb hby at_318) (fun _ _ => ⟨rfl, e8, (by decide : 7 + 0 ≤ _), (by decide : 27 + 0 ≤ _)⟩)
                  dsimp only [Pt.U, Pt.locs, Pt.cells, Pt.slots] at X48 l48 y48 z48 st48 hQ48
                  subst l48 y48 z48
                  obtain ⟨rfl, N48q, e48⟩ := hQ48
                  have N := Fr.app N N48q
                  refine OwnGo.fwd st48 ?_
                  show OwnGo _ _ _ _ (T48.setTop (mkF m 321 #[.val (.int p0), .val (.long p1), .second, .val (.int p2), .val (.int p3), .val (.int kk), .val (.ref b1), .val (.int len), .val (.ref b3), .val (.ref b4), .val (.ref b5), .val (.ref b1), .val .null, .unset, .unset] [.null]))
                  refine OwnGo.fwd (fun tq' kq' => XS.astore X48.here hx rfl (hb hby at_321) rfl rfl (l' := #[.val (.int p0), .val (.long p1), .second, .val (.int p2), .val (.int p3), .val (.int kk), .val (.ref b1), .val (.int len), .val (.ref b3), .val (.ref b4), .val (.ref b5), .val (.ref b1), .val .null, .val .null, .unset]) rfl kq') ?_
                  show OwnGo _ _ _ _ (T48.setTop (mkF m 323 #[.val (.int p0), .val (.long p1), .second, .val (.int p2), .val (.int p3), .val (.int kk), .val (.ref b1), .val (.int len), .val (.ref b3), .val (.ref b4), .val (.ref b5), .val (.ref b1), .val .null, .val .null, .unset] []))
                  refine OwnGo.fwd (fun tq' kq' => XS.aload X48.here hx rfl (hb hby at_323) rfl rfl kq') ?_
                  show OwnGo _ _ _ _ (T48.setTop (mkF m 325 #[.val (.int p0), .val (.long p1), .second, .val (.int p2), .val (.int p3), .val (.int kk), .val (.ref b1), .val (.int len), .val (.ref b3), .val (.ref b4), .val (.ref b5), .val (.ref b1), .val .null, .val .null, .unset] [.null]))
                  refine OwnGo.fwd (fun tq' kq' => XS.aload X48.here hx rfl (hb hby at_325) rfl rfl kq') ?_
                  show OwnGo _ _ _ _ (T48.setTop (mkF m 327 #[.val (.int p0), .val (.long p1), .second, .val (.int p2), .val (.int p3), .val (.int kk), .val (.ref b1), .val (.int len), .val (.ref b3), .val (.ref b4), .val (.ref b5), .val (.ref b1), .val .null, .val .null, .unset] [.null, .null]))
                  refine OwnGo.fwd (fun tq' kq' => Jvm.RoadKit.acmp (g := (mkF m 327 #[.val (.int p0), .val (.long p1), .second, .val (.int p2), .val (.int p3), .val (.int kk), .val (.ref b1), .val (.int len), .val (.ref b3), .val (.ref b4), .val (.ref b5), .val (.ref b1), .val .null, .val .null, .unset] [.null, .null])) X48 hx rfl rfl rfl (pc0 := 327) (pc' := 330) (same := true) rfl (hb hby at_327) rfl (decide_eq_true rfl) (by decide) (by decide) kq') ?_
                  show OwnGo _ _ _ _ (T48.setTop (mkF m 330 #[.val (.int p0), .val (.long p1), .second, .val (.int p2), .val (.int p3), .val (.int kk), .val (.ref b1), .val (.int len), .val (.ref b3), .val (.ref b4), .val (.ref b5), .val (.ref b1), .val .null, .val .null, .unset] []))
                  refine OwnGo.fwd (fun tq' kq' => XS.iconst X48.here hx rfl (hb hby at_330) kq') ?_
                  show OwnGo _ _ _ _ (T48.setTop (mkF m 331 #[.val (.int p0), .val (.long p1), .second, .val (.int p2), .val (.int p3), .val (.int kk), .val (.ref b1), .val (.int len), .val (.ref b3), .val (.ref b4), .val (.ref b5), .val (.ref b1), .val .null, .val .null, .unset] [(.int (1 : Int32))]))
                  refine OwnGo.fwd (fun tq' kq' => XS.goto X48.here hx rfl (pc0 := 331) (pc' := 335) rfl (hb hby at_331) (by decide) (by decide) kq') ?_
                  show OwnGo _ _ _ _ (T48.setTop (mkF m 335 #[.val (.int p0), .val (.long p1), .second, .val (.int p2), .val (.int p3), .val (.int kk), .val (.ref b1), .val (.int len), .val (.ref b3), .val (.ref b4), .val (.ref b5), .val (.ref b1), .val .null, .val .null, .unset] [(.int (1 : Int32))]))
                  exact OwnGo.wide (own_retZ X48 hlk hx Bd.returns (hb hby at_335) (by decide) (by decide) e48 ⟨rfl, N⟩)
  by_cases hc20_49 : (((p0.toUInt32 >>> ((3 : Int32) &&& 31).toUInt32).toInt32) &&& (1 : Int32)).toInt = 0
  · refine OwnGo.fwd (fun tq' kq' => XS.ifYes X2.here hx rfl (pc0 := 20) (pc' := 33) rfl (hb hby at_20) rfl ((if0 _ _).trans (own_beq rfl (by decide) hc20_49).1) (by decide) (by decide) kq') ?_
    show OwnGo _ _ _ _ (T2.setTop (mkF m 33 #[.val (.int p0), .val (.long p1), .second, .val (.int p2), .val (.int p3), .val (.int kk), .val (.ref b1), .unset, .unset, .unset, .unset, .unset, .unset, .unset, .unset] []))
    refine OwnGo.fwd (fun tq' kq' => XS.iloadN X2.here hx rfl (hb hby at_33) rfl kq') ?_
    show OwnGo _ _ _ _ (T2.setTop (mkF m 34 #[.val (.int p0), .val (.long p1), .second, .val (.int p2), .val (.int p3), .val (.int kk), .val (.ref b1), .unset, .unset, .unset, .unset, .unset, .unset, .unset, .unset] [(.int p0)]))
    refine OwnGo.fwd (fun tq' kq' => XS.iconst X2.here hx rfl (hb hby at_34) kq') ?_
    show OwnGo _ _ _ _ (T2.setTop (mkF m 35 #[.val (.int p0), .val (.long p1), .second, .val (.int p2), .val (.int p3), .val (.int kk), .val (.ref b1), .unset, .unset, .unset, .unset, .unset, .unset, .unset, .unset] [(.int (4 : Int32)), (.int p0)]))
    refine OwnGo.fwd (fun tq' kq' => XS.iushr X2.here hx rfl (hb hby at_35) rfl kq') ?_
    show OwnGo _ _ _ _ (T2.setTop (mkF m 36 #[.val (.int p0), .val (.long p1), .second, .val (.int p2), .val (.int p3), .val (.int kk), .val (.ref b1), .unset, .unset, .unset, .unset, .unset, .unset, .unset, .unset] [(.int ((p0.toUInt32 >>> ((4 : Int32) &&& 31).toUInt32).toInt32))]))
    refine OwnGo.fwd (fun tq' kq' => XS.iconst X2.here hx rfl (hb hby at_36) kq') ?_
    show OwnGo _ _ _ _ (T2.setTop (mkF m 37 #[.val (.int p0), .val (.long p1), .second, .val (.int p2), .val (.int p3), .val (.int kk), .val (.ref b1), .unset, .unset, .unset, .unset, .unset, .unset, .unset, .unset] [(.int (1 : Int32)), (.int ((p0.toUInt32 >>> ((4 : Int32) &&& 31).toUInt32).toInt32))]))
    refine OwnGo.fwd (fun tq' kq' => XS.iand X2.here hx rfl (hb hby at_37) rfl kq') ?_
    show OwnGo _ _ _ _ (T2.setTop (mkF m 38 #[.val (.int p0), .val (.long p1), .second, .val (.int p2), .val (.int p3), .val (.int kk), .val (.ref b1), .unset, .unset, .unset, .unset, .unset, .unset, .unset, .unset] [(.int (((p0.toUInt32 >>> ((4 : Int32) &&& 31).toUInt32).toInt32) &&& (1 : Int32)))]))
    by_cases hc38_50 : (((p0.toUInt32 >>> ((4 : Int32) &&& 31).toUInt32).toInt32) &&& (1 : Int32)).toInt = 0
    · refine OwnGo.fwd (fun tq' kq' => XS.ifYes X2.here hx rfl (pc0 := 38) (pc' := 48) rfl (hb hby at_38) rfl ((if0 _ _).trans (own_beq rfl (by decide) hc38_50).1) (by decide) (by decide) kq') ?_
      show OwnGo _ _ _ _ (T2.setTop (mkF m 48 #[.val (.int p0), .val (.long p1), .second, .val (.int p2), .val (.int p3), .val (.int kk), .val (.ref b1), .unset, .unset, .unset, .unset, .unset, .unset, .unset, .unset] []))
      exact J48 _ _ _ (X2.more (by decide) (by decide)) eh2.symm N K ⟨E_b1, _, _, 0, F_elementData_b1, F_size_b1, O_dc, by decide, by decide, by decide⟩
    · refine OwnGo.fwd (fun tq' kq' => XS.ifNo X2.here hx rfl (hb hby at_38) rfl ((if0 _ _).trans (own_bneq rfl (by decide) hc38_50).1) kq') ?_
      show OwnGo _ _ _ _ (T2.setTop (mkF m 41 #[.val (.int p0), .val (.long p1), .second, .val (.int p2), .val (.int p3), .val (.int kk), .val (.ref b1), .unset, .unset, .unset, .unset, .unset, .unset, .unset, .unset] []))
      refine OwnGo.fwd (fun tq' kq' => XS.aload X2.here hx rfl (hb hby at_41) rfl rfl kq') ?_
      show OwnGo _ _ _ _ (T2.setTop (mkF m 43 #[.val (.int p0), .val (.long p1), .second, .val (.int p2), .val (.int p3), .val (.int kk), .val (.ref b1), .unset, .unset, .unset, .unset, .unset, .unset, .unset, .unset] [(.ref b1)]))
      refine OwnGo.fwd (fun tq' kq' => XS.aconstNull X2.here hx rfl (hb hby at_43) kq') ?_
      show OwnGo _ _ _ _ (T2.setTop (mkF m 44 #[.val (.int p0), .val (.long p1), .second, .val (.int p2), .val (.int p3), .val (.int kk), .val (.ref b1), .unset, .unset, .unset, .unset, .unset, .unset, .unset, .unset] [.null, (.ref b1)]))
      obtain ⟨cq51, kq51, q51a, q51b, q51c⟩ := isOf hZ eh2.symm E_b1
      obtain ⟨_, _, ⟨T51, L51, k51, n51⟩, -, X51, ⟨Lc51, hQ51, l51, y51, z51⟩, st51⟩ := X2.virtualBack hx (y := (⟨"java/util/ArrayList", "add", "(Ljava/lang/Object;)Z"⟩ : MethodName)) (z := (⟨"java/util/ArrayList", "add", "(Ljava/lang/Object;)Z"⟩ : MethodName)) hown (mvT hZ (hw _ (List.mem_of_getElem? (i := 83) rfl))) (mvT hZ (hw _ (List.mem_of_getElem? (i := 84) rfl))) (notFace_of_selects (args := #[]) (mvT hZ (hw _ (List.mem_of_getElem? (i := 86) rfl)))) (mvT hZ (hw _ (List.mem_of_getElem? (i := 86) rfl))) (mvT hZ (hw _ (List.mem_of_getElem? (i := 85) rfl))) (by decide) (backOf (W := 0) (rm11n l Z a0 hw [] b1 dc (0 : Int32) h2 n0 Zs E_b1 F_modCount_b1 F_elementData_b1 F_size_b1 g_b1 O_dc (Ne.symm ne_dc_b1) (S0_DEFAULTCAPACITY_EMPTY_ELEMENTDATA.ext (own_kext K))) hZ (hw _ (List.mem_of_getElem? (i := 87) rfl)) (hw _ (List.mem_of_getElem? (i := 2) rfl)) (by decide) (by decide)) q51a q51c (g := (mkF m 44 #[.val (.int p0), .val (.long p1), .second, .val (.int p2), .val (.int p3), .val (.int kk), .val (.ref b1), .unset, .unset, .unset, .unset, .unset, .unset, .unset, .unset] [.null, (.ref b1)])) rfl (by rw [hml]; rfl) (Steps.refl _) (argsL := [.null]) (rest := []) (lenOf pd_6 rfl) rfl (by show 2 * 0 + _ ≤ _; exact Nat.le_of_eq rfl) (hb hby at_44) (fun _ _ => ⟨rfl, eh2.symm, (by decide : 1 + 1 ≤ _), (by decide : 3 + 10 ≤ _)⟩)
      dsimp only [Pt.U, Pt.locs, Pt.cells, Pt.slots] at X51 l51 y51 z51 st51 hQ51
      subst l51 y51 z51
      have hQ51 := own_rot hQ51
      have lt51_dc := O_dc.lt
      have lt51_b1 := E_b1.lt
      obtain ⟨h51, eh51⟩ : ∃ z, z = T51.heap := ⟨_, rfl⟩
      rw [← eh51] at hQ51
      obtain ⟨N51q, K51, rfl, t51, sq51, O_t51, E_b1, F_modCount_b1, F_elementData_b1, F_size_b1⟩ := hQ51
      have ne_dc_t51 : dc ≠ t51 := Nat.ne_of_lt (Nat.lt_of_lt_of_le lt51_dc sq51)
      have ne_b1_t51 : b1 ≠ t51 := Nat.ne_of_lt (Nat.lt_of_lt_of_le lt51_b1 sq51)
      have g_t51 : n0 ≤ t51 := Nat.le_trans Zs sq51
      have sz_t51 : h0.size ≤ t51 := Nat.le_trans K.1 sq51
      have N := Fr.app N N51q
      have Zs := Nat.le_trans Zs K51.1
      have O_dc := O_dc.keep K51 (ninS ne_dc_b1 nin0)
      have K := K.trans K51 (allS (Or.inr sz_b1) all0)
      refine OwnGo.thru st51 ?_
      show OwnGo _ _ _ _ (T51.setTop (mkF m 47 #[.val (.int p0), .val (.long p1), .second, .val (.int p2), .val (.int p3), .val (.int kk), .val (.ref b1), .unset, .unset, .unset, .unset, .unset, .unset, .unset, .unset] [(.int (1 : Int32))]))
      refine OwnGo.fwd (fun tq' kq' => XS.pop X51.here hx rfl (hb hby at_47) rfl rfl kq') ?_
      show OwnGo _ _ _ _ (T51.setTop (mkF m 48 #[.val (.int p0), .val (.long p1), .second, .val (.int p2), .val (.int p3), .val (.int kk), .val (.ref b1), .unset, .unset, .unset, .unset, .unset, .unset, .unset, .unset] []))
      exact J48 _ _ _ (X51.more (by decide) (by decide)) eh51.symm N K ⟨E_b1, _, _, 1, F_elementData_b1, F_size_b1, O_t51, by decide, by decide, by decide⟩
  · refine OwnGo.fwd (fun tq' kq' => XS.ifNo X2.here hx rfl (hb hby at_20) rfl ((if0 _ _).trans (own_bneq rfl (by decide) hc20_49).1) kq') ?_
    show OwnGo _ _ _ _ (T2.setTop (mkF m 23 #[.val (.int p0), .val (.long p1), .second, .val (.int p2), .val (.int p3), .val (.int kk), .val (.ref b1), .unset, .unset, .unset, .unset, .unset, .unset, .unset, .unset] []))
    refine OwnGo.fwd (fun tq' kq' => XS.aload X2.here hx rfl (hb hby at_23) rfl rfl kq') ?_
    show OwnGo _ _ _ _ (T2.setTop (mkF m 25 #[.val (.int p0), .val (.long p1), .second, .val (.int p2), .val (.int p3), .val (.int kk), .val (.ref b1), .unset, .unset, .unset, .unset, .unset, .unset, .unset, .unset] [(.ref b1)]))
    refine OwnGo.fwd (fun tq' kq' => XS.lloadN X2.here hx rfl (hb hby at_25) rfl kq') ?_
    show OwnGo _ _ _ _ (T2.setTop (mkF m 26 #[.val (.int p0), .val (.long p1), .second, .val (.int p2), .val (.int p3), .val (.int kk), .val (.ref b1), .unset, .unset, .unset, .unset, .unset, .unset, .unset, .unset] [(.long p1), (.ref b1)]))
    obtain ⟨_, _, ⟨T52, L52, k52, n52⟩, -, X52, ⟨Lc52, hQ52, l52, y52, z52⟩, st52⟩ := Jvm.LawKit.callS X2 hx (y := (⟨"java/lang/Long", "valueOf", "(J)Ljava/lang/Long;"⟩ : MethodName)) hown (mvT hZ (hw _ (List.mem_of_getElem? (i := 62) rfl))) (mvT hZ (hw _ (List.mem_of_getElem? (i := 63) rfl))) (mvT hZ (hw _ (List.mem_of_getElem? (i := 64) rfl))) (mvT hZ (hw _ (List.mem_of_getElem? (i := 65) rfl))) (by decide) (backOf (W := 1) (rm8 l Z a0 hw [] p1 h2 n0 Zs (LC0.ext (own_kext K))) hZ (hw _ (List.mem_of_getElem? (i := 65) rfl)) (hw _ (List.mem_of_getElem? (i := 64) rfl)) (by decide) (by decide)) (g := (mkF m 26 #[.val (.int p0), .val (.long p1), .second, .val (.int p2), .val (.int p3), .val (.int kk), .val (.ref b1), .unset, .unset, .unset, .unset, .unset, .unset, .unset, .unset] [(.long p1), (.ref b1)])) rfl (by rw [hml]; rfl) (argsL := [(.long p1)]) (rest := [(.ref b1)]) (lenOf pd_4 rfl) rfl (by show 2 * 0 + _ ≤ _; exact Nat.le_of_eq rfl) (hb hby at_26) (fun _ _ => ⟨rfl, eh2.symm, (by decide : 1 + 1 ≤ _), (by decide : 3 + 1 ≤ _)⟩)
    dsimp only [Pt.U, Pt.locs, Pt.cells, Pt.slots] at X52 l52 y52 z52 st52 hQ52
    subst l52 y52 z52
    obtain ⟨h52, eh52⟩ : ∃ z, z = T52.heap := ⟨_, rfl⟩
    rw [← eh52] at hQ52
    obtain ⟨N52q, K52, bx52, rfl, E_bx52⟩ := hQ52
    have N := Fr.app N N52q
    have Zs := Nat.le_trans Zs K52.1
    have O_dc := O_dc.keep K52 nin0
    have E_b1 := E_b1.keep K52
    have F_modCount_b1 := F_modCount_b1.keep K52 nin0
    have F_elementData_b1 := F_elementData_b1.keep K52 nin0
    have F_size_b1 := F_size_b1.keep K52 nin0
    have K := K.trans K52 all0
    refine OwnGo.fwd st52 ?_
    show OwnGo _ _ _ _ (T52.setTop (mkF m 29 #[.val (.int p0), .val (.long p1), .second, .val (.int p2), .val (.int p3), .val (.int kk), .val (.ref b1), .unset, .unset, .unset, .unset, .unset, .unset, .unset, .unset] [(.ref bx52), (.ref b1)]))
    obtain ⟨cq53, kq53, q53a, q53b, q53c⟩ := isOf hZ eh52.symm E_b1
    obtain ⟨_, _, ⟨T53, L53, k53, n53⟩, -, X53, ⟨Lc53, hQ53, l53, y53, z53⟩, st53⟩ := X52.virtualBack hx (y := (⟨"java/util/ArrayList", "add", "(Ljava/lang/Object;)Z"⟩ : MethodName)) (z := (⟨"java/util/ArrayList", "add", "(Ljava/lang/Object;)Z"⟩ : MethodName)) hown (mvT hZ (hw _ (List.mem_of_getElem? (i := 83) rfl))) (mvT hZ (hw _ (List.mem_of_getElem? (i := 84) rfl))) (notFace_of_selects (args := #[]) (mvT hZ (hw _ (List.mem_of_getElem? (i := 86) rfl)))) (mvT hZ (hw _ (List.mem_of_getElem? (i := 86) rfl))) (mvT hZ (hw _ (List.mem_of_getElem? (i := 85) rfl))) (by decide) (backOf (W := 0) (rm11r l Z a0 hw [] b1 bx52 dc (0 : Int32) h52 n0 Zs E_b1 F_modCount_b1 F_elementData_b1 F_size_b1 g_b1 O_dc (Ne.symm ne_dc_b1) (S0_DEFAULTCAPACITY_EMPTY_ELEMENTDATA.ext (own_kext K)) E_bx52) hZ (hw _ (List.mem_of_getElem? (i := 87) rfl)) (hw _ (List.mem_of_getElem? (i := 2) rfl)) (by decide) (by decide)) q53a q53c (g := (mkF m 29 #[.val (.int p0), .val (.long p1), .second, .val (.int p2), .val (.int p3), .val (.int kk), .val (.ref b1), .unset, .unset, .unset, .unset, .unset, .unset, .unset, .unset] [(.ref bx52), (.ref b1)])) rfl (by rw [hml]; rfl) (Steps.refl _) (argsL := [(.ref bx52)]) (rest := []) (lenOf pd_6 rfl) rfl (by show 2 * 0 + _ ≤ _; exact Nat.le_of_eq rfl) (hb hby at_29) (fun _ _ => ⟨rfl, eh52.symm, (by decide : 2 + 1 ≤ _), (by decide : 4 + 10 ≤ _)⟩)
    dsimp only [Pt.U, Pt.locs, Pt.cells, Pt.slots] at X53 l53 y53 z53 st53 hQ53
    subst l53 y53 z53
    have hQ53 := own_rot hQ53
    have lt53_dc := O_dc.lt
    have lt53_b1 := E_b1.lt
    have lt53_bx52 := E_bx52.lt
    obtain ⟨h53, eh53⟩ : ∃ z, z = T53.heap := ⟨_, rfl⟩
    rw [← eh53] at hQ53
    obtain ⟨N53q, K53, rfl, t53, sq53, O_t53, E_b1, F_modCount_b1, F_elementData_b1, F_size_b1⟩ := hQ53
    have ne_dc_t53 : dc ≠ t53 := Nat.ne_of_lt (Nat.lt_of_lt_of_le lt53_dc sq53)
    have ne_b1_t53 : b1 ≠ t53 := Nat.ne_of_lt (Nat.lt_of_lt_of_le lt53_b1 sq53)
    have ne_bx52_t53 : bx52 ≠ t53 := Nat.ne_of_lt (Nat.lt_of_lt_of_le lt53_bx52 sq53)
    have g_t53 : n0 ≤ t53 := Nat.le_trans Zs sq53
    have sz_t53 : h0.size ≤ t53 := Nat.le_trans K.1 sq53
    have N := Fr.app N N53q
    have Zs := Nat.le_trans Zs K53.1
    have O_dc := O_dc.keep K53 (ninS ne_dc_b1 nin0)
    have E_bx52 := E_bx52.keep K53
    have K := K.trans K53 (allS (Or.inr sz_b1) all0)
    refine OwnGo.thru st53 ?_
    show OwnGo _ _ _ _ (T53.setTop (mkF m 32 #[.val (.int p0), .val (.long p1), .second, .val (.int p2), .val (.int p3), .val (.int kk), .val (.ref b1), .unset, .unset, .unset, .unset, .unset, .unset, .unset, .unset] [(.int (1 : Int32))]))
    refine OwnGo.fwd (fun tq' kq' => XS.pop X53.here hx rfl (hb hby at_32) rfl rfl kq') ?_
    show OwnGo _ _ _ _ (T53.setTop (mkF m 33 #[.val (.int p0), .val (.long p1), .second, .val (.int p2), .val (.int p3), .val (.int kk), .val (.ref b1), .unset, .unset, .unset, .unset, .unset, .unset, .unset, .unset] []))
    refine OwnGo.fwd (fun tq' kq' => XS.iloadN X53.here hx rfl (hb hby at_33) rfl kq') ?_
    show OwnGo _ _ _ _ (T53.setTop (mkF m 34 #[.val (.int p0), .val (.long p1), .second, .val (.int p2), .val (.int p3), .val (.int kk), .val (.ref b1), .unset, .unset, .unset, .unset, .unset, .unset, .unset, .unset] [(.int p0)]))
    refine OwnGo.fwd (fun tq' kq' => XS.iconst X53.here hx rfl (hb hby at_34) kq') ?_
    show OwnGo _ _ _ _ (T53.setTop (mkF m 35 #[.val (.int p0), .val (.long p1), .second, .val (.int p2), .val (.int p3), .val (.int kk), .val (.ref b1), .unset, .unset, .unset, .unset, .unset, .unset, .unset, .unset] [(.int (4 : Int32)), (.int p0)]))
    refine OwnGo.fwd (fun tq' kq' => XS.iushr X53.here hx rfl (hb hby at_35) rfl kq') ?_
    show OwnGo _ _ _ _ (T53.setTop (mkF m 36 #[.val (.int p0), .val (.long p1), .second, .val (.int p2), .val (.int p3), .val (.int kk), .val (.ref b1), .unset, .unset, .unset, .unset, .unset, .unset, .unset, .unset] [(.int ((p0.toUInt32 >>> ((4 : Int32) &&& 31).toUInt32).toInt32))]))
    refine OwnGo.fwd (fun tq' kq' => XS.iconst X53.here hx rfl (hb hby at_36) kq') ?_
    show OwnGo _ _ _ _ (T53.setTop (mkF m 37 #[.val (.int p0), .val (.long p1), .second, .val (.int p2), .val (.int p3), .val (.int kk), .val (.ref b1), .unset, .unset, .unset, .unset, .unset, .unset, .unset, .unset] [(.int (1 : Int32)), (.int ((p0.toUInt32 >>> ((4 : Int32) &&& 31).toUInt32).toInt32))]))
    refine OwnGo.fwd (fun tq' kq' => XS.iand X53.here hx rfl (hb hby at_37) rfl kq') ?_
    show OwnGo _ _ _ _ (T53.setTop (mkF m 38 #[.val (.int p0), .val (.long p1), .second, .val (.int p2), .val (.int p3), .val (.int kk), .val (.ref b1), .unset, .unset, .unset, .unset, .unset, .unset, .unset, .unset] [(.int (((p0.toUInt32 >>> ((4 : Int32) &&& 31).toUInt32).toInt32) &&& (1 : Int32)))]))
    by_cases hc38_54 : (((p0.toUInt32 >>> ((4 : Int32) &&& 31).toUInt32).toInt32) &&& (1 : Int32)).toInt = 0
    · refine OwnGo.fwd (fun tq' kq' => XS.ifYes X53.here hx rfl (pc0 := 38) (pc' := 48) rfl (hb hby at_38) rfl ((if0 _ _).trans (own_beq rfl (by decide) hc38_54).1) (by decide) (by decide) kq') ?_
      show OwnGo _ _ _ _ (T53.setTop (mkF m 48 #[.val (.int p0), .val (.long p1), .second, .val (.int p2), .val (.int p3), .val (.int kk), .val (.ref b1), .unset, .unset, .unset, .unset, .unset, .unset, .unset, .unset] []))
      exact J48 _ _ _ (X53.more (by decide) (by decide)) eh53.symm N K ⟨E_b1, _, _, 1, F_elementData_b1, F_size_b1, O_t53, by decide, by decide, by decide⟩
    · refine OwnGo.fwd (fun tq' kq' => XS.ifNo X53.here hx rfl (hb hby at_38) rfl ((if0 _ _).trans (own_bneq rfl (by decide) hc38_54).1) kq') ?_
      show OwnGo _ _ _ _ (T53.setTop (mkF m 41 #[.val (.int p0), .val (.long p1), .second, .val (.int p2), .val (.int p3), .val (.int kk), .val (.ref b1), .unset, .unset, .unset, .unset, .unset, .unset, .unset, .unset] []))
      refine OwnGo.fwd (fun tq' kq' => XS.aload X53.here hx rfl (hb hby at_41) rfl rfl kq') ?_
      show OwnGo _ _ _ _ (T53.setTop (mkF m 43 #[.val (.int p0), .val (.long p1), .second, .val (.int p2), .val (.int p3), .val (.int kk), .val (.ref b1), .unset, .unset, .unset, .unset, .unset, .unset, .unset, .unset] [(.ref b1)]))
      refine OwnGo.fwd (fun tq' kq' => XS.aconstNull X53.here hx rfl (hb hby at_43) kq') ?_
      show OwnGo _ _ _ _ (T53.setTop (mkF m 44 #[.val (.int p0), .val (.long p1), .second, .val (.int p2), .val (.int p3), .val (.int kk), .val (.ref b1), .unset, .unset, .unset, .unset, .unset, .unset, .unset, .unset] [.null, (.ref b1)]))
      obtain ⟨cq55, kq55, q55a, q55b, q55c⟩ := isOf hZ eh53.symm E_b1
      obtain ⟨_, _, ⟨T55, L55, k55, n55⟩, -, X55, ⟨Lc55, hQ55, l55, y55, z55⟩, st55⟩ := X53.virtualBack hx (y := (⟨"java/util/ArrayList", "add", "(Ljava/lang/Object;)Z"⟩ : MethodName)) (z := (⟨"java/util/ArrayList", "add", "(Ljava/lang/Object;)Z"⟩ : MethodName)) hown (mvT hZ (hw _ (List.mem_of_getElem? (i := 83) rfl))) (mvT hZ (hw _ (List.mem_of_getElem? (i := 84) rfl))) (notFace_of_selects (args := #[]) (mvT hZ (hw _ (List.mem_of_getElem? (i := 86) rfl)))) (mvT hZ (hw _ (List.mem_of_getElem? (i := 86) rfl))) (mvT hZ (hw _ (List.mem_of_getElem? (i := 85) rfl))) (by decide) (backOf (W := 0) (rm11b l Z a0 hw [] b1 t53 ((0 : Int32) + (1 : Int32)) h53 n0 Zs E_b1 F_modCount_b1 F_elementData_b1 F_size_b1 g_b1 O_t53 g_t53 ne_b1_t53) hZ (hw _ (List.mem_of_getElem? (i := 87) rfl)) (hw _ (List.mem_of_getElem? (i := 2) rfl)) (by decide) (by decide)) q55a q55c (g := (mkF m 44 #[.val (.int p0), .val (.long p1), .second, .val (.int p2), .val (.int p3), .val (.int kk), .val (.ref b1), .unset, .unset, .unset, .unset, .unset, .unset, .unset, .unset] [.null, (.ref b1)])) rfl (by rw [hml]; rfl) (Steps.refl _) (argsL := [.null]) (rest := []) (lenOf pd_6 rfl) rfl (by show 2 * 0 + _ ≤ _; exact Nat.le_of_eq rfl) (hb hby at_44) (fun _ _ => ⟨rfl, eh53.symm, (by decide : 3 + 0 ≤ _), (by decide : 14 + 0 ≤ _)⟩)
      dsimp only [Pt.U, Pt.locs, Pt.cells, Pt.slots] at X55 l55 y55 z55 st55 hQ55
      subst l55 y55 z55
      obtain ⟨h55, eh55⟩ : ∃ z, z = T55.heap := ⟨_, rfl⟩
      rw [← eh55] at hQ55
      obtain ⟨rfl, N55q, K55, O_t53, E_b1, F_modCount_b1, F_elementData_b1, F_size_b1⟩ := hQ55
      have N := Fr.app N N55q
      have Zs := Nat.le_trans Zs K55.1
      have O_dc := O_dc.keep K55 (ninS ne_dc_b1 (ninS ne_dc_t53 nin0))
      have E_bx52 := E_bx52.keep K55
      have K := K.trans K55 (allS (Or.inr sz_b1) (allS (Or.inr sz_t53) all0))
      refine OwnGo.thru st55 ?_
      show OwnGo _ _ _ _ (T55.setTop (mkF m 47 #[.val (.int p0), .val (.long p1), .second, .val (.int p2), .val (.int p3), .val (.int kk), .val (.ref b1), .unset, .unset, .unset, .unset, .unset, .unset, .unset, .unset] [(.int (1 : Int32))]))
      refine OwnGo.fwd (fun tq' kq' => XS.pop X55.here hx rfl (hb hby at_47) rfl rfl kq') ?_
      show OwnGo _ _ _ _ (T55.setTop (mkF m 48 #[.val (.int p0), .val (.long p1), .second, .val (.int p2), .val (.int p3), .val (.int kk), .val (.ref b1), .unset, .unset, .unset, .unset, .unset, .unset, .unset, .unset] []))
      exact J48 _ _ _ (X55.more (by decide) (by decide)) eh55.symm N K ⟨E_b1, _, _, 2, F_elementData_b1, F_size_b1, O_t53, by decide, by decide, by decide⟩
theorem own_mir {s : State} {K : String} (h : MirrorMade s K) : ∃ m, Mir s K m := by
  obtain ⟨c, k, m, h1, h2, h3, h4⟩ := h
  exact ⟨m, c, k, h1, h2, h3, h4⟩
theorem own_cs {args : Array Value} {s : State} {t : Term} {c : Int32} (ev : t.eval args s none [] s = some (.int c)) (h : (Jvm.Cond.not (.eq t (.int 0))).before args s = true) : ¬ c.toInt = 0 := fun q => by
  have : c = 0 := Int32.toInt_inj.mp (by rw [q]; decide)
  subst this
  have r : (Term.int 0).eval args s none [] s = some (.int 0) := rfl
  simp [Cond.before, Cond.holds, Cond.value, ev, r] at h
theorem own_vk {args : Array Value} {s : State} {C n d K : String} (h : (Jvm.Cond.exactly (.static C n d) K).value args s none s [] = some true) (hi : (Cond.initialized C).before args s = true) (hl : (Cond.laysStatic C n d).before args s = true) : ∃ w, Sta s s.heap C n d (.ref w) := by
  obtain ⟨a', c', cell, k, e1, -⟩ := Cond.exactly_spec (beq_iff_eq.mpr h : (Cond.exactly _ _).holds args s none s [] = true)
  exact ⟨a', Sta.start e1 (Or.inr ⟨hi, hl⟩)⟩
set_option maxRecDepth 65536 in
set_option maxHeartbeats 40000000 in
theorem comes_1 {Post : Tables → Env → Array Value → State → Outcome → State → Prop} (hpost : ∀ tb e args s v u, (limb_1_1.after args s (.returned v) u = true ∧ limb_1_2.after args s (.returned v) u = true ∧ True) → FramedW s (.returned v) u (Jvm.fieldLocs frame_1_writes args s ++ Jvm.arrayLocs frame_1_arrays args s ++ Jvm.staticLocs frame_1_statics s) 32 1152 → Post tb e args s (.returned v) u) :
    ArmFor flags0 classFile x code maxLocals ret World_1 tables_1 room_1 Calls_1 rest_1 Pre_1 Post := by
  intro l hfl _ _ p e ha hc hk s m args below hf hA hF happ hP
  obtain ⟨hcalls, hrest, hpre⟩ := hP
  obtain ⟨-, -, -, hnamed, -, -, -, hat⟩ := (Spec.applies_iff hf).mp happ
  obtain ⟨hg, hn⟩ := and_e (Cond.before_iff.mp (show (Jvm.Cond.and given_1 narrow_1).before args s = true from hpre))
  obtain ⟨gc, gr0⟩ := and_e hg
  obtain ⟨ga0, gr1⟩ := and_e gr0
  obtain ⟨ga1, gr2⟩ := and_e gr1
  obtain ⟨ga2, gr3⟩ := and_e gr2
  obtain ⟨w0, w1, w2, w3, rfl⟩ : ∃ w0 w1 w2 w3 : Value, args = #[w0, w1, w2, w3] := by
    have hs : args.size = 4 := by simpa [Cond.value, given_1] using gc
    obtain ⟨L⟩ := args
    match L, hs with
    | [w0, w1, w2, w3], _ => exact ⟨w0, w1, w2, w3, rfl⟩
  have hw := fun d (hd : d ∈ tables_1) => atoms_spec (ws := Jvm.Cond.code x code maxLocals ret :: tables_1) hat d (List.mem_cons_of_mem _ hd)
  have hfit : Fit s := fun {y c} hc i hi => by
    obtain ⟨ha, rfl⟩ := Array.getElem?_eq_some_iff.mp hc
    have q := List.all_eq_true.mp ((Array.all_eq_true_iff_forall_mem.mp hF) _ (Array.getElem_mem ha)) i (List.mem_range.mpr hi)
    simpa [Array.getElem?_eq_getElem hi] using q
  obtain ⟨i0, ei0⟩ := is_v ga0
  obtain rfl : w0 = (.int i0) := Option.some.inj ei0
  obtain ⟨i1, ei1⟩ := isL_v ga1
  obtain rfl : w1 = (.long i1) := Option.some.inj ei1
  obtain ⟨i2, ei2⟩ := is_v ga2
  obtain rfl : w2 = (.int i2) := Option.some.inj ei2
  obtain ⟨i3, ei3⟩ := is_v gr3
  obtain rfl : w3 = (.int i3) := Option.some.inj ei3
  obtain ⟨hc1, hc2, hc3, hc4, hc5, -⟩ := hcalls
  obtain ⟨hsets, hown0⟩ := atoms_of _ (rest_1_c_eq ▸ (show rest_1_c.before _ s = true from hrest))
  have hst : ∀ (i : Nat) {w : Jvm.Cond}, jdkStatics_1[i]? = some w → w.before #[.int i0, .long i1, .int i2, .int i3] s = true := fun i w h => hsets w (List.mem_of_getElem? h)
  have IC0 : OwnIC s s.heap := own_ICstart (hst 16 rfl) (hst 17 rfl) (hst 18 rfl) (hst 19 rfl) (hst 21 rfl) (hst 22 rfl) (hw _ (List.mem_of_getElem? (i := 145) rfl))
  have LC0 : OwnLC s s.heap := own_LCstart (hst 10 rfl) (hst 11 rfl) (hst 13 rfl) (hst 14 rfl)
  obtain ⟨em, evE⟩ := arr_v (Cond.before_iff.mp (hst 3 rfl))
  obtain ⟨dc, evD⟩ := arr_v (Cond.before_iff.mp (hst 6 rfl))
  have O_dc : OwnOA s s.heap dc 0 := own_OAstart hfit evD (hst 6 rfl) (hst 7 rfl) (hst 8 rfl)
  have S0_E := Sta.start evE (Or.inl (hst 1 rfl))
  have S0_D := Sta.start evD (Or.inr ⟨(hw _ (List.mem_of_getElem? (i := 2) rfl)), hst 2 rfl⟩)
  obtain ⟨cs, evC⟩ := is_v (Cond.before_iff.mp (hst 24 rfl))
  have S0_C := Sta.start evC (Or.inl (hst 23 rfl))
  have hcw : Jvm.Lit.compactW.before #[.int i0, .long i1, .int i2, .int i3] s = true := hst 25 rfl
  have hcs : ¬ cs.toInt = 0 := own_cs evC (hst 25 rfl)
  obtain ⟨mo, M_mo⟩ := own_mir hc1
  obtain ⟨ma, M_ma⟩ := own_mir hc2
  obtain ⟨mu, M_mu⟩ := own_mir hc3
  obtain ⟨mr, M_mr⟩ := own_mir hc4
  have hheld : Jvm.Lit.constHeld s "java/lang/String" 7 := hc5 ("java/lang/String", 7) (List.mem_cons_self ..)
  obtain ⟨x0, hn0⟩ := and_e hn
  obtain ⟨vkNULL, S0_NULL⟩ := own_vk x0 (hw _ (List.mem_of_getElem? (i := 29) rfl)) (hw _ (List.mem_of_getElem? (i := 30) rfl))
  obtain ⟨x1, hn1⟩ := and_e hn0
  obtain ⟨vkSTRING, S0_STRING⟩ := own_vk x1 (hw _ (List.mem_of_getElem? (i := 29) rfl)) (hw _ (List.mem_of_getElem? (i := 55) rfl))
  obtain ⟨x2, hn2⟩ := and_e hn1
  obtain ⟨vkLINK, S0_LINK⟩ := own_vk x2 (hw _ (List.mem_of_getElem? (i := 29) rfl)) (hw _ (List.mem_of_getElem? (i := 131) rfl))
  obtain ⟨x3, hn3⟩ := and_e hn2
  obtain ⟨vkINTEGER, S0_INTEGER⟩ := own_vk x3 (hw _ (List.mem_of_getElem? (i := 29) rfl)) (hw _ (List.mem_of_getElem? (i := 136) rfl))
  obtain ⟨x4, hn4⟩ := and_e hn3
  obtain ⟨vkCOLLECTION, S0_COLLECTION⟩ := own_vk x4 (hw _ (List.mem_of_getElem? (i := 29) rfl)) (hw _ (List.mem_of_getElem? (i := 250) rfl))
  obtain ⟨vkREAL, S0_REAL⟩ := own_vk hn4 (hw _ (List.mem_of_getElem? (i := 29) rfl)) (hw _ (List.mem_of_getElem? (i := 270) rfl))
  obtain ⟨n, o, h1, h2, h3, _, L, rfl, ⟨rfl, N⟩, hq⟩ := rm0 l s _ hw tables_1 i0 i1 i2 i3 em dc mo ma mu mr cs vkNULL vkSTRING vkLINK vkINTEGER vkCOLLECTION vkREAL s.heap s.heap.size (Nat.le_refl _) IC0 LC0 O_dc S0_D S0_E S0_C hcs S0_NULL S0_STRING S0_LINK S0_INTEGER S0_COLLECTION S0_REAL M_mo M_ma M_mu M_mr rfl hheld hcw p e ha hc hk s m _ below hf ((Spec.applies_iff_loose hf).mp happ).1 ⟨rfl, State.Warmed39.refl s, rfl, rfl⟩ trivial
  refine ⟨n, _, h1, h2, h3, hpost _ _ _ _ _ _ ⟨Cond.after_iff.mpr rfl, Cond.after_iff.mpr (eq_i res_at (Term.int_eval (1)) rfl), trivial⟩ ⟨hq.1, hq.2.1, hq.2.2.1, (hq.2.2.2.sift fun y hy => Or.inr (N y hy)).mono (by decide) (by decide)⟩⟩
theorem main_1_1 : Claimed_1_1 := comes_1 fun _ _ _ _ _ _ h hF => ⟨h.1, hF⟩
theorem main_1_2 : Claimed_1_2 := comes_1 fun _ _ _ _ _ _ h hF => ⟨h.2.1, hF⟩
end Jvm.Pilot.@@N@@
namespace Jvm.Pilot.@@N@@
open Jvm Jvm.ClassFile Sem Op Lib Jvm.Free Jvm.Stand Jvm.Pilot.@@N@@.Jvm.D
/-! MADE BY PROGRAM (witnessworld.py) out of the Statement's table words and the real class files: 49 classes; the members and pool entries that the words name. The judged class is class 1, her method 1. -/
namespace start1
open Jvm.ClassFile
def u (s : String) : CpInfo := .utf8 (stringToUtf16 s)
/-- a pool by its gaps: so many unusable entries, then the entry; so many at the end -/
def gap : Nat → List CpInfo → List CpInfo
  | 0, r => r
  | n + 1, r => .unusable :: gap n r
def poolList (es : List (Nat × CpInfo)) (last : Nat) : List CpInfo := es.foldr (fun e r => gap e.1 (e.2 :: r)) (gap last [])
def pool (es : List (Nat × CpInfo)) (last : Nat) : Array CpInfo := ⟨poolList es last⟩
def fileOf (pool : Array CpInfo) (this : Nat) (attrs : Array Attribute := #[]) (ms : Array MethodInfo := #[]) (fl : Nat := 33) (sup : Nat := 0) (ifs : Array Nat := #[]) (fds : Array FieldInfo := #[]) : ClassFile where
  minorVersion := 0
  majorVersion := 65
  constantPool := pool
  accessFlags := fl
  thisClass := this
  superClass := sup
  interfaces := ifs
  fields := fds
  methods := ms
  attributes := attrs
def plain (name : String) (sup : Option ClassId) : Class where
  name := name
  kind := .ordinary
  loader := none
  accessFlags := 33
  super := sup
  interfaces := #[]
  cf := none
  fields := #[]
  methods := #[]
  instanceTypes := #[]
  staticTypes := #[]
  resolved := #[]
  callSites := []
  init := .initialized
  statics := none
  mirror := none

def pool0 : Array CpInfo := pool [(5, u "<init>"), (0, u "()V"), (1, .class_ 10), (1, u "java/lang/Object"), (0, u "getClass"), (0, u "()Ljava/lang/Class;")] 111

def k0c0 : Code := { maxStack := 0, maxLocals := 1, code := object_method_1_code, exceptionTable := #[], attributes := #[] }
def k0m0 : Method := { name := "<init>", desc := "()V", sig := { parameters := [], returnType := none }, accessFlags := 1, code := some k0c0 }
def k0m1 : Method := { name := "getClass", desc := "()Ljava/lang/Class;", sig := { parameters := [], returnType := some (.object "java/lang/Class") }, accessFlags := 273, code := none }
/-- java/lang/Object -/
def k0 : Class := { plain "java/lang/Object" none with
  accessFlags := 33
  interfaces := #[]
  cf := some (fileOf pool0 8 #[] #[{ accessFlags := 1, nameIndex := 5, descriptorIndex := 6, attributes := #[] }, { accessFlags := 273, nameIndex := 11, descriptorIndex := 12, attributes := #[] }] 33 0 #[] #[])
  fields := #[]
  methods := #[k0m0, k0m1]
  instanceTypes := #[]
  staticTypes := #[]
  resolved := Array.replicate 124 none
  statics := none }

def pool1 : Array CpInfo := pool [(2, .class_ 4), (0, .nameAndType 5 6), (0, u "java/lang/Object"), (0, u "<init>"), (0, u "()V"), (0, .class_ 8), (0, u "java/util/ArrayList"), (0, .methodref 7 3), (0, .methodref 11 12), (0, .class_ 13), (0, .nameAndType 14 15), (0, u "java/lang/Long"), (0, u "valueOf"), (0, u "(J)Ljava/lang/Long;"), (0, .methodref 7 17), (0, .nameAndType 18 19), (0, u "add"), (0, u "(Ljava/lang/Object;)Z"), (0, .integer 2147483647), (0, .fieldref 22 23), (0, .class_ 24), (0, .nameAndType 25 26), (0, u "com/example/rolestack/rolestack/ValueKind"), (0, u "NULL"), (0, u "Lcom/example/rolestack/rolestack/ValueKind;"), (0, .fieldref 22 28), (0, .nameAndType 29 26), (0, u "INTEGER"), (0, .methodref 31 32), (0, .class_ 33), (0, .nameAndType 14 34), (0, u "java/lang/Double"), (0, u "(D)Ljava/lang/Double;"), (0, .fieldref 22 36), (0, .nameAndType 37 26), (0, u "REAL"), (0, .class_ 39), (0, u "java/lang/String"), (0, .methodref 38 41), (0, .nameAndType 5 42), (0, u "([C)V"), (0, .fieldref 22 44), (0, .nameAndType 45 26), (0, u "STRING"), (0, .class_ 47), (0, u "com/example/rolestack/rolestack/StoredObject"), (0, .methodref 46 49), (0, .nameAndType 5 50), (0, u "(Lcom/example/rolestack/rolestack/Database;I)V"), (0, .fieldref 22 52), (0, .nameAndType 53 26), (0, u "LINK"), (0, .class_ 55), (0, u "com/example/rolestack/rolestack/CollectionValue"), (0, .methodref 54 57), (0, .nameAndType 5 58), (0, u "(Ljava/util/List;)V"), (0, .fieldref 22 60), (0, .nameAndType 61 26), (0, u "COLLECTION"), (0, .methodref 63 64), (0, .class_ 65), (0, .nameAndType 14 66), (0, u "java/lang/Integer"), (0, u "(I)Ljava/lang/Integer;"), (0, .methodref 22 68), (0, .nameAndType 69 70), (0, u "of"), (0, u "(Ljava/lang/Object;)Lcom/example/rolestack/rolestack/ValueKind;"), (0, .class_ 72), (0, u "com/example/rolestack/rolestack/ValueKindOfPinLaw"), (2, u "law"), (0, u "(IJII)Z")] 5

def k1m0 : Method := { name := "<init>", desc := "()V", sig := { parameters := [], returnType := none }, accessFlags := 1, code := none }
def k1c1 : Code := { maxStack := 4, maxLocals := 15, code := code, exceptionTable := #[], attributes := #[] }
def k1m1 : Method := { name := "law", desc := "(IJII)Z", sig := { parameters := [.int, .long, .int, .int], returnType := some .boolean }, accessFlags := 9, code := some k1c1 }
/-- com/example/rolestack/rolestack/ValueKindOfPinLaw -/
def k1 : Class := { plain "com/example/rolestack/rolestack/ValueKindOfPinLaw" (some 0) with
  accessFlags := 49
  interfaces := #[]
  cf := some (fileOf pool1 71 #[] #[{ accessFlags := 1, nameIndex := 5, descriptorIndex := 6, attributes := #[] }, { accessFlags := 9, nameIndex := 75, descriptorIndex := 76, attributes := #[] }] 49 2 #[] #[])
  fields := #[]
  methods := #[k1m0, k1m1]
  instanceTypes := #[]
  staticTypes := #[]
  resolved := Array.replicate 82 none
  statics := none }

def pool2 : Array CpInfo := pool [(8, .class_ 10), (1, u "java/lang/Iterable"), (24, .class_ 36), (0, u "java/lang/Object")] 25

/-- java/lang/Iterable -/
def k2 : Class := { plain "java/lang/Iterable" (some 0) with
  accessFlags := 1537
  interfaces := #[]
  cf := some (fileOf pool2 8 #[] #[] 1537 35 #[] #[])
  fields := #[]
  methods := #[]
  instanceTypes := #[]
  staticTypes := #[]
  resolved := Array.replicate 62 none
  statics := none }

def pool3 : Array CpInfo := pool [(10, .class_ 12), (1, u "java/util/Collection"), (0, u "toArray"), (46, .class_ 61), (0, u "java/lang/Object"), (0, .class_ 63), (0, u "java/lang/Iterable"), (6, u "()[Ljava/lang/Object;")] 44

def k3m0 : Method := { name := "toArray", desc := "()[Ljava/lang/Object;", sig := { parameters := [], returnType := some (.array (.object "java/lang/Object")) }, accessFlags := 1025, code := none }
/-- java/util/Collection -/
def k3 : Class := { plain "java/util/Collection" (some 0) with
  accessFlags := 1537
  interfaces := #[2]
  cf := some (fileOf pool3 10 #[] #[{ accessFlags := 1025, nameIndex := 13, descriptorIndex := 70, attributes := #[] }] 1537 60 #[62] #[])
  fields := #[]
  methods := #[k3m0]
  instanceTypes := #[]
  staticTypes := #[]
  resolved := Array.replicate 115 none
  statics := none }

def pool4 : Array CpInfo := pool [(1, .methodref 2 3), (0, .class_ 4), (0, .nameAndType 5 6), (0, u "java/lang/Object"), (0, u "<init>"), (0, u "()V"), (1, .class_ 10), (1, u "java/util/AbstractCollection"), (66, .class_ 78), (0, u "java/util/Collection")] 81

def k4c0 : Code := { maxStack := 1, maxLocals := 1, code := jdk_22_method_1_code, exceptionTable := #[], attributes := #[] }
def k4m0 : Method := { name := "<init>", desc := "()V", sig := { parameters := [], returnType := none }, accessFlags := 4, code := some k4c0 }
/-- java/util/AbstractCollection -/
def k4 : Class := { plain "java/util/AbstractCollection" (some 0) with
  accessFlags := 1057
  interfaces := #[3]
  cf := some (fileOf pool4 8 #[] #[{ accessFlags := 4, nameIndex := 5, descriptorIndex := 6, attributes := #[] }] 1057 2 #[77] #[])
  fields := #[]
  methods := #[k4m0]
  instanceTypes := #[]
  staticTypes := #[]
  resolved := Array.replicate 160 none
  statics := none }

def pool5 : Array CpInfo := pool [(8, .class_ 10), (1, u "java/util/SequencedCollection"), (15, .class_ 27), (0, u "java/lang/Object"), (0, .class_ 29), (0, u "java/util/Collection")] 27

/-- java/util/SequencedCollection -/
def k5 : Class := { plain "java/util/SequencedCollection" (some 0) with
  accessFlags := 1537
  interfaces := #[3]
  cf := some (fileOf pool5 8 #[] #[] 1537 26 #[28] #[])
  fields := #[]
  methods := #[]
  instanceTypes := #[]
  staticTypes := #[]
  resolved := Array.replicate 57 none
  statics := none }

def pool6 : Array CpInfo := pool [(8, .class_ 10), (1, u "java/util/List"), (92, .class_ 104), (0, u "java/lang/Object"), (15, .class_ 121), (0, u "java/util/SequencedCollection")] 129

/-- java/util/List -/
def k6 : Class := { plain "java/util/List" (some 0) with
  accessFlags := 1537
  interfaces := #[5]
  cf := some (fileOf pool6 8 #[] #[] 1537 103 #[120] #[])
  fields := #[]
  methods := #[]
  instanceTypes := #[]
  staticTypes := #[]
  resolved := Array.replicate 251 none
  statics := none }

def pool7 : Array CpInfo := pool [(1, .methodref 2 3), (0, .class_ 4), (0, .nameAndType 5 6), (0, u "java/util/AbstractCollection"), (0, u "<init>"), (0, u "()V"), (0, .fieldref 8 9), (0, .class_ 10), (0, .nameAndType 11 12), (0, u "java/util/AbstractList"), (0, u "modCount"), (0, u "I"), (64, .class_ 78), (0, u "java/util/AbstractList$Itr"), (3, .class_ 83), (0, u "java/util/AbstractList$ListItr"), (9, .class_ 94), (0, u "java/util/AbstractList$RandomAccessSubList"), (3, .class_ 99), (0, u "java/util/AbstractList$SubList"), (33, .class_ 134), (0, u "java/util/List"), (73, .class_ 209), (0, u "java/util/AbstractList$SubList$1"), (0, .class_ 211), (0, u "java/util/AbstractList$RandomAccessSpliterator")] 6

def k7c0 : Code := { maxStack := 2, maxLocals := 1, code := jdk_39_method_1_code, exceptionTable := #[], attributes := #[] }
def k7m0 : Method := { name := "<init>", desc := "()V", sig := { parameters := [], returnType := none }, accessFlags := 4, code := some k7c0 }
/-- java/util/AbstractList -/
def k7 : Class := { plain "java/util/AbstractList" (some 4) with
  accessFlags := 1057
  interfaces := #[6]
  cf := some (fileOf pool7 8 #[.nestMembers #[93, 98, 208, 210, 82, 77]] #[{ accessFlags := 4, nameIndex := 5, descriptorIndex := 6, attributes := #[] }] 1057 2 #[133] #[{ accessFlags := 132, nameIndex := 11, descriptorIndex := 12, attributes := #[] }])
  fields := #[{ name := "modCount", type := .int, accessFlags := 132, slot := 0, constantValue := 0 }]
  methods := #[k7m0]
  instanceTypes := #[.int]
  staticTypes := #[]
  resolved := Array.replicate 218 none
  statics := none }

def pool8 : Array CpInfo := pool [(1, .class_ 2), (0, u "java/util/RandomAccess"), (0, .class_ 4), (0, u "java/lang/Object")] 2

/-- java/util/RandomAccess -/
def k8 : Class := { plain "java/util/RandomAccess" (some 0) with
  accessFlags := 1537
  interfaces := #[]
  cf := some (fileOf pool8 1 #[] #[] 1537 3 #[] #[])
  fields := #[]
  methods := #[]
  instanceTypes := #[]
  staticTypes := #[]
  resolved := Array.replicate 7 none
  statics := none }

def pool9 : Array CpInfo := pool [(1, .class_ 2), (0, u "java/lang/Cloneable"), (0, .class_ 4), (0, u "java/lang/Object")] 2

/-- java/lang/Cloneable -/
def k9 : Class := { plain "java/lang/Cloneable" (some 0) with
  accessFlags := 1537
  interfaces := #[]
  cf := some (fileOf pool9 1 #[] #[] 1537 3 #[] #[])
  fields := #[]
  methods := #[]
  instanceTypes := #[]
  staticTypes := #[]
  resolved := Array.replicate 7 none
  statics := none }

def pool10 : Array CpInfo := pool [(1, .class_ 2), (0, u "java/io/Serializable"), (0, .class_ 4), (0, u "java/lang/Object")] 2

/-- java/io/Serializable -/
def k10 : Class := { plain "java/io/Serializable" (some 0) with
  accessFlags := 1537
  interfaces := #[]
  cf := some (fileOf pool10 1 #[] #[] 1537 3 #[] #[])
  fields := #[]
  methods := #[]
  instanceTypes := #[]
  staticTypes := #[]
  resolved := Array.replicate 7 none
  statics := none }

def pool11 : Array CpInfo := pool [(1, .methodref 2 3), (0, .class_ 4), (0, .nameAndType 5 6), (0, u "java/util/AbstractList"), (0, u "<init>"), (0, u "()V"), (0, .class_ 8), (0, u "java/lang/Object"), (0, .fieldref 10 11), (0, .class_ 12), (0, .nameAndType 13 14), (0, u "java/util/ArrayList"), (0, u "elementData"), (0, u "[Ljava/lang/Object;"), (0, .fieldref 10 16), (0, .nameAndType 17 14), (0, u "EMPTY_ELEMENTDATA"), (21, .fieldref 10 40), (0, .nameAndType 41 14), (0, u "DEFAULTCAPACITY_EMPTY_ELEMENTDATA"), (0, .interfaceMethodref 43 44), (0, .class_ 45), (0, .nameAndType 46 47), (0, u "java/util/Collection"), (0, u "toArray"), (0, u "()[Ljava/lang/Object;"), (0, .fieldref 10 49), (0, .nameAndType 50 51), (0, u "size"), (0, u "I"), (0, .interfaceMethodref 43 53), (0, .nameAndType 54 55), (0, u "getClass"), (0, u "()Ljava/lang/Class;"), (2, .class_ 60), (1, u "java/util/Arrays"), (0, u "copyOf"), (1, .fieldref 10 64), (0, .nameAndType 65 51), (0, u "modCount"), (0, .methodref 58 67), (0, .nameAndType 61 68), (0, u "([Ljava/lang/Object;I)[Ljava/lang/Object;"), (0, .methodref 10 70), (0, .nameAndType 71 72), (0, u "grow"), (0, u "(I)[Ljava/lang/Object;"), (6, .methodref 80 81), (0, .class_ 82), (0, .nameAndType 83 84), (0, u "java/lang/Math"), (0, u "max"), (0, u "(II)I"), (11, u "(Ljava/lang/Object;)Z"), (32, .methodref 10 130), (0, .nameAndType 71 47), (0, .methodref 10 132), (0, .nameAndType 133 134), (0, u "add"), (0, u "(Ljava/lang/Object;[Ljava/lang/Object;I)V"), (13, .class_ 149), (0, u "java/util/List"), (112, .class_ 263), (0, u "java/util/ArrayList$ListItr"), (3, .class_ 268), (0, u "java/util/ArrayList$Itr"), (7, .class_ 277), (0, u "java/util/ArrayList$SubList"), (12, .class_ 291), (0, u "java/util/ArrayList$ArrayListSpliterator"), (37, .class_ 330), (0, u "java/util/RandomAccess"), (0, .class_ 332), (0, u "java/lang/Cloneable"), (0, .class_ 334), (0, u "java/io/Serializable"), (0, u "serialVersionUID"), (0, u "J"), (3, u "DEFAULT_CAPACITY"), (10, u "(Ljava/util/Collection;)V"), (148, .class_ 501), (0, u "java/util/ArrayList$SubList$2"), (0, .class_ 503), (0, u "java/util/ArrayList$SubList$1")] 5

def k11c0 : Code := { maxStack := 2, maxLocals := 1, code := jdk_38_method_2_code, exceptionTable := #[], attributes := #[] }
def k11m0 : Method := { name := "<init>", desc := "()V", sig := { parameters := [], returnType := none }, accessFlags := 1, code := some k11c0 }
def k11c1 : Code := { maxStack := 4, maxLocals := 3, code := jdk_38_method_3_code, exceptionTable := #[], attributes := #[] }
def k11m1 : Method := { name := "<init>", desc := "(Ljava/util/Collection;)V", sig := { parameters := [(.object "java/util/Collection")], returnType := none }, accessFlags := 1, code := some k11c1 }
def k11c2 : Code := { maxStack := 4, maxLocals := 4, code := jdk_38_method_6_code, exceptionTable := #[], attributes := #[] }
def k11m2 : Method := { name := "grow", desc := "(I)[Ljava/lang/Object;", sig := { parameters := [.int], returnType := some (.array (.object "java/lang/Object")) }, accessFlags := 2, code := some k11c2 }
def k11c3 : Code := { maxStack := 3, maxLocals := 1, code := jdk_38_method_7_code, exceptionTable := #[], attributes := #[] }
def k11m3 : Method := { name := "grow", desc := "()[Ljava/lang/Object;", sig := { parameters := [], returnType := some (.array (.object "java/lang/Object")) }, accessFlags := 2, code := some k11c3 }
def k11c4 : Code := { maxStack := 2, maxLocals := 1, code := jdk_38_method_16_code, exceptionTable := #[], attributes := #[] }
def k11m4 : Method := { name := "toArray", desc := "()[Ljava/lang/Object;", sig := { parameters := [], returnType := some (.array (.object "java/lang/Object")) }, accessFlags := 1, code := some k11c4 }
def k11c5 : Code := { maxStack := 3, maxLocals := 4, code := jdk_38_method_24_code, exceptionTable := #[], attributes := #[] }
def k11m5 : Method := { name := "add", desc := "(Ljava/lang/Object;[Ljava/lang/Object;I)V", sig := { parameters := [(.object "java/lang/Object"), (.array (.object "java/lang/Object")), .int], returnType := none }, accessFlags := 2, code := some k11c5 }
def k11c6 : Code := { maxStack := 4, maxLocals := 2, code := jdk_38_method_25_code, exceptionTable := #[], attributes := #[] }
def k11m6 : Method := { name := "add", desc := "(Ljava/lang/Object;)Z", sig := { parameters := [(.object "java/lang/Object")], returnType := some .boolean }, accessFlags := 1, code := some k11c6 }
/-- java/util/ArrayList -/
def k11 : Class := { plain "java/util/ArrayList" (some 7) with
  accessFlags := 33
  interfaces := #[6, 8, 9, 10]
  cf := some (fileOf pool11 10 #[.nestMembers #[290, 276, 500, 502, 262, 267]] #[{ accessFlags := 1, nameIndex := 5, descriptorIndex := 6, attributes := #[] }, { accessFlags := 1, nameIndex := 5, descriptorIndex := 351, attributes := #[] }, { accessFlags := 2, nameIndex := 71, descriptorIndex := 72, attributes := #[] }, { accessFlags := 2, nameIndex := 71, descriptorIndex := 47, attributes := #[] }, { accessFlags := 1, nameIndex := 46, descriptorIndex := 47, attributes := #[] }, { accessFlags := 2, nameIndex := 133, descriptorIndex := 134, attributes := #[] }, { accessFlags := 1, nameIndex := 133, descriptorIndex := 96, attributes := #[] }] 33 2 #[148, 329, 331, 333] #[{ accessFlags := 26, nameIndex := 335, descriptorIndex := 336, attributes := #[] }, { accessFlags := 26, nameIndex := 340, descriptorIndex := 51, attributes := #[] }, { accessFlags := 26, nameIndex := 17, descriptorIndex := 14, attributes := #[] }, { accessFlags := 26, nameIndex := 41, descriptorIndex := 14, attributes := #[] }, { accessFlags := 128, nameIndex := 13, descriptorIndex := 14, attributes := #[] }, { accessFlags := 2, nameIndex := 50, descriptorIndex := 51, attributes := #[] }])
  fields := #[{ name := "serialVersionUID", type := .long, accessFlags := 26, slot := 0, constantValue := 0 }, { name := "DEFAULT_CAPACITY", type := .int, accessFlags := 26, slot := 1, constantValue := 0 }, { name := "EMPTY_ELEMENTDATA", type := (.array (.object "java/lang/Object")), accessFlags := 26, slot := 2, constantValue := 0 }, { name := "DEFAULTCAPACITY_EMPTY_ELEMENTDATA", type := (.array (.object "java/lang/Object")), accessFlags := 26, slot := 3, constantValue := 0 }, { name := "elementData", type := (.array (.object "java/lang/Object")), accessFlags := 128, slot := 1, constantValue := 0 }, { name := "size", type := .int, accessFlags := 2, slot := 2, constantValue := 0 }]
  methods := #[k11m0, k11m1, k11m2, k11m3, k11m4, k11m5, k11m6]
  instanceTypes := #[.int, (.array (.object "java/lang/Object")), .int]
  staticTypes := #[.long, .int, (.array (.object "java/lang/Object")), (.array (.object "java/lang/Object"))]
  resolved := Array.replicate 509 none
  mirror := some 7
  statics := some 0 }

def pool12 : Array CpInfo := pool [(1, .class_ 2), (0, u "java/lang/constant/Constable"), (0, .class_ 4), (0, u "java/lang/Object")] 6

/-- java/lang/constant/Constable -/
def k12 : Class := { plain "java/lang/constant/Constable" (some 0) with
  accessFlags := 1537
  interfaces := #[]
  cf := some (fileOf pool12 1 #[] #[] 1537 3 #[] #[])
  fields := #[]
  methods := #[]
  instanceTypes := #[]
  staticTypes := #[]
  resolved := Array.replicate 11 none
  statics := none }

def pool13 : Array CpInfo := pool [(1, .class_ 2), (0, u "java/lang/Comparable"), (0, .class_ 4), (0, u "java/lang/Object")] 7

/-- java/lang/Comparable -/
def k13 : Class := { plain "java/lang/Comparable" (some 0) with
  accessFlags := 1537
  interfaces := #[]
  cf := some (fileOf pool13 1 #[] #[] 1537 3 #[] #[])
  fields := #[]
  methods := #[]
  instanceTypes := #[]
  staticTypes := #[]
  resolved := Array.replicate 12 none
  statics := none }

def pool14 : Array CpInfo := pool [(2, .class_ 4), (1, u "java/lang/Enum"), (0, u "name"), (0, u "Ljava/lang/String;"), (2, u "ordinal"), (0, u "I"), (1, .class_ 14), (1, u "java/lang/Object"), (4, u "hash"), (86, .class_ 108), (1, u "java/lang/Enum$EnumDesc"), (2, .class_ 112), (0, u "java/lang/constant/Constable"), (0, .class_ 114), (0, u "java/lang/Comparable"), (0, .class_ 116), (0, u "java/io/Serializable")] 87

/-- java/lang/Enum -/
def k14 : Class := { plain "java/lang/Enum" (some 0) with
  accessFlags := 1057
  interfaces := #[12, 13, 10]
  cf := some (fileOf pool14 2 #[.nestMembers #[106]] #[] 1057 12 #[111, 113, 115] #[{ accessFlags := 18, nameIndex := 5, descriptorIndex := 6, attributes := #[] }, { accessFlags := 18, nameIndex := 9, descriptorIndex := 10, attributes := #[] }, { accessFlags := 2, nameIndex := 19, descriptorIndex := 10, attributes := #[] }])
  fields := #[{ name := "name", type := (.object "java/lang/String"), accessFlags := 18, slot := 0, constantValue := 0 }, { name := "ordinal", type := .int, accessFlags := 18, slot := 1, constantValue := 0 }, { name := "hash", type := .int, accessFlags := 2, slot := 2, constantValue := 0 }]
  methods := #[]
  instanceTypes := #[(.object "java/lang/String"), .int, .int]
  staticTypes := #[]
  resolved := Array.replicate 204 none
  statics := none }

def pool15 : Array CpInfo := pool [(1, .class_ 2), (0, u "com/example/rolestack/rolestack/ValueKind"), (0, .fieldref 1 4), (0, .nameAndType 5 6), (0, u "INTEGER"), (0, u "Lcom/example/rolestack/rolestack/ValueKind;"), (0, .fieldref 1 8), (0, .nameAndType 9 6), (0, u "REAL"), (0, .fieldref 1 11), (0, .nameAndType 12 6), (0, u "STRING"), (0, .fieldref 1 14), (0, .nameAndType 15 6), (0, u "LINK"), (0, .fieldref 1 17), (0, .nameAndType 18 6), (0, u "NULL"), (0, .fieldref 1 20), (0, .nameAndType 21 6), (0, u "COLLECTION"), (2, u "$VALUES"), (0, u "[Lcom/example/rolestack/rolestack/ValueKind;"), (6, .class_ 34), (1, u "java/lang/Enum"), (8, u "tag"), (0, u "I"), (10, .class_ 56), (0, u "java/lang/Long"), (0, .class_ 58), (0, u "java/lang/Double"), (0, .class_ 60), (0, u "java/lang/String"), (0, .class_ 62), (0, u "com/example/rolestack/rolestack/StoredObject"), (0, .class_ 64), (0, u "com/example/rolestack/rolestack/CollectionValue"), (2, u "BY_TAG"), (32, u "of"), (0, u "(Ljava/lang/Object;)Lcom/example/rolestack/rolestack/ValueKind;")] 23

def k15c0 : Code := { maxStack := 1, maxLocals := 2, code := prog_216_method_6_code, exceptionTable := #[], attributes := #[] }
def k15m0 : Method := { name := "of", desc := "(Ljava/lang/Object;)Lcom/example/rolestack/rolestack/ValueKind;", sig := { parameters := [(.object "java/lang/Object")], returnType := some (.object "com/example/rolestack/rolestack/ValueKind") }, accessFlags := 8, code := some k15c0 }
/-- com/example/rolestack/rolestack/ValueKind -/
def k15 : Class := { plain "com/example/rolestack/rolestack/ValueKind" (some 14) with
  accessFlags := 16432
  interfaces := #[]
  cf := some (fileOf pool15 1 #[] #[{ accessFlags := 8, nameIndex := 100, descriptorIndex := 101, attributes := #[] }] 16432 32 #[] #[{ accessFlags := 16409, nameIndex := 5, descriptorIndex := 6, attributes := #[] }, { accessFlags := 16409, nameIndex := 9, descriptorIndex := 6, attributes := #[] }, { accessFlags := 16409, nameIndex := 12, descriptorIndex := 6, attributes := #[] }, { accessFlags := 16409, nameIndex := 15, descriptorIndex := 6, attributes := #[] }, { accessFlags := 16409, nameIndex := 18, descriptorIndex := 6, attributes := #[] }, { accessFlags := 16409, nameIndex := 21, descriptorIndex := 6, attributes := #[] }, { accessFlags := 26, nameIndex := 67, descriptorIndex := 25, attributes := #[] }, { accessFlags := 18, nameIndex := 43, descriptorIndex := 44, attributes := #[] }, { accessFlags := 4122, nameIndex := 24, descriptorIndex := 25, attributes := #[] }])
  fields := #[{ name := "INTEGER", type := (.object "com/example/rolestack/rolestack/ValueKind"), accessFlags := 16409, slot := 0, constantValue := 0 }, { name := "REAL", type := (.object "com/example/rolestack/rolestack/ValueKind"), accessFlags := 16409, slot := 1, constantValue := 0 }, { name := "STRING", type := (.object "com/example/rolestack/rolestack/ValueKind"), accessFlags := 16409, slot := 2, constantValue := 0 }, { name := "LINK", type := (.object "com/example/rolestack/rolestack/ValueKind"), accessFlags := 16409, slot := 3, constantValue := 0 }, { name := "NULL", type := (.object "com/example/rolestack/rolestack/ValueKind"), accessFlags := 16409, slot := 4, constantValue := 0 }, { name := "COLLECTION", type := (.object "com/example/rolestack/rolestack/ValueKind"), accessFlags := 16409, slot := 5, constantValue := 0 }, { name := "BY_TAG", type := (.array (.object "com/example/rolestack/rolestack/ValueKind")), accessFlags := 26, slot := 6, constantValue := 0 }, { name := "tag", type := .int, accessFlags := 18, slot := 3, constantValue := 0 }, { name := "$VALUES", type := (.array (.object "com/example/rolestack/rolestack/ValueKind")), accessFlags := 4122, slot := 7, constantValue := 0 }]
  methods := #[k15m0]
  instanceTypes := #[(.object "java/lang/String"), .int, .int, .int]
  staticTypes := #[(.object "com/example/rolestack/rolestack/ValueKind"), (.object "com/example/rolestack/rolestack/ValueKind"), (.object "com/example/rolestack/rolestack/ValueKind"), (.object "com/example/rolestack/rolestack/ValueKind"), (.object "com/example/rolestack/rolestack/ValueKind"), (.object "com/example/rolestack/rolestack/ValueKind"), (.array (.object "com/example/rolestack/rolestack/ValueKind")), (.array (.object "com/example/rolestack/rolestack/ValueKind"))]
  resolved := Array.replicate 125 none
  statics := some 1 }

def pool16 : Array CpInfo := pool [(2, .class_ 4), (1, u "java/lang/CharSequence"), (42, .class_ 48), (0, u "java/lang/CharSequence$1CodePointIterator"), (10, .class_ 60), (0, u "java/lang/CharSequence$1CharIterator"), (5, .class_ 67), (0, u "java/lang/Object")] 63

/-- java/lang/CharSequence -/
def k16 : Class := { plain "java/lang/CharSequence" (some 0) with
  accessFlags := 1537
  interfaces := #[]
  cf := some (fileOf pool16 2 #[.nestMembers #[47, 59]] #[] 1537 66 #[] #[])
  fields := #[]
  methods := #[]
  instanceTypes := #[]
  staticTypes := #[]
  resolved := Array.replicate 131 none
  statics := none }

def pool17 : Array CpInfo := pool [(1, .class_ 2), (0, u "java/lang/constant/ConstantDesc"), (0, .class_ 4), (0, u "java/lang/Object")] 32

/-- java/lang/constant/ConstantDesc -/
def k17 : Class := { plain "java/lang/constant/ConstantDesc" (some 0) with
  accessFlags := 1537
  interfaces := #[]
  cf := some (fileOf pool17 1 #[] #[] 1537 3 #[] #[])
  fields := #[]
  methods := #[]
  instanceTypes := #[]
  staticTypes := #[]
  resolved := Array.replicate 37 none
  statics := none }

def pool18 : Array CpInfo := pool [(1, .methodref 2 3), (0, .class_ 4), (0, .nameAndType 5 6), (0, u "java/lang/Object"), (0, u "<init>"), (0, u "()V"), (0, .string 8), (0, u ""), (0, .fieldref 10 11), (0, .class_ 12), (0, .nameAndType 13 14), (0, u "java/lang/String"), (0, u "value"), (0, u "[B"), (0, .fieldref 10 16), (0, .nameAndType 17 18), (0, u "coder"), (0, u "B"), (2, u "hash"), (0, u "I"), (2, u "hashIsZero"), (0, u "Z"), (0, .methodref 10 28), (0, .nameAndType 5 29), (0, u "([CIILjava/lang/Void;)V"), (8, .fieldref 10 39), (0, .nameAndType 40 26), (0, u "COMPACT_STRINGS"), (1, .class_ 44), (1, u "java/lang/StringUTF16"), (0, u "compress"), (1, .methodref 42 48), (0, .nameAndType 49 50), (0, u "coderFromArrayLen"), (0, u "([BI)B"), (126, .methodref 42 178), (0, .nameAndType 45 179), (0, u "([CII)[B"), (395, .class_ 576), (0, u "java/lang/CharSequence"), (22, u "CASE_INSENSITIVE_ORDER"), (0, u "Ljava/util/Comparator;"), (409, u "([C)V"), (90, u "serialPersistentFields"), (0, u "[Ljava/io/ObjectStreamField;"), (0, .class_ 1104), (0, u "java/lang/String$CaseInsensitiveComparator"), (1, .class_ 1107), (0, u "java/io/Serializable"), (0, .class_ 1109), (0, u "java/lang/Comparable"), (0, .class_ 1111), (0, u "java/lang/constant/Constable"), (0, .class_ 1113), (0, u "java/lang/constant/ConstantDesc"), (2, u "serialVersionUID"), (0, u "J"), (3, u "REPL"), (0, u "C"), (2, u "LATIN1"), (1, u "UTF16")] 323

def k18m0 : Method := { name := "<init>", desc := "()V", sig := { parameters := [], returnType := none }, accessFlags := 1, code := none }
def k18c1 : Code := { maxStack := 5, maxLocals := 2, code := jdk_42_method_3_code, exceptionTable := #[], attributes := #[] }
def k18m1 : Method := { name := "<init>", desc := "([C)V", sig := { parameters := [(.array .char)], returnType := none }, accessFlags := 1, code := some k18c1 }
def k18c2 : Code := { maxStack := 4, maxLocals := 6, code := jdk_42_method_149_code, exceptionTable := #[], attributes := #[] }
def k18m2 : Method := { name := "<init>", desc := "([CIILjava/lang/Void;)V", sig := { parameters := [(.array .char), .int, .int, (.object "java/lang/Void")], returnType := none }, accessFlags := 2, code := some k18c2 }
/-- java/lang/String -/
def k18 : Class := { plain "java/lang/String" (some 0) with
  accessFlags := 49
  interfaces := #[10, 13, 16, 12, 17]
  cf := some (fileOf pool18 10 #[.nestMembers #[1103]] #[{ accessFlags := 1, nameIndex := 5, descriptorIndex := 6, attributes := #[] }, { accessFlags := 1, nameIndex := 5, descriptorIndex := 1010, attributes := #[] }, { accessFlags := 2, nameIndex := 5, descriptorIndex := 29, attributes := #[] }] 49 2 #[1106, 1108, 575, 1110, 1112] #[{ accessFlags := 18, nameIndex := 13, descriptorIndex := 14, attributes := #[] }, { accessFlags := 18, nameIndex := 17, descriptorIndex := 18, attributes := #[] }, { accessFlags := 2, nameIndex := 21, descriptorIndex := 22, attributes := #[] }, { accessFlags := 2, nameIndex := 25, descriptorIndex := 26, attributes := #[] }, { accessFlags := 26, nameIndex := 1116, descriptorIndex := 1117, attributes := #[] }, { accessFlags := 24, nameIndex := 40, descriptorIndex := 26, attributes := #[] }, { accessFlags := 26, nameIndex := 1101, descriptorIndex := 1102, attributes := #[] }, { accessFlags := 26, nameIndex := 1121, descriptorIndex := 1122, attributes := #[] }, { accessFlags := 25, nameIndex := 599, descriptorIndex := 600, attributes := #[] }, { accessFlags := 24, nameIndex := 1125, descriptorIndex := 18, attributes := #[] }, { accessFlags := 24, nameIndex := 1127, descriptorIndex := 18, attributes := #[] }])
  fields := #[{ name := "value", type := (.array .byte), accessFlags := 18, slot := 0, constantValue := 0 }, { name := "coder", type := .byte, accessFlags := 18, slot := 1, constantValue := 0 }, { name := "hash", type := .int, accessFlags := 2, slot := 2, constantValue := 0 }, { name := "hashIsZero", type := .boolean, accessFlags := 2, slot := 3, constantValue := 0 }, { name := "serialVersionUID", type := .long, accessFlags := 26, slot := 0, constantValue := 0 }, { name := "COMPACT_STRINGS", type := .boolean, accessFlags := 24, slot := 1, constantValue := 0 }, { name := "serialPersistentFields", type := (.array (.object "java/io/ObjectStreamField")), accessFlags := 26, slot := 2, constantValue := 0 }, { name := "REPL", type := .char, accessFlags := 26, slot := 3, constantValue := 0 }, { name := "CASE_INSENSITIVE_ORDER", type := (.object "java/util/Comparator"), accessFlags := 25, slot := 4, constantValue := 0 }, { name := "LATIN1", type := .byte, accessFlags := 24, slot := 5, constantValue := 0 }, { name := "UTF16", type := .byte, accessFlags := 24, slot := 6, constantValue := 0 }]
  methods := #[k18m0, k18m1, k18m2]
  instanceTypes := #[(.array .byte), .byte, .int, .boolean]
  staticTypes := #[.long, .boolean, (.array (.object "java/io/ObjectStreamField")), .char, (.object "java/util/Comparator"), .byte, .byte]
  resolved := Array.replicate 1451 none
  statics := some 2 }

def pool19 : Array CpInfo := pool [(1, .methodref 2 3), (0, .class_ 4), (0, .nameAndType 5 6), (0, u "java/lang/Object"), (0, u "<init>"), (0, u "()V"), (1, .class_ 10), (1, u "java/lang/Number"), (2, .class_ 14), (0, u "java/io/Serializable"), (0, u "serialVersionUID"), (0, u "J")] 20

def k19c0 : Code := { maxStack := 1, maxLocals := 1, code := jdk_18_method_1_code, exceptionTable := #[], attributes := #[] }
def k19m0 : Method := { name := "<init>", desc := "()V", sig := { parameters := [], returnType := none }, accessFlags := 1, code := some k19c0 }
/-- java/lang/Number -/
def k19 : Class := { plain "java/lang/Number" (some 0) with
  accessFlags := 1057
  interfaces := #[10]
  cf := some (fileOf pool19 8 #[] #[{ accessFlags := 1, nameIndex := 5, descriptorIndex := 6, attributes := #[] }] 1057 2 #[13] #[{ accessFlags := 26, nameIndex := 15, descriptorIndex := 16, attributes := #[] }])
  fields := #[{ name := "serialVersionUID", type := .long, accessFlags := 26, slot := 0, constantValue := 0 }]
  methods := #[k19m0]
  instanceTypes := #[]
  staticTypes := #[.long]
  resolved := Array.replicate 37 none
  statics := none }

def pool20 : Array CpInfo := pool [(1, .class_ 2), (0, u "java/lang/Long"), (55, .nameAndType 59 60), (0, u "<init>"), (0, u "()V"), (24, u "valueOf"), (143, u "(J)Ljava/lang/Long;"), (0, .long 18446744073709551488), (1, .long 127), (1, .fieldref 235 236), (0, .class_ 237), (0, .nameAndType 238 239), (0, u "java/lang/Long$LongCache"), (0, u "cache"), (0, u "[Ljava/lang/Long;"), (0, .methodref 1 241), (0, .nameAndType 59 242), (0, u "(J)V"), (27, .methodref 271 58), (0, .class_ 272), (0, u "java/lang/Number"), (0, .fieldref 1 274), (0, .nameAndType 275 276), (0, u "value"), (0, u "J"), (84, u "TYPE"), (0, u "Ljava/lang/Class;"), (0, .class_ 364), (0, u "java/lang/Comparable"), (0, .class_ 366), (0, u "java/lang/constant/Constable"), (0, .class_ 368), (0, u "java/lang/constant/ConstantDesc"), (0, u "MIN_VALUE"), (1, u "MAX_VALUE"), (4, u "SIZE"), (0, u "I"), (1, u "BYTES"), (1, u "serialVersionUID")] 142

def k20c0 : Code := { maxStack := 4, maxLocals := 3, code := jdk_35_method_24_code, exceptionTable := #[], attributes := #[] }
def k20m0 : Method := { name := "valueOf", desc := "(J)Ljava/lang/Long;", sig := { parameters := [.long], returnType := some (.object "java/lang/Long") }, accessFlags := 9, code := some k20c0 }
def k20c1 : Code := { maxStack := 3, maxLocals := 3, code := jdk_35_method_26_code, exceptionTable := #[], attributes := #[] }
def k20m1 : Method := { name := "<init>", desc := "(J)V", sig := { parameters := [.long], returnType := none }, accessFlags := 1, code := some k20c1 }
/-- java/lang/Long -/
def k20 : Class := { plain "java/lang/Long" (some 19) with
  accessFlags := 49
  interfaces := #[13, 12, 17]
  cf := some (fileOf pool20 1 #[.nestMembers #[235]] #[{ accessFlags := 9, nameIndex := 85, descriptorIndex := 229, attributes := #[] }, { accessFlags := 1, nameIndex := 59, descriptorIndex := 242, attributes := #[] }] 49 271 #[363, 365, 367] #[{ accessFlags := 25, nameIndex := 369, descriptorIndex := 276, attributes := #[] }, { accessFlags := 25, nameIndex := 371, descriptorIndex := 276, attributes := #[] }, { accessFlags := 25, nameIndex := 361, descriptorIndex := 362, attributes := #[] }, { accessFlags := 18, nameIndex := 275, descriptorIndex := 276, attributes := #[] }, { accessFlags := 25, nameIndex := 376, descriptorIndex := 377, attributes := #[] }, { accessFlags := 25, nameIndex := 379, descriptorIndex := 377, attributes := #[] }, { accessFlags := 26, nameIndex := 381, descriptorIndex := 276, attributes := #[] }])
  fields := #[{ name := "MIN_VALUE", type := .long, accessFlags := 25, slot := 0, constantValue := 0 }, { name := "MAX_VALUE", type := .long, accessFlags := 25, slot := 1, constantValue := 0 }, { name := "TYPE", type := (.object "java/lang/Class"), accessFlags := 25, slot := 2, constantValue := 0 }, { name := "value", type := .long, accessFlags := 18, slot := 0, constantValue := 0 }, { name := "SIZE", type := .int, accessFlags := 25, slot := 3, constantValue := 0 }, { name := "BYTES", type := .int, accessFlags := 25, slot := 4, constantValue := 0 }, { name := "serialVersionUID", type := .long, accessFlags := 26, slot := 5, constantValue := 0 }]
  methods := #[k20m0, k20m1]
  instanceTypes := #[.long]
  staticTypes := #[.long, .long, (.object "java/lang/Class"), .int, .int, .long]
  resolved := Array.replicate 524 none
  statics := none }

def pool21 : Array CpInfo := pool [(1, .class_ 2), (0, u "java/lang/Double"), (17, u "<init>"), (84, .methodref 1 106), (0, .nameAndType 20 107), (0, u "(D)V"), (5, .methodref 114 115), (0, .class_ 116), (0, .nameAndType 20 117), (0, u "java/lang/Number"), (0, u "()V"), (0, .fieldref 1 119), (0, .nameAndType 120 121), (0, u "value"), (0, u "D"), (51, u "TYPE"), (0, u "Ljava/lang/Class;"), (0, .class_ 176), (0, u "java/lang/Comparable"), (0, .class_ 178), (0, u "java/lang/constant/Constable"), (0, .class_ 180), (0, u "java/lang/constant/ConstantDesc"), (0, u "POSITIVE_INFINITY"), (3, u "NEGATIVE_INFINITY"), (2, u "NaN"), (2, u "MAX_VALUE"), (0, u "MIN_NORMAL"), (0, u "MIN_VALUE"), (2, u "SIZE"), (0, u "I"), (1, u "PRECISION"), (1, u "MAX_EXPONENT"), (1, u "MIN_EXPONENT"), (1, u "BYTES"), (3, u "serialVersionUID"), (0, u "J"), (14, u "valueOf"), (5, u "(D)Ljava/lang/Double;")] 58

def k21c0 : Code := { maxStack := 4, maxLocals := 2, code := jdk_117_method_4_code, exceptionTable := #[], attributes := #[] }
def k21m0 : Method := { name := "valueOf", desc := "(D)Ljava/lang/Double;", sig := { parameters := [.double], returnType := some (.object "java/lang/Double") }, accessFlags := 9, code := some k21c0 }
def k21c1 : Code := { maxStack := 3, maxLocals := 3, code := jdk_117_method_9_code, exceptionTable := #[], attributes := #[] }
def k21m1 : Method := { name := "<init>", desc := "(D)V", sig := { parameters := [.double], returnType := none }, accessFlags := 1, code := some k21c1 }
/-- java/lang/Double -/
def k21 : Class := { plain "java/lang/Double" (some 19) with
  accessFlags := 49
  interfaces := #[13, 12, 17]
  cf := some (fileOf pool21 1 #[] #[{ accessFlags := 9, nameIndex := 225, descriptorIndex := 231, attributes := #[] }, { accessFlags := 1, nameIndex := 20, descriptorIndex := 107, attributes := #[] }] 49 114 #[175, 177, 179] #[{ accessFlags := 25, nameIndex := 181, descriptorIndex := 121, attributes := #[] }, { accessFlags := 25, nameIndex := 185, descriptorIndex := 121, attributes := #[] }, { accessFlags := 25, nameIndex := 188, descriptorIndex := 121, attributes := #[] }, { accessFlags := 25, nameIndex := 191, descriptorIndex := 121, attributes := #[] }, { accessFlags := 25, nameIndex := 192, descriptorIndex := 121, attributes := #[] }, { accessFlags := 25, nameIndex := 193, descriptorIndex := 121, attributes := #[] }, { accessFlags := 25, nameIndex := 196, descriptorIndex := 197, attributes := #[] }, { accessFlags := 25, nameIndex := 199, descriptorIndex := 197, attributes := #[] }, { accessFlags := 25, nameIndex := 201, descriptorIndex := 197, attributes := #[] }, { accessFlags := 25, nameIndex := 203, descriptorIndex := 197, attributes := #[] }, { accessFlags := 25, nameIndex := 205, descriptorIndex := 197, attributes := #[] }, { accessFlags := 25, nameIndex := 173, descriptorIndex := 174, attributes := #[] }, { accessFlags := 18, nameIndex := 120, descriptorIndex := 121, attributes := #[] }, { accessFlags := 26, nameIndex := 209, descriptorIndex := 210, attributes := #[] }])
  fields := #[{ name := "POSITIVE_INFINITY", type := .double, accessFlags := 25, slot := 0, constantValue := 0 }, { name := "NEGATIVE_INFINITY", type := .double, accessFlags := 25, slot := 1, constantValue := 0 }, { name := "NaN", type := .double, accessFlags := 25, slot := 2, constantValue := 0 }, { name := "MAX_VALUE", type := .double, accessFlags := 25, slot := 3, constantValue := 0 }, { name := "MIN_NORMAL", type := .double, accessFlags := 25, slot := 4, constantValue := 0 }, { name := "MIN_VALUE", type := .double, accessFlags := 25, slot := 5, constantValue := 0 }, { name := "SIZE", type := .int, accessFlags := 25, slot := 6, constantValue := 0 }, { name := "PRECISION", type := .int, accessFlags := 25, slot := 7, constantValue := 0 }, { name := "MAX_EXPONENT", type := .int, accessFlags := 25, slot := 8, constantValue := 0 }, { name := "MIN_EXPONENT", type := .int, accessFlags := 25, slot := 9, constantValue := 0 }, { name := "BYTES", type := .int, accessFlags := 25, slot := 10, constantValue := 0 }, { name := "TYPE", type := (.object "java/lang/Class"), accessFlags := 25, slot := 11, constantValue := 0 }, { name := "value", type := .double, accessFlags := 18, slot := 0, constantValue := 0 }, { name := "serialVersionUID", type := .long, accessFlags := 26, slot := 12, constantValue := 0 }]
  methods := #[k21m0, k21m1]
  instanceTypes := #[.double]
  staticTypes := #[.double, .double, .double, .double, .double, .double, .int, .int, .int, .int, .int, (.object "java/lang/Class"), .long]
  resolved := Array.replicate 290 none
  statics := none }

def pool22 : Array CpInfo := pool [(1, .class_ 2), (0, u "java/lang/Math"), (1, .class_ 6), (1, u "java/lang/Object"), (0, u "<init>"), (0, u "()V"), (89, .class_ 100), (1, u "java/lang/Math$RandomNumberGeneratorHolder"), (71, u "negativeZeroFloatBits"), (0, u "J"), (2, u "negativeZeroDoubleBits"), (21, u "max"), (2, u "min"), (43, u "$assertionsDisabled"), (0, u "Z"), (88, u "(II)I"), (2, u "twoToTheDoubleScaleDown"), (0, u "D"), (4, u "twoToTheDoubleScaleUp"), (9, u "E"), (3, u "PI"), (2, u "TAU"), (2, u "DEGREES_TO_RADIANS"), (0, u "RADIANS_TO_DEGREES")] 94

def k22m0 : Method := { name := "<init>", desc := "()V", sig := { parameters := [], returnType := none }, accessFlags := 2, code := none }
def k22c1 : Code := { maxStack := 2, maxLocals := 2, code := jdk_29_method_65_code, exceptionTable := #[], attributes := #[] }
def k22m1 : Method := { name := "max", desc := "(II)I", sig := { parameters := [.int, .int], returnType := some .int }, accessFlags := 9, code := some k22c1 }
def k22c2 : Code := { maxStack := 2, maxLocals := 2, code := jdk_29_method_69_code, exceptionTable := #[], attributes := #[] }
def k22m2 : Method := { name := "min", desc := "(II)I", sig := { parameters := [.int, .int], returnType := some .int }, accessFlags := 9, code := some k22c2 }
/-- java/lang/Math -/
def k22 : Class := { plain "java/lang/Math" (some 0) with
  accessFlags := 49
  interfaces := #[]
  cf := some (fileOf pool22 1 #[.nestMembers #[98]] #[{ accessFlags := 2, nameIndex := 7, descriptorIndex := 8, attributes := #[] }, { accessFlags := 9, nameIndex := 198, descriptorIndex := 335, attributes := #[] }, { accessFlags := 9, nameIndex := 201, descriptorIndex := 335, attributes := #[] }] 49 4 #[] #[{ accessFlags := 25, nameIndex := 354, descriptorIndex := 339, attributes := #[] }, { accessFlags := 25, nameIndex := 358, descriptorIndex := 339, attributes := #[] }, { accessFlags := 25, nameIndex := 361, descriptorIndex := 339, attributes := #[] }, { accessFlags := 26, nameIndex := 364, descriptorIndex := 339, attributes := #[] }, { accessFlags := 26, nameIndex := 365, descriptorIndex := 339, attributes := #[] }, { accessFlags := 26, nameIndex := 172, descriptorIndex := 173, attributes := #[] }, { accessFlags := 26, nameIndex := 176, descriptorIndex := 173, attributes := #[] }, { accessFlags := 8, nameIndex := 344, descriptorIndex := 339, attributes := #[] }, { accessFlags := 8, nameIndex := 338, descriptorIndex := 339, attributes := #[] }, { accessFlags := 4120, nameIndex := 245, descriptorIndex := 246, attributes := #[] }])
  fields := #[{ name := "E", type := .double, accessFlags := 25, slot := 0, constantValue := 0 }, { name := "PI", type := .double, accessFlags := 25, slot := 1, constantValue := 0 }, { name := "TAU", type := .double, accessFlags := 25, slot := 2, constantValue := 0 }, { name := "DEGREES_TO_RADIANS", type := .double, accessFlags := 26, slot := 3, constantValue := 0 }, { name := "RADIANS_TO_DEGREES", type := .double, accessFlags := 26, slot := 4, constantValue := 0 }, { name := "negativeZeroFloatBits", type := .long, accessFlags := 26, slot := 5, constantValue := 0 }, { name := "negativeZeroDoubleBits", type := .long, accessFlags := 26, slot := 6, constantValue := 0 }, { name := "twoToTheDoubleScaleUp", type := .double, accessFlags := 8, slot := 7, constantValue := 0 }, { name := "twoToTheDoubleScaleDown", type := .double, accessFlags := 8, slot := 8, constantValue := 0 }, { name := "$assertionsDisabled", type := .boolean, accessFlags := 4120, slot := 9, constantValue := 0 }]
  methods := #[k22m0, k22m1, k22m2]
  instanceTypes := #[]
  staticTypes := #[.double, .double, .double, .double, .double, .long, .long, .double, .double, .boolean]
  resolved := Array.replicate 460 none
  statics := none }

def pool23 : Array CpInfo := pool [(1, .methodref 2 3), (0, .class_ 4), (0, .nameAndType 5 6), (0, u "java/lang/Object"), (0, u "<init>"), (0, u "()V"), (0, .fieldref 8 9), (0, .class_ 10), (0, .nameAndType 11 12), (0, u "com/example/rolestack/rolestack/StoredObject"), (0, u "database"), (0, u "Lcom/example/rolestack/rolestack/Database;"), (0, .fieldref 8 14), (0, .nameAndType 15 16), (0, u "id"), (0, u "I"), (55, u "(Lcom/example/rolestack/rolestack/Database;I)V")] 16

def k23c0 : Code := { maxStack := 2, maxLocals := 3, code := prog_207_method_1_code, exceptionTable := #[], attributes := #[] }
def k23m0 : Method := { name := "<init>", desc := "(Lcom/example/rolestack/rolestack/Database;I)V", sig := { parameters := [(.object "com/example/rolestack/rolestack/Database"), .int], returnType := none }, accessFlags := 0, code := some k23c0 }
/-- com/example/rolestack/rolestack/StoredObject -/
def k23 : Class := { plain "com/example/rolestack/rolestack/StoredObject" (some 0) with
  accessFlags := 48
  interfaces := #[]
  cf := some (fileOf pool23 8 #[] #[{ accessFlags := 0, nameIndex := 5, descriptorIndex := 72, attributes := #[] }] 48 2 #[] #[{ accessFlags := 18, nameIndex := 11, descriptorIndex := 12, attributes := #[] }, { accessFlags := 18, nameIndex := 15, descriptorIndex := 16, attributes := #[] }])
  fields := #[{ name := "database", type := (.object "com/example/rolestack/rolestack/Database"), accessFlags := 18, slot := 0, constantValue := 0 }, { name := "id", type := .int, accessFlags := 18, slot := 1, constantValue := 0 }]
  methods := #[k23m0]
  instanceTypes := #[(.object "com/example/rolestack/rolestack/Database"), .int]
  staticTypes := #[]
  resolved := Array.replicate 89 none
  statics := none }

def pool24 : Array CpInfo := pool [(1, .methodref 2 3), (0, .class_ 4), (0, .nameAndType 5 6), (0, u "java/lang/Object"), (0, u "<init>"), (0, u "()V"), (0, .class_ 8), (0, u "java/lang/Record")] 13

def k24c0 : Code := { maxStack := 1, maxLocals := 1, code := jdk_30_method_1_code, exceptionTable := #[], attributes := #[] }
def k24m0 : Method := { name := "<init>", desc := "()V", sig := { parameters := [], returnType := none }, accessFlags := 4, code := some k24c0 }
/-- java/lang/Record -/
def k24 : Class := { plain "java/lang/Record" (some 0) with
  accessFlags := 1057
  interfaces := #[]
  cf := some (fileOf pool24 7 #[] #[{ accessFlags := 4, nameIndex := 5, descriptorIndex := 6, attributes := #[] }] 1057 2 #[] #[])
  fields := #[]
  methods := #[k24m0]
  instanceTypes := #[]
  staticTypes := #[]
  resolved := Array.replicate 22 none
  statics := none }

def pool25 : Array CpInfo := pool [(1, .methodref 2 3), (0, .class_ 4), (0, .nameAndType 5 6), (0, u "java/lang/Record"), (0, u "<init>"), (0, u "()V"), (0, .class_ 8), (0, u "java/util/ArrayList"), (0, .methodref 7 10), (0, .nameAndType 5 11), (0, u "(Ljava/util/Collection;)V"), (0, .methodref 13 14), (0, .class_ 15), (0, .nameAndType 16 17), (0, u "java/util/Collections"), (0, u "unmodifiableList"), (0, u "(Ljava/util/List;)Ljava/util/List;"), (0, .fieldref 19 20), (0, .class_ 21), (0, .nameAndType 22 23), (0, u "com/example/rolestack/rolestack/CollectionValue"), (0, u "values"), (0, u "Ljava/util/List;"), (14, u "(Ljava/util/List;)V")] 28

def k25c0 : Code := { maxStack := 3, maxLocals := 2, code := prog_40_method_1_code, exceptionTable := #[], attributes := #[] }
def k25m0 : Method := { name := "<init>", desc := "(Ljava/util/List;)V", sig := { parameters := [(.object "java/util/List")], returnType := none }, accessFlags := 0, code := some k25c0 }
/-- com/example/rolestack/rolestack/CollectionValue -/
def k25 : Class := { plain "com/example/rolestack/rolestack/CollectionValue" (some 24) with
  accessFlags := 48
  interfaces := #[]
  cf := some (fileOf pool25 19 #[] #[{ accessFlags := 0, nameIndex := 5, descriptorIndex := 38, attributes := #[] }] 48 2 #[] #[{ accessFlags := 18, nameIndex := 22, descriptorIndex := 23, attributes := #[] }])
  fields := #[{ name := "values", type := (.object "java/util/List"), accessFlags := 18, slot := 0, constantValue := 0 }]
  methods := #[k25m0]
  instanceTypes := #[(.object "java/util/List")]
  staticTypes := #[]
  resolved := Array.replicate 67 none
  statics := none }

def pool26 : Array CpInfo := pool [(2, .class_ 4), (1, u "java/lang/Object"), (0, u "<init>"), (0, u "()V"), (0, .class_ 8), (0, u "java/lang/Long"), (7, .class_ 18), (1, u "java/lang/Long$LongCache"), (0, u "$assertionsDisabled"), (0, u "Z"), (8, u "archivedCache"), (0, u "[Ljava/lang/Long;"), (7, u "cache")] 24

def k26m0 : Method := { name := "<init>", desc := "()V", sig := { parameters := [], returnType := none }, accessFlags := 2, code := none }
/-- java/lang/Long$LongCache -/
def k26 : Class := { plain "java/lang/Long$LongCache" (some 0) with
  accessFlags := 48
  interfaces := #[]
  cf := some (fileOf pool26 16 #[.nestHost 7] #[{ accessFlags := 2, nameIndex := 5, descriptorIndex := 6, attributes := #[] }] 48 2 #[] #[{ accessFlags := 24, nameIndex := 38, descriptorIndex := 30, attributes := #[] }, { accessFlags := 8, nameIndex := 29, descriptorIndex := 30, attributes := #[] }, { accessFlags := 4120, nameIndex := 19, descriptorIndex := 20, attributes := #[] }])
  fields := #[{ name := "cache", type := (.array (.object "java/lang/Long")), accessFlags := 24, slot := 0, constantValue := 0 }, { name := "archivedCache", type := (.array (.object "java/lang/Long")), accessFlags := 8, slot := 1, constantValue := 0 }, { name := "$assertionsDisabled", type := .boolean, accessFlags := 4120, slot := 2, constantValue := 0 }]
  methods := #[k26m0]
  instanceTypes := #[]
  staticTypes := #[(.array (.object "java/lang/Long")), (.array (.object "java/lang/Long")), .boolean]
  resolved := Array.replicate 63 none
  statics := some 3 }

def pool27 : Array CpInfo := pool [(1, .class_ 2), (0, u "java/lang/Integer"), (16, u "digits"), (0, u "[C"), (46, u "<init>"), (17, u "DigitOnes"), (0, u "[B"), (2, u "DigitTens"), (10, .nameAndType 67 101), (0, u "()V"), (85, u "valueOf"), (0, u "(I)Ljava/lang/Integer;"), (0, .class_ 190), (0, u "java/lang/Integer$IntegerCache"), (0, .fieldref 189 192), (0, .nameAndType 193 194), (0, u "high"), (0, u "I"), (0, .fieldref 189 196), (0, .nameAndType 197 198), (0, u "cache"), (0, u "[Ljava/lang/Integer;"), (0, .methodref 1 200), (0, .nameAndType 67 201), (0, u "(I)V"), (0, .methodref 203 100), (0, .class_ 204), (0, u "java/lang/Number"), (0, .fieldref 1 206), (0, .nameAndType 207 194), (0, u "value"), (94, u "TYPE"), (0, u "Ljava/lang/Class;"), (0, .class_ 305), (0, u "java/lang/Comparable"), (0, .class_ 307), (0, u "java/lang/constant/Constable"), (0, .class_ 309), (0, u "java/lang/constant/ConstantDesc"), (0, u "MIN_VALUE"), (1, u "MAX_VALUE"), (3, u "SIZE"), (1, u "BYTES"), (1, u "serialVersionUID"), (0, u "J")] 131

def k27c0 : Code := { maxStack := 3, maxLocals := 1, code := jdk_33_method_22_code, exceptionTable := #[], attributes := #[] }
def k27m0 : Method := { name := "valueOf", desc := "(I)Ljava/lang/Integer;", sig := { parameters := [.int], returnType := some (.object "java/lang/Integer") }, accessFlags := 9, code := some k27c0 }
def k27c1 : Code := { maxStack := 2, maxLocals := 2, code := jdk_33_method_23_code, exceptionTable := #[], attributes := #[] }
def k27m1 : Method := { name := "<init>", desc := "(I)V", sig := { parameters := [.int], returnType := none }, accessFlags := 1, code := some k27c1 }
/-- java/lang/Integer -/
def k27 : Class := { plain "java/lang/Integer" (some 19) with
  accessFlags := 49
  interfaces := #[13, 12, 17]
  cf := some (fileOf pool27 1 #[.nestMembers #[189]] #[{ accessFlags := 9, nameIndex := 187, descriptorIndex := 188, attributes := #[] }, { accessFlags := 1, nameIndex := 67, descriptorIndex := 201, attributes := #[] }] 49 203 #[304, 306, 308] #[{ accessFlags := 25, nameIndex := 310, descriptorIndex := 194, attributes := #[] }, { accessFlags := 25, nameIndex := 312, descriptorIndex := 194, attributes := #[] }, { accessFlags := 25, nameIndex := 302, descriptorIndex := 303, attributes := #[] }, { accessFlags := 24, nameIndex := 19, descriptorIndex := 20, attributes := #[] }, { accessFlags := 24, nameIndex := 89, descriptorIndex := 86, attributes := #[] }, { accessFlags := 24, nameIndex := 85, descriptorIndex := 86, attributes := #[] }, { accessFlags := 18, nameIndex := 207, descriptorIndex := 194, attributes := #[] }, { accessFlags := 25, nameIndex := 316, descriptorIndex := 194, attributes := #[] }, { accessFlags := 25, nameIndex := 318, descriptorIndex := 194, attributes := #[] }, { accessFlags := 26, nameIndex := 320, descriptorIndex := 321, attributes := #[] }])
  fields := #[{ name := "MIN_VALUE", type := .int, accessFlags := 25, slot := 0, constantValue := 0 }, { name := "MAX_VALUE", type := .int, accessFlags := 25, slot := 1, constantValue := 0 }, { name := "TYPE", type := (.object "java/lang/Class"), accessFlags := 25, slot := 2, constantValue := 0 }, { name := "digits", type := (.array .char), accessFlags := 24, slot := 3, constantValue := 0 }, { name := "DigitTens", type := (.array .byte), accessFlags := 24, slot := 4, constantValue := 0 }, { name := "DigitOnes", type := (.array .byte), accessFlags := 24, slot := 5, constantValue := 0 }, { name := "value", type := .int, accessFlags := 18, slot := 0, constantValue := 0 }, { name := "SIZE", type := .int, accessFlags := 25, slot := 6, constantValue := 0 }, { name := "BYTES", type := .int, accessFlags := 25, slot := 7, constantValue := 0 }, { name := "serialVersionUID", type := .long, accessFlags := 26, slot := 8, constantValue := 0 }]
  methods := #[k27m0, k27m1]
  instanceTypes := #[.int]
  staticTypes := #[.int, .int, (.object "java/lang/Class"), (.array .char), (.array .byte), (.array .byte), .int, .int, .long]
  resolved := Array.replicate 453 none
  statics := none }

def pool28 : Array CpInfo := pool [(2, .class_ 4), (1, u "java/lang/Object"), (0, u "<init>"), (0, u "()V"), (0, .class_ 8), (0, u "java/lang/Integer"), (7, .class_ 18), (1, u "java/lang/Integer$IntegerCache"), (0, u "$assertionsDisabled"), (0, u "Z"), (26, u "high"), (0, u "I"), (8, u "archivedCache"), (0, u "[Ljava/lang/Integer;"), (12, u "cache"), (0, u "low")] 27

def k28m0 : Method := { name := "<init>", desc := "()V", sig := { parameters := [], returnType := none }, accessFlags := 2, code := none }
/-- java/lang/Integer$IntegerCache -/
def k28 : Class := { plain "java/lang/Integer$IntegerCache" (some 0) with
  accessFlags := 48
  interfaces := #[]
  cf := some (fileOf pool28 16 #[.nestHost 7] #[{ accessFlags := 2, nameIndex := 5, descriptorIndex := 6, attributes := #[] }] 48 2 #[] #[{ accessFlags := 24, nameIndex := 72, descriptorIndex := 48, attributes := #[] }, { accessFlags := 24, nameIndex := 47, descriptorIndex := 48, attributes := #[] }, { accessFlags := 24, nameIndex := 71, descriptorIndex := 58, attributes := #[] }, { accessFlags := 8, nameIndex := 57, descriptorIndex := 58, attributes := #[] }, { accessFlags := 4120, nameIndex := 19, descriptorIndex := 20, attributes := #[] }])
  fields := #[{ name := "low", type := .int, accessFlags := 24, slot := 0, constantValue := 0 }, { name := "high", type := .int, accessFlags := 24, slot := 1, constantValue := 0 }, { name := "cache", type := (.array (.object "java/lang/Integer")), accessFlags := 24, slot := 2, constantValue := 0 }, { name := "archivedCache", type := (.array (.object "java/lang/Integer")), accessFlags := 8, slot := 3, constantValue := 0 }, { name := "$assertionsDisabled", type := .boolean, accessFlags := 4120, slot := 4, constantValue := 0 }]
  methods := #[k28m0]
  instanceTypes := #[]
  staticTypes := #[.int, .int, (.array (.object "java/lang/Integer")), (.array (.object "java/lang/Integer")), .boolean]
  resolved := Array.replicate 100 none
  statics := some 4 }

def pool29 : Array CpInfo := pool [(2, .class_ 4), (1, u "java/lang/Object"), (0, u "<init>"), (0, u "()V"), (7, .class_ 16), (1, u "java/util/Arrays"), (57, .class_ 76), (1, u "java/util/Arrays$NaturalOrder"), (9, .methodref 2 87), (0, .nameAndType 88 89), (0, u "getClass"), (0, u "()Ljava/lang/Class;"), (20, .class_ 111), (0, u "[Ljava/lang/Object;"), (1, .class_ 115), (1, u "java/util/Arrays$LegacyMergeSort"), (1, u "Z"), (32, .methodref 151 152), (0, .class_ 153), (0, .nameAndType 154 155), (0, u "java/lang/System"), (0, u "arraycopy"), (0, u "(Ljava/lang/Object;ILjava/lang/Object;II)V"), (144, .methodref 14 301), (0, .nameAndType 302 303), (0, u "copyOf"), (0, u "([Ljava/lang/Object;ILjava/lang/Class;)[Ljava/lang/Object;"), (0, .methodref 305 306), (0, .class_ 307), (0, .nameAndType 308 309), (0, u "java/lang/Math"), (0, u "min"), (0, u "(II)I"), (65, .class_ 376), (0, u "java/util/Arrays$ArrayList"), (68, u "$assertionsDisabled"), (269, u "MIN_ARRAY_SORT_GRAN"), (0, u "I"), (2, u "INSERTIONSORT_THRESHOLD"), (140, u "([Ljava/lang/Object;I)[Ljava/lang/Object;"), (114, .class_ 976), (0, u "java/util/Arrays$ArrayItr")] 52

def k29m0 : Method := { name := "<init>", desc := "()V", sig := { parameters := [], returnType := none }, accessFlags := 2, code := none }
def k29c1 : Code := { maxStack := 3, maxLocals := 2, code := jdk_65_method_119_code, exceptionTable := #[], attributes := #[] }
def k29m1 : Method := { name := "copyOf", desc := "([Ljava/lang/Object;I)[Ljava/lang/Object;", sig := { parameters := [(.array (.object "java/lang/Object")), .int], returnType := some (.array (.object "java/lang/Object")) }, accessFlags := 9, code := some k29c1 }
def k29c2 : Code := { maxStack := 6, maxLocals := 4, code := jdk_65_method_120_code, exceptionTable := #[], attributes := #[] }
def k29m2 : Method := { name := "copyOf", desc := "([Ljava/lang/Object;ILjava/lang/Class;)[Ljava/lang/Object;", sig := { parameters := [(.array (.object "java/lang/Object")), .int, (.object "java/lang/Class")], returnType := some (.array (.object "java/lang/Object")) }, accessFlags := 9, code := some k29c2 }
/-- java/util/Arrays -/
def k29 : Class := { plain "java/util/Arrays" (some 0) with
  accessFlags := 49
  interfaces := #[]
  cf := some (fileOf pool29 14 #[.nestMembers #[975, 375, 113, 74]] #[{ accessFlags := 2, nameIndex := 5, descriptorIndex := 6, attributes := #[] }, { accessFlags := 9, nameIndex := 302, descriptorIndex := 860, attributes := #[] }, { accessFlags := 9, nameIndex := 302, descriptorIndex := 303, attributes := #[] }] 49 2 #[] #[{ accessFlags := 26, nameIndex := 715, descriptorIndex := 716, attributes := #[] }, { accessFlags := 26, nameIndex := 719, descriptorIndex := 716, attributes := #[] }, { accessFlags := 4120, nameIndex := 445, descriptorIndex := 117, attributes := #[] }])
  fields := #[{ name := "MIN_ARRAY_SORT_GRAN", type := .int, accessFlags := 26, slot := 0, constantValue := 0 }, { name := "INSERTIONSORT_THRESHOLD", type := .int, accessFlags := 26, slot := 1, constantValue := 0 }, { name := "$assertionsDisabled", type := .boolean, accessFlags := 4120, slot := 2, constantValue := 0 }]
  methods := #[k29m0, k29m1, k29m2]
  instanceTypes := #[]
  staticTypes := #[.int, .int, .boolean]
  resolved := Array.replicate 1029 none
  statics := none }

def pool30 : Array CpInfo := pool [(2, .class_ 4), (1, u "java/lang/Object"), (0, u "<init>"), (0, u "()V"), (1, .class_ 10), (1, u "java/lang/System"), (0, u "allowSecurityManager"), (0, u "I"), (16, u "cons"), (0, u "Ljava/io/Console;"), (77, .class_ 110), (1, u "java/lang/System$CallersHolder"), (43, u "initialErrStream"), (0, u "Ljava/io/PrintStream;"), (19, u "security"), (0, u "Ljava/lang/SecurityManager;"), (31, .class_ 209), (0, u "java/lang/System$1"), (7, u "props"), (0, u "Ljava/util/Properties;"), (2, u "lineSeparator"), (0, u "Ljava/lang/String;"), (96, .class_ 321), (1, u "java/lang/System$LoggerFinder"), (5, .class_ 328), (0, u "java/lang/System$Logger"), (67, u "err"), (2, u "out"), (91, u "notSupportedJnuEncoding"), (15, u "in"), (17, u "initialIn"), (0, u "Ljava/io/InputStream;"), (35, u "bootLayer"), (0, u "Ljava/lang/ModuleLayer;"), (99, .class_ 664), (0, u "java/lang/System$2"), (9, u "NEVER"), (2, u "MAYBE"), (49, u "arraycopy"), (0, u "(Ljava/lang/Object;ILjava/lang/Object;II)V"), (72, .class_ 802), (0, u "java/lang/System$Logger$Level")] 31

def k30m0 : Method := { name := "<init>", desc := "()V", sig := { parameters := [], returnType := none }, accessFlags := 2, code := none }
def k30m1 : Method := { name := "arraycopy", desc := "(Ljava/lang/Object;ILjava/lang/Object;II)V", sig := { parameters := [(.object "java/lang/Object"), .int, (.object "java/lang/Object"), .int, .int], returnType := none }, accessFlags := 265, code := none }
/-- java/lang/System -/
def k30 : Class := { plain "java/lang/System" (some 0) with
  accessFlags := 49
  interfaces := #[]
  cf := some (fileOf pool30 8 #[.nestMembers #[319, 327, 801, 108, 663, 208]] #[{ accessFlags := 2, nameIndex := 5, descriptorIndex := 6, attributes := #[] }, { accessFlags := 265, nameIndex := 727, descriptorIndex := 728, attributes := #[] }] 49 2 #[] #[{ accessFlags := 25, nameIndex := 507, descriptorIndex := 526, attributes := #[] }, { accessFlags := 25, nameIndex := 399, descriptorIndex := 155, attributes := #[] }, { accessFlags := 25, nameIndex := 396, descriptorIndex := 155, attributes := #[] }, { accessFlags := 10, nameIndex := 525, descriptorIndex := 526, attributes := #[] }, { accessFlags := 26, nameIndex := 674, descriptorIndex := 12, attributes := #[] }, { accessFlags := 26, nameIndex := 677, descriptorIndex := 12, attributes := #[] }, { accessFlags := 10, nameIndex := 11, descriptorIndex := 12, attributes := #[] }, { accessFlags := 74, nameIndex := 175, descriptorIndex := 176, attributes := #[] }, { accessFlags := 10, nameIndex := 491, descriptorIndex := 222, attributes := #[] }, { accessFlags := 74, nameIndex := 29, descriptorIndex := 30, attributes := #[] }, { accessFlags := 74, nameIndex := 154, descriptorIndex := 155, attributes := #[] }, { accessFlags := 10, nameIndex := 217, descriptorIndex := 218, attributes := #[] }, { accessFlags := 10, nameIndex := 221, descriptorIndex := 222, attributes := #[] }, { accessFlags := 8, nameIndex := 562, descriptorIndex := 563, attributes := #[] }])
  fields := #[{ name := "in", type := (.object "java/io/InputStream"), accessFlags := 25, slot := 0, constantValue := 0 }, { name := "out", type := (.object "java/io/PrintStream"), accessFlags := 25, slot := 1, constantValue := 0 }, { name := "err", type := (.object "java/io/PrintStream"), accessFlags := 25, slot := 2, constantValue := 0 }, { name := "initialIn", type := (.object "java/io/InputStream"), accessFlags := 10, slot := 3, constantValue := 0 }, { name := "NEVER", type := .int, accessFlags := 26, slot := 4, constantValue := 0 }, { name := "MAYBE", type := .int, accessFlags := 26, slot := 5, constantValue := 0 }, { name := "allowSecurityManager", type := .int, accessFlags := 10, slot := 6, constantValue := 0 }, { name := "security", type := (.object "java/lang/SecurityManager"), accessFlags := 74, slot := 7, constantValue := 0 }, { name := "notSupportedJnuEncoding", type := (.object "java/lang/String"), accessFlags := 10, slot := 8, constantValue := 0 }, { name := "cons", type := (.object "java/io/Console"), accessFlags := 74, slot := 9, constantValue := 0 }, { name := "initialErrStream", type := (.object "java/io/PrintStream"), accessFlags := 74, slot := 10, constantValue := 0 }, { name := "props", type := (.object "java/util/Properties"), accessFlags := 10, slot := 11, constantValue := 0 }, { name := "lineSeparator", type := (.object "java/lang/String"), accessFlags := 10, slot := 12, constantValue := 0 }, { name := "bootLayer", type := (.object "java/lang/ModuleLayer"), accessFlags := 8, slot := 13, constantValue := 0 }]
  methods := #[k30m0, k30m1]
  instanceTypes := #[]
  staticTypes := #[(.object "java/io/InputStream"), (.object "java/io/PrintStream"), (.object "java/io/PrintStream"), (.object "java/io/InputStream"), .int, .int, .int, (.object "java/lang/SecurityManager"), (.object "java/lang/String"), (.object "java/io/Console"), (.object "java/io/PrintStream"), (.object "java/util/Properties"), (.object "java/lang/String"), (.object "java/lang/ModuleLayer")]
  resolved := Array.replicate 834 none
  statics := none }

def pool31 : Array CpInfo := pool [(2, .class_ 4), (1, u "java/lang/Object"), (0, u "<init>"), (0, u "()V"), (1, .class_ 10), (1, u "java/util/List"), (2, .class_ 14), (0, u "java/util/RandomAccess"), (4, .class_ 20), (0, u "java/util/Collections"), (63, u "r"), (0, u "Ljava/util/Random;"), (67, u "(Ljava/util/List;)V"), (9, .nameAndType 164 165), (0, u "getClass"), (0, u "()Ljava/lang/Class;"), (0, .class_ 167), (0, u "java/util/Collections$UnmodifiableCollection"), (6, .class_ 175), (0, u "java/util/Collections$UnmodifiableSequencedCollection"), (6, .class_ 183), (0, u "java/util/Collections$UnmodifiableSet"), (6, .class_ 191), (0, u "java/util/Collections$UnmodifiableSequencedSet"), (6, .class_ 199), (0, u "java/util/Collections$UnmodifiableSortedSet"), (6, .class_ 207), (0, u "java/util/Collections$UnmodifiableNavigableSet"), (3, .interfaceMethodref 8 163), (0, .class_ 213), (0, u "java/util/Collections$UnmodifiableList"), (0, .interfaceMethodref 8 163), (0, .class_ 216), (0, u "java/util/Collections$UnmodifiableRandomAccessList"), (0, .methodref 215 218), (0, .nameAndType 5 153), (4, .class_ 224), (0, u "java/util/Collections$UnmodifiableMap"), (6, .class_ 232), (0, u "java/util/Collections$UnmodifiableSequencedMap"), (4, .class_ 238), (0, u "java/util/Collections$UnmodifiableSortedMap"), (6, .class_ 246), (0, u "java/util/Collections$UnmodifiableNavigableMap"), (3, .class_ 251), (0, u "java/util/Collections$SynchronizedCollection"), (4, .class_ 257), (0, u "java/util/Collections$SynchronizedSet"), (4, .class_ 263), (0, u "java/util/Collections$SynchronizedSortedSet"), (1, .class_ 266), (0, u "java/util/Collections$SynchronizedNavigableSet"), (1, .class_ 269), (0, u "java/util/Collections$SynchronizedRandomAccessList"), (1, .class_ 272), (0, u "java/util/Collections$SynchronizedList"), (5, .class_ 279), (0, u "java/util/Collections$SynchronizedMap"), (1, .class_ 282), (0, u "java/util/Collections$SynchronizedSortedMap"), (1, .class_ 285), (0, u "java/util/Collections$SynchronizedNavigableMap"), (1, .class_ 288), (0, u "java/util/Collections$CheckedCollection"), (11, .class_ 301), (0, u "java/util/Collections$CheckedQueue"), (3, .class_ 306), (0, u "java/util/Collections$CheckedSet"), (3, .class_ 311), (0, u "java/util/Collections$CheckedSortedSet"), (3, .class_ 316), (0, u "java/util/Collections$CheckedNavigableSet"), (3, .class_ 321), (0, u "java/util/Collections$CheckedRandomAccessList"), (3, .class_ 326), (0, u "java/util/Collections$CheckedList"), (1, .class_ 329), (0, u "java/util/Collections$CheckedMap"), (3, .class_ 334), (0, u "java/util/Collections$CheckedSortedMap"), (3, .class_ 339), (0, u "java/util/Collections$CheckedNavigableMap"), (4, .class_ 346), (1, u "java/util/Collections$EmptyIterator"), (3, .class_ 352), (1, u "java/util/Collections$EmptyListIterator"), (2, .class_ 357), (1, u "java/util/Collections$EmptyEnumeration"), (4, u "EMPTY_SET"), (0, u "Ljava/util/Set;"), (6, u "EMPTY_LIST"), (0, u "Ljava/util/List;"), (2, u "EMPTY_MAP"), (0, u "Ljava/util/Map;"), (4, .class_ 381), (0, u "java/util/Collections$SingletonSet"), (2, .class_ 385), (0, u "java/util/Collections$1"), (1, .class_ 388), (0, u "java/util/Collections$2"), (1, .class_ 391), (0, u "java/util/Collections$SingletonList"), (1, .class_ 394), (0, u "java/util/Collections$SingletonMap"), (22, .class_ 418), (0, u "java/util/Collections$CopiesList"), (4, .class_ 425), (1, u "java/util/Collections$ReverseComparator"), (8, .class_ 435), (0, u "java/util/Collections$ReverseComparator2"), (6, .class_ 443), (0, u "java/util/Collections$3"), (25, .class_ 470), (0, u "java/util/Collections$SetFromMap"), (2, .class_ 474), (0, u "java/util/Collections$SequencedSetFromMap"), (3, .class_ 479), (0, u "java/util/Collections$AsLIFOQueue"), (11, .class_ 492), (0, u "java/util/Collections$EmptySet"), (1, .class_ 495), (0, u "java/util/Collections$EmptyList"), (1, .class_ 498), (0, u "java/util/Collections$EmptyMap"), (1, u "BINARYSEARCH_THRESHOLD"), (0, u "I"), (2, u "REVERSE_THRESHOLD"), (1, u "SHUFFLE_THRESHOLD"), (1, u "FILL_THRESHOLD"), (1, u "ROTATE_THRESHOLD"), (1, u "COPY_THRESHOLD"), (1, u "REPLACEALL_THRESHOLD"), (1, u "INDEXOFSUBLIST_THRESHOLD"), (129, u "unmodifiableList"), (0, u "(Ljava/util/List;)Ljava/util/List;"), (202, .class_ 851), (0, u "java/util/Collections$CheckedMap$CheckedEntrySet"), (0, .class_ 853), (0, u "java/util/Collections$CheckedMap$CheckedEntrySet$CheckedEntry"), (0, .class_ 855), (0, u "java/util/Collections$CheckedMap$CheckedEntrySet$1"), (0, .class_ 857), (0, u "java/util/Collections$CheckedList$1"), (0, .class_ 859), (0, u "java/util/Collections$CheckedCollection$1"), (0, .class_ 861), (0, u "java/util/Collections$UnmodifiableNavigableMap$EmptyNavigableMap"), (0, .class_ 863), (0, u "java/util/Collections$UnmodifiableMap$UnmodifiableEntrySet"), (0, .class_ 865), (0, u "java/util/Collections$UnmodifiableMap$UnmodifiableEntrySet$UnmodifiableEntry"), (0, .class_ 867), (0, u "java/util/Collections$UnmodifiableMap$UnmodifiableEntrySet$UnmodifiableEntrySetSpliterator"), (0, .class_ 869), (0, u "java/util/Collections$UnmodifiableMap$UnmodifiableEntrySet$1"), (0, .class_ 871), (0, u "java/util/Collections$UnmodifiableList$1"), (0, .class_ 873), (0, u "java/util/Collections$UnmodifiableNavigableSet$EmptyNavigableSet"), (0, .class_ 875), (0, u "java/util/Collections$UnmodifiableCollection$1")] 57

def k31m0 : Method := { name := "<init>", desc := "()V", sig := { parameters := [], returnType := none }, accessFlags := 2, code := none }
def k31c1 : Code := { maxStack := 3, maxLocals := 1, code := jdk_79_method_35_code, exceptionTable := #[], attributes := #[] }
def k31m1 : Method := { name := "unmodifiableList", desc := "(Ljava/util/List;)Ljava/util/List;", sig := { parameters := [(.object "java/util/List")], returnType := some (.object "java/util/List") }, accessFlags := 9, code := some k31c1 }
/-- java/util/Collections -/
def k31 : Class := { plain "java/util/Collections" (some 0) with
  accessFlags := 33
  interfaces := #[]
  cf := some (fileOf pool31 19 #[.nestMembers #[478, 473, 469, 434, 423, 417, 393, 390, 380, 497, 494, 491, 355, 350, 344, 338, 333, 328, 850, 852, 854, 320, 325, 856, 315, 310, 305, 300, 287, 858, 284, 281, 278, 268, 271, 265, 262, 256, 250, 245, 860, 237, 231, 223, 862, 864, 866, 868, 215, 212, 870, 206, 872, 198, 190, 182, 174, 166, 874, 442, 387, 384]] #[{ accessFlags := 2, nameIndex := 5, descriptorIndex := 6, attributes := #[] }, { accessFlags := 9, nameIndex := 646, descriptorIndex := 647, attributes := #[] }] 33 2 #[] #[{ accessFlags := 26, nameIndex := 500, descriptorIndex := 501, attributes := #[] }, { accessFlags := 26, nameIndex := 504, descriptorIndex := 501, attributes := #[] }, { accessFlags := 26, nameIndex := 506, descriptorIndex := 501, attributes := #[] }, { accessFlags := 26, nameIndex := 508, descriptorIndex := 501, attributes := #[] }, { accessFlags := 26, nameIndex := 510, descriptorIndex := 501, attributes := #[] }, { accessFlags := 26, nameIndex := 512, descriptorIndex := 501, attributes := #[] }, { accessFlags := 26, nameIndex := 514, descriptorIndex := 501, attributes := #[] }, { accessFlags := 26, nameIndex := 516, descriptorIndex := 501, attributes := #[] }, { accessFlags := 10, nameIndex := 84, descriptorIndex := 85, attributes := #[] }, { accessFlags := 25, nameIndex := 362, descriptorIndex := 363, attributes := #[] }, { accessFlags := 25, nameIndex := 370, descriptorIndex := 371, attributes := #[] }, { accessFlags := 25, nameIndex := 374, descriptorIndex := 375, attributes := #[] }])
  fields := #[{ name := "BINARYSEARCH_THRESHOLD", type := .int, accessFlags := 26, slot := 0, constantValue := 0 }, { name := "REVERSE_THRESHOLD", type := .int, accessFlags := 26, slot := 1, constantValue := 0 }, { name := "SHUFFLE_THRESHOLD", type := .int, accessFlags := 26, slot := 2, constantValue := 0 }, { name := "FILL_THRESHOLD", type := .int, accessFlags := 26, slot := 3, constantValue := 0 }, { name := "ROTATE_THRESHOLD", type := .int, accessFlags := 26, slot := 4, constantValue := 0 }, { name := "COPY_THRESHOLD", type := .int, accessFlags := 26, slot := 5, constantValue := 0 }, { name := "REPLACEALL_THRESHOLD", type := .int, accessFlags := 26, slot := 6, constantValue := 0 }, { name := "INDEXOFSUBLIST_THRESHOLD", type := .int, accessFlags := 26, slot := 7, constantValue := 0 }, { name := "r", type := (.object "java/util/Random"), accessFlags := 10, slot := 8, constantValue := 0 }, { name := "EMPTY_SET", type := (.object "java/util/Set"), accessFlags := 25, slot := 9, constantValue := 0 }, { name := "EMPTY_LIST", type := (.object "java/util/List"), accessFlags := 25, slot := 10, constantValue := 0 }, { name := "EMPTY_MAP", type := (.object "java/util/Map"), accessFlags := 25, slot := 11, constantValue := 0 }]
  methods := #[k31m0, k31m1]
  instanceTypes := #[]
  staticTypes := #[.int, .int, .int, .int, .int, .int, .int, .int, (.object "java/util/Random"), (.object "java/util/Set"), (.object "java/util/List"), (.object "java/util/Map")]
  resolved := Array.replicate 933 none
  statics := none }

def pool32 : Array CpInfo := pool [(1, .methodref 2 3), (0, .class_ 4), (0, .nameAndType 5 6), (0, u "java/lang/Object"), (0, u "<init>"), (0, u "()V"), (3, .fieldref 11 12), (0, .class_ 13), (0, .nameAndType 14 15), (0, u "java/util/Collections$UnmodifiableCollection"), (0, u "c"), (0, u "Ljava/util/Collection;"), (1, .class_ 19), (1, u "java/util/Collection"), (51, .class_ 72), (0, u "java/io/Serializable"), (0, u "serialVersionUID"), (0, u "J"), (5, u "(Ljava/util/Collection;)V"), (51, .class_ 133), (0, u "java/util/Collections")] 2

def k32c0 : Code := { maxStack := 2, maxLocals := 2, code := jdk_119_method_1_code, exceptionTable := #[], attributes := #[] }
def k32m0 : Method := { name := "<init>", desc := "(Ljava/util/Collection;)V", sig := { parameters := [(.object "java/util/Collection")], returnType := none }, accessFlags := 0, code := some k32c0 }
/-- java/util/Collections$UnmodifiableCollection -/
def k32 : Class := { plain "java/util/Collections$UnmodifiableCollection" (some 0) with
  accessFlags := 32
  interfaces := #[3, 10]
  cf := some (fileOf pool32 11 #[.nestHost 132] #[{ accessFlags := 0, nameIndex := 5, descriptorIndex := 80, attributes := #[] }] 32 2 #[17, 71] #[{ accessFlags := 26, nameIndex := 73, descriptorIndex := 74, attributes := #[] }, { accessFlags := 16, nameIndex := 14, descriptorIndex := 15, attributes := #[] }])
  fields := #[{ name := "serialVersionUID", type := .long, accessFlags := 26, slot := 0, constantValue := 0 }, { name := "c", type := (.object "java/util/Collection"), accessFlags := 16, slot := 0, constantValue := 0 }]
  methods := #[k32m0]
  instanceTypes := #[(.object "java/util/Collection")]
  staticTypes := #[.long]
  resolved := Array.replicate 136 none
  statics := none }

def pool33 : Array CpInfo := pool [(1, .methodref 2 3), (0, .class_ 4), (0, .nameAndType 5 6), (0, u "java/util/Collections$UnmodifiableCollection"), (0, u "<init>"), (0, u "(Ljava/util/Collection;)V"), (0, .fieldref 8 9), (0, .class_ 10), (0, .nameAndType 11 12), (0, u "java/util/Collections$UnmodifiableList"), (0, u "list"), (0, u "Ljava/util/List;"), (1, .class_ 16), (1, u "java/util/List"), (37, u "(Ljava/util/List;)V"), (5, u "serialVersionUID"), (0, u "J"), (59, .class_ 122), (0, u "java/util/Collections")] 4

def k33c0 : Code := { maxStack := 2, maxLocals := 2, code := jdk_120_method_1_code, exceptionTable := #[], attributes := #[] }
def k33m0 : Method := { name := "<init>", desc := "(Ljava/util/List;)V", sig := { parameters := [(.object "java/util/List")], returnType := none }, accessFlags := 0, code := some k33c0 }
/-- java/util/Collections$UnmodifiableList -/
def k33 : Class := { plain "java/util/Collections$UnmodifiableList" (some 32) with
  accessFlags := 32
  interfaces := #[6]
  cf := some (fileOf pool33 8 #[.nestHost 121] #[{ accessFlags := 0, nameIndex := 5, descriptorIndex := 54, attributes := #[] }] 32 2 #[14] #[{ accessFlags := 26, nameIndex := 60, descriptorIndex := 61, attributes := #[] }, { accessFlags := 16, nameIndex := 11, descriptorIndex := 12, attributes := #[] }])
  fields := #[{ name := "serialVersionUID", type := .long, accessFlags := 26, slot := 0, constantValue := 0 }, { name := "list", type := (.object "java/util/List"), accessFlags := 16, slot := 1, constantValue := 0 }]
  methods := #[k33m0]
  instanceTypes := #[(.object "java/util/Collection"), (.object "java/util/List")]
  staticTypes := #[.long]
  resolved := Array.replicate 127 none
  mirror := some 8
  statics := none }

def pool34 : Array CpInfo := pool [(1, .methodref 2 3), (0, .class_ 4), (0, .nameAndType 5 6), (0, u "java/util/Collections$UnmodifiableList"), (0, u "<init>"), (0, u "(Ljava/util/List;)V"), (0, .class_ 8), (0, u "java/util/Collections$UnmodifiableRandomAccessList"), (11, .class_ 21), (0, u "java/util/RandomAccess"), (0, u "serialVersionUID"), (0, u "J"), (23, .class_ 48), (0, u "java/util/Collections")] 3

def k34c0 : Code := { maxStack := 2, maxLocals := 2, code := jdk_121_method_1_code, exceptionTable := #[], attributes := #[] }
def k34m0 : Method := { name := "<init>", desc := "(Ljava/util/List;)V", sig := { parameters := [(.object "java/util/List")], returnType := none }, accessFlags := 0, code := some k34c0 }
/-- java/util/Collections$UnmodifiableRandomAccessList -/
def k34 : Class := { plain "java/util/Collections$UnmodifiableRandomAccessList" (some 33) with
  accessFlags := 32
  interfaces := #[8]
  cf := some (fileOf pool34 7 #[.nestHost 47] #[{ accessFlags := 0, nameIndex := 5, descriptorIndex := 6, attributes := #[] }] 32 2 #[20] #[{ accessFlags := 26, nameIndex := 22, descriptorIndex := 23, attributes := #[] }])
  fields := #[{ name := "serialVersionUID", type := .long, accessFlags := 26, slot := 0, constantValue := 0 }]
  methods := #[k34m0]
  instanceTypes := #[(.object "java/util/Collection"), (.object "java/util/List")]
  staticTypes := #[.long]
  resolved := Array.replicate 52 none
  mirror := some 9
  statics := none }

def pool35 : Array CpInfo := pool [(6, .class_ 8), (1, u "java/lang/Object"), (0, u "<init>"), (0, u "()V"), (1, .class_ 14), (1, u "java/lang/StringUTF16"), (31, u "$assertionsDisabled"), (0, u "Z"), (13, u "HI_BYTE_SHIFT"), (0, u "I"), (2, u "LO_BYTE_SHIFT"), (49, .methodref 12 116), (0, .nameAndType 117 118), (0, u "compress"), (0, u "([CI[BII)I"), (3, u "([CII)[B"), (138, u "coderFromArrayLen"), (0, u "([BI)B"), (106, .class_ 371), (1, u "java/lang/StringUTF16$LinesSpliterator"), (58, u "MAX_LENGTH"), (196, .class_ 628), (0, u "java/lang/StringUTF16$CodePointsSpliterator"), (0, .class_ 630), (0, u "java/lang/StringUTF16$CharsSpliterator")] 4

def k35m0 : Method := { name := "<init>", desc := "()V", sig := { parameters := [], returnType := none }, accessFlags := 0, code := none }
def k35c1 : Code := { maxStack := 2, maxLocals := 2, code := jdk_52_method_15_code, exceptionTable := #[], attributes := #[] }
def k35m1 : Method := { name := "coderFromArrayLen", desc := "([BI)B", sig := { parameters := [(.array .byte), .int], returnType := some .byte }, accessFlags := 8, code := some k35c1 }
def k35c2 : Code := { maxStack := 5, maxLocals := 6, code := jdk_52_method_16_code, exceptionTable := #[], attributes := #[] }
def k35m2 : Method := { name := "compress", desc := "([CII)[B", sig := { parameters := [(.array .char), .int, .int], returnType := some (.array .byte) }, accessFlags := 9, code := some k35c2 }
def k35c3 : Code := { maxStack := 3, maxLocals := 7, code := jdk_52_method_21_code, exceptionTable := #[], attributes := #[] }
def k35m3 : Method := { name := "compress", desc := "([CI[BII)I", sig := { parameters := [(.array .char), .int, (.array .byte), .int, .int], returnType := some .int }, accessFlags := 9, code := some k35c3 }
/-- java/lang/StringUTF16 -/
def k35 : Class := { plain "java/lang/StringUTF16" (some 0) with
  accessFlags := 48
  interfaces := #[]
  cf := some (fileOf pool35 12 #[.nestMembers #[627, 629, 369]] #[{ accessFlags := 0, nameIndex := 9, descriptorIndex := 10, attributes := #[] }, { accessFlags := 8, nameIndex := 261, descriptorIndex := 262, attributes := #[] }, { accessFlags := 9, nameIndex := 117, descriptorIndex := 122, attributes := #[] }, { accessFlags := 9, nameIndex := 117, descriptorIndex := 118, attributes := #[] }] 48 6 #[] #[{ accessFlags := 26, nameIndex := 61, descriptorIndex := 62, attributes := #[] }, { accessFlags := 26, nameIndex := 65, descriptorIndex := 62, attributes := #[] }, { accessFlags := 24, nameIndex := 430, descriptorIndex := 62, attributes := #[] }, { accessFlags := 4120, nameIndex := 46, descriptorIndex := 47, attributes := #[] }])
  fields := #[{ name := "HI_BYTE_SHIFT", type := .int, accessFlags := 26, slot := 0, constantValue := 0 }, { name := "LO_BYTE_SHIFT", type := .int, accessFlags := 26, slot := 1, constantValue := 0 }, { name := "MAX_LENGTH", type := .int, accessFlags := 24, slot := 2, constantValue := 0 }, { name := "$assertionsDisabled", type := .boolean, accessFlags := 4120, slot := 3, constantValue := 0 }]
  methods := #[k35m0, k35m1, k35m2, k35m3]
  instanceTypes := #[]
  staticTypes := #[.int, .int, .int, .boolean]
  resolved := Array.replicate 635 none
  statics := none }

def pool36 : Array CpInfo := pool [(4, .class_ 6), (1, u "java/lang/Object"), (0, u "<init>"), (0, u "()V"), (5, .class_ 16), (1, u "java/lang/StringLatin1"), (104, u "$assertionsDisabled"), (0, u "Z"), (98, .class_ 223), (1, u "java/lang/StringLatin1$LinesSpliterator"), (166, .class_ 391), (0, u "java/lang/StringLatin1$CharsSpliterator")] 3

def k36m0 : Method := { name := "<init>", desc := "()V", sig := { parameters := [], returnType := none }, accessFlags := 0, code := none }
/-- java/lang/StringLatin1 -/
def k36 : Class := { plain "java/lang/StringLatin1" (some 0) with
  accessFlags := 48
  interfaces := #[]
  cf := some (fileOf pool36 14 #[.nestMembers #[390, 221]] #[{ accessFlags := 0, nameIndex := 7, descriptorIndex := 8, attributes := #[] }] 48 4 #[] #[{ accessFlags := 4120, nameIndex := 121, descriptorIndex := 122, attributes := #[] }])
  fields := #[{ name := "$assertionsDisabled", type := .boolean, accessFlags := 4120, slot := 0, constantValue := 0 }]
  methods := #[k36m0]
  instanceTypes := #[]
  staticTypes := #[.boolean]
  resolved := Array.replicate 395 none
  statics := none }

def pool37 : Array CpInfo := pool [(2, .class_ 4), (1, u "java/lang/Object"), (0, u "<init>"), (0, u "()V"), (17, .class_ 26), (1, u "jdk/internal/util/Preconditions"), (28, .class_ 56), (0, u "jdk/internal/util/Preconditions$4"), (57, .class_ 115), (0, u "jdk/internal/util/Preconditions$1"), (7, u "SIOOBE_FORMATTER"), (0, u "Ljava/util/function/BiFunction;"), (0, .class_ 126), (0, u "jdk/internal/util/Preconditions$2"), (3, u "AIOOBE_FORMATTER"), (0, .class_ 132), (0, u "jdk/internal/util/Preconditions$3"), (3, u "IOOBE_FORMATTER")] 57

def k37m0 : Method := { name := "<init>", desc := "()V", sig := { parameters := [], returnType := none }, accessFlags := 1, code := none }
/-- jdk/internal/util/Preconditions -/
def k37 : Class := { plain "jdk/internal/util/Preconditions" (some 0) with
  accessFlags := 33
  interfaces := #[]
  cf := some (fileOf pool37 24 #[.nestMembers #[55, 131, 125, 114]] #[{ accessFlags := 1, nameIndex := 5, descriptorIndex := 6, attributes := #[] }] 33 2 #[] #[{ accessFlags := 25, nameIndex := 123, descriptorIndex := 124, attributes := #[] }, { accessFlags := 25, nameIndex := 130, descriptorIndex := 124, attributes := #[] }, { accessFlags := 25, nameIndex := 136, descriptorIndex := 124, attributes := #[] }])
  fields := #[{ name := "SIOOBE_FORMATTER", type := (.object "java/util/function/BiFunction"), accessFlags := 25, slot := 0, constantValue := 0 }, { name := "AIOOBE_FORMATTER", type := (.object "java/util/function/BiFunction"), accessFlags := 25, slot := 1, constantValue := 0 }, { name := "IOOBE_FORMATTER", type := (.object "java/util/function/BiFunction"), accessFlags := 25, slot := 2, constantValue := 0 }]
  methods := #[k37m0]
  instanceTypes := #[]
  staticTypes := #[(.object "java/util/function/BiFunction"), (.object "java/util/function/BiFunction"), (.object "java/util/function/BiFunction")]
  resolved := Array.replicate 194 none
  statics := some 5 }

def pool38 : Array CpInfo := pool [(9, u "<init>"), (6, .class_ 18), (1, u "java/lang/Object"), (0, u "()V"), (1, .class_ 23), (1, u "jdk/internal/util/ArraysSupport"), (0, u "LOG2_ARRAY_LONG_INDEX_SCALE"), (0, u "I"), (2, u "U"), (0, u "Ljdk/internal/misc/Unsafe;"), (8, u "BIG_ENDIAN"), (0, u "Z"), (8, u "LOG2_BYTE_BIT_SIZE"), (4, u "LOG2_ARRAY_INT_INDEX_SCALE"), (54, u "JLA"), (0, u "Ljdk/internal/access/JavaLangAccess;"), (11, u "LOG2_ARRAY_BOOLEAN_INDEX_SCALE"), (9, u "LOG2_ARRAY_BYTE_INDEX_SCALE"), (5, u "LOG2_ARRAY_CHAR_INDEX_SCALE"), (5, u "LOG2_ARRAY_SHORT_INDEX_SCALE"), (18, u "LOG2_ARRAY_FLOAT_INDEX_SCALE"), (24, u "LOG2_ARRAY_DOUBLE_INDEX_SCALE"), (89, u "T_BOOLEAN"), (2, u "T_CHAR"), (1, u "T_FLOAT"), (1, u "T_DOUBLE"), (1, u "T_BYTE"), (1, u "T_SHORT"), (1, u "T_INT"), (1, u "T_LONG"), (1, u "SOFT_MAX_ARRAY_LENGTH")] 83

def k38m0 : Method := { name := "<init>", desc := "()V", sig := { parameters := [], returnType := none }, accessFlags := 2, code := none }
/-- jdk/internal/util/ArraysSupport -/
def k38 : Class := { plain "jdk/internal/util/ArraysSupport" (some 0) with
  accessFlags := 33
  interfaces := #[]
  cf := some (fileOf pool38 21 #[] #[{ accessFlags := 2, nameIndex := 9, descriptorIndex := 19, attributes := #[] }] 33 16 #[] #[{ accessFlags := 24, nameIndex := 28, descriptorIndex := 29, attributes := #[] }, { accessFlags := 26, nameIndex := 38, descriptorIndex := 39, attributes := #[] }, { accessFlags := 25, nameIndex := 121, descriptorIndex := 25, attributes := #[] }, { accessFlags := 25, nameIndex := 131, descriptorIndex := 25, attributes := #[] }, { accessFlags := 25, nameIndex := 137, descriptorIndex := 25, attributes := #[] }, { accessFlags := 25, nameIndex := 143, descriptorIndex := 25, attributes := #[] }, { accessFlags := 25, nameIndex := 53, descriptorIndex := 25, attributes := #[] }, { accessFlags := 25, nameIndex := 24, descriptorIndex := 25, attributes := #[] }, { accessFlags := 25, nameIndex := 162, descriptorIndex := 25, attributes := #[] }, { accessFlags := 25, nameIndex := 187, descriptorIndex := 25, attributes := #[] }, { accessFlags := 26, nameIndex := 48, descriptorIndex := 25, attributes := #[] }, { accessFlags := 25, nameIndex := 277, descriptorIndex := 25, attributes := #[] }, { accessFlags := 25, nameIndex := 280, descriptorIndex := 25, attributes := #[] }, { accessFlags := 25, nameIndex := 282, descriptorIndex := 25, attributes := #[] }, { accessFlags := 25, nameIndex := 284, descriptorIndex := 25, attributes := #[] }, { accessFlags := 25, nameIndex := 286, descriptorIndex := 25, attributes := #[] }, { accessFlags := 25, nameIndex := 288, descriptorIndex := 25, attributes := #[] }, { accessFlags := 25, nameIndex := 290, descriptorIndex := 25, attributes := #[] }, { accessFlags := 25, nameIndex := 292, descriptorIndex := 25, attributes := #[] }, { accessFlags := 26, nameIndex := 108, descriptorIndex := 109, attributes := #[] }, { accessFlags := 25, nameIndex := 294, descriptorIndex := 25, attributes := #[] }])
  fields := #[{ name := "U", type := (.object "jdk/internal/misc/Unsafe"), accessFlags := 24, slot := 0, constantValue := 0 }, { name := "BIG_ENDIAN", type := .boolean, accessFlags := 26, slot := 1, constantValue := 0 }, { name := "LOG2_ARRAY_BOOLEAN_INDEX_SCALE", type := .int, accessFlags := 25, slot := 2, constantValue := 0 }, { name := "LOG2_ARRAY_BYTE_INDEX_SCALE", type := .int, accessFlags := 25, slot := 3, constantValue := 0 }, { name := "LOG2_ARRAY_CHAR_INDEX_SCALE", type := .int, accessFlags := 25, slot := 4, constantValue := 0 }, { name := "LOG2_ARRAY_SHORT_INDEX_SCALE", type := .int, accessFlags := 25, slot := 5, constantValue := 0 }, { name := "LOG2_ARRAY_INT_INDEX_SCALE", type := .int, accessFlags := 25, slot := 6, constantValue := 0 }, { name := "LOG2_ARRAY_LONG_INDEX_SCALE", type := .int, accessFlags := 25, slot := 7, constantValue := 0 }, { name := "LOG2_ARRAY_FLOAT_INDEX_SCALE", type := .int, accessFlags := 25, slot := 8, constantValue := 0 }, { name := "LOG2_ARRAY_DOUBLE_INDEX_SCALE", type := .int, accessFlags := 25, slot := 9, constantValue := 0 }, { name := "LOG2_BYTE_BIT_SIZE", type := .int, accessFlags := 26, slot := 10, constantValue := 0 }, { name := "T_BOOLEAN", type := .int, accessFlags := 25, slot := 11, constantValue := 0 }, { name := "T_CHAR", type := .int, accessFlags := 25, slot := 12, constantValue := 0 }, { name := "T_FLOAT", type := .int, accessFlags := 25, slot := 13, constantValue := 0 }, { name := "T_DOUBLE", type := .int, accessFlags := 25, slot := 14, constantValue := 0 }, { name := "T_BYTE", type := .int, accessFlags := 25, slot := 15, constantValue := 0 }, { name := "T_SHORT", type := .int, accessFlags := 25, slot := 16, constantValue := 0 }, { name := "T_INT", type := .int, accessFlags := 25, slot := 17, constantValue := 0 }, { name := "T_LONG", type := .int, accessFlags := 25, slot := 18, constantValue := 0 }, { name := "JLA", type := (.object "jdk/internal/access/JavaLangAccess"), accessFlags := 26, slot := 19, constantValue := 0 }, { name := "SOFT_MAX_ARRAY_LENGTH", type := .int, accessFlags := 25, slot := 20, constantValue := 0 }]
  methods := #[k38m0]
  instanceTypes := #[]
  staticTypes := #[(.object "jdk/internal/misc/Unsafe"), .boolean, .int, .int, .int, .int, .int, .int, .int, .int, .int, .int, .int, .int, .int, .int, .int, .int, .int, (.object "jdk/internal/access/JavaLangAccess"), .int]
  resolved := Array.replicate 378 none
  statics := none }

def pool39 : Array CpInfo := pool [(1, u "java/lang/Class"), (0, .class_ 1), (0, u "java/lang/Object"), (0, .class_ 3)] 0

/-- java/lang/Class -/
def k39 : Class := { plain "java/lang/Class" (some 0) with
  accessFlags := 49
  interfaces := #[]
  cf := some (fileOf pool39 2 #[] #[] 49 4 #[] #[])
  fields := #[]
  methods := #[]
  instanceTypes := #[]
  staticTypes := #[]
  resolved := Array.replicate 5 none
  statics := none }

/-- the primitive byte -/
def k40 : Class := { plain "byte" none with kind := .primitive 'B', accessFlags := 0x411 }
/-- [B -/
def k41 : Class := { plain "[B" (some 0) with kind := .array 40 .byte, interfaces := #[9, 10], accessFlags := 1041 }

/-- the primitive char -/
def k42 : Class := { plain "char" none with kind := .primitive 'C', accessFlags := 0x411 }
/-- [C -/
def k43 : Class := { plain "[C" (some 0) with kind := .array 42 .char, interfaces := #[9, 10], accessFlags := 1041 }

/-- the primitive int -/
def k44 : Class := { plain "int" none with kind := .primitive 'I', accessFlags := 0x411 }
/-- [I -/
def k45 : Class := { plain "[I" (some 0) with kind := .array 44 .int, interfaces := #[9, 10], accessFlags := 1041 }

/-- [Ljava/lang/Integer; -/
def k46 : Class := { plain "[Ljava/lang/Integer;" (some 0) with kind := .array 27 (.object "java/lang/Integer"), interfaces := #[9, 10], accessFlags := 1041 }

/-- [Ljava/lang/Long; -/
def k47 : Class := { plain "[Ljava/lang/Long;" (some 0) with kind := .array 20 (.object "java/lang/Long"), interfaces := #[9, 10], accessFlags := 1041 }

/-- [Ljava/lang/Object; -/
def k48 : Class := { plain "[Ljava/lang/Object;" (some 0) with kind := .array 0 (.object "java/lang/Object"), interfaces := #[9, 10], accessFlags := 1041, mirror := some 6 }

def heap : Heap := #[{ cls := 11, slots := #[.long 0, .int 0, .ref 530, .ref 531], vm := .statics 11 },
  { cls := 15, slots := #[.ref 527, .ref 529, .ref 525, .ref 526, .ref 524, .ref 528, .null, .null], vm := .statics 15 },
  { cls := 18, slots := #[.long 0, .int 1, .null, .int 0, .null, .int 0, .int 0], vm := .statics 18 },
  { cls := 26, slots := #[.ref 10, .null, .int 0], vm := .statics 26 },
  { cls := 28, slots := #[.int 0, .int 127, .ref 11, .null, .int 0], vm := .statics 28 },
  { cls := 37, slots := #[.null, .null, .null], vm := .statics 37 },
  { cls := 39, slots := #[], vm := .mirror 48 },
  { cls := 39, slots := #[], vm := .mirror 11 },
  { cls := 39, slots := #[], vm := .mirror 33 },
  { cls := 39, slots := #[], vm := .mirror 34 },
  { cls := 47, slots := #[.ref 12, .ref 13, .ref 14, .ref 15, .ref 16, .ref 17, .ref 18, .ref 19, .ref 20, .ref 21, .ref 22, .ref 23, .ref 24, .ref 25, .ref 26, .ref 27, .ref 28, .ref 29, .ref 30, .ref 31, .ref 32, .ref 33, .ref 34, .ref 35, .ref 36, .ref 37, .ref 38, .ref 39, .ref 40, .ref 41, .ref 42, .ref 43, .ref 44, .ref 45, .ref 46, .ref 47, .ref 48, .ref 49, .ref 50, .ref 51, .ref 52, .ref 53, .ref 54, .ref 55, .ref 56, .ref 57, .ref 58, .ref 59, .ref 60, .ref 61, .ref 62, .ref 63, .ref 64, .ref 65, .ref 66, .ref 67, .ref 68, .ref 69, .ref 70, .ref 71, .ref 72, .ref 73, .ref 74, .ref 75, .ref 76, .ref 77, .ref 78, .ref 79, .ref 80, .ref 81, .ref 82, .ref 83, .ref 84, .ref 85, .ref 86, .ref 87, .ref 88, .ref 89, .ref 90, .ref 91, .ref 92, .ref 93, .ref 94, .ref 95, .ref 96, .ref 97, .ref 98, .ref 99, .ref 100, .ref 101, .ref 102, .ref 103, .ref 104, .ref 105, .ref 106, .ref 107, .ref 108, .ref 109, .ref 110, .ref 111, .ref 112, .ref 113, .ref 114, .ref 115, .ref 116, .ref 117, .ref 118, .ref 119, .ref 120, .ref 121, .ref 122, .ref 123, .ref 124, .ref 125, .ref 126, .ref 127, .ref 128, .ref 129, .ref 130, .ref 131, .ref 132, .ref 133, .ref 134, .ref 135, .ref 136, .ref 137, .ref 138, .ref 139, .ref 140, .ref 141, .ref 142, .ref 143, .ref 144, .ref 145, .ref 146, .ref 147, .ref 148, .ref 149, .ref 150, .ref 151, .ref 152, .ref 153, .ref 154, .ref 155, .ref 156, .ref 157, .ref 158, .ref 159, .ref 160, .ref 161, .ref 162, .ref 163, .ref 164, .ref 165, .ref 166, .ref 167, .ref 168, .ref 169, .ref 170, .ref 171, .ref 172, .ref 173, .ref 174, .ref 175, .ref 176, .ref 177, .ref 178, .ref 179, .ref 180, .ref 181, .ref 182, .ref 183, .ref 184, .ref 185, .ref 186, .ref 187, .ref 188, .ref 189, .ref 190, .ref 191, .ref 192, .ref 193, .ref 194, .ref 195, .ref 196, .ref 197, .ref 198, .ref 199, .ref 200, .ref 201, .ref 202, .ref 203, .ref 204, .ref 205, .ref 206, .ref 207, .ref 208, .ref 209, .ref 210, .ref 211, .ref 212, .ref 213, .ref 214, .ref 215, .ref 216, .ref 217, .ref 218, .ref 219, .ref 220, .ref 221, .ref 222, .ref 223, .ref 224, .ref 225, .ref 226, .ref 227, .ref 228, .ref 229, .ref 230, .ref 231, .ref 232, .ref 233, .ref 234, .ref 235, .ref 236, .ref 237, .ref 238, .ref 239, .ref 240, .ref 241, .ref 242, .ref 243, .ref 244, .ref 245, .ref 246, .ref 247, .ref 248, .ref 249, .ref 250, .ref 251, .ref 252, .ref 253, .ref 254, .ref 255, .ref 256, .ref 257, .ref 258, .ref 259, .ref 260, .ref 261, .ref 262, .ref 263, .ref 264, .ref 265, .ref 266, .ref 267], vm := .none },
  { cls := 46, slots := #[.ref 268, .ref 269, .ref 270, .ref 271, .ref 272, .ref 273, .ref 274, .ref 275, .ref 276, .ref 277, .ref 278, .ref 279, .ref 280, .ref 281, .ref 282, .ref 283, .ref 284, .ref 285, .ref 286, .ref 287, .ref 288, .ref 289, .ref 290, .ref 291, .ref 292, .ref 293, .ref 294, .ref 295, .ref 296, .ref 297, .ref 298, .ref 299, .ref 300, .ref 301, .ref 302, .ref 303, .ref 304, .ref 305, .ref 306, .ref 307, .ref 308, .ref 309, .ref 310, .ref 311, .ref 312, .ref 313, .ref 314, .ref 315, .ref 316, .ref 317, .ref 318, .ref 319, .ref 320, .ref 321, .ref 322, .ref 323, .ref 324, .ref 325, .ref 326, .ref 327, .ref 328, .ref 329, .ref 330, .ref 331, .ref 332, .ref 333, .ref 334, .ref 335, .ref 336, .ref 337, .ref 338, .ref 339, .ref 340, .ref 341, .ref 342, .ref 343, .ref 344, .ref 345, .ref 346, .ref 347, .ref 348, .ref 349, .ref 350, .ref 351, .ref 352, .ref 353, .ref 354, .ref 355, .ref 356, .ref 357, .ref 358, .ref 359, .ref 360, .ref 361, .ref 362, .ref 363, .ref 364, .ref 365, .ref 366, .ref 367, .ref 368, .ref 369, .ref 370, .ref 371, .ref 372, .ref 373, .ref 374, .ref 375, .ref 376, .ref 377, .ref 378, .ref 379, .ref 380, .ref 381, .ref 382, .ref 383, .ref 384, .ref 385, .ref 386, .ref 387, .ref 388, .ref 389, .ref 390, .ref 391, .ref 392, .ref 393, .ref 394, .ref 395, .ref 396, .ref 397, .ref 398, .ref 399, .ref 400, .ref 401, .ref 402, .ref 403, .ref 404, .ref 405, .ref 406, .ref 407, .ref 408, .ref 409, .ref 410, .ref 411, .ref 412, .ref 413, .ref 414, .ref 415, .ref 416, .ref 417, .ref 418, .ref 419, .ref 420, .ref 421, .ref 422, .ref 423, .ref 424, .ref 425, .ref 426, .ref 427, .ref 428, .ref 429, .ref 430, .ref 431, .ref 432, .ref 433, .ref 434, .ref 435, .ref 436, .ref 437, .ref 438, .ref 439, .ref 440, .ref 441, .ref 442, .ref 443, .ref 444, .ref 445, .ref 446, .ref 447, .ref 448, .ref 449, .ref 450, .ref 451, .ref 452, .ref 453, .ref 454, .ref 455, .ref 456, .ref 457, .ref 458, .ref 459, .ref 460, .ref 461, .ref 462, .ref 463, .ref 464, .ref 465, .ref 466, .ref 467, .ref 468, .ref 469, .ref 470, .ref 471, .ref 472, .ref 473, .ref 474, .ref 475, .ref 476, .ref 477, .ref 478, .ref 479, .ref 480, .ref 481, .ref 482, .ref 483, .ref 484, .ref 485, .ref 486, .ref 487, .ref 488, .ref 489, .ref 490, .ref 491, .ref 492, .ref 493, .ref 494, .ref 495, .ref 496, .ref 497, .ref 498, .ref 499, .ref 500, .ref 501, .ref 502, .ref 503, .ref 504, .ref 505, .ref 506, .ref 507, .ref 508, .ref 509, .ref 510, .ref 511, .ref 512, .ref 513, .ref 514, .ref 515, .ref 516, .ref 517, .ref 518, .ref 519, .ref 520, .ref 521, .ref 522, .ref 523], vm := .none },
  { cls := 20, slots := #[.long (-128)], vm := .none },
  { cls := 20, slots := #[.long (-127)], vm := .none },
  { cls := 20, slots := #[.long (-126)], vm := .none },
  { cls := 20, slots := #[.long (-125)], vm := .none },
  { cls := 20, slots := #[.long (-124)], vm := .none },
  { cls := 20, slots := #[.long (-123)], vm := .none },
  { cls := 20, slots := #[.long (-122)], vm := .none },
  { cls := 20, slots := #[.long (-121)], vm := .none },
  { cls := 20, slots := #[.long (-120)], vm := .none },
  { cls := 20, slots := #[.long (-119)], vm := .none },
  { cls := 20, slots := #[.long (-118)], vm := .none },
  { cls := 20, slots := #[.long (-117)], vm := .none },
  { cls := 20, slots := #[.long (-116)], vm := .none },
  { cls := 20, slots := #[.long (-115)], vm := .none },
  { cls := 20, slots := #[.long (-114)], vm := .none },
  { cls := 20, slots := #[.long (-113)], vm := .none },
  { cls := 20, slots := #[.long (-112)], vm := .none },
  { cls := 20, slots := #[.long (-111)], vm := .none },
  { cls := 20, slots := #[.long (-110)], vm := .none },
  { cls := 20, slots := #[.long (-109)], vm := .none },
  { cls := 20, slots := #[.long (-108)], vm := .none },
  { cls := 20, slots := #[.long (-107)], vm := .none },
  { cls := 20, slots := #[.long (-106)], vm := .none },
  { cls := 20, slots := #[.long (-105)], vm := .none },
  { cls := 20, slots := #[.long (-104)], vm := .none },
  { cls := 20, slots := #[.long (-103)], vm := .none },
  { cls := 20, slots := #[.long (-102)], vm := .none },
  { cls := 20, slots := #[.long (-101)], vm := .none },
  { cls := 20, slots := #[.long (-100)], vm := .none },
  { cls := 20, slots := #[.long (-99)], vm := .none },
  { cls := 20, slots := #[.long (-98)], vm := .none },
  { cls := 20, slots := #[.long (-97)], vm := .none },
  { cls := 20, slots := #[.long (-96)], vm := .none },
  { cls := 20, slots := #[.long (-95)], vm := .none },
  { cls := 20, slots := #[.long (-94)], vm := .none },
  { cls := 20, slots := #[.long (-93)], vm := .none },
  { cls := 20, slots := #[.long (-92)], vm := .none },
  { cls := 20, slots := #[.long (-91)], vm := .none },
  { cls := 20, slots := #[.long (-90)], vm := .none },
  { cls := 20, slots := #[.long (-89)], vm := .none },
  { cls := 20, slots := #[.long (-88)], vm := .none },
  { cls := 20, slots := #[.long (-87)], vm := .none },
  { cls := 20, slots := #[.long (-86)], vm := .none },
  { cls := 20, slots := #[.long (-85)], vm := .none },
  { cls := 20, slots := #[.long (-84)], vm := .none },
  { cls := 20, slots := #[.long (-83)], vm := .none },
  { cls := 20, slots := #[.long (-82)], vm := .none },
  { cls := 20, slots := #[.long (-81)], vm := .none },
  { cls := 20, slots := #[.long (-80)], vm := .none },
  { cls := 20, slots := #[.long (-79)], vm := .none },
  { cls := 20, slots := #[.long (-78)], vm := .none },
  { cls := 20, slots := #[.long (-77)], vm := .none },
  { cls := 20, slots := #[.long (-76)], vm := .none },
  { cls := 20, slots := #[.long (-75)], vm := .none },
  { cls := 20, slots := #[.long (-74)], vm := .none },
  { cls := 20, slots := #[.long (-73)], vm := .none },
  { cls := 20, slots := #[.long (-72)], vm := .none },
  { cls := 20, slots := #[.long (-71)], vm := .none },
  { cls := 20, slots := #[.long (-70)], vm := .none },
  { cls := 20, slots := #[.long (-69)], vm := .none },
  { cls := 20, slots := #[.long (-68)], vm := .none },
  { cls := 20, slots := #[.long (-67)], vm := .none },
  { cls := 20, slots := #[.long (-66)], vm := .none },
  { cls := 20, slots := #[.long (-65)], vm := .none },
  { cls := 20, slots := #[.long (-64)], vm := .none },
  { cls := 20, slots := #[.long (-63)], vm := .none },
  { cls := 20, slots := #[.long (-62)], vm := .none },
  { cls := 20, slots := #[.long (-61)], vm := .none },
  { cls := 20, slots := #[.long (-60)], vm := .none },
  { cls := 20, slots := #[.long (-59)], vm := .none },
  { cls := 20, slots := #[.long (-58)], vm := .none },
  { cls := 20, slots := #[.long (-57)], vm := .none },
  { cls := 20, slots := #[.long (-56)], vm := .none },
  { cls := 20, slots := #[.long (-55)], vm := .none },
  { cls := 20, slots := #[.long (-54)], vm := .none },
  { cls := 20, slots := #[.long (-53)], vm := .none },
  { cls := 20, slots := #[.long (-52)], vm := .none },
  { cls := 20, slots := #[.long (-51)], vm := .none },
  { cls := 20, slots := #[.long (-50)], vm := .none },
  { cls := 20, slots := #[.long (-49)], vm := .none },
  { cls := 20, slots := #[.long (-48)], vm := .none },
  { cls := 20, slots := #[.long (-47)], vm := .none },
  { cls := 20, slots := #[.long (-46)], vm := .none },
  { cls := 20, slots := #[.long (-45)], vm := .none },
  { cls := 20, slots := #[.long (-44)], vm := .none },
  { cls := 20, slots := #[.long (-43)], vm := .none },
  { cls := 20, slots := #[.long (-42)], vm := .none },
  { cls := 20, slots := #[.long (-41)], vm := .none },
  { cls := 20, slots := #[.long (-40)], vm := .none },
  { cls := 20, slots := #[.long (-39)], vm := .none },
  { cls := 20, slots := #[.long (-38)], vm := .none },
  { cls := 20, slots := #[.long (-37)], vm := .none },
  { cls := 20, slots := #[.long (-36)], vm := .none },
  { cls := 20, slots := #[.long (-35)], vm := .none },
  { cls := 20, slots := #[.long (-34)], vm := .none },
  { cls := 20, slots := #[.long (-33)], vm := .none },
  { cls := 20, slots := #[.long (-32)], vm := .none },
  { cls := 20, slots := #[.long (-31)], vm := .none },
  { cls := 20, slots := #[.long (-30)], vm := .none },
  { cls := 20, slots := #[.long (-29)], vm := .none },
  { cls := 20, slots := #[.long (-28)], vm := .none },
  { cls := 20, slots := #[.long (-27)], vm := .none },
  { cls := 20, slots := #[.long (-26)], vm := .none },
  { cls := 20, slots := #[.long (-25)], vm := .none },
  { cls := 20, slots := #[.long (-24)], vm := .none },
  { cls := 20, slots := #[.long (-23)], vm := .none },
  { cls := 20, slots := #[.long (-22)], vm := .none },
  { cls := 20, slots := #[.long (-21)], vm := .none },
  { cls := 20, slots := #[.long (-20)], vm := .none },
  { cls := 20, slots := #[.long (-19)], vm := .none },
  { cls := 20, slots := #[.long (-18)], vm := .none },
  { cls := 20, slots := #[.long (-17)], vm := .none },
  { cls := 20, slots := #[.long (-16)], vm := .none },
  { cls := 20, slots := #[.long (-15)], vm := .none },
  { cls := 20, slots := #[.long (-14)], vm := .none },
  { cls := 20, slots := #[.long (-13)], vm := .none },
  { cls := 20, slots := #[.long (-12)], vm := .none },
  { cls := 20, slots := #[.long (-11)], vm := .none },
  { cls := 20, slots := #[.long (-10)], vm := .none },
  { cls := 20, slots := #[.long (-9)], vm := .none },
  { cls := 20, slots := #[.long (-8)], vm := .none },
  { cls := 20, slots := #[.long (-7)], vm := .none },
  { cls := 20, slots := #[.long (-6)], vm := .none },
  { cls := 20, slots := #[.long (-5)], vm := .none },
  { cls := 20, slots := #[.long (-4)], vm := .none },
  { cls := 20, slots := #[.long (-3)], vm := .none },
  { cls := 20, slots := #[.long (-2)], vm := .none },
  { cls := 20, slots := #[.long (-1)], vm := .none },
  { cls := 20, slots := #[.long 0], vm := .none },
  { cls := 20, slots := #[.long 1], vm := .none },
  { cls := 20, slots := #[.long 2], vm := .none },
  { cls := 20, slots := #[.long 3], vm := .none },
  { cls := 20, slots := #[.long 4], vm := .none },
  { cls := 20, slots := #[.long 5], vm := .none },
  { cls := 20, slots := #[.long 6], vm := .none },
  { cls := 20, slots := #[.long 7], vm := .none },
  { cls := 20, slots := #[.long 8], vm := .none },
  { cls := 20, slots := #[.long 9], vm := .none },
  { cls := 20, slots := #[.long 10], vm := .none },
  { cls := 20, slots := #[.long 11], vm := .none },
  { cls := 20, slots := #[.long 12], vm := .none },
  { cls := 20, slots := #[.long 13], vm := .none },
  { cls := 20, slots := #[.long 14], vm := .none },
  { cls := 20, slots := #[.long 15], vm := .none },
  { cls := 20, slots := #[.long 16], vm := .none },
  { cls := 20, slots := #[.long 17], vm := .none },
  { cls := 20, slots := #[.long 18], vm := .none },
  { cls := 20, slots := #[.long 19], vm := .none },
  { cls := 20, slots := #[.long 20], vm := .none },
  { cls := 20, slots := #[.long 21], vm := .none },
  { cls := 20, slots := #[.long 22], vm := .none },
  { cls := 20, slots := #[.long 23], vm := .none },
  { cls := 20, slots := #[.long 24], vm := .none },
  { cls := 20, slots := #[.long 25], vm := .none },
  { cls := 20, slots := #[.long 26], vm := .none },
  { cls := 20, slots := #[.long 27], vm := .none },
  { cls := 20, slots := #[.long 28], vm := .none },
  { cls := 20, slots := #[.long 29], vm := .none },
  { cls := 20, slots := #[.long 30], vm := .none },
  { cls := 20, slots := #[.long 31], vm := .none },
  { cls := 20, slots := #[.long 32], vm := .none },
  { cls := 20, slots := #[.long 33], vm := .none },
  { cls := 20, slots := #[.long 34], vm := .none },
  { cls := 20, slots := #[.long 35], vm := .none },
  { cls := 20, slots := #[.long 36], vm := .none },
  { cls := 20, slots := #[.long 37], vm := .none },
  { cls := 20, slots := #[.long 38], vm := .none },
  { cls := 20, slots := #[.long 39], vm := .none },
  { cls := 20, slots := #[.long 40], vm := .none },
  { cls := 20, slots := #[.long 41], vm := .none },
  { cls := 20, slots := #[.long 42], vm := .none },
  { cls := 20, slots := #[.long 43], vm := .none },
  { cls := 20, slots := #[.long 44], vm := .none },
  { cls := 20, slots := #[.long 45], vm := .none },
  { cls := 20, slots := #[.long 46], vm := .none },
  { cls := 20, slots := #[.long 47], vm := .none },
  { cls := 20, slots := #[.long 48], vm := .none },
  { cls := 20, slots := #[.long 49], vm := .none },
  { cls := 20, slots := #[.long 50], vm := .none },
  { cls := 20, slots := #[.long 51], vm := .none },
  { cls := 20, slots := #[.long 52], vm := .none },
  { cls := 20, slots := #[.long 53], vm := .none },
  { cls := 20, slots := #[.long 54], vm := .none },
  { cls := 20, slots := #[.long 55], vm := .none },
  { cls := 20, slots := #[.long 56], vm := .none },
  { cls := 20, slots := #[.long 57], vm := .none },
  { cls := 20, slots := #[.long 58], vm := .none },
  { cls := 20, slots := #[.long 59], vm := .none },
  { cls := 20, slots := #[.long 60], vm := .none },
  { cls := 20, slots := #[.long 61], vm := .none },
  { cls := 20, slots := #[.long 62], vm := .none },
  { cls := 20, slots := #[.long 63], vm := .none },
  { cls := 20, slots := #[.long 64], vm := .none },
  { cls := 20, slots := #[.long 65], vm := .none },
  { cls := 20, slots := #[.long 66], vm := .none },
  { cls := 20, slots := #[.long 67], vm := .none },
  { cls := 20, slots := #[.long 68], vm := .none },
  { cls := 20, slots := #[.long 69], vm := .none },
  { cls := 20, slots := #[.long 70], vm := .none },
  { cls := 20, slots := #[.long 71], vm := .none },
  { cls := 20, slots := #[.long 72], vm := .none },
  { cls := 20, slots := #[.long 73], vm := .none },
  { cls := 20, slots := #[.long 74], vm := .none },
  { cls := 20, slots := #[.long 75], vm := .none },
  { cls := 20, slots := #[.long 76], vm := .none },
  { cls := 20, slots := #[.long 77], vm := .none },
  { cls := 20, slots := #[.long 78], vm := .none },
  { cls := 20, slots := #[.long 79], vm := .none },
  { cls := 20, slots := #[.long 80], vm := .none },
  { cls := 20, slots := #[.long 81], vm := .none },
  { cls := 20, slots := #[.long 82], vm := .none },
  { cls := 20, slots := #[.long 83], vm := .none },
  { cls := 20, slots := #[.long 84], vm := .none },
  { cls := 20, slots := #[.long 85], vm := .none },
  { cls := 20, slots := #[.long 86], vm := .none },
  { cls := 20, slots := #[.long 87], vm := .none },
  { cls := 20, slots := #[.long 88], vm := .none },
  { cls := 20, slots := #[.long 89], vm := .none },
  { cls := 20, slots := #[.long 90], vm := .none },
  { cls := 20, slots := #[.long 91], vm := .none },
  { cls := 20, slots := #[.long 92], vm := .none },
  { cls := 20, slots := #[.long 93], vm := .none },
  { cls := 20, slots := #[.long 94], vm := .none },
  { cls := 20, slots := #[.long 95], vm := .none },
  { cls := 20, slots := #[.long 96], vm := .none },
  { cls := 20, slots := #[.long 97], vm := .none },
  { cls := 20, slots := #[.long 98], vm := .none },
  { cls := 20, slots := #[.long 99], vm := .none },
  { cls := 20, slots := #[.long 100], vm := .none },
  { cls := 20, slots := #[.long 101], vm := .none },
  { cls := 20, slots := #[.long 102], vm := .none },
  { cls := 20, slots := #[.long 103], vm := .none },
  { cls := 20, slots := #[.long 104], vm := .none },
  { cls := 20, slots := #[.long 105], vm := .none },
  { cls := 20, slots := #[.long 106], vm := .none },
  { cls := 20, slots := #[.long 107], vm := .none },
  { cls := 20, slots := #[.long 108], vm := .none },
  { cls := 20, slots := #[.long 109], vm := .none },
  { cls := 20, slots := #[.long 110], vm := .none },
  { cls := 20, slots := #[.long 111], vm := .none },
  { cls := 20, slots := #[.long 112], vm := .none },
  { cls := 20, slots := #[.long 113], vm := .none },
  { cls := 20, slots := #[.long 114], vm := .none },
  { cls := 20, slots := #[.long 115], vm := .none },
  { cls := 20, slots := #[.long 116], vm := .none },
  { cls := 20, slots := #[.long 117], vm := .none },
  { cls := 20, slots := #[.long 118], vm := .none },
  { cls := 20, slots := #[.long 119], vm := .none },
  { cls := 20, slots := #[.long 120], vm := .none },
  { cls := 20, slots := #[.long 121], vm := .none },
  { cls := 20, slots := #[.long 122], vm := .none },
  { cls := 20, slots := #[.long 123], vm := .none },
  { cls := 20, slots := #[.long 124], vm := .none },
  { cls := 20, slots := #[.long 125], vm := .none },
  { cls := 20, slots := #[.long 126], vm := .none },
  { cls := 20, slots := #[.long 127], vm := .none },
  { cls := 27, slots := #[.int (-128)], vm := .none },
  { cls := 27, slots := #[.int (-127)], vm := .none },
  { cls := 27, slots := #[.int (-126)], vm := .none },
  { cls := 27, slots := #[.int (-125)], vm := .none },
  { cls := 27, slots := #[.int (-124)], vm := .none },
  { cls := 27, slots := #[.int (-123)], vm := .none },
  { cls := 27, slots := #[.int (-122)], vm := .none },
  { cls := 27, slots := #[.int (-121)], vm := .none },
  { cls := 27, slots := #[.int (-120)], vm := .none },
  { cls := 27, slots := #[.int (-119)], vm := .none },
  { cls := 27, slots := #[.int (-118)], vm := .none },
  { cls := 27, slots := #[.int (-117)], vm := .none },
  { cls := 27, slots := #[.int (-116)], vm := .none },
  { cls := 27, slots := #[.int (-115)], vm := .none },
  { cls := 27, slots := #[.int (-114)], vm := .none },
  { cls := 27, slots := #[.int (-113)], vm := .none },
  { cls := 27, slots := #[.int (-112)], vm := .none },
  { cls := 27, slots := #[.int (-111)], vm := .none },
  { cls := 27, slots := #[.int (-110)], vm := .none },
  { cls := 27, slots := #[.int (-109)], vm := .none },
  { cls := 27, slots := #[.int (-108)], vm := .none },
  { cls := 27, slots := #[.int (-107)], vm := .none },
  { cls := 27, slots := #[.int (-106)], vm := .none },
  { cls := 27, slots := #[.int (-105)], vm := .none },
  { cls := 27, slots := #[.int (-104)], vm := .none },
  { cls := 27, slots := #[.int (-103)], vm := .none },
  { cls := 27, slots := #[.int (-102)], vm := .none },
  { cls := 27, slots := #[.int (-101)], vm := .none },
  { cls := 27, slots := #[.int (-100)], vm := .none },
  { cls := 27, slots := #[.int (-99)], vm := .none },
  { cls := 27, slots := #[.int (-98)], vm := .none },
  { cls := 27, slots := #[.int (-97)], vm := .none },
  { cls := 27, slots := #[.int (-96)], vm := .none },
  { cls := 27, slots := #[.int (-95)], vm := .none },
  { cls := 27, slots := #[.int (-94)], vm := .none },
  { cls := 27, slots := #[.int (-93)], vm := .none },
  { cls := 27, slots := #[.int (-92)], vm := .none },
  { cls := 27, slots := #[.int (-91)], vm := .none },
  { cls := 27, slots := #[.int (-90)], vm := .none },
  { cls := 27, slots := #[.int (-89)], vm := .none },
  { cls := 27, slots := #[.int (-88)], vm := .none },
  { cls := 27, slots := #[.int (-87)], vm := .none },
  { cls := 27, slots := #[.int (-86)], vm := .none },
  { cls := 27, slots := #[.int (-85)], vm := .none },
  { cls := 27, slots := #[.int (-84)], vm := .none },
  { cls := 27, slots := #[.int (-83)], vm := .none },
  { cls := 27, slots := #[.int (-82)], vm := .none },
  { cls := 27, slots := #[.int (-81)], vm := .none },
  { cls := 27, slots := #[.int (-80)], vm := .none },
  { cls := 27, slots := #[.int (-79)], vm := .none },
  { cls := 27, slots := #[.int (-78)], vm := .none },
  { cls := 27, slots := #[.int (-77)], vm := .none },
  { cls := 27, slots := #[.int (-76)], vm := .none },
  { cls := 27, slots := #[.int (-75)], vm := .none },
  { cls := 27, slots := #[.int (-74)], vm := .none },
  { cls := 27, slots := #[.int (-73)], vm := .none },
  { cls := 27, slots := #[.int (-72)], vm := .none },
  { cls := 27, slots := #[.int (-71)], vm := .none },
  { cls := 27, slots := #[.int (-70)], vm := .none },
  { cls := 27, slots := #[.int (-69)], vm := .none },
  { cls := 27, slots := #[.int (-68)], vm := .none },
  { cls := 27, slots := #[.int (-67)], vm := .none },
  { cls := 27, slots := #[.int (-66)], vm := .none },
  { cls := 27, slots := #[.int (-65)], vm := .none },
  { cls := 27, slots := #[.int (-64)], vm := .none },
  { cls := 27, slots := #[.int (-63)], vm := .none },
  { cls := 27, slots := #[.int (-62)], vm := .none },
  { cls := 27, slots := #[.int (-61)], vm := .none },
  { cls := 27, slots := #[.int (-60)], vm := .none },
  { cls := 27, slots := #[.int (-59)], vm := .none },
  { cls := 27, slots := #[.int (-58)], vm := .none },
  { cls := 27, slots := #[.int (-57)], vm := .none },
  { cls := 27, slots := #[.int (-56)], vm := .none },
  { cls := 27, slots := #[.int (-55)], vm := .none },
  { cls := 27, slots := #[.int (-54)], vm := .none },
  { cls := 27, slots := #[.int (-53)], vm := .none },
  { cls := 27, slots := #[.int (-52)], vm := .none },
  { cls := 27, slots := #[.int (-51)], vm := .none },
  { cls := 27, slots := #[.int (-50)], vm := .none },
  { cls := 27, slots := #[.int (-49)], vm := .none },
  { cls := 27, slots := #[.int (-48)], vm := .none },
  { cls := 27, slots := #[.int (-47)], vm := .none },
  { cls := 27, slots := #[.int (-46)], vm := .none },
  { cls := 27, slots := #[.int (-45)], vm := .none },
  { cls := 27, slots := #[.int (-44)], vm := .none },
  { cls := 27, slots := #[.int (-43)], vm := .none },
  { cls := 27, slots := #[.int (-42)], vm := .none },
  { cls := 27, slots := #[.int (-41)], vm := .none },
  { cls := 27, slots := #[.int (-40)], vm := .none },
  { cls := 27, slots := #[.int (-39)], vm := .none },
  { cls := 27, slots := #[.int (-38)], vm := .none },
  { cls := 27, slots := #[.int (-37)], vm := .none },
  { cls := 27, slots := #[.int (-36)], vm := .none },
  { cls := 27, slots := #[.int (-35)], vm := .none },
  { cls := 27, slots := #[.int (-34)], vm := .none },
  { cls := 27, slots := #[.int (-33)], vm := .none },
  { cls := 27, slots := #[.int (-32)], vm := .none },
  { cls := 27, slots := #[.int (-31)], vm := .none },
  { cls := 27, slots := #[.int (-30)], vm := .none },
  { cls := 27, slots := #[.int (-29)], vm := .none },
  { cls := 27, slots := #[.int (-28)], vm := .none },
  { cls := 27, slots := #[.int (-27)], vm := .none },
  { cls := 27, slots := #[.int (-26)], vm := .none },
  { cls := 27, slots := #[.int (-25)], vm := .none },
  { cls := 27, slots := #[.int (-24)], vm := .none },
  { cls := 27, slots := #[.int (-23)], vm := .none },
  { cls := 27, slots := #[.int (-22)], vm := .none },
  { cls := 27, slots := #[.int (-21)], vm := .none },
  { cls := 27, slots := #[.int (-20)], vm := .none },
  { cls := 27, slots := #[.int (-19)], vm := .none },
  { cls := 27, slots := #[.int (-18)], vm := .none },
  { cls := 27, slots := #[.int (-17)], vm := .none },
  { cls := 27, slots := #[.int (-16)], vm := .none },
  { cls := 27, slots := #[.int (-15)], vm := .none },
  { cls := 27, slots := #[.int (-14)], vm := .none },
  { cls := 27, slots := #[.int (-13)], vm := .none },
  { cls := 27, slots := #[.int (-12)], vm := .none },
  { cls := 27, slots := #[.int (-11)], vm := .none },
  { cls := 27, slots := #[.int (-10)], vm := .none },
  { cls := 27, slots := #[.int (-9)], vm := .none },
  { cls := 27, slots := #[.int (-8)], vm := .none },
  { cls := 27, slots := #[.int (-7)], vm := .none },
  { cls := 27, slots := #[.int (-6)], vm := .none },
  { cls := 27, slots := #[.int (-5)], vm := .none },
  { cls := 27, slots := #[.int (-4)], vm := .none },
  { cls := 27, slots := #[.int (-3)], vm := .none },
  { cls := 27, slots := #[.int (-2)], vm := .none },
  { cls := 27, slots := #[.int (-1)], vm := .none },
  { cls := 27, slots := #[.int 0], vm := .none },
  { cls := 27, slots := #[.int 1], vm := .none },
  { cls := 27, slots := #[.int 2], vm := .none },
  { cls := 27, slots := #[.int 3], vm := .none },
  { cls := 27, slots := #[.int 4], vm := .none },
  { cls := 27, slots := #[.int 5], vm := .none },
  { cls := 27, slots := #[.int 6], vm := .none },
  { cls := 27, slots := #[.int 7], vm := .none },
  { cls := 27, slots := #[.int 8], vm := .none },
  { cls := 27, slots := #[.int 9], vm := .none },
  { cls := 27, slots := #[.int 10], vm := .none },
  { cls := 27, slots := #[.int 11], vm := .none },
  { cls := 27, slots := #[.int 12], vm := .none },
  { cls := 27, slots := #[.int 13], vm := .none },
  { cls := 27, slots := #[.int 14], vm := .none },
  { cls := 27, slots := #[.int 15], vm := .none },
  { cls := 27, slots := #[.int 16], vm := .none },
  { cls := 27, slots := #[.int 17], vm := .none },
  { cls := 27, slots := #[.int 18], vm := .none },
  { cls := 27, slots := #[.int 19], vm := .none },
  { cls := 27, slots := #[.int 20], vm := .none },
  { cls := 27, slots := #[.int 21], vm := .none },
  { cls := 27, slots := #[.int 22], vm := .none },
  { cls := 27, slots := #[.int 23], vm := .none },
  { cls := 27, slots := #[.int 24], vm := .none },
  { cls := 27, slots := #[.int 25], vm := .none },
  { cls := 27, slots := #[.int 26], vm := .none },
  { cls := 27, slots := #[.int 27], vm := .none },
  { cls := 27, slots := #[.int 28], vm := .none },
  { cls := 27, slots := #[.int 29], vm := .none },
  { cls := 27, slots := #[.int 30], vm := .none },
  { cls := 27, slots := #[.int 31], vm := .none },
  { cls := 27, slots := #[.int 32], vm := .none },
  { cls := 27, slots := #[.int 33], vm := .none },
  { cls := 27, slots := #[.int 34], vm := .none },
  { cls := 27, slots := #[.int 35], vm := .none },
  { cls := 27, slots := #[.int 36], vm := .none },
  { cls := 27, slots := #[.int 37], vm := .none },
  { cls := 27, slots := #[.int 38], vm := .none },
  { cls := 27, slots := #[.int 39], vm := .none },
  { cls := 27, slots := #[.int 40], vm := .none },
  { cls := 27, slots := #[.int 41], vm := .none },
  { cls := 27, slots := #[.int 42], vm := .none },
  { cls := 27, slots := #[.int 43], vm := .none },
  { cls := 27, slots := #[.int 44], vm := .none },
  { cls := 27, slots := #[.int 45], vm := .none },
  { cls := 27, slots := #[.int 46], vm := .none },
  { cls := 27, slots := #[.int 47], vm := .none },
  { cls := 27, slots := #[.int 48], vm := .none },
  { cls := 27, slots := #[.int 49], vm := .none },
  { cls := 27, slots := #[.int 50], vm := .none },
  { cls := 27, slots := #[.int 51], vm := .none },
  { cls := 27, slots := #[.int 52], vm := .none },
  { cls := 27, slots := #[.int 53], vm := .none },
  { cls := 27, slots := #[.int 54], vm := .none },
  { cls := 27, slots := #[.int 55], vm := .none },
  { cls := 27, slots := #[.int 56], vm := .none },
  { cls := 27, slots := #[.int 57], vm := .none },
  { cls := 27, slots := #[.int 58], vm := .none },
  { cls := 27, slots := #[.int 59], vm := .none },
  { cls := 27, slots := #[.int 60], vm := .none },
  { cls := 27, slots := #[.int 61], vm := .none },
  { cls := 27, slots := #[.int 62], vm := .none },
  { cls := 27, slots := #[.int 63], vm := .none },
  { cls := 27, slots := #[.int 64], vm := .none },
  { cls := 27, slots := #[.int 65], vm := .none },
  { cls := 27, slots := #[.int 66], vm := .none },
  { cls := 27, slots := #[.int 67], vm := .none },
  { cls := 27, slots := #[.int 68], vm := .none },
  { cls := 27, slots := #[.int 69], vm := .none },
  { cls := 27, slots := #[.int 70], vm := .none },
  { cls := 27, slots := #[.int 71], vm := .none },
  { cls := 27, slots := #[.int 72], vm := .none },
  { cls := 27, slots := #[.int 73], vm := .none },
  { cls := 27, slots := #[.int 74], vm := .none },
  { cls := 27, slots := #[.int 75], vm := .none },
  { cls := 27, slots := #[.int 76], vm := .none },
  { cls := 27, slots := #[.int 77], vm := .none },
  { cls := 27, slots := #[.int 78], vm := .none },
  { cls := 27, slots := #[.int 79], vm := .none },
  { cls := 27, slots := #[.int 80], vm := .none },
  { cls := 27, slots := #[.int 81], vm := .none },
  { cls := 27, slots := #[.int 82], vm := .none },
  { cls := 27, slots := #[.int 83], vm := .none },
  { cls := 27, slots := #[.int 84], vm := .none },
  { cls := 27, slots := #[.int 85], vm := .none },
  { cls := 27, slots := #[.int 86], vm := .none },
  { cls := 27, slots := #[.int 87], vm := .none },
  { cls := 27, slots := #[.int 88], vm := .none },
  { cls := 27, slots := #[.int 89], vm := .none },
  { cls := 27, slots := #[.int 90], vm := .none },
  { cls := 27, slots := #[.int 91], vm := .none },
  { cls := 27, slots := #[.int 92], vm := .none },
  { cls := 27, slots := #[.int 93], vm := .none },
  { cls := 27, slots := #[.int 94], vm := .none },
  { cls := 27, slots := #[.int 95], vm := .none },
  { cls := 27, slots := #[.int 96], vm := .none },
  { cls := 27, slots := #[.int 97], vm := .none },
  { cls := 27, slots := #[.int 98], vm := .none },
  { cls := 27, slots := #[.int 99], vm := .none },
  { cls := 27, slots := #[.int 100], vm := .none },
  { cls := 27, slots := #[.int 101], vm := .none },
  { cls := 27, slots := #[.int 102], vm := .none },
  { cls := 27, slots := #[.int 103], vm := .none },
  { cls := 27, slots := #[.int 104], vm := .none },
  { cls := 27, slots := #[.int 105], vm := .none },
  { cls := 27, slots := #[.int 106], vm := .none },
  { cls := 27, slots := #[.int 107], vm := .none },
  { cls := 27, slots := #[.int 108], vm := .none },
  { cls := 27, slots := #[.int 109], vm := .none },
  { cls := 27, slots := #[.int 110], vm := .none },
  { cls := 27, slots := #[.int 111], vm := .none },
  { cls := 27, slots := #[.int 112], vm := .none },
  { cls := 27, slots := #[.int 113], vm := .none },
  { cls := 27, slots := #[.int 114], vm := .none },
  { cls := 27, slots := #[.int 115], vm := .none },
  { cls := 27, slots := #[.int 116], vm := .none },
  { cls := 27, slots := #[.int 117], vm := .none },
  { cls := 27, slots := #[.int 118], vm := .none },
  { cls := 27, slots := #[.int 119], vm := .none },
  { cls := 27, slots := #[.int 120], vm := .none },
  { cls := 27, slots := #[.int 121], vm := .none },
  { cls := 27, slots := #[.int 122], vm := .none },
  { cls := 27, slots := #[.int 123], vm := .none },
  { cls := 27, slots := #[.int 124], vm := .none },
  { cls := 27, slots := #[.int 125], vm := .none },
  { cls := 27, slots := #[.int 126], vm := .none },
  { cls := 27, slots := #[.int 127], vm := .none },
  { cls := 15, slots := #[.null, .int 0, .int 0, .int 0], vm := .none },
  { cls := 15, slots := #[.null, .int 0, .int 0, .int 0], vm := .none },
  { cls := 15, slots := #[.null, .int 0, .int 0, .int 0], vm := .none },
  { cls := 15, slots := #[.null, .int 0, .int 0, .int 0], vm := .none },
  { cls := 15, slots := #[.null, .int 0, .int 0, .int 0], vm := .none },
  { cls := 15, slots := #[.null, .int 0, .int 0, .int 0], vm := .none },
  { cls := 48, slots := #[], vm := .none },
  { cls := 48, slots := #[], vm := .none }]
def classes : Array Class := #[k0, k1, k2, k3, k4, k5, k6, k7, k8, k9, k10, k11, k12, k13, k14, k15, k16, k17, k18, k19, k20, k21, k22, k23, k24, k25, k26, k27, k28, k29, k30, k31, k32, k33, k34, k35, k36, k37, k38, k39, k40, k41, k42, k43, k44, k45, k46, k47, k48]
def interned : List (Array UInt16 × Addr) := []
def slotsUsed : Nat := 1078
def theMethod : MethodId := ⟨1, 1⟩
def args0 : Array Value := #[.int 3, .long 5, .int 1, .int 0]
def aboutOver (below : List Frame) : State where
  vm := { classes := classes, interned := interned.toArray }
  heap := heap
  slotsUsed := slotsUsed
  threads := #[{ frames := .invoking theMethod args0 :: below }]
def below0 : List Frame := [.native { method := ⟨0, 0⟩, args := #[] }]
def about1 : State := aboutOver below0
def p0 : Program := .bare "" "" ""
def e0 : Env := launch0.env 0 0 0
theorem w_frames : about1.frames = Frame.invoking theMethod args0 :: below0 := rfl
set_option maxRecDepth 65536 in
theorem w_args : argsFit about1.vm theMethod args0 = true := by decide +kernel
set_option maxRecDepth 65536 in
theorem w_heap : heapFits about1 = true := by decide +kernel
set_option maxRecDepth 65536 in
theorem w_runnable : about1.curStatus? = some .runnable := by decide +kernel
set_option maxRecDepth 65536 in
theorem w_alone : about1.alone = true := by decide +kernel
set_option maxRecDepth 65536 in
theorem w_named : about1.methodNamed? x = some theMethod := by decide +kernel
set_option maxRecDepth 65536 in
theorem w_hears : about1.hears theMethod below0 = true := by decide +kernel
set_option maxRecDepth 65536 in
theorem w_ripe : about1.ripe theMethod args0 below0 = true := by decide +kernel
theorem w_running : about1.status = .running := rfl
set_option maxRecDepth 65536 in
theorem w_room : about1.hasRoom e0.platform room_1 = true :=
  launch0.hasRoom_least _ room_1 (by decide +kernel) (by decide +kernel) (by decide +kernel) (by decide +kernel) (by decide +kernel) (by decide +kernel)
theorem allAtoms_all (ts : List Jvm.Cond) (a : Array Jvm.Value) (st : Jvm.State) : (allAtoms ts).before a st = ts.all (fun c => c.before a st) := by
  induction ts with
  | nil => rfl
  | cons c t ih =>
    show (Jvm.Cond.and c (allAtoms t)).before a st = _
    rw [Jvm.Cond.before_and, ih, List.all_cons]
def words1 : List Jvm.Cond := Jvm.Cond.code x code maxLocals ret :: tables_1
/-- a 'code' word, met by the world's own term for the bytes: nothing is compared byte by byte -/
theorem code_word {y : MethodName} {bytes : ByteArray} {mx : Nat} {rt : Option FieldType} {a : Array Value} {s : State} {m : MethodId} {meth : Method} {c : Code} (h1 : s.methodNamed? y = some m) (h2 : s.vm.method? m = some meth) (h3 : meth.code = some c) (h4 : c.code = bytes)
    (h5 : (c.maxLocals == mx && c.exceptionTable.isEmpty && decide (c.maxStack ≤ mostOperands) && decide (meth.sig.returnType = rt) && !meth.locks && decide (parseMethodDescriptor y.desc = some meth.sig)) = true) : (Jvm.Cond.code y bytes mx rt).before a s = true := by
  simp only [Bool.and_eq_true, beq_iff_eq, Bool.not_eq_true', decide_eq_true_eq] at h5
  obtain ⟨⟨⟨⟨⟨g1, g2⟩, g3⟩, g4⟩, g5⟩, g6⟩ := h5
  simp [Cond.before, Cond.holds, Cond.value, h1, h2, h3, h4, g1, g2, g3, g4, g5, g6]
def isCode : Jvm.Cond → Bool
  | .code _ _ _ _ => true
  | _ => false
theorem all_split {L : List Jvm.Cond} {P : Jvm.Cond → Bool} (h1 : L.all (fun c => isCode c || P c) = true) (h2 : ∀ c ∈ L.filter isCode, P c = true) : L.all P = true := by
  refine List.all_eq_true.mpr fun c hc => ?_
  have h := List.all_eq_true.mp h1 c hc
  rcases Bool.eq_false_or_eq_true (isCode c) with hi | hi
  · exact h2 c (List.mem_filter.mpr ⟨hc, hi⟩)
  · simpa [hi] using h
set_option maxRecDepth 65536 in
theorem w_c0 : (Jvm.Cond.code x code maxLocals ret).before args0 about1 = true := code_word (m := ⟨1, 1⟩) (meth := k1m1) (c := k1c1) (by decide +kernel) rfl rfl rfl (by decide +kernel)
set_option maxRecDepth 65536 in
theorem w_c1 : (Jvm.Cond.code ({ cls := "java/util/ArrayList", name := "<init>", desc := "()V" } : Jvm.MethodName) jdk_38_method_2_code (1 : Nat) (Option.none : Option Jvm.ClassFile.FieldType)).before args0 about1 = true := code_word (m := ⟨11, 0⟩) (meth := k11m0) (c := k11c0) (by decide +kernel) rfl rfl rfl (by decide +kernel)
set_option maxRecDepth 65536 in
theorem w_c2 : (Jvm.Cond.code ({ cls := "java/util/AbstractList", name := "<init>", desc := "()V" } : Jvm.MethodName) jdk_39_method_1_code (1 : Nat) (Option.none : Option Jvm.ClassFile.FieldType)).before args0 about1 = true := code_word (m := ⟨7, 0⟩) (meth := k7m0) (c := k7c0) (by decide +kernel) rfl rfl rfl (by decide +kernel)
set_option maxRecDepth 65536 in
theorem w_c3 : (Jvm.Cond.code ({ cls := "java/util/AbstractCollection", name := "<init>", desc := "()V" } : Jvm.MethodName) jdk_22_method_1_code (1 : Nat) (Option.none : Option Jvm.ClassFile.FieldType)).before args0 about1 = true := code_word (m := ⟨4, 0⟩) (meth := k4m0) (c := k4c0) (by decide +kernel) rfl rfl rfl (by decide +kernel)
set_option maxRecDepth 65536 in
theorem w_c4 : (Jvm.Cond.code ({ cls := "java/lang/Object", name := "<init>", desc := "()V" } : Jvm.MethodName) object_method_1_code (1 : Nat) (Option.none : Option Jvm.ClassFile.FieldType)).before args0 about1 = true := code_word (m := ⟨0, 0⟩) (meth := k0m0) (c := k0c0) (by decide +kernel) rfl rfl rfl (by decide +kernel)
set_option maxRecDepth 65536 in
theorem w_c5 : (Jvm.Cond.code ({ cls := "com/example/rolestack/rolestack/ValueKind", name := "of", desc := "(Ljava/lang/Object;)Lcom/example/rolestack/rolestack/ValueKind;" } : Jvm.MethodName) prog_216_method_6_code (2 : Nat) (Option.some (Jvm.ClassFile.FieldType.object "com/example/rolestack/rolestack/ValueKind"))).before args0 about1 = true := code_word (m := ⟨15, 0⟩) (meth := k15m0) (c := k15c0) (by decide +kernel) rfl rfl rfl (by decide +kernel)
set_option maxRecDepth 65536 in
theorem w_c6 : (Jvm.Cond.code ({ cls := "java/lang/String", name := "<init>", desc := "([C)V" } : Jvm.MethodName) jdk_42_method_3_code (2 : Nat) (Option.none : Option Jvm.ClassFile.FieldType)).before args0 about1 = true := code_word (m := ⟨18, 1⟩) (meth := k18m1) (c := k18c1) (by decide +kernel) rfl rfl rfl (by decide +kernel)
set_option maxRecDepth 65536 in
theorem w_c7 : (Jvm.Cond.code ({ cls := "java/lang/String", name := "<init>", desc := "([CIILjava/lang/Void;)V" } : Jvm.MethodName) jdk_42_method_149_code (6 : Nat) (Option.none : Option Jvm.ClassFile.FieldType)).before args0 about1 = true := code_word (m := ⟨18, 2⟩) (meth := k18m2) (c := k18c2) (by decide +kernel) rfl rfl rfl (by decide +kernel)
set_option maxRecDepth 65536 in
theorem w_c8 : (Jvm.Cond.code ({ cls := "java/lang/Long", name := "valueOf", desc := "(J)Ljava/lang/Long;" } : Jvm.MethodName) jdk_35_method_24_code (3 : Nat) (Option.some (Jvm.ClassFile.FieldType.object "java/lang/Long"))).before args0 about1 = true := code_word (m := ⟨20, 0⟩) (meth := k20m0) (c := k20c0) (by decide +kernel) rfl rfl rfl (by decide +kernel)
set_option maxRecDepth 65536 in
theorem w_c9 : (Jvm.Cond.code ({ cls := "java/lang/Long", name := "<init>", desc := "(J)V" } : Jvm.MethodName) jdk_35_method_26_code (3 : Nat) (Option.none : Option Jvm.ClassFile.FieldType)).before args0 about1 = true := code_word (m := ⟨20, 1⟩) (meth := k20m1) (c := k20c1) (by decide +kernel) rfl rfl rfl (by decide +kernel)
set_option maxRecDepth 65536 in
theorem w_c10 : (Jvm.Cond.code ({ cls := "java/lang/Number", name := "<init>", desc := "()V" } : Jvm.MethodName) jdk_18_method_1_code (1 : Nat) (Option.none : Option Jvm.ClassFile.FieldType)).before args0 about1 = true := code_word (m := ⟨19, 0⟩) (meth := k19m0) (c := k19c0) (by decide +kernel) rfl rfl rfl (by decide +kernel)
set_option maxRecDepth 65536 in
theorem w_c11 : (Jvm.Cond.code ({ cls := "java/util/ArrayList", name := "add", desc := "(Ljava/lang/Object;)Z" } : Jvm.MethodName) jdk_38_method_25_code (2 : Nat) (Option.some Jvm.ClassFile.FieldType.boolean)).before args0 about1 = true := code_word (m := ⟨11, 6⟩) (meth := k11m6) (c := k11c6) (by decide +kernel) rfl rfl rfl (by decide +kernel)
set_option maxRecDepth 65536 in
theorem w_c12 : (Jvm.Cond.code ({ cls := "java/util/ArrayList", name := "add", desc := "(Ljava/lang/Object;[Ljava/lang/Object;I)V" } : Jvm.MethodName) jdk_38_method_24_code (4 : Nat) (Option.none : Option Jvm.ClassFile.FieldType)).before args0 about1 = true := code_word (m := ⟨11, 5⟩) (meth := k11m5) (c := k11c5) (by decide +kernel) rfl rfl rfl (by decide +kernel)
set_option maxRecDepth 65536 in
theorem w_c13 : (Jvm.Cond.code ({ cls := "java/util/ArrayList", name := "grow", desc := "()[Ljava/lang/Object;" } : Jvm.MethodName) jdk_38_method_7_code (1 : Nat) (Option.some (Jvm.ClassFile.FieldType.array (Jvm.ClassFile.FieldType.object "java/lang/Object")))).before args0 about1 = true := code_word (m := ⟨11, 3⟩) (meth := k11m3) (c := k11c3) (by decide +kernel) rfl rfl rfl (by decide +kernel)
set_option maxRecDepth 65536 in
theorem w_c14 : (Jvm.Cond.code ({ cls := "java/util/ArrayList", name := "grow", desc := "(I)[Ljava/lang/Object;" } : Jvm.MethodName) jdk_38_method_6_code (4 : Nat) (Option.some (Jvm.ClassFile.FieldType.array (Jvm.ClassFile.FieldType.object "java/lang/Object")))).before args0 about1 = true := code_word (m := ⟨11, 2⟩) (meth := k11m2) (c := k11c2) (by decide +kernel) rfl rfl rfl (by decide +kernel)
set_option maxRecDepth 65536 in
theorem w_c15 : (Jvm.Cond.code ({ cls := "java/lang/Math", name := "max", desc := "(II)I" } : Jvm.MethodName) jdk_29_method_65_code (2 : Nat) (Option.some Jvm.ClassFile.FieldType.int)).before args0 about1 = true := code_word (m := ⟨22, 1⟩) (meth := k22m1) (c := k22c1) (by decide +kernel) rfl rfl rfl (by decide +kernel)
set_option maxRecDepth 65536 in
theorem w_c16 : (Jvm.Cond.code ({ cls := "com/example/rolestack/rolestack/StoredObject", name := "<init>", desc := "(Lcom/example/rolestack/rolestack/Database;I)V" } : Jvm.MethodName) prog_207_method_1_code (3 : Nat) (Option.none : Option Jvm.ClassFile.FieldType)).before args0 about1 = true := code_word (m := ⟨23, 0⟩) (meth := k23m0) (c := k23c0) (by decide +kernel) rfl rfl rfl (by decide +kernel)
set_option maxRecDepth 65536 in
theorem w_c17 : (Jvm.Cond.code ({ cls := "java/lang/Integer", name := "valueOf", desc := "(I)Ljava/lang/Integer;" } : Jvm.MethodName) jdk_33_method_22_code (1 : Nat) (Option.some (Jvm.ClassFile.FieldType.object "java/lang/Integer"))).before args0 about1 = true := code_word (m := ⟨27, 0⟩) (meth := k27m0) (c := k27c0) (by decide +kernel) rfl rfl rfl (by decide +kernel)
set_option maxRecDepth 65536 in
theorem w_c18 : (Jvm.Cond.code ({ cls := "java/lang/Integer", name := "<init>", desc := "(I)V" } : Jvm.MethodName) jdk_33_method_23_code (2 : Nat) (Option.none : Option Jvm.ClassFile.FieldType)).before args0 about1 = true := code_word (m := ⟨27, 1⟩) (meth := k27m1) (c := k27c1) (by decide +kernel) rfl rfl rfl (by decide +kernel)
set_option maxRecDepth 65536 in
theorem w_c19 : (Jvm.Cond.code ({ cls := "com/example/rolestack/rolestack/CollectionValue", name := "<init>", desc := "(Ljava/util/List;)V" } : Jvm.MethodName) prog_40_method_1_code (2 : Nat) (Option.none : Option Jvm.ClassFile.FieldType)).before args0 about1 = true := code_word (m := ⟨25, 0⟩) (meth := k25m0) (c := k25c0) (by decide +kernel) rfl rfl rfl (by decide +kernel)
set_option maxRecDepth 65536 in
theorem w_c20 : (Jvm.Cond.code ({ cls := "java/lang/Record", name := "<init>", desc := "()V" } : Jvm.MethodName) jdk_30_method_1_code (1 : Nat) (Option.none : Option Jvm.ClassFile.FieldType)).before args0 about1 = true := code_word (m := ⟨24, 0⟩) (meth := k24m0) (c := k24c0) (by decide +kernel) rfl rfl rfl (by decide +kernel)
set_option maxRecDepth 65536 in
theorem w_c21 : (Jvm.Cond.code ({ cls := "java/util/ArrayList", name := "<init>", desc := "(Ljava/util/Collection;)V" } : Jvm.MethodName) jdk_38_method_3_code (3 : Nat) (Option.none : Option Jvm.ClassFile.FieldType)).before args0 about1 = true := code_word (m := ⟨11, 1⟩) (meth := k11m1) (c := k11c1) (by decide +kernel) rfl rfl rfl (by decide +kernel)
set_option maxRecDepth 65536 in
theorem w_c22 : (Jvm.Cond.code ({ cls := "java/util/ArrayList", name := "toArray", desc := "()[Ljava/lang/Object;" } : Jvm.MethodName) jdk_38_method_16_code (1 : Nat) (Option.some (Jvm.ClassFile.FieldType.array (Jvm.ClassFile.FieldType.object "java/lang/Object")))).before args0 about1 = true := code_word (m := ⟨11, 4⟩) (meth := k11m4) (c := k11c4) (by decide +kernel) rfl rfl rfl (by decide +kernel)
set_option maxRecDepth 65536 in
theorem w_c23 : (Jvm.Cond.code ({ cls := "java/util/Arrays", name := "copyOf", desc := "([Ljava/lang/Object;I)[Ljava/lang/Object;" } : Jvm.MethodName) jdk_65_method_119_code (2 : Nat) (Option.some (Jvm.ClassFile.FieldType.array (Jvm.ClassFile.FieldType.object "java/lang/Object")))).before args0 about1 = true := code_word (m := ⟨29, 1⟩) (meth := k29m1) (c := k29c1) (by decide +kernel) rfl rfl rfl (by decide +kernel)
set_option maxRecDepth 65536 in
theorem w_c24 : (Jvm.Cond.code ({ cls := "java/util/Arrays", name := "copyOf", desc := "([Ljava/lang/Object;ILjava/lang/Class;)[Ljava/lang/Object;" } : Jvm.MethodName) jdk_65_method_120_code (4 : Nat) (Option.some (Jvm.ClassFile.FieldType.array (Jvm.ClassFile.FieldType.object "java/lang/Object")))).before args0 about1 = true := code_word (m := ⟨29, 2⟩) (meth := k29m2) (c := k29c2) (by decide +kernel) rfl rfl rfl (by decide +kernel)
set_option maxRecDepth 65536 in
theorem w_c25 : (Jvm.Cond.code ({ cls := "java/lang/Math", name := "min", desc := "(II)I" } : Jvm.MethodName) jdk_29_method_69_code (2 : Nat) (Option.some Jvm.ClassFile.FieldType.int)).before args0 about1 = true := code_word (m := ⟨22, 2⟩) (meth := k22m2) (c := k22c2) (by decide +kernel) rfl rfl rfl (by decide +kernel)
set_option maxRecDepth 65536 in
theorem w_c26 : (Jvm.Cond.code ({ cls := "java/util/Collections", name := "unmodifiableList", desc := "(Ljava/util/List;)Ljava/util/List;" } : Jvm.MethodName) jdk_79_method_35_code (1 : Nat) (Option.some (Jvm.ClassFile.FieldType.object "java/util/List"))).before args0 about1 = true := code_word (m := ⟨31, 1⟩) (meth := k31m1) (c := k31c1) (by decide +kernel) rfl rfl rfl (by decide +kernel)
set_option maxRecDepth 65536 in
theorem w_c27 : (Jvm.Cond.code ({ cls := "java/util/Collections$UnmodifiableRandomAccessList", name := "<init>", desc := "(Ljava/util/List;)V" } : Jvm.MethodName) jdk_121_method_1_code (2 : Nat) (Option.none : Option Jvm.ClassFile.FieldType)).before args0 about1 = true := code_word (m := ⟨34, 0⟩) (meth := k34m0) (c := k34c0) (by decide +kernel) rfl rfl rfl (by decide +kernel)
set_option maxRecDepth 65536 in
theorem w_c28 : (Jvm.Cond.code ({ cls := "java/util/Collections$UnmodifiableList", name := "<init>", desc := "(Ljava/util/List;)V" } : Jvm.MethodName) jdk_120_method_1_code (2 : Nat) (Option.none : Option Jvm.ClassFile.FieldType)).before args0 about1 = true := code_word (m := ⟨33, 0⟩) (meth := k33m0) (c := k33c0) (by decide +kernel) rfl rfl rfl (by decide +kernel)
set_option maxRecDepth 65536 in
theorem w_c29 : (Jvm.Cond.code ({ cls := "java/util/Collections$UnmodifiableCollection", name := "<init>", desc := "(Ljava/util/Collection;)V" } : Jvm.MethodName) jdk_119_method_1_code (2 : Nat) (Option.none : Option Jvm.ClassFile.FieldType)).before args0 about1 = true := code_word (m := ⟨32, 0⟩) (meth := k32m0) (c := k32c0) (by decide +kernel) rfl rfl rfl (by decide +kernel)
set_option maxRecDepth 65536 in
theorem w_c30 : (Jvm.Cond.code ({ cls := "java/lang/Double", name := "valueOf", desc := "(D)Ljava/lang/Double;" } : Jvm.MethodName) jdk_117_method_4_code (2 : Nat) (Option.some (Jvm.ClassFile.FieldType.object "java/lang/Double"))).before args0 about1 = true := code_word (m := ⟨21, 0⟩) (meth := k21m0) (c := k21c0) (by decide +kernel) rfl rfl rfl (by decide +kernel)
set_option maxRecDepth 65536 in
theorem w_c31 : (Jvm.Cond.code ({ cls := "java/lang/Double", name := "<init>", desc := "(D)V" } : Jvm.MethodName) jdk_117_method_9_code (3 : Nat) (Option.none : Option Jvm.ClassFile.FieldType)).before args0 about1 = true := code_word (m := ⟨21, 1⟩) (meth := k21m1) (c := k21c1) (by decide +kernel) rfl rfl rfl (by decide +kernel)
set_option maxRecDepth 65536 in
theorem w_c32 : (Jvm.Cond.code ({ cls := "java/lang/StringUTF16", name := "compress", desc := "([CII)[B" } : Jvm.MethodName) jdk_52_method_16_code (6 : Nat) (Option.some (Jvm.ClassFile.FieldType.array Jvm.ClassFile.FieldType.byte))).before args0 about1 = true := code_word (m := ⟨35, 2⟩) (meth := k35m2) (c := k35c2) (by decide +kernel) rfl rfl rfl (by decide +kernel)
set_option maxRecDepth 65536 in
theorem w_c33 : (Jvm.Cond.code ({ cls := "java/lang/StringUTF16", name := "compress", desc := "([CI[BII)I" } : Jvm.MethodName) jdk_52_method_21_code (7 : Nat) (Option.some Jvm.ClassFile.FieldType.int)).before args0 about1 = true := code_word (m := ⟨35, 3⟩) (meth := k35m3) (c := k35c3) (by decide +kernel) rfl rfl rfl (by decide +kernel)
set_option maxRecDepth 65536 in
theorem w_c34 : (Jvm.Cond.code ({ cls := "java/lang/StringUTF16", name := "coderFromArrayLen", desc := "([BI)B" } : Jvm.MethodName) jdk_52_method_15_code (2 : Nat) (Option.some Jvm.ClassFile.FieldType.byte)).before args0 about1 = true := code_word (m := ⟨35, 1⟩) (meth := k35m1) (c := k35c1) (by decide +kernel) rfl rfl rfl (by decide +kernel)
def codes1 : List Jvm.Cond := [Jvm.Cond.code x code maxLocals ret, Jvm.Cond.code ({ cls := "java/util/ArrayList", name := "<init>", desc := "()V" } : Jvm.MethodName) jdk_38_method_2_code (1 : Nat) (Option.none : Option Jvm.ClassFile.FieldType), Jvm.Cond.code ({ cls := "java/util/AbstractList", name := "<init>", desc := "()V" } : Jvm.MethodName) jdk_39_method_1_code (1 : Nat) (Option.none : Option Jvm.ClassFile.FieldType), Jvm.Cond.code ({ cls := "java/util/AbstractCollection", name := "<init>", desc := "()V" } : Jvm.MethodName) jdk_22_method_1_code (1 : Nat) (Option.none : Option Jvm.ClassFile.FieldType), Jvm.Cond.code ({ cls := "java/lang/Object", name := "<init>", desc := "()V" } : Jvm.MethodName) object_method_1_code (1 : Nat) (Option.none : Option Jvm.ClassFile.FieldType), Jvm.Cond.code ({ cls := "com/example/rolestack/rolestack/ValueKind", name := "of", desc := "(Ljava/lang/Object;)Lcom/example/rolestack/rolestack/ValueKind;" } : Jvm.MethodName) prog_216_method_6_code (2 : Nat) (Option.some (Jvm.ClassFile.FieldType.object "com/example/rolestack/rolestack/ValueKind")), Jvm.Cond.code ({ cls := "java/lang/String", name := "<init>", desc := "([C)V" } : Jvm.MethodName) jdk_42_method_3_code (2 : Nat) (Option.none : Option Jvm.ClassFile.FieldType), Jvm.Cond.code ({ cls := "java/lang/String", name := "<init>", desc := "([CIILjava/lang/Void;)V" } : Jvm.MethodName) jdk_42_method_149_code (6 : Nat) (Option.none : Option Jvm.ClassFile.FieldType), Jvm.Cond.code ({ cls := "java/lang/Long", name := "valueOf", desc := "(J)Ljava/lang/Long;" } : Jvm.MethodName) jdk_35_method_24_code (3 : Nat) (Option.some (Jvm.ClassFile.FieldType.object "java/lang/Long")), Jvm.Cond.code ({ cls := "java/lang/Long", name := "<init>", desc := "(J)V" } : Jvm.MethodName) jdk_35_method_26_code (3 : Nat) (Option.none : Option Jvm.ClassFile.FieldType), Jvm.Cond.code ({ cls := "java/lang/Number", name := "<init>", desc := "()V" } : Jvm.MethodName) jdk_18_method_1_code (1 : Nat) (Option.none : Option Jvm.ClassFile.FieldType), Jvm.Cond.code ({ cls := "java/util/ArrayList", name := "add", desc := "(Ljava/lang/Object;)Z" } : Jvm.MethodName) jdk_38_method_25_code (2 : Nat) (Option.some Jvm.ClassFile.FieldType.boolean), Jvm.Cond.code ({ cls := "java/util/ArrayList", name := "add", desc := "(Ljava/lang/Object;[Ljava/lang/Object;I)V" } : Jvm.MethodName) jdk_38_method_24_code (4 : Nat) (Option.none : Option Jvm.ClassFile.FieldType), Jvm.Cond.code ({ cls := "java/util/ArrayList", name := "grow", desc := "()[Ljava/lang/Object;" } : Jvm.MethodName) jdk_38_method_7_code (1 : Nat) (Option.some (Jvm.ClassFile.FieldType.array (Jvm.ClassFile.FieldType.object "java/lang/Object"))), Jvm.Cond.code ({ cls := "java/util/ArrayList", name := "grow", desc := "(I)[Ljava/lang/Object;" } : Jvm.MethodName) jdk_38_method_6_code (4 : Nat) (Option.some (Jvm.ClassFile.FieldType.array (Jvm.ClassFile.FieldType.object "java/lang/Object"))), Jvm.Cond.code ({ cls := "java/lang/Math", name := "max", desc := "(II)I" } : Jvm.MethodName) jdk_29_method_65_code (2 : Nat) (Option.some Jvm.ClassFile.FieldType.int), Jvm.Cond.code ({ cls := "com/example/rolestack/rolestack/StoredObject", name := "<init>", desc := "(Lcom/example/rolestack/rolestack/Database;I)V" } : Jvm.MethodName) prog_207_method_1_code (3 : Nat) (Option.none : Option Jvm.ClassFile.FieldType), Jvm.Cond.code ({ cls := "java/lang/Integer", name := "valueOf", desc := "(I)Ljava/lang/Integer;" } : Jvm.MethodName) jdk_33_method_22_code (1 : Nat) (Option.some (Jvm.ClassFile.FieldType.object "java/lang/Integer")), Jvm.Cond.code ({ cls := "java/lang/Integer", name := "<init>", desc := "(I)V" } : Jvm.MethodName) jdk_33_method_23_code (2 : Nat) (Option.none : Option Jvm.ClassFile.FieldType), Jvm.Cond.code ({ cls := "com/example/rolestack/rolestack/CollectionValue", name := "<init>", desc := "(Ljava/util/List;)V" } : Jvm.MethodName) prog_40_method_1_code (2 : Nat) (Option.none : Option Jvm.ClassFile.FieldType), Jvm.Cond.code ({ cls := "java/lang/Record", name := "<init>", desc := "()V" } : Jvm.MethodName) jdk_30_method_1_code (1 : Nat) (Option.none : Option Jvm.ClassFile.FieldType), Jvm.Cond.code ({ cls := "java/util/ArrayList", name := "<init>", desc := "(Ljava/util/Collection;)V" } : Jvm.MethodName) jdk_38_method_3_code (3 : Nat) (Option.none : Option Jvm.ClassFile.FieldType), Jvm.Cond.code ({ cls := "java/util/ArrayList", name := "toArray", desc := "()[Ljava/lang/Object;" } : Jvm.MethodName) jdk_38_method_16_code (1 : Nat) (Option.some (Jvm.ClassFile.FieldType.array (Jvm.ClassFile.FieldType.object "java/lang/Object"))), Jvm.Cond.code ({ cls := "java/util/Arrays", name := "copyOf", desc := "([Ljava/lang/Object;I)[Ljava/lang/Object;" } : Jvm.MethodName) jdk_65_method_119_code (2 : Nat) (Option.some (Jvm.ClassFile.FieldType.array (Jvm.ClassFile.FieldType.object "java/lang/Object"))), Jvm.Cond.code ({ cls := "java/util/Arrays", name := "copyOf", desc := "([Ljava/lang/Object;ILjava/lang/Class;)[Ljava/lang/Object;" } : Jvm.MethodName) jdk_65_method_120_code (4 : Nat) (Option.some (Jvm.ClassFile.FieldType.array (Jvm.ClassFile.FieldType.object "java/lang/Object"))), Jvm.Cond.code ({ cls := "java/lang/Math", name := "min", desc := "(II)I" } : Jvm.MethodName) jdk_29_method_69_code (2 : Nat) (Option.some Jvm.ClassFile.FieldType.int), Jvm.Cond.code ({ cls := "java/util/Collections", name := "unmodifiableList", desc := "(Ljava/util/List;)Ljava/util/List;" } : Jvm.MethodName) jdk_79_method_35_code (1 : Nat) (Option.some (Jvm.ClassFile.FieldType.object "java/util/List")), Jvm.Cond.code ({ cls := "java/util/Collections$UnmodifiableRandomAccessList", name := "<init>", desc := "(Ljava/util/List;)V" } : Jvm.MethodName) jdk_121_method_1_code (2 : Nat) (Option.none : Option Jvm.ClassFile.FieldType), Jvm.Cond.code ({ cls := "java/util/Collections$UnmodifiableList", name := "<init>", desc := "(Ljava/util/List;)V" } : Jvm.MethodName) jdk_120_method_1_code (2 : Nat) (Option.none : Option Jvm.ClassFile.FieldType), Jvm.Cond.code ({ cls := "java/util/Collections$UnmodifiableCollection", name := "<init>", desc := "(Ljava/util/Collection;)V" } : Jvm.MethodName) jdk_119_method_1_code (2 : Nat) (Option.none : Option Jvm.ClassFile.FieldType), Jvm.Cond.code ({ cls := "java/lang/Double", name := "valueOf", desc := "(D)Ljava/lang/Double;" } : Jvm.MethodName) jdk_117_method_4_code (2 : Nat) (Option.some (Jvm.ClassFile.FieldType.object "java/lang/Double")), Jvm.Cond.code ({ cls := "java/lang/Double", name := "<init>", desc := "(D)V" } : Jvm.MethodName) jdk_117_method_9_code (3 : Nat) (Option.none : Option Jvm.ClassFile.FieldType), Jvm.Cond.code ({ cls := "java/lang/StringUTF16", name := "compress", desc := "([CII)[B" } : Jvm.MethodName) jdk_52_method_16_code (6 : Nat) (Option.some (Jvm.ClassFile.FieldType.array Jvm.ClassFile.FieldType.byte)), Jvm.Cond.code ({ cls := "java/lang/StringUTF16", name := "compress", desc := "([CI[BII)I" } : Jvm.MethodName) jdk_52_method_21_code (7 : Nat) (Option.some Jvm.ClassFile.FieldType.int), Jvm.Cond.code ({ cls := "java/lang/StringUTF16", name := "coderFromArrayLen", desc := "([BI)B" } : Jvm.MethodName) jdk_52_method_15_code (2 : Nat) (Option.some Jvm.ClassFile.FieldType.byte)]
set_option maxRecDepth 65536 in
theorem codes_eq : words1.filter isCode = codes1 := rfl
theorem w_codes : ∀ c ∈ words1.filter isCode, c.before args0 about1 = true := by
  rw [codes_eq]
  intro c hc
  simp only [codes1, List.mem_cons, List.not_mem_nil, or_false] at hc
  rcases hc with rfl | rfl | rfl | rfl | rfl | rfl | rfl | rfl | rfl | rfl | rfl | rfl | rfl | rfl | rfl | rfl | rfl | rfl | rfl | rfl | rfl | rfl | rfl | rfl | rfl | rfl | rfl | rfl | rfl | rfl | rfl | rfl | rfl | rfl | rfl
  · exact w_c0
  · exact w_c1
  · exact w_c2
  · exact w_c3
  · exact w_c4
  · exact w_c5
  · exact w_c6
  · exact w_c7
  · exact w_c8
  · exact w_c9
  · exact w_c10
  · exact w_c11
  · exact w_c12
  · exact w_c13
  · exact w_c14
  · exact w_c15
  · exact w_c16
  · exact w_c17
  · exact w_c18
  · exact w_c19
  · exact w_c20
  · exact w_c21
  · exact w_c22
  · exact w_c23
  · exact w_c24
  · exact w_c25
  · exact w_c26
  · exact w_c27
  · exact w_c28
  · exact w_c29
  · exact w_c30
  · exact w_c31
  · exact w_c32
  · exact w_c33
  · exact w_c34
set_option maxRecDepth 65536 in
theorem w_t1 : (words1.take 24).all (fun c => isCode c || c.before args0 about1) = true := by decide +kernel
set_option maxRecDepth 65536 in
theorem w_t2 : ((words1.drop 24).take 24).all (fun c => isCode c || c.before args0 about1) = true := by decide +kernel
set_option maxRecDepth 65536 in
theorem w_t3 : (((words1.drop 24).drop 24).take 24).all (fun c => isCode c || c.before args0 about1) = true := by decide +kernel
set_option maxRecDepth 65536 in
theorem w_t4 : ((((words1.drop 24).drop 24).drop 24).take 24).all (fun c => isCode c || c.before args0 about1) = true := by decide +kernel
set_option maxRecDepth 65536 in
theorem w_t5 : (((((words1.drop 24).drop 24).drop 24).drop 24).take 24).all (fun c => isCode c || c.before args0 about1) = true := by decide +kernel
set_option maxRecDepth 65536 in
theorem w_t6 : ((((((words1.drop 24).drop 24).drop 24).drop 24).drop 24).take 24).all (fun c => isCode c || c.before args0 about1) = true := by decide +kernel
set_option maxRecDepth 65536 in
theorem w_t7 : (((((((words1.drop 24).drop 24).drop 24).drop 24).drop 24).drop 24).take 24).all (fun c => isCode c || c.before args0 about1) = true := by decide +kernel
set_option maxRecDepth 65536 in
theorem w_t8 : ((((((((words1.drop 24).drop 24).drop 24).drop 24).drop 24).drop 24).drop 24).take 24).all (fun c => isCode c || c.before args0 about1) = true := by decide +kernel
set_option maxRecDepth 65536 in
theorem w_t9 : (((((((((words1.drop 24).drop 24).drop 24).drop 24).drop 24).drop 24).drop 24).drop 24).take 24).all (fun c => isCode c || c.before args0 about1) = true := by decide +kernel
set_option maxRecDepth 65536 in
theorem w_t10 : ((((((((((words1.drop 24).drop 24).drop 24).drop 24).drop 24).drop 24).drop 24).drop 24).drop 24).take 24).all (fun c => isCode c || c.before args0 about1) = true := by decide +kernel
set_option maxRecDepth 65536 in
theorem w_t11 : (((((((((((words1.drop 24).drop 24).drop 24).drop 24).drop 24).drop 24).drop 24).drop 24).drop 24).drop 24).take 24).all (fun c => isCode c || c.before args0 about1) = true := by decide +kernel
set_option maxRecDepth 65536 in
theorem w_t12 : ((((((((((((words1.drop 24).drop 24).drop 24).drop 24).drop 24).drop 24).drop 24).drop 24).drop 24).drop 24).drop 24).take 24).all (fun c => isCode c || c.before args0 about1) = true := by decide +kernel
set_option maxRecDepth 65536 in
theorem w_t13 : ((((((((((((words1.drop 24).drop 24).drop 24).drop 24).drop 24).drop 24).drop 24).drop 24).drop 24).drop 24).drop 24).drop 24).all (fun c => isCode c || c.before args0 about1) = true := by decide +kernel
theorem w_tables : (allAtoms (Jvm.Cond.code x code maxLocals ret :: tables_1)).before args0 about1 = true := by
  rw [allAtoms_all]
  show words1.all (fun c => c.before args0 about1) = true
  refine all_split ?_ w_codes
  rw [← List.take_append_drop 24 words1, List.all_append, w_t1, ← List.take_append_drop 24 (words1.drop 24), List.all_append, w_t2, ← List.take_append_drop 24 ((words1.drop 24).drop 24), List.all_append, w_t3, ← List.take_append_drop 24 (((words1.drop 24).drop 24).drop 24), List.all_append, w_t4, ← List.take_append_drop 24 ((((words1.drop 24).drop 24).drop 24).drop 24), List.all_append, w_t5, ← List.take_append_drop 24 (((((words1.drop 24).drop 24).drop 24).drop 24).drop 24), List.all_append, w_t6, ← List.take_append_drop 24 ((((((words1.drop 24).drop 24).drop 24).drop 24).drop 24).drop 24), List.all_append, w_t7, ← List.take_append_drop 24 (((((((words1.drop 24).drop 24).drop 24).drop 24).drop 24).drop 24).drop 24), List.all_append, w_t8, ← List.take_append_drop 24 ((((((((words1.drop 24).drop 24).drop 24).drop 24).drop 24).drop 24).drop 24).drop 24), List.all_append, w_t9, ← List.take_append_drop 24 (((((((((words1.drop 24).drop 24).drop 24).drop 24).drop 24).drop 24).drop 24).drop 24).drop 24), List.all_append, w_t10, ← List.take_append_drop 24 ((((((((((words1.drop 24).drop 24).drop 24).drop 24).drop 24).drop 24).drop 24).drop 24).drop 24).drop 24), List.all_append, w_t11, ← List.take_append_drop 24 (((((((((((words1.drop 24).drop 24).drop 24).drop 24).drop 24).drop 24).drop 24).drop 24).drop 24).drop 24).drop 24), List.all_append, w_t12, w_t13]
  rfl
set_option maxRecDepth 65536 in
theorem w_rest : rest_1_c.before args0 about1 = true := by decide +kernel
set_option maxRecDepth 65536 in
theorem w_case : (Jvm.Cond.and given_1 narrow_1).before args0 about1 = true := by decide +kernel
set_option maxRecDepth 65536 in
theorem w_consts : constsHeld consts_1 about1 := Jvm.Lit.constsHeldB_iff.mp (by decide +kernel)
theorem w_applies : (headSpec (Jvm.Cond.code x code maxLocals ret :: tables_1) room_1).applies x e0.platform about1 = true :=
  (Spec.applies_iff w_frames).mpr ⟨w_running, w_runnable, w_alone, w_named, w_hears, w_ripe, w_room, w_tables⟩
set_option maxRecDepth 65536 in
set_option maxHeartbeats 40000000 in
theorem atStart : AtStart classFile x code maxLocals ret World_1 tables_1 room_1 Calls_1 rest_1 Pre_1 launch0 p0 e0 about1 theMethod args0 below0 :=
  ⟨lists_1, trivial, launch0.admits_env _ _ _, launch0.least_env, fairChoices_fair.cas, fairChoices_fair.clock, w_frames, w_args, w_heap, w_applies, ⟨⟨48, k48, 6, by decide +kernel, rfl, rfl, _, rfl, rfl⟩, ⟨⟨11, k11, 7, by decide +kernel, rfl, rfl, _, rfl, rfl⟩, ⟨⟨33, k33, 8, by decide +kernel, rfl, rfl, _, rfl, rfl⟩, ⟨⟨34, k34, 9, by decide +kernel, rfl, rfl, _, rfl, rfl⟩, ⟨w_consts, trivial⟩⟩⟩⟩⟩, w_rest, w_case⟩
end start1
theorem witness_1 : WitnessClaimed_1 := ⟨start1.p0, start1.e0, start1.about1, start1.theMethod, start1.args0, start1.below0, start1.atStart⟩
end Jvm.Pilot.@@N@@
