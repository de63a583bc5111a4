import JvmDerived
import JvmDerived.Pilot.@@N@@Statement
import JvmDerived.Pilot.@@N@@Code
set_option linter.unusedVariables false
set_option linter.unusedSimpArgs false
namespace Jvm.RoadKit
open Sem ClassFile Op Lib Jvm.Stand Jvm.Free Jvm.LawKit
/-- own: from A the walk comes to its end, and there R holds -/
def OwnGo (tb : Tables) (e : Env) (below : List Frame) (R : State → Outcome → Prop) (A : State) : Prop := ∃ s₂ o, Steps tb e below A s₂ ∧ s₂.status = .running ∧ Ended s₂ below o ∧ R s₂ o
theorem OwnGo.fwd {tb : Tables} {e : Env} {below : List Frame} {R : State → Outcome → Prop} {A B : State} (h : ∀ t, Steps tb e below B t → Steps tb e below A t) (k : OwnGo tb e below R B) : OwnGo tb e below R A := by
  obtain ⟨s, o, h1, h2⟩ := k
  exact ⟨s, o, h s h1, h2⟩
theorem OwnGo.thru {tb : Tables} {e : Env} {below : List Frame} {R : State → Outcome → Prop} {A B : State} (h : Steps tb e below A B) (k : OwnGo tb e below R B) : OwnGo tb e below R A := k.fwd fun _ q => h.trans q
/-- own: what a body leaves -/
def OwnEnd (s : State) (Q : Option Value → Heap → List Loc → Prop) (k n : Nat) : State → Outcome → Prop := fun U o => ∃ v L, o = .returned v ∧ Q v U.heap L ∧ FrameEnd s o U L k n
section OwnLeaf
variable {p : Program} {l : Launch} {e : Env} {R : Room} {s : State} {m : MethodId} {args : Array Value} {below : List Frame} {meth : Method} {c : Code} {T : State} {locs : List Loc} {cells slots : Nat} {Z : State} {a0 : Array Value} {h : Heap} {Q : Option Value → Heap → List Loc → Prop} {k n : Nat}
theorem own_leaf (X : Stand p l e R s m args below meth c T locs cells slots) (hlk : meth.locks = false) {v : Option Value} (hv : meth.sig.returnType = none → v = none) {g : JFrame} (hc : cells ≤ k) (hs : slots ≤ n) (eT : T.heap = h) (hQ : Q v h locs)
    (hl : ∀ fs, (∀ (f : JFrame) (acts : List Action), f.method = m → f.locked = none → f.entered = [] → (doReturn e (T.setTop f) acts v).1 = T.setFrames fs) → Steps p.tables e below (T.setTop g) (T.setFrames fs)) :
    OwnGo p.tables e below (OwnEnd s Q k n) (T.setTop g) := by
  obtain ⟨fs, hr, hrun, hended, hW, hsame⟩ := X.leave (v := v) hv hlk
  refine ⟨_, _, hl fs hr, hrun, hended, _, _, rfl, ?_, ⟨_, rfl⟩, hW, hsame.mono hc hs⟩
  show Q v T.heap locs
  rw [eT]; exact hQ
theorem own_retI (X : Stand p l e R s m args below meth c T locs cells slots) (hlk : meth.locks = false) (hx : p.tables.exec = Jvm.exec) {pc : Nat} {Ls : Array Slot} {z : Int32} {rest : List Value} (hret : meth.sig.returnType = some .int) (hd : decode c.code pc = .ok (.ireturn, 1)) (hc : cells ≤ k) (hs : slots ≤ n) (eT : T.heap = h) (hQ : Q (some (.int z)) h locs) :
    OwnGo p.tables e below (OwnEnd s Q k n) (T.setTop (mkF m pc Ls (.int z :: rest))) := by
  refine own_leaf X hlk (fun q => by rw [hret] at q; cases q) hc hs eT hQ fun fs hl => ?_
  have hm' : T.vm.method? m = some meth := X.method'
  have hn : narrow .int (.int z) = .int z := rfl
  show Steps p.tables e below (T.setTop { method := m, pc := pc, locals := Ls, stack := _ :: rest, locked := none }) _
  jvm_step X.here [X.here.top, hx, hd, hm', hret, hn]
  first | (intro acts; rw [hl _ acts rfl rfl rfl]) | rw [hl _ _ rfl rfl rfl]
  exact Steps.refl _
theorem own_retZ (X : Stand p l e R s m args below meth c T locs cells slots) (hlk : meth.locks = false) (hx : p.tables.exec = Jvm.exec) {pc : Nat} {Ls : Array Slot} {z : Int32} {rest : List Value} (hret : meth.sig.returnType = some .boolean) (hd : decode c.code pc = .ok (.ireturn, 1)) (hc : cells ≤ k) (hs : slots ≤ n) (eT : T.heap = h) (hQ : Q (some (.int (nar .boolean z))) h locs) :
    OwnGo p.tables e below (OwnEnd s Q k n) (T.setTop (mkF m pc Ls (.int z :: rest))) :=
  own_leaf X hlk (fun q => by rw [hret] at q; cases q) hc hs eT hQ fun fs hl => retN X hx (t := .boolean) hret (by simp) hd hl
theorem own_retJ (X : Stand p l e R s m args below meth c T locs cells slots) (hlk : meth.locks = false) (hx : p.tables.exec = Jvm.exec) {pc : Nat} {Ls : Array Slot} {z : Int64} (hret : meth.sig.returnType = some .long) (hd : decode c.code pc = .ok (.lreturn, 1)) (hc : cells ≤ k) (hs : slots ≤ n) (eT : T.heap = h) (hQ : Q (some (.long z)) h locs) :
    OwnGo p.tables e below (OwnEnd s Q k n) (T.setTop (mkF m pc Ls [.long z])) :=
  own_leaf X hlk (fun q => by rw [hret] at q; cases q) hc hs eT hQ fun fs hl => X.lreturnOut hx hret hd hl
theorem own_retV (X : Stand p l e R s m args below meth c T locs cells slots) (hlk : meth.locks = false) (hx : p.tables.exec = Jvm.exec) {pc : Nat} {Ls : Array Slot} (hret : meth.sig.returnType = none) (hd : decode c.code pc = .ok (.return_, 1)) (hc : cells ≤ k) (hs : slots ≤ n) (eT : T.heap = h) (hQ : Q none h locs) :
    OwnGo p.tables e below (OwnEnd s Q k n) (T.setTop (mkF m pc Ls [])) :=
  own_leaf X hlk (fun _ => rfl) hc hs eT hQ fun fs hl => X.returnOut hx hret hd hl
theorem own_retA (X : Stand p l e R s m args below meth c T locs cells slots) (hlk : meth.locks = false) (hx : p.tables.exec = Jvm.exec) {pc : Nat} {Ls : Array Slot} {w : Value} {rest : List Value} {t : FieldType} (hret : meth.sig.returnType = some t) (ht : t.isReference = true) (hw : w.isRef = true) (hd : decode c.code pc = .ok (.areturn, 1)) (hc : cells ≤ k) (hs : slots ≤ n) (eT : T.heap = h) (hQ : Q (some w) h locs) :
    OwnGo p.tables e below (OwnEnd s Q k n) (T.setTop (mkF m pc Ls (w :: rest))) :=
  own_leaf X hlk (fun q => by rw [hret] at q; cases q) hc hs eT hQ fun fs hl => retOut X hx hret (by cases t <;> first | (cases ht; done) | rfl) (Or.inr (Or.inr (Or.inr (Or.inr ⟨rfl, ht, hw⟩)))) hd hl
/-! own: int arrays, by a function of the place -/
def OwnIA (Z : State) (h : Heap) (a : Addr) (n : Nat) (f : Nat → Int32) : Prop := ∃ c : Cell, Arr Z h a c .int ∧ c.slots.size = n ∧ n < 2147483648 ∧ ∀ i, i < n → c.slots[i]? = some (.int (f i))
theorem OwnIA.lt {a : Addr} {n : Nat} {f : Nat → Int32} (F : OwnIA Z h a n f) : a < h.size := by obtain ⟨c, A, -⟩ := F; exact A.lt
theorem OwnIA.ext {h' : Heap} {a : Addr} {n : Nat} {f : Nat → Int32} (F : OwnIA Z h a n f) (E : Ext h h') : OwnIA Z h' a n f := by obtain ⟨c, A, r⟩ := F; exact ⟨c, A.ext E, r⟩
theorem OwnIA.other {h' : Heap} {a b : Addr} {n sl : Nat} {v : Value} {f : Nat → Int32} (F : OwnIA Z h b n f) (W : Wr h h' a sl v) (q : b ≠ a) : OwnIA Z h' b n f := by obtain ⟨c, A, r⟩ := F; exact ⟨c, A.other W q, r⟩
theorem OwnIA.keep {h' : Heap} {ws : List Addr} {a : Addr} {n : Nat} {f : Nat → Int32} (F : OwnIA Z h a n f) (K : Keep h h' ws) (q : a ∉ ws) : OwnIA Z h' a n f := by obtain ⟨c, A, r⟩ := F; exact ⟨c, ⟨K.2.1 a c A.1 q, A.2⟩, r⟩
theorem OwnIA.eqv {a : Addr} {n : Nat} {f f' : Nat → Int32} (F : OwnIA Z h a n f) (q : ∀ i, i < n → f i = f' i) : OwnIA Z h a n f' := by obtain ⟨c, A, r1, r2, r3⟩ := F; exact ⟨c, A, r1, r2, fun i hi => by rw [r3 i hi, q i hi]⟩
theorem own_clamp {j : Int32} {i : Nat} (hj : j.toInt = i) : j.toNatClampNeg = i := by simp only [Int32.toNatClampNeg]; omega
theorem own_inb {c : Cell} {j : Int32} {i n : Nat} (S : c.slots.size = n) (hj : j.toInt = i) (hi : i < n) : ¬ (j < 0 ∨ c.slots.size ≤ j.toNatClampNeg) := by
  rw [own_clamp hj, S]; simp only [Int32.lt_iff_toInt_lt, Int32.reduceToInt]; omega
theorem OwnIA.new {a : Addr} {k : ClassId} {z : Int32} {i : Nat} (A : Arr Z h a (newA k .int z) .int) (hz : z.toInt = i) : OwnIA Z h a i (fun _ => 0) := by
  have q := own_clamp hz
  have r := rng32 z
  exact ⟨_, A, by rw [sz_new]; exact q, by omega, fun j hj => by simp [newA, q, hj, defaultValue]⟩
theorem own_len (X : Stand p l e R s m args below meth c T locs cells slots) (hx : p.tables.exec = Jvm.exec) (hZ : Z.Warmed39 s.vm) (eT : T.heap = h) {a : Addr} {n : Nat} {f : Nat → Int32} (V : OwnIA Z h a n f) {g : JFrame} (hg : g.method = m) {rest : List Value} (hs : g.stack = .ref a :: rest) (hd : decode c.code g.pc = .ok (.arraylength, 1)) :
    ∀ target, Steps p.tables e below (T.setTop { g with pc := g.pc + 1, stack := .int (Int32.ofNat n) :: rest }) target → Steps p.tables e below (T.setTop g) target := by
  obtain ⟨cl, A, S, -⟩ := V
  subst S
  exact X.arraylength hx (by rw [eT]; exact A.1) (State.isArrayOf_alike hZ.alike A.2.1) hg hs hd
theorem own_iaload (X : Stand p l e R s m args below meth c T locs cells slots) (hx : p.tables.exec = Jvm.exec) (hZ : Z.Warmed39 s.vm) (eT : T.heap = h) {a : Addr} {n : Nat} {f : Nat → Int32} (V : OwnIA Z h a n f) {j : Int32} {i : Nat} (hj : j.toInt = i) (hi : i < n) {g : JFrame} (hg : g.method = m) {rest : List Value} (hs : g.stack = .int j :: .ref a :: rest) (hd : decode c.code g.pc = .ok (.iaload, 1)) :
    ∀ target, Steps p.tables e below (T.setTop { g with pc := g.pc + 1, stack := .int (f i) :: rest }) target → Steps p.tables e below (T.setTop g) target := by
  obtain ⟨cl, A, S, -, H⟩ := V
  exact X.iaload hx (by rw [eT]; exact A.1) (State.isArrayOf_alike hZ.alike A.2.1) A.2.2 (own_inb S hj hi) (by rw [own_clamp hj]; exact H i hi) hg hs hd
theorem own_iastore (X : Stand p l e R s m args below meth c T locs cells slots) (hx : p.tables.exec = Jvm.exec) (hZ : Z.Warmed39 s.vm) (eT : T.heap = h) {a : Addr} {n : Nat} {f : Nat → Int32} (V : OwnIA Z h a n f) {j x : Int32} {i : Nat} (hj : j.toInt = i) (hi : i < n) {g : JFrame} (hg : g.method = m) {rest : List Value} (hs : g.stack = .int x :: .int j :: .ref a :: rest) (hd : decode c.code g.pc = .ok (.iastore, 1)) :
    ∃ T' h', Stand p l e R s m args below meth c T' (locs ++ [⟨a, i⟩]) cells slots ∧ T'.heap = h' ∧ Wr h h' a i (.int x) ∧ OwnIA Z h' a n (fun k => if k = i then x else f k) ∧ ∀ target, Steps p.tables e below (T'.setTop { g with pc := g.pc + 1, stack := rest }) target → Steps p.tables e below (T.setTop g) target := by
  obtain ⟨cl, A, S, N, H⟩ := V
  obtain ⟨T', h', X', e', W, st⟩ := stI X hx hZ eT A (own_inb S hj hi) hg hs hd
  rw [own_clamp hj] at X' W
  refine ⟨T', h', X', e', W, ⟨_, A.same W, by rw [sz_set]; exact S, N, fun k hk => ?_⟩, st⟩
  by_cases q : k = i
  · subst q; simp [Cell.setSlot, S, hk]
  · simp only [Cell.setSlot, if_neg q]; rw [Array.getElem?_setIfInBounds_ne (Ne.symm q)]; exact H k hk
theorem own_newI (X : Stand p l e R s m args below meth c T locs cells slots) (hx : p.tables.exec = Jvm.exec) (hZ : Z.Warmed39 s.vm) (w : (Cond.arrayClass .int).before a0 Z = true) (eT : T.heap = h) {g : JFrame} (hg : g.method = m) (hd : decode c.code g.pc = .ok (.newarray .int, 2)) {z : Int32} {i : Nat} {rest : List Value} (hs : g.stack = .int z :: rest)
    (hz : z.toInt = i) {cap : Nat} (hcap : i ≤ cap) (hb : cap * 8 ≤ 536870912) (hc : cells + 1 ≤ R.cells) (hl : slots + cap ≤ R.slots) :
    ∃ T' h' a, Stand p l e R s m args below meth c T' locs (cells + 1) (slots + cap) ∧ T'.heap = h' ∧ Ext h h' ∧ a = h.size ∧ OwnIA Z h' a i (fun _ => 0) ∧ ∀ target, Steps p.tables e below (T'.setTop { g with pc := g.pc + 2, stack := .ref a :: rest }) target → Steps p.tables e below (T.setTop g) target := by
  have q := own_clamp hz
  obtain ⟨T', h', cA, X', e', E, A, st⟩ := newP X hx hZ (aty := .int) w eT hg hd hs (by simp only [Int32.lt_iff_toInt_lt, Int32.reduceToInt]; omega) (cap := cap) (by omega) hb hc hl
  exact ⟨T', h', _, X', e', E, rfl, OwnIA.new A hz, st⟩
end OwnLeaf
/-! own: branches, by the ints' own numbers -/
theorem own_blt {x y : Int32} {a b : Int} (hx : x.toInt = a) (hy : y.toInt = b) (h : a < b) : if_icmp.holds .lt x y = true ∧ if_icmp.holds .ge x y = false ∧ if_icmp.holds .gt y x = true ∧ if_icmp.holds .le y x = false := tlt (by rw [Int32.lt_iff_toInt_lt]; omega)
theorem own_bnlt {x y : Int32} {a b : Int} (hx : x.toInt = a) (hy : y.toInt = b) (h : ¬ a < b) : if_icmp.holds .lt x y = false ∧ if_icmp.holds .ge x y = true ∧ if_icmp.holds .gt y x = false ∧ if_icmp.holds .le y x = true := flt (by rw [Int32.lt_iff_toInt_lt]; omega)
theorem own_beq {x y : Int32} {a b : Int} (hx : x.toInt = a) (hy : y.toInt = b) (h : a = b) : if_icmp.holds .eq x y = true ∧ if_icmp.holds .ne x y = false := teq (Int32.toInt_inj.mp (by omega))
theorem own_bneq {x y : Int32} {a b : Int} (hx : x.toInt = a) (hy : y.toInt = b) (h : ¬ a = b) : if_icmp.holds .eq x y = false ∧ if_icmp.holds .ne x y = true := feq fun q => h (by rw [← hx, ← hy, q])
theorem own_Llt {x y : Int64} {a b : Int} (hx : x.toInt = a) (hy : y.toInt = b) (h : a < b) : ifCond.holds .lt (lcmpW x y) = true ∧ ifCond.holds .ge (lcmpW x y) = false := by
  have q : x < y := by rw [Int64.lt_iff_toInt_lt]; omega
  rw [if0, if0]; exact ⟨(tlt ((lw_lt x y).mpr q)).1, (tlt ((lw_lt x y).mpr q)).2.1⟩
theorem own_Lnlt {x y : Int64} {a b : Int} (hx : x.toInt = a) (hy : y.toInt = b) (h : ¬ a < b) : ifCond.holds .lt (lcmpW x y) = false ∧ ifCond.holds .ge (lcmpW x y) = true := by
  have q : ¬ x < y := by rw [Int64.lt_iff_toInt_lt]; omega
  rw [if0, if0]; exact ⟨(flt (fun r => q ((lw_lt x y).mp r))).1, (flt (fun r => q ((lw_lt x y).mp r))).2.1⟩
theorem own_Lgt {x y : Int64} {a b : Int} (hx : x.toInt = a) (hy : y.toInt = b) (h : b < a) : ifCond.holds .gt (lcmpW x y) = true ∧ ifCond.holds .le (lcmpW x y) = false := by
  have q : y < x := by rw [Int64.lt_iff_toInt_lt]; omega
  rw [if0, if0]; exact ⟨(tlt ((lw_gt x y).mpr q)).2.2.1, (tlt ((lw_gt x y).mpr q)).2.2.2⟩
theorem own_Lngt {x y : Int64} {a b : Int} (hx : x.toInt = a) (hy : y.toInt = b) (h : ¬ b < a) : ifCond.holds .gt (lcmpW x y) = false ∧ ifCond.holds .le (lcmpW x y) = true := by
  have q : ¬ y < x := by rw [Int64.lt_iff_toInt_lt]; omega
  rw [if0, if0]; exact ⟨(flt (fun r => q ((lw_gt x y).mp r))).2.2.1, (flt (fun r => q ((lw_gt x y).mp r))).2.2.2⟩
theorem own_Leq {x y : Int64} {a b : Int} (hx : x.toInt = a) (hy : y.toInt = b) (h : a = b) : ifCond.holds .eq (lcmpW x y) = true ∧ ifCond.holds .ne (lcmpW x y) = false := by
  have q : x = y := Int64.toInt_inj.mp (by omega)
  rw [if0, if0]; exact teq ((lw_eq x y).mpr q)
theorem own_Lneq {x y : Int64} {a b : Int} (hx : x.toInt = a) (hy : y.toInt = b) (h : ¬ a = b) : ifCond.holds .eq (lcmpW x y) = false ∧ ifCond.holds .ne (lcmpW x y) = true := by
  have q : ¬ x = y := fun r => h (by rw [← hx, ← hy, r])
  rw [if0, if0]; exact feq fun r => q ((lw_eq x y).mp r)
theorem own_ofNat {i : Nat} (h : i < 2147483648) : (Int32.ofNat i).toInt = (i : Int) := Int32.toInt_ofNat_small h
theorem own_ofNatS (i : Nat) : Int32.ofNat i + 1 = Int32.ofNat (i + 1) := (Int32.ofNat_add i 1).symm
theorem own_fieldInt {args : Array Value} {s : State} {t : Term} {C n d : String} {k : Int32} {w : Addr} (ht : t.eval args s none [] s = some (.ref w)) (h : (Jvm.Cond.eq (.field t C n d) (.int k)).value args s none s [] = some true) : Fld s s.heap w C n d (.int k) := by
  apply Fld.start
  obtain ⟨x, y, hx, hy, -, k2⟩ := cmp_v (Or.inl h)
  have hy' : y = .int k := Option.some.inj (hy.symm.trans (Term.int_eval k))
  subst hy'
  obtain ⟨z, rfl⟩ : ∃ z, x = .int z := k2
  have q := gotT (Cond.eq_ints hx hy) h
  subst q
  rw [← fld_at ht]; exact hx
end Jvm.RoadKit
namespace Jvm.Pilot.@@N@@
open Jvm Jvm.ClassFile Sem Op Lib Jvm.Free Jvm.Stand Jvm.LawKit Jvm.RoadKit Bundle Jvm.Pilot.@@N@@.Jvm.D
def own_dl (t h : Int64) : Int64 := if t.toInt < ((9223372036854775806 : Int64) - h).toInt then t + h else 9223372036854775806
def own_rf (t h : Int64) : Int64 := if (t + h).toInt < t.toInt then 9223372036854775806 else if (t + h).toInt < 9223372036854775806 then t + h else 9223372036854775806
theorem own_same (t h : Int64) (h0 : 0 ≤ h.toInt) : own_dl t h = own_rf t h := by
  have c1 := c_ladd t h
  have c2 := c_lsub (9223372036854775806 : Int64) h
  have e1 : (9223372036854775806 : Int64).toInt = 9223372036854775806 := by decide
  have r1 := rng64 t
  have r2 := rng64 h
  have r3 := rng64 (t + h)
  have r4 := rng64 ((9223372036854775806 : Int64) - h)
  unfold own_dl own_rf
  split <;> split <;> (try split) <;> first | rfl | omega | (apply Int64.toInt_inj.mp; omega)
theorem pd_0 : parseMethodDescriptor "(JJ)J" = some ⟨[.long, .long], some .long⟩ := by decide +kernel
theorem d1_0 : decode prog_117_method_8_code 0 = .ok (.lload_n 0, 1) := by decide +kernel
theorem d1_1 : decode prog_117_method_8_code 1 = .ok (.ldc2_w 87, 3) := by decide +kernel
theorem d1_4 : decode prog_117_method_8_code 4 = .ok (.lload_n 2, 1) := by decide +kernel
theorem d1_5 : decode prog_117_method_8_code 5 = .ok (.lsub, 1) := by decide +kernel
theorem d1_6 : decode prog_117_method_8_code 6 = .ok (.lcmp, 1) := by decide +kernel
theorem d1_7 : decode prog_117_method_8_code 7 = .ok (.ifCond .lt 9, 3) := by decide +kernel
theorem d1_10 : decode prog_117_method_8_code 10 = .ok (.ldc2_w 87, 3) := by decide +kernel
theorem d1_13 : decode prog_117_method_8_code 13 = .ok (.goto 6, 3) := by decide +kernel
theorem d1_16 : decode prog_117_method_8_code 16 = .ok (.lload_n 0, 1) := by decide +kernel
theorem d1_17 : decode prog_117_method_8_code 17 = .ok (.lload_n 2, 1) := by decide +kernel
theorem d1_18 : decode prog_117_method_8_code 18 = .ok (.ladd, 1) := by decide +kernel
theorem d1_19 : decode prog_117_method_8_code 19 = .ok (.lreturn, 1) := by decide +kernel
theorem pn_1 : plainName "com/example/running_lineage/runninglineage/query/RunGraph" = true := by first | (simp [plainName, overriddenIn]; done) | decide +kernel
theorem ef_1 (m : MethodId) (x0 : Int64) (x1 : Int64) : entryFrame m #[(.long x0), (.long x1)] 4 = mkF m 0 #[.val (.long x0), .second, .val (.long x1), .second] [] := by first | (simp [entryFrame, mkF, argsToLocals, Value.category, maxLocals]; done) | rfl
def Q1 (Z : State) (q1 : Int64) (q2 : Int64) (h0 : Heap) (n0 : Nat) (v : Option Value) (h : Heap) (L : List Loc) : Prop := v = some (.long (own_dl q1 q2)) ∧ Fr n0 L ∧ h = h0
set_option maxRecDepth 65536 in
set_option maxHeartbeats 40000000 in
theorem rm1 (l : Launch) (Z : State) (a0 : Array Value) (hw : ∀ d ∈ tables_1, d.before a0 Z = true) (ws : List Jvm.Cond) (q1 : Int64) (q2 : Int64) (h0 : Heap) (n0 : Nat) (Z0 : n0 ≤ h0.size) :
    MetFree l (⟨"com/example/running_lineage/runninglineage/query/RunGraph", "deadline", "(JJ)J"⟩ : MethodName) (head1 (Jvm.Cond.code (⟨"com/example/running_lineage/runninglineage/query/RunGraph", "deadline", "(JJ)J"⟩ : MethodName) prog_117_method_8_code 4 (some .long) :: ws) ({ frames := 0, cells := 0, slots := 0, locals := 0 } : Room)) (fun a U => a = #[(.long q1), (.long q2)] ∧ Z.Warmed39 U.vm ∧ U.heap = h0) (fun _ _ _ _ _ => True) (fun _ U o U' => ∃ v L, o = .returned v ∧ (Q1 Z q1 q2 h0 n0) v U'.heap L ∧ FrameEnd U o U' L ({ frames := 0, cells := 0, slots := 0, locals := 0 } : Room).cells ({ frames := 0, cells := 0, slots := 0, locals := 0 } : Room).slots) := by
  refine MetFree.of_bodySF (plainFor_of_name pn_1) hisR ?_
  intro p e s m args below meth c s₁ Bd hml0 hP hK
  obtain ⟨rfl, hZ, hh⟩ := hP
  have hx := Bd.exec
  have hby := Bd.bytes
  have hlk : meth.locks = false := BodyLoose.notSynchronized Bd
  have hml : c.maxLocals = 4 := hml0
  have hown : s.vm.findClass "com/example/running_lineage/runninglineage/query/RunGraph" = some m.cls := findClass_of_methodNamed Bd.named
  have hnm := (name_of_methodNamed Bd.named Bd.method).1
  have X0 : Stand p l e ({ frames := 0, cells := 0, slots := 0, locals := 0 } : Room) s m #[(.long q1), (.long q2)] below meth c s₁ [] 0 0 := Stand.of_body Bd
  have e0 : s₁.heap = h0 := by rw [← hh, Bd.state]; rfl
  have N := Fr.nil n0
  have Zs := Z0
  change OwnGo p.tables e below (OwnEnd s (Q1 Z q1 q2 h0 n0) ({ frames := 0, cells := 0, slots := 0, locals := 0 } : Room).cells ({ frames := 0, cells := 0, slots := 0, locals := 0 } : Room).slots) _
  refine OwnGo.fwd (fun t k => castTop (ef_1 m q1 q2) k) ?_
  show OwnGo _ _ _ _ (s₁.setTop (mkF m 0 #[.val (.long q1), .second, .val (.long q2), .second] []))
  refine OwnGo.fwd (fun t k => XS.lloadN X0.here hx rfl (hb hby d1_0) rfl k) ?_
  show OwnGo _ _ _ _ (s₁.setTop (mkF m 1 #[.val (.long q1), .second, .val (.long q2), .second] [(.long q1)]))
  refine OwnGo.fwd (fun t k => X0.ldc2Long hx hown (mvT hZ (hw _ (List.mem_of_getElem? (i := 5) rfl))) (g := (mkF m 1 #[.val (.long q1), .second, .val (.long q2), .second] [(.long q1)])) rfl (hb hby d1_1) t k) ?_
  show OwnGo _ _ _ _ (s₁.setTop (mkF m 4 #[.val (.long q1), .second, .val (.long q2), .second] [(.long (9223372036854775806 : Int64)), (.long q1)]))
  refine OwnGo.fwd (fun t k => XS.lloadN X0.here hx rfl (hb hby d1_4) rfl k) ?_
  show OwnGo _ _ _ _ (s₁.setTop (mkF m 5 #[.val (.long q1), .second, .val (.long q2), .second] [(.long q2), (.long (9223372036854775806 : Int64)), (.long q1)]))
  refine OwnGo.fwd (fun t k => XS.lsub X0.here hx rfl (hb hby d1_5) rfl k) ?_
  show OwnGo _ _ _ _ (s₁.setTop (mkF m 6 #[.val (.long q1), .second, .val (.long q2), .second] [(.long ((9223372036854775806 : Int64) - q2)), (.long q1)]))
  refine OwnGo.fwd (fun t k => XS.lcmp X0.here hx rfl (hb hby d1_6) rfl k) ?_
  show OwnGo _ _ _ _ (s₁.setTop (mkF m 7 #[.val (.long q1), .second, .val (.long q2), .second] [(.int (lcmpW q1 ((9223372036854775806 : Int64) - q2)))]))
  by_cases hc7_1 : q1.toInt < ((9223372036854775806 : Int64) - q2).toInt
  · refine OwnGo.fwd (fun t k => XS.ifYes X0.here hx rfl (pc0 := 7) (pc' := 16) rfl (hb hby d1_7) rfl (own_Llt rfl rfl hc7_1).1 (by decide) (by decide) k) ?_
    show OwnGo _ _ _ _ (s₁.setTop (mkF m 16 #[.val (.long q1), .second, .val (.long q2), .second] []))
    refine OwnGo.fwd (fun t k => XS.lloadN X0.here hx rfl (hb hby d1_16) rfl k) ?_
    show OwnGo _ _ _ _ (s₁.setTop (mkF m 17 #[.val (.long q1), .second, .val (.long q2), .second] [(.long q1)]))
    refine OwnGo.fwd (fun t k => XS.lloadN X0.here hx rfl (hb hby d1_17) rfl k) ?_
    show OwnGo _ _ _ _ (s₁.setTop (mkF m 18 #[.val (.long q1), .second, .val (.long q2), .second] [(.long q2), (.long q1)]))
    refine OwnGo.fwd (fun t k => XS.ladd X0.here hx rfl (hb hby d1_18) rfl k) ?_
    show OwnGo _ _ _ _ (s₁.setTop (mkF m 19 #[.val (.long q1), .second, .val (.long q2), .second] [(.long (q1 + q2))]))
    exact own_retJ X0 hlk hx Bd.returns (hb hby d1_19) (by decide) (by decide) e0 ⟨by simp only [own_dl, hc7_1, if_true, if_false], N, rfl⟩
  · refine OwnGo.fwd (fun t k => XS.ifNo X0.here hx rfl (hb hby d1_7) rfl (own_Lnlt rfl rfl hc7_1).1 k) ?_
    show OwnGo _ _ _ _ (s₁.setTop (mkF m 10 #[.val (.long q1), .second, .val (.long q2), .second] []))
    refine OwnGo.fwd (fun t k => X0.ldc2Long hx hown (mvT hZ (hw _ (List.mem_of_getElem? (i := 5) rfl))) (g := (mkF m 10 #[.val (.long q1), .second, .val (.long q2), .second] [])) rfl (hb hby d1_10) t k) ?_
    show OwnGo _ _ _ _ (s₁.setTop (mkF m 13 #[.val (.long q1), .second, .val (.long q2), .second] [(.long (9223372036854775806 : Int64))]))
    refine OwnGo.fwd (fun t k => XS.goto X0.here hx rfl (pc0 := 13) (pc' := 19) rfl (hb hby d1_13) (by decide) (by decide) k) ?_
    show OwnGo _ _ _ _ (s₁.setTop (mkF m 19 #[.val (.long q1), .second, .val (.long q2), .second] [(.long (9223372036854775806 : Int64))]))
    exact own_retJ X0 hlk hx Bd.returns (hb hby d1_19) (by decide) (by decide) e0 ⟨by simp only [own_dl, hc7_1, if_true, if_false], N, rfl⟩
theorem d2_0 : decode method_2_code 0 = .ok (.ldc2_w 9, 3) := by decide +kernel
theorem d2_3 : decode method_2_code 3 = .ok (.lstore 4, 2) := by decide +kernel
theorem d2_5 : decode method_2_code 5 = .ok (.lload_n 0, 1) := by decide +kernel
theorem d2_6 : decode method_2_code 6 = .ok (.lload_n 2, 1) := by decide +kernel
theorem d2_7 : decode method_2_code 7 = .ok (.ladd, 1) := by decide +kernel
theorem d2_8 : decode method_2_code 8 = .ok (.lstore 6, 2) := by decide +kernel
theorem d2_10 : decode method_2_code 10 = .ok (.lload 6, 2) := by decide +kernel
theorem d2_12 : decode method_2_code 12 = .ok (.lload_n 0, 1) := by decide +kernel
theorem d2_13 : decode method_2_code 13 = .ok (.lcmp, 1) := by decide +kernel
theorem d2_14 : decode method_2_code 14 = .ok (.ifCond .ge 7, 3) := by decide +kernel
theorem d2_17 : decode method_2_code 17 = .ok (.iconst 1, 1) := by decide +kernel
theorem d2_18 : decode method_2_code 18 = .ok (.goto 4, 3) := by decide +kernel
theorem d2_21 : decode method_2_code 21 = .ok (.iconst 0, 1) := by decide +kernel
theorem d2_22 : decode method_2_code 22 = .ok (.istore 8, 2) := by decide +kernel
theorem d2_24 : decode method_2_code 24 = .ok (.iload 8, 2) := by decide +kernel
theorem d2_26 : decode method_2_code 26 = .ok (.ifCond .eq 6, 3) := by decide +kernel
theorem d2_29 : decode method_2_code 29 = .ok (.lload 4, 2) := by decide +kernel
theorem d2_31 : decode method_2_code 31 = .ok (.lreturn, 1) := by decide +kernel
theorem d2_32 : decode method_2_code 32 = .ok (.lload 6, 2) := by decide +kernel
theorem d2_34 : decode method_2_code 34 = .ok (.lload 4, 2) := by decide +kernel
theorem d2_36 : decode method_2_code 36 = .ok (.lcmp, 1) := by decide +kernel
theorem d2_37 : decode method_2_code 37 = .ok (.ifCond .lt 6, 3) := by decide +kernel
theorem d2_40 : decode method_2_code 40 = .ok (.lload 4, 2) := by decide +kernel
theorem d2_42 : decode method_2_code 42 = .ok (.lreturn, 1) := by decide +kernel
theorem d2_43 : decode method_2_code 43 = .ok (.lload 6, 2) := by decide +kernel
theorem d2_45 : decode method_2_code 45 = .ok (.lreturn, 1) := by decide +kernel
theorem pn_2 : plainName "com/example/running_lineage/runninglineage/query/RunGraphDeadlinePinLaw" = true := by first | (simp [plainName, overriddenIn]; done) | decide +kernel
theorem ef_2 (m : MethodId) (x0 : Int64) (x1 : Int64) : entryFrame m #[(.long x0), (.long x1)] 9 = mkF m 0 #[.val (.long x0), .second, .val (.long x1), .second, .unset, .unset, .unset, .unset, .unset] [] := by first | (simp [entryFrame, mkF, argsToLocals, Value.category, maxLocals]; done) | rfl
def Q2 (Z : State) (q1 : Int64) (q2 : Int64) (h0 : Heap) (n0 : Nat) (v : Option Value) (h : Heap) (L : List Loc) : Prop := v = some (.long (own_rf q1 q2)) ∧ Fr n0 L ∧ h = h0
set_option maxRecDepth 65536 in
set_option maxHeartbeats 40000000 in
theorem rm2 (l : Launch) (Z : State) (a0 : Array Value) (hw : ∀ d ∈ tables_1, d.before a0 Z = true) (ws : List Jvm.Cond) (q1 : Int64) (q2 : Int64) (h0 : Heap) (n0 : Nat) (Z0 : n0 ≤ h0.size) :
    MetFree l (⟨"com/example/running_lineage/runninglineage/query/RunGraphDeadlinePinLaw", "reference", "(JJ)J"⟩ : MethodName) (head1 (Jvm.Cond.code (⟨"com/example/running_lineage/runninglineage/query/RunGraphDeadlinePinLaw", "reference", "(JJ)J"⟩ : MethodName) method_2_code 9 (some .long) :: ws) ({ frames := 0, cells := 0, slots := 0, locals := 0 } : Room)) (fun a U => a = #[(.long q1), (.long q2)] ∧ Z.Warmed39 U.vm ∧ U.heap = h0) (fun _ _ _ _ _ => True) (fun _ U o U' => ∃ v L, o = .returned v ∧ (Q2 Z q1 q2 h0 n0) v U'.heap L ∧ FrameEnd U o U' L ({ frames := 0, cells := 0, slots := 0, locals := 0 } : Room).cells ({ frames := 0, cells := 0, slots := 0, locals := 0 } : Room).slots) := by
  refine MetFree.of_bodySF (plainFor_of_name pn_2) hisR ?_
  intro p e s m args below meth c s₁ Bd hml0 hP hK
  obtain ⟨rfl, hZ, hh⟩ := hP
  have hx := Bd.exec
  have hby := Bd.bytes
  have hlk : meth.locks = false := BodyLoose.notSynchronized Bd
  have hml : c.maxLocals = 9 := hml0
  have hown : s.vm.findClass "com/example/running_lineage/runninglineage/query/RunGraphDeadlinePinLaw" = some m.cls := findClass_of_methodNamed Bd.named
  have hnm := (name_of_methodNamed Bd.named Bd.method).1
  have X0 : Stand p l e ({ frames := 0, cells := 0, slots := 0, locals := 0 } : Room) s m #[(.long q1), (.long q2)] below meth c s₁ [] 0 0 := Stand.of_body Bd
  have e0 : s₁.heap = h0 := by rw [← hh, Bd.state]; rfl
  have N := Fr.nil n0
  have Zs := Z0
  change OwnGo p.tables e below (OwnEnd s (Q2 Z q1 q2 h0 n0) ({ frames := 0, cells := 0, slots := 0, locals := 0 } : Room).cells ({ frames := 0, cells := 0, slots := 0, locals := 0 } : Room).slots) _
  refine OwnGo.fwd (fun t k => castTop (ef_2 m q1 q2) k) ?_
  show OwnGo _ _ _ _ (s₁.setTop (mkF m 0 #[.val (.long q1), .second, .val (.long q2), .second, .unset, .unset, .unset, .unset, .unset] []))
  refine OwnGo.fwd (fun t k => X0.ldc2Long hx hown (mvT hZ (hw _ (List.mem_of_getElem? (i := 10) rfl))) (g := (mkF m 0 #[.val (.long q1), .second, .val (.long q2), .second, .unset, .unset, .unset, .unset, .unset] [])) rfl (hb hby d2_0) t k) ?_
  show OwnGo _ _ _ _ (s₁.setTop (mkF m 3 #[.val (.long q1), .second, .val (.long q2), .second, .unset, .unset, .unset, .unset, .unset] [(.long (9223372036854775806 : Int64))]))
  refine OwnGo.fwd (fun t k => XS.lstore X0.here hx rfl (hb hby d2_3) rfl (l' := #[.val (.long q1), .second, .val (.long q2), .second, .val (.long (9223372036854775806 : Int64)), .second, .unset, .unset, .unset]) rfl k) ?_
  show OwnGo _ _ _ _ (s₁.setTop (mkF m 5 #[.val (.long q1), .second, .val (.long q2), .second, .val (.long (9223372036854775806 : Int64)), .second, .unset, .unset, .unset] []))
  refine OwnGo.fwd (fun t k => XS.lloadN X0.here hx rfl (hb hby d2_5) rfl k) ?_
  show OwnGo _ _ _ _ (s₁.setTop (mkF m 6 #[.val (.long q1), .second, .val (.long q2), .second, .val (.long (9223372036854775806 : Int64)), .second, .unset, .unset, .unset] [(.long q1)]))
  refine OwnGo.fwd (fun t k => XS.lloadN X0.here hx rfl (hb hby d2_6) rfl k) ?_
  show OwnGo _ _ _ _ (s₁.setTop (mkF m 7 #[.val (.long q1), .second, .val (.long q2), .second, .val (.long (9223372036854775806 : Int64)), .second, .unset, .unset, .unset] [(.long q2), (.long q1)]))
  refine OwnGo.fwd (fun t k => XS.ladd X0.here hx rfl (hb hby d2_7) rfl k) ?_
  show OwnGo _ _ _ _ (s₁.setTop (mkF m 8 #[.val (.long q1), .second, .val (.long q2), .second, .val (.long (9223372036854775806 : Int64)), .second, .unset, .unset, .unset] [(.long (q1 + q2))]))
  refine OwnGo.fwd (fun t k => XS.lstore X0.here hx rfl (hb hby d2_8) rfl (l' := #[.val (.long q1), .second, .val (.long q2), .second, .val (.long (9223372036854775806 : Int64)), .second, .val (.long (q1 + q2)), .second, .unset]) rfl k) ?_
  show OwnGo _ _ _ _ (s₁.setTop (mkF m 10 #[.val (.long q1), .second, .val (.long q2), .second, .val (.long (9223372036854775806 : Int64)), .second, .val (.long (q1 + q2)), .second, .unset] []))
  refine OwnGo.fwd (fun t k => XS.lload X0.here hx rfl (hb hby d2_10) rfl k) ?_
  show OwnGo _ _ _ _ (s₁.setTop (mkF m 12 #[.val (.long q1), .second, .val (.long q2), .second, .val (.long (9223372036854775806 : Int64)), .second, .val (.long (q1 + q2)), .second, .unset] [(.long (q1 + q2))]))
  refine OwnGo.fwd (fun t k => XS.lloadN X0.here hx rfl (hb hby d2_12) rfl k) ?_
  show OwnGo _ _ _ _ (s₁.setTop (mkF m 13 #[.val (.long q1), .second, .val (.long q2), .second, .val (.long (9223372036854775806 : Int64)), .second, .val (.long (q1 + q2)), .second, .unset] [(.long q1), (.long (q1 + q2))]))
  refine OwnGo.fwd (fun t k => XS.lcmp X0.here hx rfl (hb hby d2_13) rfl k) ?_
  show OwnGo _ _ _ _ (s₁.setTop (mkF m 14 #[.val (.long q1), .second, .val (.long q2), .second, .val (.long (9223372036854775806 : Int64)), .second, .val (.long (q1 + q2)), .second, .unset] [(.int (lcmpW (q1 + q2) q1))]))
  by_cases hc14_1 : (q1 + q2).toInt < q1.toInt
  · refine OwnGo.fwd (fun t k => XS.ifNo X0.here hx rfl (hb hby d2_14) rfl (own_Llt rfl rfl hc14_1).2 k) ?_
    show OwnGo _ _ _ _ (s₁.setTop (mkF m 17 #[.val (.long q1), .second, .val (.long q2), .second, .val (.long (9223372036854775806 : Int64)), .second, .val (.long (q1 + q2)), .second, .unset] []))
    refine OwnGo.fwd (fun t k => XS.iconst X0.here hx rfl (hb hby d2_17) k) ?_
    show OwnGo _ _ _ _ (s₁.setTop (mkF m 18 #[.val (.long q1), .second, .val (.long q2), .second, .val (.long (9223372036854775806 : Int64)), .second, .val (.long (q1 + q2)), .second, .unset] [(.int (1 : Int32))]))
    refine OwnGo.fwd (fun t k => XS.goto X0.here hx rfl (pc0 := 18) (pc' := 22) rfl (hb hby d2_18) (by decide) (by decide) k) ?_
    show OwnGo _ _ _ _ (s₁.setTop (mkF m 22 #[.val (.long q1), .second, .val (.long q2), .second, .val (.long (9223372036854775806 : Int64)), .second, .val (.long (q1 + q2)), .second, .unset] [(.int (1 : Int32))]))
    refine OwnGo.fwd (fun t k => XS.istore X0.here hx rfl (hb hby d2_22) rfl (l' := #[.val (.long q1), .second, .val (.long q2), .second, .val (.long (9223372036854775806 : Int64)), .second, .val (.long (q1 + q2)), .second, .val (.int (1 : Int32))]) rfl k) ?_
    show OwnGo _ _ _ _ (s₁.setTop (mkF m 24 #[.val (.long q1), .second, .val (.long q2), .second, .val (.long (9223372036854775806 : Int64)), .second, .val (.long (q1 + q2)), .second, .val (.int (1 : Int32))] []))
    refine OwnGo.fwd (fun t k => XS.iload X0.here hx rfl (hb hby d2_24) rfl k) ?_
    show OwnGo _ _ _ _ (s₁.setTop (mkF m 26 #[.val (.long q1), .second, .val (.long q2), .second, .val (.long (9223372036854775806 : Int64)), .second, .val (.long (q1 + q2)), .second, .val (.int (1 : Int32))] [(.int (1 : Int32))]))
    have hc26_2 : ¬ ((1 : Int) = (0 : Int)) := by decide
    refine OwnGo.fwd (fun t k => XS.ifNo X0.here hx rfl (hb hby d2_26) rfl ((if0 _ _).trans (own_bneq (by decide) (by decide) hc26_2).1) k) ?_
    show OwnGo _ _ _ _ (s₁.setTop (mkF m 29 #[.val (.long q1), .second, .val (.long q2), .second, .val (.long (9223372036854775806 : Int64)), .second, .val (.long (q1 + q2)), .second, .val (.int (1 : Int32))] []))
    refine OwnGo.fwd (fun t k => XS.lload X0.here hx rfl (hb hby d2_29) rfl k) ?_
    show OwnGo _ _ _ _ (s₁.setTop (mkF m 31 #[.val (.long q1), .second, .val (.long q2), .second, .val (.long (9223372036854775806 : Int64)), .second, .val (.long (q1 + q2)), .second, .val (.int (1 : Int32))] [(.long (9223372036854775806 : Int64))]))
    exact own_retJ X0 hlk hx Bd.returns (hb hby d2_31) (by decide) (by decide) e0 ⟨by simp only [own_rf, hc14_1, if_true, if_false], N, rfl⟩
  · refine OwnGo.fwd (fun t k => XS.ifYes X0.here hx rfl (pc0 := 14) (pc' := 21) rfl (hb hby d2_14) rfl (own_Lnlt rfl rfl hc14_1).2 (by decide) (by decide) k) ?_
    show OwnGo _ _ _ _ (s₁.setTop (mkF m 21 #[.val (.long q1), .second, .val (.long q2), .second, .val (.long (9223372036854775806 : Int64)), .second, .val (.long (q1 + q2)), .second, .unset] []))
    refine OwnGo.fwd (fun t k => XS.iconst X0.here hx rfl (hb hby d2_21) k) ?_
    show OwnGo _ _ _ _ (s₁.setTop (mkF m 22 #[.val (.long q1), .second, .val (.long q2), .second, .val (.long (9223372036854775806 : Int64)), .second, .val (.long (q1 + q2)), .second, .unset] [(.int (0 : Int32))]))
    refine OwnGo.fwd (fun t k => XS.istore X0.here hx rfl (hb hby d2_22) rfl (l' := #[.val (.long q1), .second, .val (.long q2), .second, .val (.long (9223372036854775806 : Int64)), .second, .val (.long (q1 + q2)), .second, .val (.int (0 : Int32))]) rfl k) ?_
    show OwnGo _ _ _ _ (s₁.setTop (mkF m 24 #[.val (.long q1), .second, .val (.long q2), .second, .val (.long (9223372036854775806 : Int64)), .second, .val (.long (q1 + q2)), .second, .val (.int (0 : Int32))] []))
    refine OwnGo.fwd (fun t k => XS.iload X0.here hx rfl (hb hby d2_24) rfl k) ?_
    show OwnGo _ _ _ _ (s₁.setTop (mkF m 26 #[.val (.long q1), .second, .val (.long q2), .second, .val (.long (9223372036854775806 : Int64)), .second, .val (.long (q1 + q2)), .second, .val (.int (0 : Int32))] [(.int (0 : Int32))]))
    have hc26_3 : (0 : Int) = (0 : Int) := rfl
    refine OwnGo.fwd (fun t k => XS.ifYes X0.here hx rfl (pc0 := 26) (pc' := 32) rfl (hb hby d2_26) rfl ((if0 _ _).trans (own_beq (by decide) (by decide) hc26_3).1) (by decide) (by decide) k) ?_
    show OwnGo _ _ _ _ (s₁.setTop (mkF m 32 #[.val (.long q1), .second, .val (.long q2), .second, .val (.long (9223372036854775806 : Int64)), .second, .val (.long (q1 + q2)), .second, .val (.int (0 : Int32))] []))
    refine OwnGo.fwd (fun t k => XS.lload X0.here hx rfl (hb hby d2_32) rfl k) ?_
    show OwnGo _ _ _ _ (s₁.setTop (mkF m 34 #[.val (.long q1), .second, .val (.long q2), .second, .val (.long (9223372036854775806 : Int64)), .second, .val (.long (q1 + q2)), .second, .val (.int (0 : Int32))] [(.long (q1 + q2))]))
    refine OwnGo.fwd (fun t k => XS.lload X0.here hx rfl (hb hby d2_34) rfl k) ?_
    show OwnGo _ _ _ _ (s₁.setTop (mkF m 36 #[.val (.long q1), .second, .val (.long q2), .second, .val (.long (9223372036854775806 : Int64)), .second, .val (.long (q1 + q2)), .second, .val (.int (0 : Int32))] [(.long (9223372036854775806 : Int64)), (.long (q1 + q2))]))
    refine OwnGo.fwd (fun t k => XS.lcmp X0.here hx rfl (hb hby d2_36) rfl k) ?_
    show OwnGo _ _ _ _ (s₁.setTop (mkF m 37 #[.val (.long q1), .second, .val (.long q2), .second, .val (.long (9223372036854775806 : Int64)), .second, .val (.long (q1 + q2)), .second, .val (.int (0 : Int32))] [(.int (lcmpW (q1 + q2) (9223372036854775806 : Int64)))]))
    by_cases hc37_4 : (q1 + q2).toInt < 9223372036854775806
    · refine OwnGo.fwd (fun t k => XS.ifYes X0.here hx rfl (pc0 := 37) (pc' := 43) rfl (hb hby d2_37) rfl (own_Llt rfl (by decide) hc37_4).1 (by decide) (by decide) k) ?_
      show OwnGo _ _ _ _ (s₁.setTop (mkF m 43 #[.val (.long q1), .second, .val (.long q2), .second, .val (.long (9223372036854775806 : Int64)), .second, .val (.long (q1 + q2)), .second, .val (.int (0 : Int32))] []))
      refine OwnGo.fwd (fun t k => XS.lload X0.here hx rfl (hb hby d2_43) rfl k) ?_
      show OwnGo _ _ _ _ (s₁.setTop (mkF m 45 #[.val (.long q1), .second, .val (.long q2), .second, .val (.long (9223372036854775806 : Int64)), .second, .val (.long (q1 + q2)), .second, .val (.int (0 : Int32))] [(.long (q1 + q2))]))
      exact own_retJ X0 hlk hx Bd.returns (hb hby d2_45) (by decide) (by decide) e0 ⟨by simp only [own_rf, hc14_1, hc37_4, if_true, if_false], N, rfl⟩
    · refine OwnGo.fwd (fun t k => XS.ifNo X0.here hx rfl (hb hby d2_37) rfl (own_Lnlt rfl (by decide) hc37_4).1 k) ?_
      show OwnGo _ _ _ _ (s₁.setTop (mkF m 40 #[.val (.long q1), .second, .val (.long q2), .second, .val (.long (9223372036854775806 : Int64)), .second, .val (.long (q1 + q2)), .second, .val (.int (0 : Int32))] []))
      refine OwnGo.fwd (fun t k => XS.lload X0.here hx rfl (hb hby d2_40) rfl k) ?_
      show OwnGo _ _ _ _ (s₁.setTop (mkF m 42 #[.val (.long q1), .second, .val (.long q2), .second, .val (.long (9223372036854775806 : Int64)), .second, .val (.long (q1 + q2)), .second, .val (.int (0 : Int32))] [(.long (9223372036854775806 : Int64))]))
      exact own_retJ X0 hlk hx Bd.returns (hb hby d2_42) (by decide) (by decide) e0 ⟨by simp only [own_rf, hc14_1, hc37_4, if_true, if_false], N, rfl⟩
theorem pn_0 : plainName "com/example/running_lineage/runninglineage/query/RunGraphDeadlinePinLaw" = true := by first | (simp [plainName, overriddenIn]; done) | decide +kernel
theorem ef_0 (m : MethodId) (x0 : Int64) (x1 : Int64) (x2 : Int32) : entryFrame m #[(.long x0), (.long x1), (.int x2)] maxLocals = mkF m 0 #[.val (.long x0), .second, .val (.long x1), .second, .val (.int x2), .unset, .unset, .unset, .unset, .unset, .unset] [] := by first | (simp [entryFrame, mkF, argsToLocals, Value.category, maxLocals]; done) | rfl
def Q0 (Z : State) (q1 : Int64) (q2 : Int64) (p3 : Int32) (h0 : Heap) (n0 : Nat) (v : Option Value) (h : Heap) (L : List Loc) : Prop := v = some (.int 1) ∧ Fr n0 L
set_option maxRecDepth 65536 in
set_option maxHeartbeats 40000000 in
theorem rm0 (l : Launch) (Z : State) (a0 : Array Value) (hw : ∀ d ∈ tables_1, d.before a0 Z = true) (ws : List Jvm.Cond) (q1 : Int64) (q2 : Int64) (p3 : Int32) (h0 : Heap) (n0 : Nat) (Z0 : n0 ≤ h0.size) :
    MetFree l x (head1 (Jvm.Cond.code x code maxLocals ret :: ws) room_1) (fun a U => a = #[(.long q1), (.long q2), (.int p3)] ∧ Z.Warmed39 U.vm ∧ U.heap = h0) (fun _ _ _ _ _ => True) (fun _ U o U' => ∃ v L, o = .returned v ∧ (Q0 Z q1 q2 p3 h0 n0) v U'.heap L ∧ FrameEnd U o U' L room_1.cells room_1.slots) := by
  refine MetFree.of_bodySF (plainFor_of_name pn_0) hisR ?_
  intro p e s m args below meth c s₁ Bd hml0 hP hK
  obtain ⟨rfl, hZ, hh⟩ := hP
  have hx := Bd.exec
  have hby := Bd.bytes
  have hlk : meth.locks = false := BodyLoose.notSynchronized Bd
  have hml : c.maxLocals = 11 := hml0
  have hown : s.vm.findClass "com/example/running_lineage/runninglineage/query/RunGraphDeadlinePinLaw" = some m.cls := findClass_of_methodNamed Bd.named
  have hnm := (name_of_methodNamed Bd.named Bd.method).1
  have X0 : Stand p l e room_1 s m #[(.long q1), (.long q2), (.int p3)] below meth c s₁ [] 0 0 := Stand.of_body Bd
  have e0 : s₁.heap = h0 := by rw [← hh, Bd.state]; rfl
  have N := Fr.nil n0
  have Zs := Z0
  change OwnGo p.tables e below (OwnEnd s (Q0 Z q1 q2 p3 h0 n0) room_1.cells room_1.slots) _
  refine OwnGo.fwd (fun t k => castTop (ef_0 m q1 q2 p3) k) ?_
  show OwnGo _ _ _ _ (s₁.setTop (mkF m 0 #[.val (.long q1), .second, .val (.long q2), .second, .val (.int p3), .unset, .unset, .unset, .unset, .unset, .unset] []))
  refine OwnGo.fwd (fun t k => XS.lloadN X0.here hx rfl (hb hby at_0) rfl k) ?_
  show OwnGo _ _ _ _ (s₁.setTop (mkF m 1 #[.val (.long q1), .second, .val (.long q2), .second, .val (.int p3), .unset, .unset, .unset, .unset, .unset, .unset] [(.long q2)]))
  refine OwnGo.fwd (fun t k => X0.ldc2Long hx hown (mvT hZ (hw _ (List.mem_of_getElem? (i := 0) rfl))) (g := (mkF m 1 #[.val (.long q1), .second, .val (.long q2), .second, .val (.int p3), .unset, .unset, .unset, .unset, .unset, .unset] [(.long q2)])) rfl (hb hby at_1) t k) ?_
  show OwnGo _ _ _ _ (s₁.setTop (mkF m 4 #[.val (.long q1), .second, .val (.long q2), .second, .val (.int p3), .unset, .unset, .unset, .unset, .unset, .unset] [(.long (9223372036854775807 : Int64)), (.long q2)]))
  refine OwnGo.fwd (fun t k => XS.land X0.here hx rfl (hb hby at_4) rfl k) ?_
  show OwnGo _ _ _ _ (s₁.setTop (mkF m 5 #[.val (.long q1), .second, .val (.long q2), .second, .val (.int p3), .unset, .unset, .unset, .unset, .unset, .unset] [(.long (q2 &&& (9223372036854775807 : Int64)))]))
  obtain ⟨hz, hv_hz⟩ : ∃ q : Int64, q = (q2 &&& (9223372036854775807 : Int64)) := ⟨_, rfl⟩
  rw [← hv_hz]
  show OwnGo _ _ _ _ (s₁.setTop (mkF m 5 #[.val (.long q1), .second, .val (.long q2), .second, .val (.int p3), .unset, .unset, .unset, .unset, .unset, .unset] [(.long hz)]))
  have hz0 : 0 ≤ hz.toInt := by have q := c_maskL q2 (9223372036854775807 : Int64) 63 (by decide) (by decide); rw [hv_hz]; omega
  refine OwnGo.fwd (fun t k => XS.lstore X0.here hx rfl (hb hby at_5) rfl (l' := #[.val (.long q1), .second, .val (.long q2), .second, .val (.int p3), .val (.long hz), .second, .unset, .unset, .unset, .unset]) rfl k) ?_
  show OwnGo _ _ _ _ (s₁.setTop (mkF m 7 #[.val (.long q1), .second, .val (.long q2), .second, .val (.int p3), .val (.long hz), .second, .unset, .unset, .unset, .unset] []))
  refine OwnGo.fwd (fun t k => XS.iload X0.here hx rfl (hb hby at_7) rfl k) ?_
  show OwnGo _ _ _ _ (s₁.setTop (mkF m 9 #[.val (.long q1), .second, .val (.long q2), .second, .val (.int p3), .val (.long hz), .second, .unset, .unset, .unset, .unset] [(.int p3)]))
  refine OwnGo.fwd (fun t k => XS.iconst X0.here hx rfl (hb hby at_9) k) ?_
  show OwnGo _ _ _ _ (s₁.setTop (mkF m 10 #[.val (.long q1), .second, .val (.long q2), .second, .val (.int p3), .val (.long hz), .second, .unset, .unset, .unset, .unset] [(.int (1 : Int32)), (.int p3)]))
  refine OwnGo.fwd (fun t k => XS.iand X0.here hx rfl (hb hby at_10) rfl k) ?_
  show OwnGo _ _ _ _ (s₁.setTop (mkF m 11 #[.val (.long q1), .second, .val (.long q2), .second, .val (.int p3), .val (.long hz), .second, .unset, .unset, .unset, .unset] [(.int (p3 &&& (1 : Int32)))]))
  by_cases hc11_1 : (p3 &&& (1 : Int32)).toInt = 0
  · refine OwnGo.fwd (fun t k => XS.ifNo X0.here hx rfl (hb hby at_11) rfl ((if0 _ _).trans (own_beq rfl (by decide) hc11_1).2) k) ?_
    show OwnGo _ _ _ _ (s₁.setTop (mkF m 14 #[.val (.long q1), .second, .val (.long q2), .second, .val (.int p3), .val (.long hz), .second, .unset, .unset, .unset, .unset] []))
    refine OwnGo.fwd (fun t k => XS.lloadN X0.here hx rfl (hb hby at_14) rfl k) ?_
    show OwnGo _ _ _ _ (s₁.setTop (mkF m 15 #[.val (.long q1), .second, .val (.long q2), .second, .val (.int p3), .val (.long hz), .second, .unset, .unset, .unset, .unset] [(.long q1)]))
    refine OwnGo.fwd (fun t k => XS.lstore X0.here hx rfl (hb hby at_15) rfl (l' := #[.val (.long q1), .second, .val (.long q2), .second, .val (.int p3), .val (.long hz), .second, .val (.long q1), .second, .unset, .unset]) rfl k) ?_
    show OwnGo _ _ _ _ (s₁.setTop (mkF m 17 #[.val (.long q1), .second, .val (.long q2), .second, .val (.int p3), .val (.long hz), .second, .val (.long q1), .second, .unset, .unset] []))
    refine OwnGo.fwd (fun t k => XS.goto X0.here hx rfl (pc0 := 17) (pc' := 42) rfl (hb hby at_17) (by decide) (by decide) k) ?_
    show OwnGo _ _ _ _ (s₁.setTop (mkF m 42 #[.val (.long q1), .second, .val (.long q2), .second, .val (.int p3), .val (.long hz), .second, .val (.long q1), .second, .unset, .unset] []))
    refine OwnGo.fwd (fun t k => XS.lload X0.here hx rfl (hb hby at_42) rfl k) ?_
    show OwnGo _ _ _ _ (s₁.setTop (mkF m 44 #[.val (.long q1), .second, .val (.long q2), .second, .val (.int p3), .val (.long hz), .second, .val (.long q1), .second, .unset, .unset] [(.long q1)]))
    refine OwnGo.fwd (fun t k => XS.lload X0.here hx rfl (hb hby at_44) rfl k) ?_
    show OwnGo _ _ _ _ (s₁.setTop (mkF m 46 #[.val (.long q1), .second, .val (.long q2), .second, .val (.int p3), .val (.long hz), .second, .val (.long q1), .second, .unset, .unset] [(.long hz), (.long q1)]))
    obtain ⟨_, _, ⟨T2, L2, k2, n2⟩, -, X2, ⟨Lc2, hQ2, l2, y2, z2⟩, st2⟩ := Jvm.LawKit.callS X0 hx (y := (⟨"com/example/running_lineage/runninglineage/query/RunGraph", "deadline", "(JJ)J"⟩ : MethodName)) hown (mvT hZ (hw _ (List.mem_of_getElem? (i := 1) rfl))) (mvT hZ (hw _ (List.mem_of_getElem? (i := 2) rfl))) (mvT hZ (hw _ (List.mem_of_getElem? (i := 3) rfl))) (mvT hZ (hw _ (List.mem_of_getElem? (i := 4) rfl))) (by decide) (backOf (W := 0) (rm1 l Z a0 hw [] q1 hz h0 n0 Zs) hZ (hw _ (List.mem_of_getElem? (i := 4) rfl)) (hw _ (List.mem_of_getElem? (i := 3) rfl)) (by decide) (by decide)) (g := (mkF m 46 #[.val (.long q1), .second, .val (.long q2), .second, .val (.int p3), .val (.long hz), .second, .val (.long q1), .second, .unset, .unset] [(.long hz), (.long q1)])) rfl (by rw [hml]; rfl) (argsL := [(.long q1), (.long hz)]) (rest := []) (lenOf pd_0 rfl) rfl (by show 2 * 0 + _ ≤ _; exact Nat.le_of_eq rfl) (hb hby at_46) (fun _ _ => ⟨rfl, e0, (by decide : 0 + 0 ≤ _), (by decide : 0 + 0 ≤ _)⟩)
    dsimp only [Pt.U, Pt.locs, Pt.cells, Pt.slots] at X2 l2 y2 z2 st2 hQ2
    subst l2 y2 z2
    obtain ⟨rfl, N2q, e2⟩ := hQ2
    have N := Fr.app N N2q
    refine OwnGo.fwd st2 ?_
    show OwnGo _ _ _ _ (T2.setTop (mkF m 49 #[.val (.long q1), .second, .val (.long q2), .second, .val (.int p3), .val (.long hz), .second, .val (.long q1), .second, .unset, .unset] [(.long (own_dl q1 hz))]))
    refine OwnGo.fwd (fun t k => XS.lstore X2.here hx rfl (hb hby at_49) rfl (l' := #[.val (.long q1), .second, .val (.long q2), .second, .val (.int p3), .val (.long hz), .second, .val (.long q1), .second, .val (.long (own_dl q1 hz)), .second]) rfl k) ?_
    show OwnGo _ _ _ _ (T2.setTop (mkF m 51 #[.val (.long q1), .second, .val (.long q2), .second, .val (.int p3), .val (.long hz), .second, .val (.long q1), .second, .val (.long (own_dl q1 hz)), .second] []))
    refine OwnGo.fwd (fun t k => XS.lload X2.here hx rfl (hb hby at_51) rfl k) ?_
    show OwnGo _ _ _ _ (T2.setTop (mkF m 53 #[.val (.long q1), .second, .val (.long q2), .second, .val (.int p3), .val (.long hz), .second, .val (.long q1), .second, .val (.long (own_dl q1 hz)), .second] [(.long (own_dl q1 hz))]))
    refine OwnGo.fwd (fun t k => XS.lload X2.here hx rfl (hb hby at_53) rfl k) ?_
    show OwnGo _ _ _ _ (T2.setTop (mkF m 55 #[.val (.long q1), .second, .val (.long q2), .second, .val (.int p3), .val (.long hz), .second, .val (.long q1), .second, .val (.long (own_dl q1 hz)), .second] [(.long q1), (.long (own_dl q1 hz))]))
    refine OwnGo.fwd (fun t k => XS.lload X2.here hx rfl (hb hby at_55) rfl k) ?_
    show OwnGo _ _ _ _ (T2.setTop (mkF m 57 #[.val (.long q1), .second, .val (.long q2), .second, .val (.int p3), .val (.long hz), .second, .val (.long q1), .second, .val (.long (own_dl q1 hz)), .second] [(.long hz), (.long q1), (.long (own_dl q1 hz))]))
    obtain ⟨_, _, ⟨T3, L3, k3, n3⟩, -, X3, ⟨Lc3, hQ3, l3, y3, z3⟩, st3⟩ := Jvm.LawKit.callS X2 hx (y := (⟨"com/example/running_lineage/runninglineage/query/RunGraphDeadlinePinLaw", "reference", "(JJ)J"⟩ : MethodName)) hown (mvT hZ (hw _ (List.mem_of_getElem? (i := 6) rfl))) (mvT hZ (hw _ (List.mem_of_getElem? (i := 7) rfl))) (mvT hZ (hw _ (List.mem_of_getElem? (i := 8) rfl))) (mvT hZ (hw _ (List.mem_of_getElem? (i := 9) rfl))) (by decide) (backOf (W := 2) (rm2 l Z a0 hw [] q1 hz h0 n0 Zs) hZ (hw _ (List.mem_of_getElem? (i := 9) rfl)) (hw _ (List.mem_of_getElem? (i := 8) rfl)) (by decide) (by decide)) (g := (mkF m 57 #[.val (.long q1), .second, .val (.long q2), .second, .val (.int p3), .val (.long hz), .second, .val (.long q1), .second, .val (.long (own_dl q1 hz)), .second] [(.long hz), (.long q1), (.long (own_dl q1 hz))])) rfl (by rw [hml]; rfl) (argsL := [(.long q1), (.long hz)]) (rest := [(.long (own_dl q1 hz))]) (lenOf pd_0 rfl) rfl (by show 2 * 0 + _ ≤ _; exact Nat.le_of_eq rfl) (hb hby at_57) (fun _ _ => ⟨rfl, e2, (by decide : 0 + 0 ≤ _), (by decide : 0 + 0 ≤ _)⟩)
    dsimp only [Pt.U, Pt.locs, Pt.cells, Pt.slots] at X3 l3 y3 z3 st3 hQ3
    subst l3 y3 z3
    obtain ⟨rfl, N3q, e3⟩ := hQ3
    have N := Fr.app N N3q
    refine OwnGo.fwd st3 ?_
    show OwnGo _ _ _ _ (T3.setTop (mkF m 60 #[.val (.long q1), .second, .val (.long q2), .second, .val (.int p3), .val (.long hz), .second, .val (.long q1), .second, .val (.long (own_dl q1 hz)), .second] [(.long (own_rf q1 hz)), (.long (own_dl q1 hz))]))
    refine OwnGo.fwd (fun t k => XS.lcmp X3.here hx rfl (hb hby at_60) rfl k) ?_
    show OwnGo _ _ _ _ (T3.setTop (mkF m 61 #[.val (.long q1), .second, .val (.long q2), .second, .val (.int p3), .val (.long hz), .second, .val (.long q1), .second, .val (.long (own_dl q1 hz)), .second] [(.int (lcmpW (own_dl q1 hz) (own_rf q1 hz)))]))
    have hc61_4 : (own_dl q1 hz).toInt = (own_rf q1 hz).toInt := congrArg Int64.toInt (own_same q1 hz hz0)
    refine OwnGo.fwd (fun t k => XS.ifNo X3.here hx rfl (hb hby at_61) rfl (own_Leq rfl rfl hc61_4).2 k) ?_
    show OwnGo _ _ _ _ (T3.setTop (mkF m 64 #[.val (.long q1), .second, .val (.long q2), .second, .val (.int p3), .val (.long hz), .second, .val (.long q1), .second, .val (.long (own_dl q1 hz)), .second] []))
    refine OwnGo.fwd (fun t k => XS.iconst X3.here hx rfl (hb hby at_64) k) ?_
    show OwnGo _ _ _ _ (T3.setTop (mkF m 65 #[.val (.long q1), .second, .val (.long q2), .second, .val (.int p3), .val (.long hz), .second, .val (.long q1), .second, .val (.long (own_dl q1 hz)), .second] [(.int (1 : Int32))]))
    refine OwnGo.fwd (fun t k => XS.goto X3.here hx rfl (pc0 := 65) (pc' := 69) rfl (hb hby at_65) (by decide) (by decide) k) ?_
    show OwnGo _ _ _ _ (T3.setTop (mkF m 69 #[.val (.long q1), .second, .val (.long q2), .second, .val (.int p3), .val (.long hz), .second, .val (.long q1), .second, .val (.long (own_dl q1 hz)), .second] [(.int (1 : Int32))]))
    exact own_retZ X3 hlk hx Bd.returns (hb hby at_69) (by decide) (by decide) e3 ⟨rfl, N⟩
  · refine OwnGo.fwd (fun t k => XS.ifYes X0.here hx rfl (pc0 := 11) (pc' := 20) rfl (hb hby at_11) rfl ((if0 _ _).trans (own_bneq rfl (by decide) hc11_1).2) (by decide) (by decide) k) ?_
    show OwnGo _ _ _ _ (s₁.setTop (mkF m 20 #[.val (.long q1), .second, .val (.long q2), .second, .val (.int p3), .val (.long hz), .second, .unset, .unset, .unset, .unset] []))
    refine OwnGo.fwd (fun t k => XS.iload X0.here hx rfl (hb hby at_20) rfl k) ?_
    show OwnGo _ _ _ _ (s₁.setTop (mkF m 22 #[.val (.long q1), .second, .val (.long q2), .second, .val (.int p3), .val (.long hz), .second, .unset, .unset, .unset, .unset] [(.int p3)]))
    refine OwnGo.fwd (fun t k => XS.iconst X0.here hx rfl (hb hby at_22) k) ?_
    show OwnGo _ _ _ _ (s₁.setTop (mkF m 23 #[.val (.long q1), .second, .val (.long q2), .second, .val (.int p3), .val (.long hz), .second, .unset, .unset, .unset, .unset] [(.int (1 : Int32)), (.int p3)]))
    refine OwnGo.fwd (fun t k => XS.iushr X0.here hx rfl (hb hby at_23) rfl k) ?_
    show OwnGo _ _ _ _ (s₁.setTop (mkF m 24 #[.val (.long q1), .second, .val (.long q2), .second, .val (.int p3), .val (.long hz), .second, .unset, .unset, .unset, .unset] [(.int ((p3.toUInt32 >>> ((1 : Int32) &&& 31).toUInt32).toInt32))]))
    refine OwnGo.fwd (fun t k => XS.iconst X0.here hx rfl (hb hby at_24) k) ?_
    show OwnGo _ _ _ _ (s₁.setTop (mkF m 25 #[.val (.long q1), .second, .val (.long q2), .second, .val (.int p3), .val (.long hz), .second, .unset, .unset, .unset, .unset] [(.int (3 : Int32)), (.int ((p3.toUInt32 >>> ((1 : Int32) &&& 31).toUInt32).toInt32))]))
    refine OwnGo.fwd (fun t k => iremM X0 hx rfl (hb hby at_25) rfl (by decide) k) ?_
    show OwnGo _ _ _ _ (s₁.setTop (mkF m 26 #[.val (.long q1), .second, .val (.long q2), .second, .val (.int p3), .val (.long hz), .second, .unset, .unset, .unset, .unset] [(.int (((p3.toUInt32 >>> ((1 : Int32) &&& 31).toUInt32).toInt32) % (3 : Int32)))]))
    refine OwnGo.fwd (fun t k => XS.i2l X0.here hx rfl (hb hby at_26) rfl k) ?_
    show OwnGo _ _ _ _ (s₁.setTop (mkF m 27 #[.val (.long q1), .second, .val (.long q2), .second, .val (.int p3), .val (.long hz), .second, .unset, .unset, .unset, .unset] [(.long (((p3.toUInt32 >>> ((1 : Int32) &&& 31).toUInt32).toInt32) % (3 : Int32)).toInt64)]))
    refine OwnGo.fwd (fun t k => XS.lconst X0.here hx rfl (hb hby at_27) k) ?_
    show OwnGo _ _ _ _ (s₁.setTop (mkF m 28 #[.val (.long q1), .second, .val (.long q2), .second, .val (.int p3), .val (.long hz), .second, .unset, .unset, .unset, .unset] [(.long (1 : Int64)), (.long (((p3.toUInt32 >>> ((1 : Int32) &&& 31).toUInt32).toInt32) % (3 : Int32)).toInt64)]))
    refine OwnGo.fwd (fun t k => XS.lsub X0.here hx rfl (hb hby at_28) rfl k) ?_
    show OwnGo _ _ _ _ (s₁.setTop (mkF m 29 #[.val (.long q1), .second, .val (.long q2), .second, .val (.int p3), .val (.long hz), .second, .unset, .unset, .unset, .unset] [(.long ((((p3.toUInt32 >>> ((1 : Int32) &&& 31).toUInt32).toInt32) % (3 : Int32)).toInt64 - (1 : Int64)))]))
    refine OwnGo.fwd (fun t k => XS.lstore X0.here hx rfl (hb hby at_29) rfl (l' := #[.val (.long q1), .second, .val (.long q2), .second, .val (.int p3), .val (.long hz), .second, .unset, .unset, .val (.long ((((p3.toUInt32 >>> ((1 : Int32) &&& 31).toUInt32).toInt32) % (3 : Int32)).toInt64 - (1 : Int64))), .second]) rfl k) ?_
    show OwnGo _ _ _ _ (s₁.setTop (mkF m 31 #[.val (.long q1), .second, .val (.long q2), .second, .val (.int p3), .val (.long hz), .second, .unset, .unset, .val (.long ((((p3.toUInt32 >>> ((1 : Int32) &&& 31).toUInt32).toInt32) % (3 : Int32)).toInt64 - (1 : Int64))), .second] []))
    refine OwnGo.fwd (fun t k => X0.ldc2Long hx hown (mvT hZ (hw _ (List.mem_of_getElem? (i := 10) rfl))) (g := (mkF m 31 #[.val (.long q1), .second, .val (.long q2), .second, .val (.int p3), .val (.long hz), .second, .unset, .unset, .val (.long ((((p3.toUInt32 >>> ((1 : Int32) &&& 31).toUInt32).toInt32) % (3 : Int32)).toInt64 - (1 : Int64))), .second] [])) rfl (hb hby at_31) t k) ?_
    show OwnGo _ _ _ _ (s₁.setTop (mkF m 34 #[.val (.long q1), .second, .val (.long q2), .second, .val (.int p3), .val (.long hz), .second, .unset, .unset, .val (.long ((((p3.toUInt32 >>> ((1 : Int32) &&& 31).toUInt32).toInt32) % (3 : Int32)).toInt64 - (1 : Int64))), .second] [(.long (9223372036854775806 : Int64))]))
    refine OwnGo.fwd (fun t k => XS.lload X0.here hx rfl (hb hby at_34) rfl k) ?_
    show OwnGo _ _ _ _ (s₁.setTop (mkF m 36 #[.val (.long q1), .second, .val (.long q2), .second, .val (.int p3), .val (.long hz), .second, .unset, .unset, .val (.long ((((p3.toUInt32 >>> ((1 : Int32) &&& 31).toUInt32).toInt32) % (3 : Int32)).toInt64 - (1 : Int64))), .second] [(.long hz), (.long (9223372036854775806 : Int64))]))
    refine OwnGo.fwd (fun t k => XS.lsub X0.here hx rfl (hb hby at_36) rfl k) ?_
    show OwnGo _ _ _ _ (s₁.setTop (mkF m 37 #[.val (.long q1), .second, .val (.long q2), .second, .val (.int p3), .val (.long hz), .second, .unset, .unset, .val (.long ((((p3.toUInt32 >>> ((1 : Int32) &&& 31).toUInt32).toInt32) % (3 : Int32)).toInt64 - (1 : Int64))), .second] [(.long ((9223372036854775806 : Int64) - hz))]))
    refine OwnGo.fwd (fun t k => XS.lload X0.here hx rfl (hb hby at_37) rfl k) ?_
    show OwnGo _ _ _ _ (s₁.setTop (mkF m 39 #[.val (.long q1), .second, .val (.long q2), .second, .val (.int p3), .val (.long hz), .second, .unset, .unset, .val (.long ((((p3.toUInt32 >>> ((1 : Int32) &&& 31).toUInt32).toInt32) % (3 : Int32)).toInt64 - (1 : Int64))), .second] [(.long ((((p3.toUInt32 >>> ((1 : Int32) &&& 31).toUInt32).toInt32) % (3 : Int32)).toInt64 - (1 : Int64))), (.long ((9223372036854775806 : Int64) - hz))]))
    refine OwnGo.fwd (fun t k => XS.ladd X0.here hx rfl (hb hby at_39) rfl k) ?_
    show OwnGo _ _ _ _ (s₁.setTop (mkF m 40 #[.val (.long q1), .second, .val (.long q2), .second, .val (.int p3), .val (.long hz), .second, .unset, .unset, .val (.long ((((p3.toUInt32 >>> ((1 : Int32) &&& 31).toUInt32).toInt32) % (3 : Int32)).toInt64 - (1 : Int64))), .second] [(.long (((9223372036854775806 : Int64) - hz) + ((((p3.toUInt32 >>> ((1 : Int32) &&& 31).toUInt32).toInt32) % (3 : Int32)).toInt64 - (1 : Int64))))]))
    refine OwnGo.fwd (fun t k => XS.lstore X0.here hx rfl (hb hby at_40) rfl (l' := #[.val (.long q1), .second, .val (.long q2), .second, .val (.int p3), .val (.long hz), .second, .val (.long (((9223372036854775806 : Int64) - hz) + ((((p3.toUInt32 >>> ((1 : Int32) &&& 31).toUInt32).toInt32) % (3 : Int32)).toInt64 - (1 : Int64)))), .second, .val (.long ((((p3.toUInt32 >>> ((1 : Int32) &&& 31).toUInt32).toInt32) % (3 : Int32)).toInt64 - (1 : Int64))), .second]) rfl k) ?_
    show OwnGo _ _ _ _ (s₁.setTop (mkF m 42 #[.val (.long q1), .second, .val (.long q2), .second, .val (.int p3), .val (.long hz), .second, .val (.long (((9223372036854775806 : Int64) - hz) + ((((p3.toUInt32 >>> ((1 : Int32) &&& 31).toUInt32).toInt32) % (3 : Int32)).toInt64 - (1 : Int64)))), .second, .val (.long ((((p3.toUInt32 >>> ((1 : Int32) &&& 31).toUInt32).toInt32) % (3 : Int32)).toInt64 - (1 : Int64))), .second] []))
    obtain ⟨tm, hv_tm⟩ : ∃ q : Int64, q = (((9223372036854775806 : Int64) - hz) + ((((p3.toUInt32 >>> ((1 : Int32) &&& 31).toUInt32).toInt32) % (3 : Int32)).toInt64 - (1 : Int64))) := ⟨_, rfl⟩
    rw [← hv_tm]
    show OwnGo _ _ _ _ (s₁.setTop (mkF m 42 #[.val (.long q1), .second, .val (.long q2), .second, .val (.int p3), .val (.long hz), .second, .val (.long tm), .second, .val (.long ((((p3.toUInt32 >>> ((1 : Int32) &&& 31).toUInt32).toInt32) % (3 : Int32)).toInt64 - (1 : Int64))), .second] []))
    refine OwnGo.fwd (fun t k => XS.lload X0.here hx rfl (hb hby at_42) rfl k) ?_
    show OwnGo _ _ _ _ (s₁.setTop (mkF m 44 #[.val (.long q1), .second, .val (.long q2), .second, .val (.int p3), .val (.long hz), .second, .val (.long tm), .second, .val (.long ((((p3.toUInt32 >>> ((1 : Int32) &&& 31).toUInt32).toInt32) % (3 : Int32)).toInt64 - (1 : Int64))), .second] [(.long tm)]))
    refine OwnGo.fwd (fun t k => XS.lload X0.here hx rfl (hb hby at_44) rfl k) ?_
    show OwnGo _ _ _ _ (s₁.setTop (mkF m 46 #[.val (.long q1), .second, .val (.long q2), .second, .val (.int p3), .val (.long hz), .second, .val (.long tm), .second, .val (.long ((((p3.toUInt32 >>> ((1 : Int32) &&& 31).toUInt32).toInt32) % (3 : Int32)).toInt64 - (1 : Int64))), .second] [(.long hz), (.long tm)]))
    obtain ⟨_, _, ⟨T5, L5, k5, n5⟩, -, X5, ⟨Lc5, hQ5, l5, y5, z5⟩, st5⟩ := Jvm.LawKit.callS X0 hx (y := (⟨"com/example/running_lineage/runninglineage/query/RunGraph", "deadline", "(JJ)J"⟩ : MethodName)) hown (mvT hZ (hw _ (List.mem_of_getElem? (i := 1) rfl))) (mvT hZ (hw _ (List.mem_of_getElem? (i := 2) rfl))) (mvT hZ (hw _ (List.mem_of_getElem? (i := 3) rfl))) (mvT hZ (hw _ (List.mem_of_getElem? (i := 4) rfl))) (by decide) (backOf (W := 0) (rm1 l Z a0 hw [] tm hz h0 n0 Zs) hZ (hw _ (List.mem_of_getElem? (i := 4) rfl)) (hw _ (List.mem_of_getElem? (i := 3) rfl)) (by decide) (by decide)) (g := (mkF m 46 #[.val (.long q1), .second, .val (.long q2), .second, .val (.int p3), .val (.long hz), .second, .val (.long tm), .second, .val (.long ((((p3.toUInt32 >>> ((1 : Int32) &&& 31).toUInt32).toInt32) % (3 : Int32)).toInt64 - (1 : Int64))), .second] [(.long hz), (.long tm)])) rfl (by rw [hml]; rfl) (argsL := [(.long tm), (.long hz)]) (rest := []) (lenOf pd_0 rfl) rfl (by show 2 * 0 + _ ≤ _; exact Nat.le_of_eq rfl) (hb hby at_46) (fun _ _ => ⟨rfl, e0, (by decide : 0 + 0 ≤ _), (by decide : 0 + 0 ≤ _)⟩)
    dsimp only [Pt.U, Pt.locs, Pt.cells, Pt.slots] at X5 l5 y5 z5 st5 hQ5
    subst l5 y5 z5
    obtain ⟨rfl, N5q, e5⟩ := hQ5
    have N := Fr.app N N5q
    refine OwnGo.fwd st5 ?_
    show OwnGo _ _ _ _ (T5.setTop (mkF m 49 #[.val (.long q1), .second, .val (.long q2), .second, .val (.int p3), .val (.long hz), .second, .val (.long tm), .second, .val (.long ((((p3.toUInt32 >>> ((1 : Int32) &&& 31).toUInt32).toInt32) % (3 : Int32)).toInt64 - (1 : Int64))), .second] [(.long (own_dl tm hz))]))
    refine OwnGo.fwd (fun t k => XS.lstore X5.here hx rfl (hb hby at_49) rfl (l' := #[.val (.long q1), .second, .val (.long q2), .second, .val (.int p3), .val (.long hz), .second, .val (.long tm), .second, .val (.long (own_dl tm hz)), .second]) rfl k) ?_
    show OwnGo _ _ _ _ (T5.setTop (mkF m 51 #[.val (.long q1), .second, .val (.long q2), .second, .val (.int p3), .val (.long hz), .second, .val (.long tm), .second, .val (.long (own_dl tm hz)), .second] []))
    refine OwnGo.fwd (fun t k => XS.lload X5.here hx rfl (hb hby at_51) rfl k) ?_
    show OwnGo _ _ _ _ (T5.setTop (mkF m 53 #[.val (.long q1), .second, .val (.long q2), .second, .val (.int p3), .val (.long hz), .second, .val (.long tm), .second, .val (.long (own_dl tm hz)), .second] [(.long (own_dl tm hz))]))
    refine OwnGo.fwd (fun t k => XS.lload X5.here hx rfl (hb hby at_53) rfl k) ?_
    show OwnGo _ _ _ _ (T5.setTop (mkF m 55 #[.val (.long q1), .second, .val (.long q2), .second, .val (.int p3), .val (.long hz), .second, .val (.long tm), .second, .val (.long (own_dl tm hz)), .second] [(.long tm), (.long (own_dl tm hz))]))
    refine OwnGo.fwd (fun t k => XS.lload X5.here hx rfl (hb hby at_55) rfl k) ?_
    show OwnGo _ _ _ _ (T5.setTop (mkF m 57 #[.val (.long q1), .second, .val (.long q2), .second, .val (.int p3), .val (.long hz), .second, .val (.long tm), .second, .val (.long (own_dl tm hz)), .second] [(.long hz), (.long tm), (.long (own_dl tm hz))]))
    obtain ⟨_, _, ⟨T6, L6, k6, n6⟩, -, X6, ⟨Lc6, hQ6, l6, y6, z6⟩, st6⟩ := Jvm.LawKit.callS X5 hx (y := (⟨"com/example/running_lineage/runninglineage/query/RunGraphDeadlinePinLaw", "reference", "(JJ)J"⟩ : MethodName)) hown (mvT hZ (hw _ (List.mem_of_getElem? (i := 6) rfl))) (mvT hZ (hw _ (List.mem_of_getElem? (i := 7) rfl))) (mvT hZ (hw _ (List.mem_of_getElem? (i := 8) rfl))) (mvT hZ (hw _ (List.mem_of_getElem? (i := 9) rfl))) (by decide) (backOf (W := 2) (rm2 l Z a0 hw [] tm hz h0 n0 Zs) hZ (hw _ (List.mem_of_getElem? (i := 9) rfl)) (hw _ (List.mem_of_getElem? (i := 8) rfl)) (by decide) (by decide)) (g := (mkF m 57 #[.val (.long q1), .second, .val (.long q2), .second, .val (.int p3), .val (.long hz), .second, .val (.long tm), .second, .val (.long (own_dl tm hz)), .second] [(.long hz), (.long tm), (.long (own_dl tm hz))])) rfl (by rw [hml]; rfl) (argsL := [(.long tm), (.long hz)]) (rest := [(.long (own_dl tm hz))]) (lenOf pd_0 rfl) rfl (by show 2 * 0 + _ ≤ _; exact Nat.le_of_eq rfl) (hb hby at_57) (fun _ _ => ⟨rfl, e5, (by decide : 0 + 0 ≤ _), (by decide : 0 + 0 ≤ _)⟩)
    dsimp only [Pt.U, Pt.locs, Pt.cells, Pt.slots] at X6 l6 y6 z6 st6 hQ6
    subst l6 y6 z6
    obtain ⟨rfl, N6q, e6⟩ := hQ6
    have N := Fr.app N N6q
    refine OwnGo.fwd st6 ?_
    show OwnGo _ _ _ _ (T6.setTop (mkF m 60 #[.val (.long q1), .second, .val (.long q2), .second, .val (.int p3), .val (.long hz), .second, .val (.long tm), .second, .val (.long (own_dl tm hz)), .second] [(.long (own_rf tm hz)), (.long (own_dl tm hz))]))
    refine OwnGo.fwd (fun t k => XS.lcmp X6.here hx rfl (hb hby at_60) rfl k) ?_
    show OwnGo _ _ _ _ (T6.setTop (mkF m 61 #[.val (.long q1), .second, .val (.long q2), .second, .val (.int p3), .val (.long hz), .second, .val (.long tm), .second, .val (.long (own_dl tm hz)), .second] [(.int (lcmpW (own_dl tm hz) (own_rf tm hz)))]))
    have hc61_7 : (own_dl tm hz).toInt = (own_rf tm hz).toInt := congrArg Int64.toInt (own_same tm hz hz0)
    refine OwnGo.fwd (fun t k => XS.ifNo X6.here hx rfl (hb hby at_61) rfl (own_Leq rfl rfl hc61_7).2 k) ?_
    show OwnGo _ _ _ _ (T6.setTop (mkF m 64 #[.val (.long q1), .second, .val (.long q2), .second, .val (.int p3), .val (.long hz), .second, .val (.long tm), .second, .val (.long (own_dl tm hz)), .second] []))
    refine OwnGo.fwd (fun t k => XS.iconst X6.here hx rfl (hb hby at_64) k) ?_
    show OwnGo _ _ _ _ (T6.setTop (mkF m 65 #[.val (.long q1), .second, .val (.long q2), .second, .val (.int p3), .val (.long hz), .second, .val (.long tm), .second, .val (.long (own_dl tm hz)), .second] [(.int (1 : Int32))]))
    refine OwnGo.fwd (fun t k => XS.goto X6.here hx rfl (pc0 := 65) (pc' := 69) rfl (hb hby at_65) (by decide) (by decide) k) ?_
    show OwnGo _ _ _ _ (T6.setTop (mkF m 69 #[.val (.long q1), .second, .val (.long q2), .second, .val (.int p3), .val (.long hz), .second, .val (.long tm), .second, .val (.long (own_dl tm hz)), .second] [(.int (1 : Int32))]))
    exact own_retZ X6 hlk hx Bd.returns (hb hby at_69) (by decide) (by decide) e6 ⟨rfl, N⟩
set_option maxRecDepth 65536 in
set_option maxHeartbeats 40000000 in
theorem comes_1 {Post : Tables → Env → Array Value → State → Outcome → State → Prop} (hpost : ∀ tb e args s v u, (limb_1_1.after args s (.returned v) u = true ∧ limb_1_2.after args s (.returned v) u = true ∧ True) → FrameEnd s (.returned v) u (Jvm.fieldLocs frame_1_writes args s ++ Jvm.arrayLocs frame_1_arrays args s ++ Jvm.staticLocs frame_1_statics s) 0 0 → Post tb e args s (.returned v) u) :
    ArmFor flags0 classFile x code maxLocals ret World_1 tables_1 room_1 Calls_1 rest_1 Pre_1 Post := by
  intro l hfl _ _ p e ha hc hk s m args below hf hA hF happ hP
  obtain ⟨hcalls, hrest, hpre⟩ := hP
  obtain ⟨-, -, -, hnamed, -, -, -, hat⟩ := (Spec.applies_iff hf).mp happ
  obtain ⟨hg, hn⟩ := and_e (Cond.before_iff.mp (show (Jvm.Cond.and given_1 narrow_1).before args s = true from hpre))
  obtain ⟨gc, gr0⟩ := and_e hg
  obtain ⟨ga0, gr1⟩ := and_e gr0
  obtain ⟨ga1, gr2⟩ := and_e gr1
  obtain ⟨w0, w1, w2, rfl⟩ : ∃ w0 w1 w2 : Value, args = #[w0, w1, w2] := by
    have hs : args.size = 3 := by simpa [Cond.value, given_1] using gc
    obtain ⟨L⟩ := args
    match L, hs with
    | [w0, w1, w2], _ => exact ⟨w0, w1, w2, rfl⟩
  have hw := fun d (hd : d ∈ tables_1) => atoms_spec (ws := Jvm.Cond.code x code maxLocals ret :: tables_1) hat d (List.mem_cons_of_mem _ hd)
  have hfit : Fit s := fun {y c} hc i hi => by
    obtain ⟨ha, rfl⟩ := Array.getElem?_eq_some_iff.mp hc
    have q := List.all_eq_true.mp ((Array.all_eq_true_iff_forall_mem.mp hF) _ (Array.getElem_mem ha)) i (List.mem_range.mpr hi)
    simpa [Array.getElem?_eq_getElem hi] using q
  obtain ⟨i0, ei0⟩ := isL_v ga0
  obtain rfl : w0 = (.long i0) := Option.some.inj ei0
  obtain ⟨i1, ei1⟩ := isL_v ga1
  obtain rfl : w1 = (.long i1) := Option.some.inj ei1
  obtain ⟨i2, ei2⟩ := is_v gr2
  obtain rfl : w2 = (.int i2) := Option.some.inj ei2
  obtain ⟨n, o, h1, h2, h3, _, L, rfl, ⟨rfl, N⟩, hq⟩ := rm0 l s _ hw tables_1 i0 i1 i2 s.heap s.heap.size (Nat.le_refl _) p e ha hc hk s m _ below hf ((Spec.applies_iff_loose hf).mp happ).1 ⟨rfl, State.Warmed39.refl s, rfl⟩ trivial
  refine ⟨n, _, h1, h2, h3, hpost _ _ _ _ _ _ ⟨Cond.after_iff.mpr rfl, Cond.after_iff.mpr (eq_i res_at (Term.int_eval (1)) rfl), trivial⟩ ⟨hq.1, hq.2.1, (hq.2.2.sift fun y hy => Or.inr (N y hy)).mono (by decide) (by decide)⟩⟩
theorem main_1_1 : Claimed_1_1 := comes_1 fun _ _ _ _ _ _ h hF => ⟨h.1, hF⟩
theorem main_1_2 : Claimed_1_2 := comes_1 fun _ _ _ _ _ _ h hF => ⟨h.2.1, hF⟩
end Jvm.Pilot.@@N@@
namespace Jvm.Pilot.@@N@@
open Jvm Jvm.ClassFile Sem Op Lib Jvm.Free Jvm.Stand Jvm.Pilot.@@N@@.Jvm.D
/-! MADE BY PROGRAM (witnessworld.py) out of the Statement's table words and the real class files: 9 classes; the members and pool entries that the words name. The judged class is class 1, her method 2. -/
namespace start1
open Jvm.ClassFile
def u (s : String) : CpInfo := .utf8 (stringToUtf16 s)
/-- a pool by its gaps: so many unusable entries, then the entry; so many at the end -/
def gap : Nat → List CpInfo → List CpInfo
  | 0, r => r
  | n + 1, r => .unusable :: gap n r
def poolList (es : List (Nat × CpInfo)) (last : Nat) : List CpInfo := es.foldr (fun e r => gap e.1 (e.2 :: r)) (gap last [])
def pool (es : List (Nat × CpInfo)) (last : Nat) : Array CpInfo := ⟨poolList es last⟩
def fileOf (pool : Array CpInfo) (this : Nat) (attrs : Array Attribute := #[]) (ms : Array MethodInfo := #[]) (fl : Nat := 33) (sup : Nat := 0) (ifs : Array Nat := #[]) (fds : Array FieldInfo := #[]) : ClassFile where
  minorVersion := 0
  majorVersion := 65
  constantPool := pool
  accessFlags := fl
  thisClass := this
  superClass := sup
  interfaces := ifs
  fields := fds
  methods := ms
  attributes := attrs
def plain (name : String) (sup : Option ClassId) : Class where
  name := name
  kind := .ordinary
  loader := none
  accessFlags := 33
  super := sup
  interfaces := #[]
  cf := none
  fields := #[]
  methods := #[]
  instanceTypes := #[]
  staticTypes := #[]
  resolved := #[]
  callSites := []
  init := .initialized
  statics := none
  mirror := none

def pool0 : Array CpInfo := pool [(5, u "<init>"), (0, u "()V"), (1, .class_ 10), (1, u "java/lang/Object")] 113

def k0m0 : Method := { name := "<init>", desc := "()V", sig := { parameters := [], returnType := none }, accessFlags := 1, code := none }
/-- java/lang/Object -/
def k0 : Class := { plain "java/lang/Object" none with
  accessFlags := 33
  interfaces := #[]
  cf := some (fileOf pool0 8 #[] #[{ accessFlags := 1, nameIndex := 5, descriptorIndex := 6, attributes := #[] }] 33 0 #[] #[])
  fields := #[]
  methods := #[k0m0]
  instanceTypes := #[]
  staticTypes := #[]
  resolved := Array.replicate 124 none
  statics := none }

def pool1 : Array CpInfo := pool [(2, .class_ 4), (1, u "java/lang/Object"), (0, u "<init>"), (0, u "()V"), (2, .long 9223372036854775806), (1, .long 9223372036854775807), (1, .methodref 14 15), (0, .class_ 16), (0, .nameAndType 17 18), (0, u "com/example/running_lineage/runninglineage/query/RunGraph"), (0, u "deadline"), (0, u "(JJ)J"), (0, .methodref 20 21), (0, .class_ 22), (0, .nameAndType 23 18), (0, u "com/example/running_lineage/runninglineage/query/RunGraphDeadlinePinLaw"), (0, u "reference"), (3, u "law"), (0, u "(JJI)Z")] 2

def k1m0 : Method := { name := "<init>", desc := "()V", sig := { parameters := [], returnType := none }, accessFlags := 2, code := none }
def k1c1 : Code := { maxStack := 4, maxLocals := 9, code := method_2_code, exceptionTable := #[], attributes := #[] }
def k1m1 : Method := { name := "reference", desc := "(JJ)J", sig := { parameters := [.long, .long], returnType := some .long }, accessFlags := 10, code := some k1c1 }
def k1c2 : Code := { maxStack := 6, maxLocals := 11, code := code, exceptionTable := #[], attributes := #[] }
def k1m2 : Method := { name := "law", desc := "(JJI)Z", sig := { parameters := [.long, .long, .int], returnType := some .boolean }, accessFlags := 9, code := some k1c2 }
/-- com/example/running_lineage/runninglineage/query/RunGraphDeadlinePinLaw -/
def k1 : Class := { plain "com/example/running_lineage/runninglineage/query/RunGraphDeadlinePinLaw" (some 0) with
  accessFlags := 49
  interfaces := #[]
  cf := some (fileOf pool1 20 #[] #[{ accessFlags := 2, nameIndex := 5, descriptorIndex := 6, attributes := #[] }, { accessFlags := 10, nameIndex := 23, descriptorIndex := 18, attributes := #[] }, { accessFlags := 9, nameIndex := 27, descriptorIndex := 28, attributes := #[] }] 49 2 #[] #[])
  fields := #[]
  methods := #[k1m0, k1m1, k1m2]
  instanceTypes := #[]
  staticTypes := #[]
  resolved := Array.replicate 31 none
  statics := none }

def pool2 : Array CpInfo := pool [(2, .class_ 4), (1, u "java/lang/Object"), (6, .class_ 13), (1, u "com/example/running_lineage/runninglineage/query/RunGraph"), (0, u "sources"), (0, u "Ljava/util/Map;"), (5, u "J"), (2, u "watermark"), (2, u "events"), (0, u "Ljava/util/function/Consumer;"), (2, u "sharing"), (40, .class_ 73), (0, u "com/example/running_lineage/runninglineage/query/RunGraph$SourceTuples"), (13, .long 9223372036854775806), (23, u "deadline"), (0, u "(JJ)J")] 7

def k2c0 : Code := { maxStack := 6, maxLocals := 4, code := prog_117_method_8_code, exceptionTable := #[], attributes := #[] }
def k2m0 : Method := { name := "deadline", desc := "(JJ)J", sig := { parameters := [.long, .long], returnType := some .long }, accessFlags := 8, code := some k2c0 }
/-- com/example/running_lineage/runninglineage/query/RunGraph -/
def k2 : Class := { plain "com/example/running_lineage/runninglineage/query/RunGraph" (some 0) with
  accessFlags := 1056
  interfaces := #[]
  cf := some (fileOf pool2 11 #[.nestMembers #[72]] #[{ accessFlags := 8, nameIndex := 111, descriptorIndex := 112, attributes := #[] }] 1056 2 #[] #[{ accessFlags := 16, nameIndex := 27, descriptorIndex := 28, attributes := #[] }, { accessFlags := 18, nameIndex := 14, descriptorIndex := 15, attributes := #[] }, { accessFlags := 18, nameIndex := 31, descriptorIndex := 15, attributes := #[] }, { accessFlags := 2, nameIndex := 24, descriptorIndex := 21, attributes := #[] }])
  fields := #[{ name := "events", type := (.object "java/util/function/Consumer"), accessFlags := 16, slot := 0, constantValue := 0 }, { name := "sources", type := (.object "java/util/Map"), accessFlags := 18, slot := 1, constantValue := 0 }, { name := "sharing", type := (.object "java/util/Map"), accessFlags := 18, slot := 2, constantValue := 0 }, { name := "watermark", type := .long, accessFlags := 2, slot := 3, constantValue := 0 }]
  methods := #[k2m0]
  instanceTypes := #[(.object "java/util/function/Consumer"), (.object "java/util/Map"), (.object "java/util/Map"), .long]
  staticTypes := #[]
  resolved := Array.replicate 120 none
  statics := none }

def pool3 : Array CpInfo := pool [(1, u "java/lang/Cloneable"), (0, .class_ 1), (0, u "java/lang/Object"), (0, .class_ 3)] 3

/-- java/lang/Cloneable -/
def k3 : Class := { plain "java/lang/Cloneable" (some 0) with
  accessFlags := 1537
  interfaces := #[]
  cf := some (fileOf pool3 2 #[] #[] 1537 4 #[] #[])
  fields := #[]
  methods := #[]
  instanceTypes := #[]
  staticTypes := #[]
  resolved := Array.replicate 8 none
  statics := none }

def pool4 : Array CpInfo := pool [(1, u "java/io/Serializable"), (0, .class_ 1), (0, u "java/lang/Object"), (0, .class_ 3)] 3

/-- java/io/Serializable -/
def k4 : Class := { plain "java/io/Serializable" (some 0) with
  accessFlags := 1537
  interfaces := #[]
  cf := some (fileOf pool4 2 #[] #[] 1537 4 #[] #[])
  fields := #[]
  methods := #[]
  instanceTypes := #[]
  staticTypes := #[]
  resolved := Array.replicate 8 none
  statics := none }

/-- the primitive byte -/
def k5 : Class := { plain "byte" none with kind := .primitive 'B', accessFlags := 0x411 }
/-- [B -/
def k6 : Class := { plain "[B" (some 0) with kind := .array 5 .byte, interfaces := #[3, 4], accessFlags := 1041 }

/-- the primitive int -/
def k7 : Class := { plain "int" none with kind := .primitive 'I', accessFlags := 0x411 }
/-- [I -/
def k8 : Class := { plain "[I" (some 0) with kind := .array 7 .int, interfaces := #[3, 4], accessFlags := 1041 }

def heap : Heap := #[]
def classes : Array Class := #[k0, k1, k2, k3, k4, k5, k6, k7, k8]
def interned : List (Array UInt16 × Addr) := []
def slotsUsed : Nat := 0
def theMethod : MethodId := ⟨1, 2⟩
def args0 : Array Value := #[.long 5, .long 7, .int 3]
def aboutOver (below : List Frame) : State where
  vm := { classes := classes, interned := interned.toArray }
  heap := heap
  slotsUsed := slotsUsed
  threads := #[{ frames := .invoking theMethod args0 :: below }]
def below0 : List Frame := [.native { method := ⟨0, 0⟩, args := #[] }]
def about1 : State := aboutOver below0
def p0 : Program := .bare "" "" ""
def e0 : Env := launch0.env 0 0 0
theorem w_frames : about1.frames = Frame.invoking theMethod args0 :: below0 := rfl
set_option maxRecDepth 65536 in
theorem w_args : argsFit about1.vm theMethod args0 = true := by decide +kernel
set_option maxRecDepth 65536 in
theorem w_heap : heapFits about1 = true := by decide +kernel
set_option maxRecDepth 65536 in
theorem w_runnable : about1.curStatus? = some .runnable := by decide +kernel
set_option maxRecDepth 65536 in
theorem w_alone : about1.alone = true := by decide +kernel
set_option maxRecDepth 65536 in
theorem w_named : about1.methodNamed? x = some theMethod := by decide +kernel
set_option maxRecDepth 65536 in
theorem w_hears : about1.hears theMethod below0 = true := by decide +kernel
set_option maxRecDepth 65536 in
theorem w_ripe : about1.ripe theMethod args0 below0 = true := by decide +kernel
theorem w_running : about1.status = .running := rfl
set_option maxRecDepth 65536 in
theorem w_room : about1.hasRoom e0.platform room_1 = true :=
  launch0.hasRoom_least _ room_1 (by decide +kernel) (by decide +kernel) (by decide +kernel) (by decide +kernel) (by decide +kernel) (by decide +kernel)
theorem allAtoms_all (ts : List Jvm.Cond) (a : Array Jvm.Value) (st : Jvm.State) : (allAtoms ts).before a st = ts.all (fun c => c.before a st) := by
  induction ts with
  | nil => rfl
  | cons c t ih =>
    show (Jvm.Cond.and c (allAtoms t)).before a st = _
    rw [Jvm.Cond.before_and, ih, List.all_cons]
def words1 : List Jvm.Cond := Jvm.Cond.code x code maxLocals ret :: tables_1
/-- a 'code' word, met by the world's own term for the bytes: nothing is compared byte by byte -/
theorem code_word {y : MethodName} {bytes : ByteArray} {mx : Nat} {rt : Option FieldType} {a : Array Value} {s : State} {m : MethodId} {meth : Method} {c : Code} (h1 : s.methodNamed? y = some m) (h2 : s.vm.method? m = some meth) (h3 : meth.code = some c) (h4 : c.code = bytes)
    (h5 : (c.maxLocals == mx && c.exceptionTable.isEmpty && decide (c.maxStack ≤ mostOperands) && decide (meth.sig.returnType = rt) && !meth.locks && decide (parseMethodDescriptor y.desc = some meth.sig)) = true) : (Jvm.Cond.code y bytes mx rt).before a s = true := by
  simp only [Bool.and_eq_true, beq_iff_eq, Bool.not_eq_true', decide_eq_true_eq] at h5
  obtain ⟨⟨⟨⟨⟨g1, g2⟩, g3⟩, g4⟩, g5⟩, g6⟩ := h5
  simp [Cond.before, Cond.holds, Cond.value, h1, h2, h3, h4, g1, g2, g3, g4, g5, g6]
def isCode : Jvm.Cond → Bool
  | .code _ _ _ _ => true
  | _ => false
theorem all_split {L : List Jvm.Cond} {P : Jvm.Cond → Bool} (h1 : L.all (fun c => isCode c || P c) = true) (h2 : ∀ c ∈ L.filter isCode, P c = true) : L.all P = true := by
  refine List.all_eq_true.mpr fun c hc => ?_
  have h := List.all_eq_true.mp h1 c hc
  rcases Bool.eq_false_or_eq_true (isCode c) with hi | hi
  · exact h2 c (List.mem_filter.mpr ⟨hc, hi⟩)
  · simpa [hi] using h
set_option maxRecDepth 65536 in
theorem w_c0 : (Jvm.Cond.code x code maxLocals ret).before args0 about1 = true := code_word (m := ⟨1, 2⟩) (meth := k1m2) (c := k1c2) (by decide +kernel) rfl rfl rfl (by decide +kernel)
set_option maxRecDepth 65536 in
theorem w_c1 : (Jvm.Cond.code ({ cls := "com/example/running_lineage/runninglineage/query/RunGraph", name := "deadline", desc := "(JJ)J" } : Jvm.MethodName) prog_117_method_8_code (4 : Nat) (Option.some Jvm.ClassFile.FieldType.long)).before args0 about1 = true := code_word (m := ⟨2, 0⟩) (meth := k2m0) (c := k2c0) (by decide +kernel) rfl rfl rfl (by decide +kernel)
set_option maxRecDepth 65536 in
theorem w_c2 : (Jvm.Cond.code ({ cls := "com/example/running_lineage/runninglineage/query/RunGraphDeadlinePinLaw", name := "reference", desc := "(JJ)J" } : Jvm.MethodName) method_2_code (9 : Nat) (Option.some Jvm.ClassFile.FieldType.long)).before args0 about1 = true := code_word (m := ⟨1, 1⟩) (meth := k1m1) (c := k1c1) (by decide +kernel) rfl rfl rfl (by decide +kernel)
def codes1 : List Jvm.Cond := [Jvm.Cond.code x code maxLocals ret, Jvm.Cond.code ({ cls := "com/example/running_lineage/runninglineage/query/RunGraph", name := "deadline", desc := "(JJ)J" } : Jvm.MethodName) prog_117_method_8_code (4 : Nat) (Option.some Jvm.ClassFile.FieldType.long), Jvm.Cond.code ({ cls := "com/example/running_lineage/runninglineage/query/RunGraphDeadlinePinLaw", name := "reference", desc := "(JJ)J" } : Jvm.MethodName) method_2_code (9 : Nat) (Option.some Jvm.ClassFile.FieldType.long)]
set_option maxRecDepth 65536 in
theorem codes_eq : words1.filter isCode = codes1 := rfl
theorem w_codes : ∀ c ∈ words1.filter isCode, c.before args0 about1 = true := by
  rw [codes_eq]
  intro c hc
  simp only [codes1, List.mem_cons, List.not_mem_nil, or_false] at hc
  rcases hc with rfl | rfl | rfl
  · exact w_c0
  · exact w_c1
  · exact w_c2
set_option maxRecDepth 65536 in
theorem w_t1 : words1.all (fun c => isCode c || c.before args0 about1) = true := by decide +kernel
theorem w_tables : (allAtoms (Jvm.Cond.code x code maxLocals ret :: tables_1)).before args0 about1 = true := by
  rw [allAtoms_all]
  show words1.all (fun c => c.before args0 about1) = true
  refine all_split ?_ w_codes
  rw [w_t1]
set_option maxRecDepth 65536 in
theorem w_case : (Jvm.Cond.and given_1 narrow_1).before args0 about1 = true := by decide +kernel
theorem w_applies : (headSpec (Jvm.Cond.code x code maxLocals ret :: tables_1) room_1).applies x e0.platform about1 = true :=
  (Spec.applies_iff w_frames).mpr ⟨w_running, w_runnable, w_alone, w_named, w_hears, w_ripe, w_room, w_tables⟩
theorem atStart : AtStart classFile x code maxLocals ret World_1 tables_1 room_1 Calls_1 rest_1 Pre_1 launch0 p0 e0 about1 theMethod args0 below0 :=
  ⟨lists_1, trivial, launch0.admits_env _ _ _, launch0.least_env, fairChoices_fair.cas, fairChoices_fair.clock, w_frames, w_args, w_heap, w_applies, trivial, trivial, w_case⟩
end start1
theorem witness_1 : WitnessClaimed_1 := ⟨start1.p0, start1.e0, start1.about1, start1.theMethod, start1.args0, start1.below0, start1.atStart⟩
end Jvm.Pilot.@@N@@
