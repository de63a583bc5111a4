import JvmDerived
import JvmDerived.Pilot.@@N@@Statement
import JvmDerived.Pilot.@@N@@Code
set_option linter.unusedVariables false
set_option linter.unusedSimpArgs false
namespace Jvm.RoadKit
open Sem ClassFile Op Lib Jvm.Stand Jvm.Free Jvm.LawKit
/-- own: from A the walk comes to its end, and there R holds -/
def OwnGo (tb : Tables) (e : Env) (below : List Frame) (R : State → Outcome → Prop) (A : State) : Prop := ∃ s₂ o, Steps tb e below A s₂ ∧ s₂.status = .running ∧ Ended s₂ below o ∧ R s₂ o
theorem OwnGo.fwd {tb : Tables} {e : Env} {below : List Frame} {R : State → Outcome → Prop} {A B : State} (h : ∀ t, Steps tb e below B t → Steps tb e below A t) (k : OwnGo tb e below R B) : OwnGo tb e below R A := by
  obtain ⟨s, o, h1, h2⟩ := k
  exact ⟨s, o, h s h1, h2⟩
theorem OwnGo.thru {tb : Tables} {e : Env} {below : List Frame} {R : State → Outcome → Prop} {A B : State} (h : Steps tb e below A B) (k : OwnGo tb e below R B) : OwnGo tb e below R A := k.fwd fun _ q => h.trans q
/-- own: what a body leaves -/
def OwnEnd (s : State) (Q : Option Value → Heap → List Loc → Prop) (k n : Nat) : State → Outcome → Prop := fun U o => ∃ v L, o = .returned v ∧ Q v U.heap L ∧ FrameEnd s o U L k n
section OwnLeaf
variable {p : Program} {l : Launch} {e : Env} {R : Room} {s : State} {m : MethodId} {args : Array Value} {below : List Frame} {meth : Method} {c : Code} {T : State} {locs : List Loc} {cells slots : Nat} {Z : State} {a0 : Array Value} {h : Heap} {Q : Option Value → Heap → List Loc → Prop} {k n : Nat}
theorem own_leaf (X : Stand p l e R s m args below meth c T locs cells slots) (hlk : meth.locks = false) {v : Option Value} (hv : meth.sig.returnType = none → v = none) {g : JFrame} (hc : cells ≤ k) (hs : slots ≤ n) (eT : T.heap = h) (hQ : Q v h locs)
    (hl : ∀ fs, (∀ (f : JFrame) (acts : List Action), f.method = m → f.locked = none → f.entered = [] → (doReturn e (T.setTop f) acts v).1 = T.setFrames fs) → Steps p.tables e below (T.setTop g) (T.setFrames fs)) :
    OwnGo p.tables e below (OwnEnd s Q k n) (T.setTop g) := by
  obtain ⟨fs, hr, hrun, hended, hW, hsame⟩ := X.leave (v := v) hv hlk
  refine ⟨_, _, hl fs hr, hrun, hended, _, _, rfl, ?_, ⟨_, rfl⟩, hW, hsame.mono hc hs⟩
  show Q v T.heap locs
  rw [eT]; exact hQ
theorem own_retI (X : Stand p l e R s m args below meth c T locs cells slots) (hlk : meth.locks = false) (hx : p.tables.exec = Jvm.exec) {pc : Nat} {Ls : Array Slot} {z : Int32} {rest : List Value} (hret : meth.sig.returnType = some .int) (hd : decode c.code pc = .ok (.ireturn, 1)) (hc : cells ≤ k) (hs : slots ≤ n) (eT : T.heap = h) (hQ : Q (some (.int z)) h locs) :
    OwnGo p.tables e below (OwnEnd s Q k n) (T.setTop (mkF m pc Ls (.int z :: rest))) := by
  refine own_leaf X hlk (fun q => by rw [hret] at q; cases q) hc hs eT hQ fun fs hl => ?_
  have hm' : T.vm.method? m = some meth := X.method'
  have hn : narrow .int (.int z) = .int z := rfl
  show Steps p.tables e below (T.setTop { method := m, pc := pc, locals := Ls, stack := _ :: rest, locked := none }) _
  jvm_step X.here [X.here.top, hx, hd, hm', hret, hn]
  first | (intro acts; rw [hl _ acts rfl rfl rfl]) | rw [hl _ _ rfl rfl rfl]
  exact Steps.refl _
theorem own_retZ (X : Stand p l e R s m args below meth c T locs cells slots) (hlk : meth.locks = false) (hx : p.tables.exec = Jvm.exec) {pc : Nat} {Ls : Array Slot} {z : Int32} {rest : List Value} (hret : meth.sig.returnType = some .boolean) (hd : decode c.code pc = .ok (.ireturn, 1)) (hc : cells ≤ k) (hs : slots ≤ n) (eT : T.heap = h) (hQ : Q (some (.int (nar .boolean z))) h locs) :
    OwnGo p.tables e below (OwnEnd s Q k n) (T.setTop (mkF m pc Ls (.int z :: rest))) :=
  own_leaf X hlk (fun q => by rw [hret] at q; cases q) hc hs eT hQ fun fs hl => retN X hx (t := .boolean) hret (by simp) hd hl
theorem own_retJ (X : Stand p l e R s m args below meth c T locs cells slots) (hlk : meth.locks = false) (hx : p.tables.exec = Jvm.exec) {pc : Nat} {Ls : Array Slot} {z : Int64} (hret : meth.sig.returnType = some .long) (hd : decode c.code pc = .ok (.lreturn, 1)) (hc : cells ≤ k) (hs : slots ≤ n) (eT : T.heap = h) (hQ : Q (some (.long z)) h locs) :
    OwnGo p.tables e below (OwnEnd s Q k n) (T.setTop (mkF m pc Ls [.long z])) :=
  own_leaf X hlk (fun q => by rw [hret] at q; cases q) hc hs eT hQ fun fs hl => X.lreturnOut hx hret hd hl
theorem own_retV (X : Stand p l e R s m args below meth c T locs cells slots) (hlk : meth.locks = false) (hx : p.tables.exec = Jvm.exec) {pc : Nat} {Ls : Array Slot} (hret : meth.sig.returnType = none) (hd : decode c.code pc = .ok (.return_, 1)) (hc : cells ≤ k) (hs : slots ≤ n) (eT : T.heap = h) (hQ : Q none h locs) :
    OwnGo p.tables e below (OwnEnd s Q k n) (T.setTop (mkF m pc Ls [])) :=
  own_leaf X hlk (fun _ => rfl) hc hs eT hQ fun fs hl => X.returnOut hx hret hd hl
theorem own_retA (X : Stand p l e R s m args below meth c T locs cells slots) (hlk : meth.locks = false) (hx : p.tables.exec = Jvm.exec) {pc : Nat} {Ls : Array Slot} {w : Value} {rest : List Value} {t : FieldType} (hret : meth.sig.returnType = some t) (ht : t.isReference = true) (hw : w.isRef = true) (hd : decode c.code pc = .ok (.areturn, 1)) (hc : cells ≤ k) (hs : slots ≤ n) (eT : T.heap = h) (hQ : Q (some w) h locs) :
    OwnGo p.tables e below (OwnEnd s Q k n) (T.setTop (mkF m pc Ls (w :: rest))) :=
  own_leaf X hlk (fun q => by rw [hret] at q; cases q) hc hs eT hQ fun fs hl => retOut X hx hret (by cases t <;> first | (cases ht; done) | rfl) (Or.inr (Or.inr (Or.inr (Or.inr ⟨rfl, ht, hw⟩)))) hd hl
/-! own: int arrays, by a function of the place -/
def OwnIA (Z : State) (h : Heap) (a : Addr) (n : Nat) (f : Nat → Int32) : Prop := ∃ c : Cell, Arr Z h a c .int ∧ c.slots.size = n ∧ n < 2147483648 ∧ ∀ i, i < n → c.slots[i]? = some (.int (f i))
theorem OwnIA.lt {a : Addr} {n : Nat} {f : Nat → Int32} (F : OwnIA Z h a n f) : a < h.size := by obtain ⟨c, A, -⟩ := F; exact A.lt
theorem OwnIA.ext {h' : Heap} {a : Addr} {n : Nat} {f : Nat → Int32} (F : OwnIA Z h a n f) (E : Ext h h') : OwnIA Z h' a n f := by obtain ⟨c, A, r⟩ := F; exact ⟨c, A.ext E, r⟩
theorem OwnIA.other {h' : Heap} {a b : Addr} {n sl : Nat} {v : Value} {f : Nat → Int32} (F : OwnIA Z h b n f) (W : Wr h h' a sl v) (q : b ≠ a) : OwnIA Z h' b n f := by obtain ⟨c, A, r⟩ := F; exact ⟨c, A.other W q, r⟩
theorem OwnIA.keep {h' : Heap} {ws : List Addr} {a : Addr} {n : Nat} {f : Nat → Int32} (F : OwnIA Z h a n f) (K : Keep h h' ws) (q : a ∉ ws) : OwnIA Z h' a n f := by obtain ⟨c, A, r⟩ := F; exact ⟨c, ⟨K.2.1 a c A.1 q, A.2⟩, r⟩
theorem OwnIA.eqv {a : Addr} {n : Nat} {f f' : Nat → Int32} (F : OwnIA Z h a n f) (q : ∀ i, i < n → f i = f' i) : OwnIA Z h a n f' := by obtain ⟨c, A, r1, r2, r3⟩ := F; exact ⟨c, A, r1, r2, fun i hi => by rw [r3 i hi, q i hi]⟩
theorem own_clamp {j : Int32} {i : Nat} (hj : j.toInt = i) : j.toNatClampNeg = i := by simp only [Int32.toNatClampNeg]; omega
theorem own_inb {c : Cell} {j : Int32} {i n : Nat} (S : c.slots.size = n) (hj : j.toInt = i) (hi : i < n) : ¬ (j < 0 ∨ c.slots.size ≤ j.toNatClampNeg) := by
  rw [own_clamp hj, S]; simp only [Int32.lt_iff_toInt_lt, Int32.reduceToInt]; omega
theorem OwnIA.new {a : Addr} {k : ClassId} {z : Int32} {i : Nat} (A : Arr Z h a (newA k .int z) .int) (hz : z.toInt = i) : OwnIA Z h a i (fun _ => 0) := by
  have q := own_clamp hz
  have r := rng32 z
  exact ⟨_, A, by rw [sz_new]; exact q, by omega, fun j hj => by simp [newA, q, hj, defaultValue]⟩
theorem own_len (X : Stand p l e R s m args below meth c T locs cells slots) (hx : p.tables.exec = Jvm.exec) (hZ : Z.Warmed39 s.vm) (eT : T.heap = h) {a : Addr} {n : Nat} {f : Nat → Int32} (V : OwnIA Z h a n f) {g : JFrame} (hg : g.method = m) {rest : List Value} (hs : g.stack = .ref a :: rest) (hd : decode c.code g.pc = .ok (.arraylength, 1)) :
    ∀ target, Steps p.tables e below (T.setTop { g with pc := g.pc + 1, stack := .int (Int32.ofNat n) :: rest }) target → Steps p.tables e below (T.setTop g) target := by
  obtain ⟨cl, A, S, -⟩ := V
  subst S
  exact X.arraylength hx (by rw [eT]; exact A.1) (State.isArrayOf_alike hZ.alike A.2.1) hg hs hd
theorem own_iaload (X : Stand p l e R s m args below meth c T locs cells slots) (hx : p.tables.exec = Jvm.exec) (hZ : Z.Warmed39 s.vm) (eT : T.heap = h) {a : Addr} {n : Nat} {f : Nat → Int32} (V : OwnIA Z h a n f) {j : Int32} {i : Nat} (hj : j.toInt = i) (hi : i < n) {g : JFrame} (hg : g.method = m) {rest : List Value} (hs : g.stack = .int j :: .ref a :: rest) (hd : decode c.code g.pc = .ok (.iaload, 1)) :
    ∀ target, Steps p.tables e below (T.setTop { g with pc := g.pc + 1, stack := .int (f i) :: rest }) target → Steps p.tables e below (T.setTop g) target := by
  obtain ⟨cl, A, S, -, H⟩ := V
  exact X.iaload hx (by rw [eT]; exact A.1) (State.isArrayOf_alike hZ.alike A.2.1) A.2.2 (own_inb S hj hi) (by rw [own_clamp hj]; exact H i hi) hg hs hd
theorem own_iastore (X : Stand p l e R s m args below meth c T locs cells slots) (hx : p.tables.exec = Jvm.exec) (hZ : Z.Warmed39 s.vm) (eT : T.heap = h) {a : Addr} {n : Nat} {f : Nat → Int32} (V : OwnIA Z h a n f) {j x : Int32} {i : Nat} (hj : j.toInt = i) (hi : i < n) {g : JFrame} (hg : g.method = m) {rest : List Value} (hs : g.stack = .int x :: .int j :: .ref a :: rest) (hd : decode c.code g.pc = .ok (.iastore, 1)) :
    ∃ T' h', Stand p l e R s m args below meth c T' (locs ++ [⟨a, i⟩]) cells slots ∧ T'.heap = h' ∧ Wr h h' a i (.int x) ∧ OwnIA Z h' a n (fun k => if k = i then x else f k) ∧ ∀ target, Steps p.tables e below (T'.setTop { g with pc := g.pc + 1, stack := rest }) target → Steps p.tables e below (T.setTop g) target := by
  obtain ⟨cl, A, S, N, H⟩ := V
  obtain ⟨T', h', X', e', W, st⟩ := stI X hx hZ eT A (own_inb S hj hi) hg hs hd
  rw [own_clamp hj] at X' W
  refine ⟨T', h', X', e', W, ⟨_, A.same W, by rw [sz_set]; exact S, N, fun k hk => ?_⟩, st⟩
  by_cases q : k = i
  · subst q; simp [Cell.setSlot, S, hk]
  · simp only [Cell.setSlot, if_neg q]; rw [Array.getElem?_setIfInBounds_ne (Ne.symm q)]; exact H k hk
theorem own_newI (X : Stand p l e R s m args below meth c T locs cells slots) (hx : p.tables.exec = Jvm.exec) (hZ : Z.Warmed39 s.vm) (w : (Cond.arrayClass .int).before a0 Z = true) (eT : T.heap = h) {g : JFrame} (hg : g.method = m) (hd : decode c.code g.pc = .ok (.newarray .int, 2)) {z : Int32} {i : Nat} {rest : List Value} (hs : g.stack = .int z :: rest)
    (hz : z.toInt = i) {cap : Nat} (hcap : i ≤ cap) (hb : cap * 8 ≤ 536870912) (hc : cells + 1 ≤ R.cells) (hl : slots + cap ≤ R.slots) :
    ∃ T' h' a, Stand p l e R s m args below meth c T' locs (cells + 1) (slots + cap) ∧ T'.heap = h' ∧ Ext h h' ∧ a = h.size ∧ OwnIA Z h' a i (fun _ => 0) ∧ ∀ target, Steps p.tables e below (T'.setTop { g with pc := g.pc + 2, stack := .ref a :: rest }) target → Steps p.tables e below (T.setTop g) target := by
  have q := own_clamp hz
  obtain ⟨T', h', cA, X', e', E, A, st⟩ := newP X hx hZ (aty := .int) w eT hg hd hs (by simp only [Int32.lt_iff_toInt_lt, Int32.reduceToInt]; omega) (cap := cap) (by omega) hb hc hl
  exact ⟨T', h', _, X', e', E, rfl, OwnIA.new A hz, st⟩
end OwnLeaf
/-! own: branches, by the ints' own numbers -/
theorem own_blt {x y : Int32} {a b : Int} (hx : x.toInt = a) (hy : y.toInt = b) (h : a < b) : if_icmp.holds .lt x y = true ∧ if_icmp.holds .ge x y = false ∧ if_icmp.holds .gt y x = true ∧ if_icmp.holds .le y x = false := tlt (by rw [Int32.lt_iff_toInt_lt]; omega)
theorem own_bnlt {x y : Int32} {a b : Int} (hx : x.toInt = a) (hy : y.toInt = b) (h : ¬ a < b) : if_icmp.holds .lt x y = false ∧ if_icmp.holds .ge x y = true ∧ if_icmp.holds .gt y x = false ∧ if_icmp.holds .le y x = true := flt (by rw [Int32.lt_iff_toInt_lt]; omega)
theorem own_beq {x y : Int32} {a b : Int} (hx : x.toInt = a) (hy : y.toInt = b) (h : a = b) : if_icmp.holds .eq x y = true ∧ if_icmp.holds .ne x y = false := teq (Int32.toInt_inj.mp (by omega))
theorem own_bneq {x y : Int32} {a b : Int} (hx : x.toInt = a) (hy : y.toInt = b) (h : ¬ a = b) : if_icmp.holds .eq x y = false ∧ if_icmp.holds .ne x y = true := feq fun q => h (by rw [← hx, ← hy, q])
theorem own_Llt {x y : Int64} {a b : Int} (hx : x.toInt = a) (hy : y.toInt = b) (h : a < b) : ifCond.holds .lt (lcmpW x y) = true ∧ ifCond.holds .ge (lcmpW x y) = false := by
  have q : x < y := by rw [Int64.lt_iff_toInt_lt]; omega
  rw [if0, if0]; exact ⟨(tlt ((lw_lt x y).mpr q)).1, (tlt ((lw_lt x y).mpr q)).2.1⟩
theorem own_Lnlt {x y : Int64} {a b : Int} (hx : x.toInt = a) (hy : y.toInt = b) (h : ¬ a < b) : ifCond.holds .lt (lcmpW x y) = false ∧ ifCond.holds .ge (lcmpW x y) = true := by
  have q : ¬ x < y := by rw [Int64.lt_iff_toInt_lt]; omega
  rw [if0, if0]; exact ⟨(flt (fun r => q ((lw_lt x y).mp r))).1, (flt (fun r => q ((lw_lt x y).mp r))).2.1⟩
theorem own_Lgt {x y : Int64} {a b : Int} (hx : x.toInt = a) (hy : y.toInt = b) (h : b < a) : ifCond.holds .gt (lcmpW x y) = true ∧ ifCond.holds .le (lcmpW x y) = false := by
  have q : y < x := by rw [Int64.lt_iff_toInt_lt]; omega
  rw [if0, if0]; exact ⟨(tlt ((lw_gt x y).mpr q)).2.2.1, (tlt ((lw_gt x y).mpr q)).2.2.2⟩
theorem own_Lngt {x y : Int64} {a b : Int} (hx : x.toInt = a) (hy : y.toInt = b) (h : ¬ b < a) : ifCond.holds .gt (lcmpW x y) = false ∧ ifCond.holds .le (lcmpW x y) = true := by
  have q : ¬ y < x := by rw [Int64.lt_iff_toInt_lt]; omega
  rw [if0, if0]; exact ⟨(flt (fun r => q ((lw_gt x y).mp r))).2.2.1, (flt (fun r => q ((lw_gt x y).mp r))).2.2.2⟩
theorem own_Leq {x y : Int64} {a b : Int} (hx : x.toInt = a) (hy : y.toInt = b) (h : a = b) : ifCond.holds .eq (lcmpW x y) = true ∧ ifCond.holds .ne (lcmpW x y) = false := by
  have q : x = y := Int64.toInt_inj.mp (by omega)
  rw [if0, if0]; exact teq ((lw_eq x y).mpr q)
theorem own_Lneq {x y : Int64} {a b : Int} (hx : x.toInt = a) (hy : y.toInt = b) (h : ¬ a = b) : ifCond.holds .eq (lcmpW x y) = false ∧ ifCond.holds .ne (lcmpW x y) = true := by
  have q : ¬ x = y := fun r => h (by rw [← hx, ← hy, r])
  rw [if0, if0]; exact feq fun r => q ((lw_eq x y).mp r)
theorem own_ofNat {i : Nat} (h : i < 2147483648) : (Int32.ofNat i).toInt = (i : Int) := Int32.toInt_ofNat_small h
theorem own_ofNatS (i : Nat) : Int32.ofNat i + 1 = Int32.ofNat (i + 1) := (Int32.ofNat_add i 1).symm
theorem own_fieldInt {args : Array Value} {s : State} {t : Term} {C n d : String} {k : Int32} {w : Addr} (ht : t.eval args s none [] s = some (.ref w)) (h : (Jvm.Cond.eq (.field t C n d) (.int k)).value args s none s [] = some true) : Fld s s.heap w C n d (.int k) := by
  apply Fld.start
  obtain ⟨x, y, hx, hy, -, k2⟩ := cmp_v (Or.inl h)
  have hy' : y = .int k := Option.some.inj (hy.symm.trans (Term.int_eval k))
  subst hy'
  obtain ⟨z, rfl⟩ : ∃ z, x = .int z := k2
  have q := gotT (Cond.eq_ints hx hy) h
  subst q
  rw [← fld_at ht]; exact hx
end Jvm.RoadKit
namespace Jvm.Pilot.@@N@@
open Jvm Jvm.ClassFile Sem Op Lib Jvm.Free Jvm.Stand Jvm.LawKit Jvm.RoadKit Bundle Jvm.Pilot.@@N@@.Jvm.D
theorem pd_0 : parseMethodDescriptor "(I)I" = some ⟨[.int], some .int⟩ := by decide +kernel
theorem d1_0 : decode prog_51_method_6_code 0 = .ok (.aload_n 0, 1) := by decide +kernel
theorem d1_1 : decode prog_51_method_6_code 1 = .ok (.getstatic 3, 3) := by decide +kernel
theorem d1_4 : decode prog_51_method_6_code 4 = .ok (.if_acmp .ne 9, 3) := by decide +kernel
theorem d1_7 : decode prog_51_method_6_code 7 = .ok (.iconst 1, 1) := by decide +kernel
theorem d1_8 : decode prog_51_method_6_code 8 = .ok (.iload_n 1, 1) := by decide +kernel
theorem d1_9 : decode prog_51_method_6_code 9 = .ok (.isub, 1) := by decide +kernel
theorem d1_10 : decode prog_51_method_6_code 10 = .ok (.goto 5, 3) := by decide +kernel
theorem d1_13 : decode prog_51_method_6_code 13 = .ok (.iload_n 1, 1) := by decide +kernel
theorem d1_14 : decode prog_51_method_6_code 14 = .ok (.ineg, 1) := by decide +kernel
theorem d1_15 : decode prog_51_method_6_code 15 = .ok (.ireturn, 1) := by decide +kernel
theorem pn_1 : plainName "com/example/cerrojo/cerrojo/Operator$Unary" = true := by first | (simp [plainName, overriddenIn]; done) | decide +kernel
theorem ef_1NOT (m : MethodId) (x0 : Addr) (x1 : Int32) : entryFrame m #[(.ref x0), (.int x1)] 2 = mkF m 0 #[.val (.ref x0), .val (.int x1)] [] := by first | (simp [entryFrame, mkF, argsToLocals, Value.category, maxLocals]; done) | rfl
def Q1NOT (Z : State) (z : Int32) (w_NOT : Addr) (w_NEGATE : Addr) (h0 : Heap) (n0 : Nat) (v : Option Value) (h : Heap) (L : List Loc) : Prop := v = some (.int (1 - z)) ∧ Fr n0 L ∧ h = h0
set_option maxRecDepth 65536 in
set_option maxHeartbeats 40000000 in
theorem rm1NOT (l : Launch) (Z : State) (a0 : Array Value) (hw : ∀ d ∈ tables_1, d.before a0 Z = true) (ws : List Jvm.Cond) (z : Int32) (w_NOT : Addr) (w_NEGATE : Addr) (h0 : Heap) (n0 : Nat) (Z0 : n0 ≤ h0.size) (S_NOT : Sta Z h0 "com/example/cerrojo/cerrojo/Operator$Unary" "NOT" "Lcom/example/cerrojo/cerrojo/Operator$Unary;" (.ref w_NOT)) (E_w_NOT : Exa Z h0 w_NOT "com/example/cerrojo/cerrojo/Operator$Unary") (O_NOT : Fld Z h0 w_NOT "java/lang/Enum" "ordinal" "I" (.int 0)) (S_NEGATE : Sta Z h0 "com/example/cerrojo/cerrojo/Operator$Unary" "NEGATE" "Lcom/example/cerrojo/cerrojo/Operator$Unary;" (.ref w_NEGATE)) (E_w_NEGATE : Exa Z h0 w_NEGATE "com/example/cerrojo/cerrojo/Operator$Unary") (O_NEGATE : Fld Z h0 w_NEGATE "java/lang/Enum" "ordinal" "I" (.int 1)) :
    MetFree l (⟨"com/example/cerrojo/cerrojo/Operator$Unary", "apply", "(I)I"⟩ : MethodName) (head1 (Jvm.Cond.code (⟨"com/example/cerrojo/cerrojo/Operator$Unary", "apply", "(I)I"⟩ : MethodName) prog_51_method_6_code 2 (some .int) :: ws) ({ frames := 0, cells := 0, slots := 0, locals := 0 } : Room)) (fun a U => a = #[(.ref w_NOT), (.int z)] ∧ Z.Warmed39 U.vm ∧ U.heap = h0) (fun _ _ _ _ _ => True) (fun _ U o U' => ∃ v L, o = .returned v ∧ (Q1NOT Z z w_NOT w_NEGATE h0 n0) v U'.heap L ∧ FrameEnd U o U' L ({ frames := 0, cells := 0, slots := 0, locals := 0 } : Room).cells ({ frames := 0, cells := 0, slots := 0, locals := 0 } : Room).slots) := by
  refine MetFree.of_bodySF (plainFor_of_name pn_1) hisR ?_
  intro p e s m args below meth c s₁ Bd hml0 hP hK
  obtain ⟨rfl, hZ, hh⟩ := hP
  have hx := Bd.exec
  have hby := Bd.bytes
  have hlk : meth.locks = false := BodyLoose.notSynchronized Bd
  have hml : c.maxLocals = 2 := hml0
  have hown : s.vm.findClass "com/example/cerrojo/cerrojo/Operator$Unary" = some m.cls := findClass_of_methodNamed Bd.named
  have hnm := (name_of_methodNamed Bd.named Bd.method).1
  have X0 : Stand p l e ({ frames := 0, cells := 0, slots := 0, locals := 0 } : Room) s m #[(.ref w_NOT), (.int z)] below meth c s₁ [] 0 0 := Stand.of_body Bd
  have e0 : s₁.heap = h0 := by rw [← hh, Bd.state]; rfl
  have N := Fr.nil n0
  have Zs := Z0
  change OwnGo p.tables e below (OwnEnd s (Q1NOT Z z w_NOT w_NEGATE h0 n0) ({ frames := 0, cells := 0, slots := 0, locals := 0 } : Room).cells ({ frames := 0, cells := 0, slots := 0, locals := 0 } : Room).slots) _
  refine OwnGo.fwd (fun t k => castTop (ef_1NOT m w_NOT z) k) ?_
  show OwnGo _ _ _ _ (s₁.setTop (mkF m 0 #[.val (.ref w_NOT), .val (.int z)] []))
  have ne_NOT_NEGATE : w_NOT ≠ w_NEGATE := Fld.ne O_NOT O_NEGATE (by decide)
  refine OwnGo.fwd (fun t k => XS.aloadN X0.here hx rfl (hb hby d1_0) rfl rfl k) ?_
  show OwnGo _ _ _ _ (s₁.setTop (mkF m 1 #[.val (.ref w_NOT), .val (.int z)] [(.ref w_NOT)]))
  obtain ⟨T1, X1, e1, st1⟩ := getS2 X0 hx hZ hown (host := "") (Or.inl (hw _ (List.mem_of_getElem? (i := 8) rfl))) Via.refl e0 S_NOT (g := (mkF m 1 #[.val (.ref w_NOT), .val (.int z)] [(.ref w_NOT)])) rfl (hb hby d1_1)
  refine OwnGo.fwd st1 ?_
  show OwnGo _ _ _ _ (T1.setTop (mkF m 4 #[.val (.ref w_NOT), .val (.int z)] [(.ref w_NOT), (.ref w_NOT)]))
  refine OwnGo.fwd (fun t k => Jvm.RoadKit.acmp (g := (mkF m 4 #[.val (.ref w_NOT), .val (.int z)] [(.ref w_NOT), (.ref w_NOT)])) X1 hx rfl rfl rfl (pc0 := 4) (pc' := 7) (same := true) rfl (hb hby d1_4) rfl (decide_eq_true rfl) (by decide) (by decide) k) ?_
  show OwnGo _ _ _ _ (T1.setTop (mkF m 7 #[.val (.ref w_NOT), .val (.int z)] []))
  refine OwnGo.fwd (fun t k => XS.iconst X1.here hx rfl (hb hby d1_7) k) ?_
  show OwnGo _ _ _ _ (T1.setTop (mkF m 8 #[.val (.ref w_NOT), .val (.int z)] [(.int (1 : Int32))]))
  refine OwnGo.fwd (fun t k => XS.iloadN X1.here hx rfl (hb hby d1_8) rfl k) ?_
  show OwnGo _ _ _ _ (T1.setTop (mkF m 9 #[.val (.ref w_NOT), .val (.int z)] [(.int z), (.int (1 : Int32))]))
  refine OwnGo.fwd (fun t k => XS.isub X1.here hx rfl (hb hby d1_9) rfl k) ?_
  show OwnGo _ _ _ _ (T1.setTop (mkF m 10 #[.val (.ref w_NOT), .val (.int z)] [(.int ((1 : Int32) - z))]))
  refine OwnGo.fwd (fun t k => XS.goto X1.here hx rfl (pc0 := 10) (pc' := 15) rfl (hb hby d1_10) (by decide) (by decide) k) ?_
  show OwnGo _ _ _ _ (T1.setTop (mkF m 15 #[.val (.ref w_NOT), .val (.int z)] [(.int ((1 : Int32) - z))]))
  exact own_retI X1 hlk hx Bd.returns (hb hby d1_15) (by decide) (by decide) e1 ⟨rfl, N, rfl⟩
theorem ef_1NEGATE (m : MethodId) (x0 : Addr) (x1 : Int32) : entryFrame m #[(.ref x0), (.int x1)] 2 = mkF m 0 #[.val (.ref x0), .val (.int x1)] [] := by first | (simp [entryFrame, mkF, argsToLocals, Value.category, maxLocals]; done) | rfl
def Q1NEGATE (Z : State) (z : Int32) (w_NOT : Addr) (w_NEGATE : Addr) (h0 : Heap) (n0 : Nat) (v : Option Value) (h : Heap) (L : List Loc) : Prop := v = some (.int (-z)) ∧ Fr n0 L ∧ h = h0
set_option maxRecDepth 65536 in
set_option maxHeartbeats 40000000 in
theorem rm1NEGATE (l : Launch) (Z : State) (a0 : Array Value) (hw : ∀ d ∈ tables_1, d.before a0 Z = true) (ws : List Jvm.Cond) (z : Int32) (w_NOT : Addr) (w_NEGATE : Addr) (h0 : Heap) (n0 : Nat) (Z0 : n0 ≤ h0.size) (S_NOT : Sta Z h0 "com/example/cerrojo/cerrojo/Operator$Unary" "NOT" "Lcom/example/cerrojo/cerrojo/Operator$Unary;" (.ref w_NOT)) (E_w_NOT : Exa Z h0 w_NOT "com/example/cerrojo/cerrojo/Operator$Unary") (O_NOT : Fld Z h0 w_NOT "java/lang/Enum" "ordinal" "I" (.int 0)) (S_NEGATE : Sta Z h0 "com/example/cerrojo/cerrojo/Operator$Unary" "NEGATE" "Lcom/example/cerrojo/cerrojo/Operator$Unary;" (.ref w_NEGATE)) (E_w_NEGATE : Exa Z h0 w_NEGATE "com/example/cerrojo/cerrojo/Operator$Unary") (O_NEGATE : Fld Z h0 w_NEGATE "java/lang/Enum" "ordinal" "I" (.int 1)) :
    MetFree l (⟨"com/example/cerrojo/cerrojo/Operator$Unary", "apply", "(I)I"⟩ : MethodName) (head1 (Jvm.Cond.code (⟨"com/example/cerrojo/cerrojo/Operator$Unary", "apply", "(I)I"⟩ : MethodName) prog_51_method_6_code 2 (some .int) :: ws) ({ frames := 0, cells := 0, slots := 0, locals := 0 } : Room)) (fun a U => a = #[(.ref w_NEGATE), (.int z)] ∧ Z.Warmed39 U.vm ∧ U.heap = h0) (fun _ _ _ _ _ => True) (fun _ U o U' => ∃ v L, o = .returned v ∧ (Q1NEGATE Z z w_NOT w_NEGATE h0 n0) v U'.heap L ∧ FrameEnd U o U' L ({ frames := 0, cells := 0, slots := 0, locals := 0 } : Room).cells ({ frames := 0, cells := 0, slots := 0, locals := 0 } : Room).slots) := by
  refine MetFree.of_bodySF (plainFor_of_name pn_1) hisR ?_
  intro p e s m args below meth c s₁ Bd hml0 hP hK
  obtain ⟨rfl, hZ, hh⟩ := hP
  have hx := Bd.exec
  have hby := Bd.bytes
  have hlk : meth.locks = false := BodyLoose.notSynchronized Bd
  have hml : c.maxLocals = 2 := hml0
  have hown : s.vm.findClass "com/example/cerrojo/cerrojo/Operator$Unary" = some m.cls := findClass_of_methodNamed Bd.named
  have hnm := (name_of_methodNamed Bd.named Bd.method).1
  have X0 : Stand p l e ({ frames := 0, cells := 0, slots := 0, locals := 0 } : Room) s m #[(.ref w_NEGATE), (.int z)] below meth c s₁ [] 0 0 := Stand.of_body Bd
  have e0 : s₁.heap = h0 := by rw [← hh, Bd.state]; rfl
  have N := Fr.nil n0
  have Zs := Z0
  change OwnGo p.tables e below (OwnEnd s (Q1NEGATE Z z w_NOT w_NEGATE h0 n0) ({ frames := 0, cells := 0, slots := 0, locals := 0 } : Room).cells ({ frames := 0, cells := 0, slots := 0, locals := 0 } : Room).slots) _
  refine OwnGo.fwd (fun t k => castTop (ef_1NEGATE m w_NEGATE z) k) ?_
  show OwnGo _ _ _ _ (s₁.setTop (mkF m 0 #[.val (.ref w_NEGATE), .val (.int z)] []))
  have ne_NOT_NEGATE : w_NOT ≠ w_NEGATE := Fld.ne O_NOT O_NEGATE (by decide)
  refine OwnGo.fwd (fun t k => XS.aloadN X0.here hx rfl (hb hby d1_0) rfl rfl k) ?_
  show OwnGo _ _ _ _ (s₁.setTop (mkF m 1 #[.val (.ref w_NEGATE), .val (.int z)] [(.ref w_NEGATE)]))
  obtain ⟨T1, X1, e1, st1⟩ := getS2 X0 hx hZ hown (host := "") (Or.inl (hw _ (List.mem_of_getElem? (i := 8) rfl))) Via.refl e0 S_NOT (g := (mkF m 1 #[.val (.ref w_NEGATE), .val (.int z)] [(.ref w_NEGATE)])) rfl (hb hby d1_1)
  refine OwnGo.fwd st1 ?_
  show OwnGo _ _ _ _ (T1.setTop (mkF m 4 #[.val (.ref w_NEGATE), .val (.int z)] [(.ref w_NOT), (.ref w_NEGATE)]))
  refine OwnGo.fwd (fun t k => Jvm.RoadKit.acmp (g := (mkF m 4 #[.val (.ref w_NEGATE), .val (.int z)] [(.ref w_NOT), (.ref w_NEGATE)])) X1 hx rfl rfl rfl (pc0 := 4) (pc' := 13) (same := false) rfl (hb hby d1_4) rfl (decide_eq_false fun q => (Ne.symm ne_NOT_NEGATE) (Value.ref.inj q)) (by decide) (by decide) k) ?_
  show OwnGo _ _ _ _ (T1.setTop (mkF m 13 #[.val (.ref w_NEGATE), .val (.int z)] []))
  refine OwnGo.fwd (fun t k => XS.iloadN X1.here hx rfl (hb hby d1_13) rfl k) ?_
  show OwnGo _ _ _ _ (T1.setTop (mkF m 14 #[.val (.ref w_NEGATE), .val (.int z)] [(.int z)]))
  refine OwnGo.fwd (fun t k => XS.ineg X1.here hx rfl (hb hby d1_14) rfl k) ?_
  show OwnGo _ _ _ _ (T1.setTop (mkF m 15 #[.val (.ref w_NEGATE), .val (.int z)] [(.int (-z))]))
  exact own_retI X1 hlk hx Bd.returns (hb hby d1_15) (by decide) (by decide) e1 ⟨rfl, N, rfl⟩
theorem pn_0 : plainName "com/example/cerrojo/cerrojo/OperatorUnaryApplyPinLaw" = true := by first | (simp [plainName, overriddenIn]; done) | decide +kernel
theorem ef_0 (m : MethodId) (x0 : Int32) (x1 : Int32) : entryFrame m #[(.int x0), (.int x1)] maxLocals = mkF m 0 #[.val (.int x0), .val (.int x1), .unset, .unset, .unset, .unset] [] := by first | (simp [entryFrame, mkF, argsToLocals, Value.category, maxLocals]; done) | rfl
def Q0 (Z : State) (p1 : Int32) (p2 : Int32) (w_NOT : Addr) (w_NEGATE : Addr) (h0 : Heap) (n0 : Nat) (v : Option Value) (h : Heap) (L : List Loc) : Prop := v = some (.int 1) ∧ Fr n0 L
set_option maxRecDepth 65536 in
set_option maxHeartbeats 40000000 in
theorem rm0 (l : Launch) (Z : State) (a0 : Array Value) (hw : ∀ d ∈ tables_1, d.before a0 Z = true) (ws : List Jvm.Cond) (p1 : Int32) (p2 : Int32) (w_NOT : Addr) (w_NEGATE : Addr) (h0 : Heap) (n0 : Nat) (Z0 : n0 ≤ h0.size) (S_NOT : Sta Z h0 "com/example/cerrojo/cerrojo/Operator$Unary" "NOT" "Lcom/example/cerrojo/cerrojo/Operator$Unary;" (.ref w_NOT)) (E_w_NOT : Exa Z h0 w_NOT "com/example/cerrojo/cerrojo/Operator$Unary") (O_NOT : Fld Z h0 w_NOT "java/lang/Enum" "ordinal" "I" (.int 0)) (S_NEGATE : Sta Z h0 "com/example/cerrojo/cerrojo/Operator$Unary" "NEGATE" "Lcom/example/cerrojo/cerrojo/Operator$Unary;" (.ref w_NEGATE)) (E_w_NEGATE : Exa Z h0 w_NEGATE "com/example/cerrojo/cerrojo/Operator$Unary") (O_NEGATE : Fld Z h0 w_NEGATE "java/lang/Enum" "ordinal" "I" (.int 1)) :
    MetFree l x (head1 (Jvm.Cond.code x code maxLocals ret :: ws) room_1) (fun a U => a = #[(.int p1), (.int p2)] ∧ Z.Warmed39 U.vm ∧ U.heap = h0) (fun _ _ _ _ _ => True) (fun _ U o U' => ∃ v L, o = .returned v ∧ (Q0 Z p1 p2 w_NOT w_NEGATE h0 n0) v U'.heap L ∧ FrameEnd U o U' L room_1.cells room_1.slots) := by
  refine MetFree.of_bodySF (plainFor_of_name pn_0) hisR ?_
  intro p e s m args below meth c s₁ Bd hml0 hP hK
  obtain ⟨rfl, hZ, hh⟩ := hP
  have hx := Bd.exec
  have hby := Bd.bytes
  have hlk : meth.locks = false := BodyLoose.notSynchronized Bd
  have hml : c.maxLocals = 6 := hml0
  have hown : s.vm.findClass "com/example/cerrojo/cerrojo/OperatorUnaryApplyPinLaw" = some m.cls := findClass_of_methodNamed Bd.named
  have hnm := (name_of_methodNamed Bd.named Bd.method).1
  have X0 : Stand p l e room_1 s m #[(.int p1), (.int p2)] below meth c s₁ [] 0 0 := Stand.of_body Bd
  have e0 : s₁.heap = h0 := by rw [← hh, Bd.state]; rfl
  have N := Fr.nil n0
  have Zs := Z0
  change OwnGo p.tables e below (OwnEnd s (Q0 Z p1 p2 w_NOT w_NEGATE h0 n0) room_1.cells room_1.slots) _
  refine OwnGo.fwd (fun t k => castTop (ef_0 m p1 p2) k) ?_
  show OwnGo _ _ _ _ (s₁.setTop (mkF m 0 #[.val (.int p1), .val (.int p2), .unset, .unset, .unset, .unset] []))
  have ne_NOT_NEGATE : w_NOT ≠ w_NEGATE := Fld.ne O_NOT O_NEGATE (by decide)
  refine OwnGo.fwd (fun t k => XS.iloadN X0.here hx rfl (hb hby at_0) rfl k) ?_
  show OwnGo _ _ _ _ (s₁.setTop (mkF m 1 #[.val (.int p1), .val (.int p2), .unset, .unset, .unset, .unset] [(.int p1)]))
  refine OwnGo.fwd (fun t k => XS.iconst X0.here hx rfl (hb hby at_1) k) ?_
  show OwnGo _ _ _ _ (s₁.setTop (mkF m 2 #[.val (.int p1), .val (.int p2), .unset, .unset, .unset, .unset] [(.int (1 : Int32)), (.int p1)]))
  refine OwnGo.fwd (fun t k => XS.iand X0.here hx rfl (hb hby at_2) rfl k) ?_
  show OwnGo _ _ _ _ (s₁.setTop (mkF m 3 #[.val (.int p1), .val (.int p2), .unset, .unset, .unset, .unset] [(.int (p1 &&& (1 : Int32)))]))
  by_cases hc3_1 : (p1 &&& (1 : Int32)).toInt = 0
  · refine OwnGo.fwd (fun t k => XS.ifYes X0.here hx rfl (pc0 := 3) (pc' := 10) rfl (hb hby at_3) rfl ((if0 _ _).trans (own_beq rfl (by decide) hc3_1).1) (by decide) (by decide) k) ?_
    show OwnGo _ _ _ _ (s₁.setTop (mkF m 10 #[.val (.int p1), .val (.int p2), .unset, .unset, .unset, .unset] []))
    refine OwnGo.fwd (fun t k => XS.iconst X0.here hx rfl (hb hby at_10) k) ?_
    show OwnGo _ _ _ _ (s₁.setTop (mkF m 11 #[.val (.int p1), .val (.int p2), .unset, .unset, .unset, .unset] [(.int (0 : Int32))]))
    refine OwnGo.fwd (fun t k => XS.istoreN X0.here hx rfl (hb hby at_11) rfl (l' := #[.val (.int p1), .val (.int p2), .val (.int (0 : Int32)), .unset, .unset, .unset]) rfl k) ?_
    show OwnGo _ _ _ _ (s₁.setTop (mkF m 12 #[.val (.int p1), .val (.int p2), .val (.int (0 : Int32)), .unset, .unset, .unset] []))
    refine OwnGo.fwd (fun t k => XS.iloadN X0.here hx rfl (hb hby at_12) rfl k) ?_
    show OwnGo _ _ _ _ (s₁.setTop (mkF m 13 #[.val (.int p1), .val (.int p2), .val (.int (0 : Int32)), .unset, .unset, .unset] [(.int (0 : Int32))]))
    have hc13_2 : (0 : Int) = (0 : Int) := rfl
    refine OwnGo.fwd (fun t k => XS.ifYes X0.here hx rfl (pc0 := 13) (pc' := 65) rfl (hb hby at_13) rfl ((if0 _ _).trans (own_beq (by decide) (by decide) hc13_2).1) (by decide) (by decide) k) ?_
    show OwnGo _ _ _ _ (s₁.setTop (mkF m 65 #[.val (.int p1), .val (.int p2), .val (.int (0 : Int32)), .unset, .unset, .unset] []))
    obtain ⟨T3, X3, e3, st3⟩ := getS2 X0 hx hZ hown (host := "") (Or.inl (hw _ (List.mem_of_getElem? (i := 0) rfl))) Via.refl e0 S_NEGATE (g := (mkF m 65 #[.val (.int p1), .val (.int p2), .val (.int (0 : Int32)), .unset, .unset, .unset] [])) rfl (hb hby at_65)
    refine OwnGo.fwd st3 ?_
    show OwnGo _ _ _ _ (T3.setTop (mkF m 68 #[.val (.int p1), .val (.int p2), .val (.int (0 : Int32)), .unset, .unset, .unset] [(.ref w_NEGATE)]))
    refine OwnGo.fwd (fun t k => XS.iloadN X3.here hx rfl (hb hby at_68) rfl k) ?_
    show OwnGo _ _ _ _ (T3.setTop (mkF m 69 #[.val (.int p1), .val (.int p2), .val (.int (0 : Int32)), .unset, .unset, .unset] [(.int p2), (.ref w_NEGATE)]))
    obtain ⟨cq4, kq4, q4a, q4b, q4c⟩ := isOf hZ e3 E_w_NEGATE
    obtain ⟨_, _, ⟨T4, L4, k4, n4⟩, -, X4, ⟨Lc4, hQ4, l4, y4, z4⟩, st4⟩ := X3.virtualBack hx (y := (⟨"com/example/cerrojo/cerrojo/Operator$Unary", "apply", "(I)I"⟩ : MethodName)) (z := (⟨"com/example/cerrojo/cerrojo/Operator$Unary", "apply", "(I)I"⟩ : MethodName)) hown (mvT hZ (hw _ (List.mem_of_getElem? (i := 3) rfl))) (mvT hZ (hw _ (List.mem_of_getElem? (i := 4) rfl))) (notFace_of_selects (args := #[]) (mvT hZ (hw _ (List.mem_of_getElem? (i := 6) rfl)))) (mvT hZ (hw _ (List.mem_of_getElem? (i := 6) rfl))) (mvT hZ (hw _ (List.mem_of_getElem? (i := 5) rfl))) (by decide) (backOf (W := 0) (rm1NEGATE l Z a0 hw [] p2 w_NOT w_NEGATE h0 n0 Zs S_NOT E_w_NOT O_NOT S_NEGATE E_w_NEGATE O_NEGATE) hZ (hw _ (List.mem_of_getElem? (i := 7) rfl)) (hw _ (List.mem_of_getElem? (i := 1) rfl)) (by decide) (by decide)) q4a q4c (g := (mkF m 69 #[.val (.int p1), .val (.int p2), .val (.int (0 : Int32)), .unset, .unset, .unset] [(.int p2), (.ref w_NEGATE)])) rfl (by rw [hml]; rfl) (Steps.refl _) (argsL := [(.int p2)]) (rest := []) (lenOf pd_0 rfl) rfl (by show 2 * 0 + _ ≤ _; exact Nat.le_of_eq rfl) (hb hby at_69) (fun _ _ => ⟨rfl, e3, (by decide : 0 + 0 ≤ _), (by decide : 0 + 0 ≤ _)⟩)
    dsimp only [Pt.U, Pt.locs, Pt.cells, Pt.slots] at X4 l4 y4 z4 st4 hQ4
    subst l4 y4 z4
    obtain ⟨rfl, N4q, e4⟩ := hQ4
    have N := Fr.app N N4q
    refine OwnGo.thru st4 ?_
    show OwnGo _ _ _ _ (T4.setTop (mkF m 72 #[.val (.int p1), .val (.int p2), .val (.int (0 : Int32)), .unset, .unset, .unset] [(.int (-p2))]))
    refine OwnGo.fwd (fun t k => XS.istoreN X4.here hx rfl (hb hby at_72) rfl (l' := #[.val (.int p1), .val (.int p2), .val (.int (0 : Int32)), .val (.int (-p2)), .unset, .unset]) rfl k) ?_
    show OwnGo _ _ _ _ (T4.setTop (mkF m 73 #[.val (.int p1), .val (.int p2), .val (.int (0 : Int32)), .val (.int (-p2)), .unset, .unset] []))
    refine OwnGo.fwd (fun t k => XS.iloadN X4.here hx rfl (hb hby at_73) rfl k) ?_
    show OwnGo _ _ _ _ (T4.setTop (mkF m 74 #[.val (.int p1), .val (.int p2), .val (.int (0 : Int32)), .val (.int (-p2)), .unset, .unset] [(.int (-p2))]))
    refine OwnGo.fwd (fun t k => XS.iloadN X4.here hx rfl (hb hby at_74) rfl k) ?_
    show OwnGo _ _ _ _ (T4.setTop (mkF m 75 #[.val (.int p1), .val (.int p2), .val (.int (0 : Int32)), .val (.int (-p2)), .unset, .unset] [(.int p2), (.int (-p2))]))
    refine OwnGo.fwd (fun t k => XS.iadd X4.here hx rfl (hb hby at_75) rfl k) ?_
    show OwnGo _ _ _ _ (T4.setTop (mkF m 76 #[.val (.int p1), .val (.int p2), .val (.int (0 : Int32)), .val (.int (-p2)), .unset, .unset] [(.int ((-p2) + p2))]))
    have hc76_5 : ((-p2) + p2).toInt = 0 := by rw [show -p2 + p2 = 0 from Int32.add_left_neg p2]; decide
    refine OwnGo.fwd (fun t k => XS.ifNo X4.here hx rfl (hb hby at_76) rfl ((if0 _ _).trans (own_beq rfl (by decide) hc76_5).2) k) ?_
    show OwnGo _ _ _ _ (T4.setTop (mkF m 79 #[.val (.int p1), .val (.int p2), .val (.int (0 : Int32)), .val (.int (-p2)), .unset, .unset] []))
    obtain ⟨T6, X6, e6, st6⟩ := getS2 X4 hx hZ hown (host := "") (Or.inl (hw _ (List.mem_of_getElem? (i := 0) rfl))) Via.refl e4 S_NEGATE (g := (mkF m 79 #[.val (.int p1), .val (.int p2), .val (.int (0 : Int32)), .val (.int (-p2)), .unset, .unset] [])) rfl (hb hby at_79)
    refine OwnGo.fwd st6 ?_
    show OwnGo _ _ _ _ (T6.setTop (mkF m 82 #[.val (.int p1), .val (.int p2), .val (.int (0 : Int32)), .val (.int (-p2)), .unset, .unset] [(.ref w_NEGATE)]))
    refine OwnGo.fwd (fun t k => XS.iloadN X6.here hx rfl (hb hby at_82) rfl k) ?_
    show OwnGo _ _ _ _ (T6.setTop (mkF m 83 #[.val (.int p1), .val (.int p2), .val (.int (0 : Int32)), .val (.int (-p2)), .unset, .unset] [(.int (-p2)), (.ref w_NEGATE)]))
    obtain ⟨cq7, kq7, q7a, q7b, q7c⟩ := isOf hZ e6 E_w_NEGATE
    obtain ⟨_, _, ⟨T7, L7, k7, n7⟩, -, X7, ⟨Lc7, hQ7, l7, y7, z7⟩, st7⟩ := X6.virtualBack hx (y := (⟨"com/example/cerrojo/cerrojo/Operator$Unary", "apply", "(I)I"⟩ : MethodName)) (z := (⟨"com/example/cerrojo/cerrojo/Operator$Unary", "apply", "(I)I"⟩ : MethodName)) hown (mvT hZ (hw _ (List.mem_of_getElem? (i := 3) rfl))) (mvT hZ (hw _ (List.mem_of_getElem? (i := 4) rfl))) (notFace_of_selects (args := #[]) (mvT hZ (hw _ (List.mem_of_getElem? (i := 6) rfl)))) (mvT hZ (hw _ (List.mem_of_getElem? (i := 6) rfl))) (mvT hZ (hw _ (List.mem_of_getElem? (i := 5) rfl))) (by decide) (backOf (W := 0) (rm1NEGATE l Z a0 hw [] (-p2) w_NOT w_NEGATE h0 n0 Zs S_NOT E_w_NOT O_NOT S_NEGATE E_w_NEGATE O_NEGATE) hZ (hw _ (List.mem_of_getElem? (i := 7) rfl)) (hw _ (List.mem_of_getElem? (i := 1) rfl)) (by decide) (by decide)) q7a q7c (g := (mkF m 83 #[.val (.int p1), .val (.int p2), .val (.int (0 : Int32)), .val (.int (-p2)), .unset, .unset] [(.int (-p2)), (.ref w_NEGATE)])) rfl (by rw [hml]; rfl) (Steps.refl _) (argsL := [(.int (-p2))]) (rest := []) (lenOf pd_0 rfl) rfl (by show 2 * 0 + _ ≤ _; exact Nat.le_of_eq rfl) (hb hby at_83) (fun _ _ => ⟨rfl, e6, (by decide : 0 + 0 ≤ _), (by decide : 0 + 0 ≤ _)⟩)
    dsimp only [Pt.U, Pt.locs, Pt.cells, Pt.slots] at X7 l7 y7 z7 st7 hQ7
    subst l7 y7 z7
    obtain ⟨rfl, N7q, e7⟩ := hQ7
    have N := Fr.app N N7q
    refine OwnGo.thru st7 ?_
    show OwnGo _ _ _ _ (T7.setTop (mkF m 86 #[.val (.int p1), .val (.int p2), .val (.int (0 : Int32)), .val (.int (-p2)), .unset, .unset] [(.int (-(-p2)))]))
    refine OwnGo.fwd (fun t k => XS.iloadN X7.here hx rfl (hb hby at_86) rfl k) ?_
    show OwnGo _ _ _ _ (T7.setTop (mkF m 87 #[.val (.int p1), .val (.int p2), .val (.int (0 : Int32)), .val (.int (-p2)), .unset, .unset] [(.int p2), (.int (-(-p2)))]))
    have hc87_8 : (-(-p2)).toInt = p2.toInt := by rw [Int32.neg_neg]
    refine OwnGo.fwd (fun t k => XS.icmpNo X7.here hx rfl (hb hby at_87) rfl (own_beq rfl rfl hc87_8).2 k) ?_
    show OwnGo _ _ _ _ (T7.setTop (mkF m 90 #[.val (.int p1), .val (.int p2), .val (.int (0 : Int32)), .val (.int (-p2)), .unset, .unset] []))
    refine OwnGo.fwd (fun t k => XS.iconst X7.here hx rfl (hb hby at_90) k) ?_
    show OwnGo _ _ _ _ (T7.setTop (mkF m 91 #[.val (.int p1), .val (.int p2), .val (.int (0 : Int32)), .val (.int (-p2)), .unset, .unset] [(.int (1 : Int32))]))
    refine OwnGo.fwd (fun t k => XS.goto X7.here hx rfl (pc0 := 91) (pc' := 95) rfl (hb hby at_91) (by decide) (by decide) k) ?_
    show OwnGo _ _ _ _ (T7.setTop (mkF m 95 #[.val (.int p1), .val (.int p2), .val (.int (0 : Int32)), .val (.int (-p2)), .unset, .unset] [(.int (1 : Int32))]))
    exact own_retZ X7 hlk hx Bd.returns (hb hby at_95) (by decide) (by decide) e7 ⟨rfl, N⟩
  · refine OwnGo.fwd (fun t k => XS.ifNo X0.here hx rfl (hb hby at_3) rfl ((if0 _ _).trans (own_bneq rfl (by decide) hc3_1).1) k) ?_
    show OwnGo _ _ _ _ (s₁.setTop (mkF m 6 #[.val (.int p1), .val (.int p2), .unset, .unset, .unset, .unset] []))
    refine OwnGo.fwd (fun t k => XS.iconst X0.here hx rfl (hb hby at_6) k) ?_
    show OwnGo _ _ _ _ (s₁.setTop (mkF m 7 #[.val (.int p1), .val (.int p2), .unset, .unset, .unset, .unset] [(.int (1 : Int32))]))
    refine OwnGo.fwd (fun t k => XS.goto X0.here hx rfl (pc0 := 7) (pc' := 11) rfl (hb hby at_7) (by decide) (by decide) k) ?_
    show OwnGo _ _ _ _ (s₁.setTop (mkF m 11 #[.val (.int p1), .val (.int p2), .unset, .unset, .unset, .unset] [(.int (1 : Int32))]))
    refine OwnGo.fwd (fun t k => XS.istoreN X0.here hx rfl (hb hby at_11) rfl (l' := #[.val (.int p1), .val (.int p2), .val (.int (1 : Int32)), .unset, .unset, .unset]) rfl k) ?_
    show OwnGo _ _ _ _ (s₁.setTop (mkF m 12 #[.val (.int p1), .val (.int p2), .val (.int (1 : Int32)), .unset, .unset, .unset] []))
    refine OwnGo.fwd (fun t k => XS.iloadN X0.here hx rfl (hb hby at_12) rfl k) ?_
    show OwnGo _ _ _ _ (s₁.setTop (mkF m 13 #[.val (.int p1), .val (.int p2), .val (.int (1 : Int32)), .unset, .unset, .unset] [(.int (1 : Int32))]))
    have hc13_9 : ¬ ((1 : Int) = (0 : Int)) := by decide
    refine OwnGo.fwd (fun t k => XS.ifNo X0.here hx rfl (hb hby at_13) rfl ((if0 _ _).trans (own_bneq (by decide) (by decide) hc13_9).1) k) ?_
    show OwnGo _ _ _ _ (s₁.setTop (mkF m 16 #[.val (.int p1), .val (.int p2), .val (.int (1 : Int32)), .unset, .unset, .unset] []))
    refine OwnGo.fwd (fun t k => XS.iloadN X0.here hx rfl (hb hby at_16) rfl k) ?_
    show OwnGo _ _ _ _ (s₁.setTop (mkF m 17 #[.val (.int p1), .val (.int p2), .val (.int (1 : Int32)), .unset, .unset, .unset] [(.int p2)]))
    refine OwnGo.fwd (fun t k => XS.iconst X0.here hx rfl (hb hby at_17) k) ?_
    show OwnGo _ _ _ _ (s₁.setTop (mkF m 18 #[.val (.int p1), .val (.int p2), .val (.int (1 : Int32)), .unset, .unset, .unset] [(.int (1 : Int32)), (.int p2)]))
    refine OwnGo.fwd (fun t k => XS.iand X0.here hx rfl (hb hby at_18) rfl k) ?_
    show OwnGo _ _ _ _ (s₁.setTop (mkF m 19 #[.val (.int p1), .val (.int p2), .val (.int (1 : Int32)), .unset, .unset, .unset] [(.int (p2 &&& (1 : Int32)))]))
    obtain ⟨bb, hv_bb⟩ : ∃ q : Int32, q = (p2 &&& (1 : Int32)) := ⟨_, rfl⟩
    rw [← hv_bb]
    show OwnGo _ _ _ _ (s₁.setTop (mkF m 19 #[.val (.int p1), .val (.int p2), .val (.int (1 : Int32)), .unset, .unset, .unset] [(.int bb)]))
    have hb01 := and_one p2
    rw [← hv_bb] at hb01
    rcases (show bb = (0 : Int32) ∨ bb = (1 : Int32) from hb01) with rfl | rfl
    · show OwnGo _ _ _ _ (s₁.setTop (mkF m 19 #[.val (.int p1), .val (.int p2), .val (.int (1 : Int32)), .unset, .unset, .unset] [(.int (0 : Int32))]))
      refine OwnGo.fwd (fun t k => XS.istoreN X0.here hx rfl (hb hby at_19) rfl (l' := #[.val (.int p1), .val (.int p2), .val (.int (1 : Int32)), .val (.int (0 : Int32)), .unset, .unset]) rfl k) ?_
      show OwnGo _ _ _ _ (s₁.setTop (mkF m 20 #[.val (.int p1), .val (.int p2), .val (.int (1 : Int32)), .val (.int (0 : Int32)), .unset, .unset] []))
      obtain ⟨T10, X10, e10, st10⟩ := getS2 X0 hx hZ hown (host := "") (Or.inl (hw _ (List.mem_of_getElem? (i := 10) rfl))) Via.refl e0 S_NOT (g := (mkF m 20 #[.val (.int p1), .val (.int p2), .val (.int (1 : Int32)), .val (.int (0 : Int32)), .unset, .unset] [])) rfl (hb hby at_20)
      refine OwnGo.fwd st10 ?_
      show OwnGo _ _ _ _ (T10.setTop (mkF m 23 #[.val (.int p1), .val (.int p2), .val (.int (1 : Int32)), .val (.int (0 : Int32)), .unset, .unset] [(.ref w_NOT)]))
      refine OwnGo.fwd (fun t k => XS.iloadN X10.here hx rfl (hb hby at_23) rfl k) ?_
      show OwnGo _ _ _ _ (T10.setTop (mkF m 24 #[.val (.int p1), .val (.int p2), .val (.int (1 : Int32)), .val (.int (0 : Int32)), .unset, .unset] [(.int (0 : Int32)), (.ref w_NOT)]))
      obtain ⟨cq11, kq11, q11a, q11b, q11c⟩ := isOf hZ e10 E_w_NOT
      obtain ⟨_, _, ⟨T11, L11, k11, n11⟩, -, X11, ⟨Lc11, hQ11, l11, y11, z11⟩, st11⟩ := X10.virtualBack hx (y := (⟨"com/example/cerrojo/cerrojo/Operator$Unary", "apply", "(I)I"⟩ : MethodName)) (z := (⟨"com/example/cerrojo/cerrojo/Operator$Unary", "apply", "(I)I"⟩ : MethodName)) hown (mvT hZ (hw _ (List.mem_of_getElem? (i := 3) rfl))) (mvT hZ (hw _ (List.mem_of_getElem? (i := 4) rfl))) (notFace_of_selects (args := #[]) (mvT hZ (hw _ (List.mem_of_getElem? (i := 6) rfl)))) (mvT hZ (hw _ (List.mem_of_getElem? (i := 6) rfl))) (mvT hZ (hw _ (List.mem_of_getElem? (i := 5) rfl))) (by decide) (backOf (W := 0) (rm1NOT l Z a0 hw [] (0 : Int32) w_NOT w_NEGATE h0 n0 Zs S_NOT E_w_NOT O_NOT S_NEGATE E_w_NEGATE O_NEGATE) hZ (hw _ (List.mem_of_getElem? (i := 7) rfl)) (hw _ (List.mem_of_getElem? (i := 1) rfl)) (by decide) (by decide)) q11a q11c (g := (mkF m 24 #[.val (.int p1), .val (.int p2), .val (.int (1 : Int32)), .val (.int (0 : Int32)), .unset, .unset] [(.int (0 : Int32)), (.ref w_NOT)])) rfl (by rw [hml]; rfl) (Steps.refl _) (argsL := [(.int (0 : Int32))]) (rest := []) (lenOf pd_0 rfl) rfl (by show 2 * 0 + _ ≤ _; exact Nat.le_of_eq rfl) (hb hby at_24) (fun _ _ => ⟨rfl, e10, (by decide : 0 + 0 ≤ _), (by decide : 0 + 0 ≤ _)⟩)
      dsimp only [Pt.U, Pt.locs, Pt.cells, Pt.slots] at X11 l11 y11 z11 st11 hQ11
      subst l11 y11 z11
      obtain ⟨rfl, N11q, e11⟩ := hQ11
      have N := Fr.app N N11q
      refine OwnGo.thru st11 ?_
      show OwnGo _ _ _ _ (T11.setTop (mkF m 27 #[.val (.int p1), .val (.int p2), .val (.int (1 : Int32)), .val (.int (0 : Int32)), .unset, .unset] [(.int (1 - (0 : Int32)))]))
      refine OwnGo.fwd (fun t k => XS.istore X11.here hx rfl (hb hby at_27) rfl (l' := #[.val (.int p1), .val (.int p2), .val (.int (1 : Int32)), .val (.int (0 : Int32)), .val (.int (1 - (0 : Int32))), .unset]) rfl k) ?_
      show OwnGo _ _ _ _ (T11.setTop (mkF m 29 #[.val (.int p1), .val (.int p2), .val (.int (1 : Int32)), .val (.int (0 : Int32)), .val (.int (1 - (0 : Int32))), .unset] []))
      refine OwnGo.fwd (fun t k => XS.iloadN X11.here hx rfl (hb hby at_29) rfl k) ?_
      show OwnGo _ _ _ _ (T11.setTop (mkF m 30 #[.val (.int p1), .val (.int p2), .val (.int (1 : Int32)), .val (.int (0 : Int32)), .val (.int (1 - (0 : Int32))), .unset] [(.int (0 : Int32))]))
      have hc30_12 : (0 : Int) = (0 : Int) := rfl
      refine OwnGo.fwd (fun t k => XS.ifNo X11.here hx rfl (hb hby at_30) rfl ((if0 _ _).trans (own_beq (by decide) (by decide) hc30_12).2) k) ?_
      show OwnGo _ _ _ _ (T11.setTop (mkF m 33 #[.val (.int p1), .val (.int p2), .val (.int (1 : Int32)), .val (.int (0 : Int32)), .val (.int (1 - (0 : Int32))), .unset] []))
      refine OwnGo.fwd (fun t k => XS.iconst X11.here hx rfl (hb hby at_33) k) ?_
      show OwnGo _ _ _ _ (T11.setTop (mkF m 34 #[.val (.int p1), .val (.int p2), .val (.int (1 : Int32)), .val (.int (0 : Int32)), .val (.int (1 - (0 : Int32))), .unset] [(.int (1 : Int32))]))
      refine OwnGo.fwd (fun t k => XS.goto X11.here hx rfl (pc0 := 34) (pc' := 38) rfl (hb hby at_34) (by decide) (by decide) k) ?_
      show OwnGo _ _ _ _ (T11.setTop (mkF m 38 #[.val (.int p1), .val (.int p2), .val (.int (1 : Int32)), .val (.int (0 : Int32)), .val (.int (1 - (0 : Int32))), .unset] [(.int (1 : Int32))]))
      refine OwnGo.fwd (fun t k => XS.istore X11.here hx rfl (hb hby at_38) rfl (l' := #[.val (.int p1), .val (.int p2), .val (.int (1 : Int32)), .val (.int (0 : Int32)), .val (.int (1 - (0 : Int32))), .val (.int (1 : Int32))]) rfl k) ?_
      show OwnGo _ _ _ _ (T11.setTop (mkF m 40 #[.val (.int p1), .val (.int p2), .val (.int (1 : Int32)), .val (.int (0 : Int32)), .val (.int (1 - (0 : Int32))), .val (.int (1 : Int32))] []))
      refine OwnGo.fwd (fun t k => XS.iload X11.here hx rfl (hb hby at_40) rfl k) ?_
      show OwnGo _ _ _ _ (T11.setTop (mkF m 42 #[.val (.int p1), .val (.int p2), .val (.int (1 : Int32)), .val (.int (0 : Int32)), .val (.int (1 - (0 : Int32))), .val (.int (1 : Int32))] [(.int (1 - (0 : Int32)))]))
      refine OwnGo.fwd (fun t k => XS.iload X11.here hx rfl (hb hby at_42) rfl k) ?_
      show OwnGo _ _ _ _ (T11.setTop (mkF m 44 #[.val (.int p1), .val (.int p2), .val (.int (1 : Int32)), .val (.int (0 : Int32)), .val (.int (1 - (0 : Int32))), .val (.int (1 : Int32))] [(.int (1 : Int32)), (.int (1 - (0 : Int32)))]))
      have hc44_13 : (1 - (0 : Int32)).toInt = 1 := by decide
      refine OwnGo.fwd (fun t k => XS.icmpNo X11.here hx rfl (hb hby at_44) rfl (own_beq rfl (by decide) hc44_13).2 k) ?_
      show OwnGo _ _ _ _ (T11.setTop (mkF m 47 #[.val (.int p1), .val (.int p2), .val (.int (1 : Int32)), .val (.int (0 : Int32)), .val (.int (1 - (0 : Int32))), .val (.int (1 : Int32))] []))
      obtain ⟨T14, X14, e14, st14⟩ := getS2 X11 hx hZ hown (host := "") (Or.inl (hw _ (List.mem_of_getElem? (i := 10) rfl))) Via.refl e11 S_NOT (g := (mkF m 47 #[.val (.int p1), .val (.int p2), .val (.int (1 : Int32)), .val (.int (0 : Int32)), .val (.int (1 - (0 : Int32))), .val (.int (1 : Int32))] [])) rfl (hb hby at_47)
      refine OwnGo.fwd st14 ?_
      show OwnGo _ _ _ _ (T14.setTop (mkF m 50 #[.val (.int p1), .val (.int p2), .val (.int (1 : Int32)), .val (.int (0 : Int32)), .val (.int (1 - (0 : Int32))), .val (.int (1 : Int32))] [(.ref w_NOT)]))
      refine OwnGo.fwd (fun t k => XS.iload X14.here hx rfl (hb hby at_50) rfl k) ?_
      show OwnGo _ _ _ _ (T14.setTop (mkF m 52 #[.val (.int p1), .val (.int p2), .val (.int (1 : Int32)), .val (.int (0 : Int32)), .val (.int (1 - (0 : Int32))), .val (.int (1 : Int32))] [(.int (1 - (0 : Int32))), (.ref w_NOT)]))
      obtain ⟨cq15, kq15, q15a, q15b, q15c⟩ := isOf hZ e14 E_w_NOT
      obtain ⟨_, _, ⟨T15, L15, k15, n15⟩, -, X15, ⟨Lc15, hQ15, l15, y15, z15⟩, st15⟩ := X14.virtualBack hx (y := (⟨"com/example/cerrojo/cerrojo/Operator$Unary", "apply", "(I)I"⟩ : MethodName)) (z := (⟨"com/example/cerrojo/cerrojo/Operator$Unary", "apply", "(I)I"⟩ : MethodName)) hown (mvT hZ (hw _ (List.mem_of_getElem? (i := 3) rfl))) (mvT hZ (hw _ (List.mem_of_getElem? (i := 4) rfl))) (notFace_of_selects (args := #[]) (mvT hZ (hw _ (List.mem_of_getElem? (i := 6) rfl)))) (mvT hZ (hw _ (List.mem_of_getElem? (i := 6) rfl))) (mvT hZ (hw _ (List.mem_of_getElem? (i := 5) rfl))) (by decide) (backOf (W := 0) (rm1NOT l Z a0 hw [] (1 - (0 : Int32)) w_NOT w_NEGATE h0 n0 Zs S_NOT E_w_NOT O_NOT S_NEGATE E_w_NEGATE O_NEGATE) hZ (hw _ (List.mem_of_getElem? (i := 7) rfl)) (hw _ (List.mem_of_getElem? (i := 1) rfl)) (by decide) (by decide)) q15a q15c (g := (mkF m 52 #[.val (.int p1), .val (.int p2), .val (.int (1 : Int32)), .val (.int (0 : Int32)), .val (.int (1 - (0 : Int32))), .val (.int (1 : Int32))] [(.int (1 - (0 : Int32))), (.ref w_NOT)])) rfl (by rw [hml]; rfl) (Steps.refl _) (argsL := [(.int (1 - (0 : Int32)))]) (rest := []) (lenOf pd_0 rfl) rfl (by show 2 * 0 + _ ≤ _; exact Nat.le_of_eq rfl) (hb hby at_52) (fun _ _ => ⟨rfl, e14, (by decide : 0 + 0 ≤ _), (by decide : 0 + 0 ≤ _)⟩)
      dsimp only [Pt.U, Pt.locs, Pt.cells, Pt.slots] at X15 l15 y15 z15 st15 hQ15
      subst l15 y15 z15
      obtain ⟨rfl, N15q, e15⟩ := hQ15
      have N := Fr.app N N15q
      refine OwnGo.thru st15 ?_
      show OwnGo _ _ _ _ (T15.setTop (mkF m 55 #[.val (.int p1), .val (.int p2), .val (.int (1 : Int32)), .val (.int (0 : Int32)), .val (.int (1 - (0 : Int32))), .val (.int (1 : Int32))] [(.int (1 - (1 - (0 : Int32))))]))
      refine OwnGo.fwd (fun t k => XS.iloadN X15.here hx rfl (hb hby at_55) rfl k) ?_
      show OwnGo _ _ _ _ (T15.setTop (mkF m 56 #[.val (.int p1), .val (.int p2), .val (.int (1 : Int32)), .val (.int (0 : Int32)), .val (.int (1 - (0 : Int32))), .val (.int (1 : Int32))] [(.int (0 : Int32)), (.int (1 - (1 - (0 : Int32))))]))
      have hc56_16 : (1 - (1 - (0 : Int32))).toInt = 0 := by decide
      refine OwnGo.fwd (fun t k => XS.icmpNo X15.here hx rfl (hb hby at_56) rfl (own_beq rfl (by decide) hc56_16).2 k) ?_
      show OwnGo _ _ _ _ (T15.setTop (mkF m 59 #[.val (.int p1), .val (.int p2), .val (.int (1 : Int32)), .val (.int (0 : Int32)), .val (.int (1 - (0 : Int32))), .val (.int (1 : Int32))] []))
      refine OwnGo.fwd (fun t k => XS.iconst X15.here hx rfl (hb hby at_59) k) ?_
      show OwnGo _ _ _ _ (T15.setTop (mkF m 60 #[.val (.int p1), .val (.int p2), .val (.int (1 : Int32)), .val (.int (0 : Int32)), .val (.int (1 - (0 : Int32))), .val (.int (1 : Int32))] [(.int (1 : Int32))]))
      refine OwnGo.fwd (fun t k => XS.goto X15.here hx rfl (pc0 := 60) (pc' := 64) rfl (hb hby at_60) (by decide) (by decide) k) ?_
      show OwnGo _ _ _ _ (T15.setTop (mkF m 64 #[.val (.int p1), .val (.int p2), .val (.int (1 : Int32)), .val (.int (0 : Int32)), .val (.int (1 - (0 : Int32))), .val (.int (1 : Int32))] [(.int (1 : Int32))]))
      exact own_retZ X15 hlk hx Bd.returns (hb hby at_64) (by decide) (by decide) e15 ⟨rfl, N⟩
    · show OwnGo _ _ _ _ (s₁.setTop (mkF m 19 #[.val (.int p1), .val (.int p2), .val (.int (1 : Int32)), .unset, .unset, .unset] [(.int (1 : Int32))]))
      refine OwnGo.fwd (fun t k => XS.istoreN X0.here hx rfl (hb hby at_19) rfl (l' := #[.val (.int p1), .val (.int p2), .val (.int (1 : Int32)), .val (.int (1 : Int32)), .unset, .unset]) rfl k) ?_
      show OwnGo _ _ _ _ (s₁.setTop (mkF m 20 #[.val (.int p1), .val (.int p2), .val (.int (1 : Int32)), .val (.int (1 : Int32)), .unset, .unset] []))
      obtain ⟨T17, X17, e17, st17⟩ := getS2 X0 hx hZ hown (host := "") (Or.inl (hw _ (List.mem_of_getElem? (i := 10) rfl))) Via.refl e0 S_NOT (g := (mkF m 20 #[.val (.int p1), .val (.int p2), .val (.int (1 : Int32)), .val (.int (1 : Int32)), .unset, .unset] [])) rfl (hb hby at_20)
      refine OwnGo.fwd st17 ?_
      show OwnGo _ _ _ _ (T17.setTop (mkF m 23 #[.val (.int p1), .val (.int p2), .val (.int (1 : Int32)), .val (.int (1 : Int32)), .unset, .unset] [(.ref w_NOT)]))
      refine OwnGo.fwd (fun t k => XS.iloadN X17.here hx rfl (hb hby at_23) rfl k) ?_
      show OwnGo _ _ _ _ (T17.setTop (mkF m 24 #[.val (.int p1), .val (.int p2), .val (.int (1 : Int32)), .val (.int (1 : Int32)), .unset, .unset] [(.int (1 : Int32)), (.ref w_NOT)]))
      obtain ⟨cq18, kq18, q18a, q18b, q18c⟩ := isOf hZ e17 E_w_NOT
      obtain ⟨_, _, ⟨T18, L18, k18, n18⟩, -, X18, ⟨Lc18, hQ18, l18, y18, z18⟩, st18⟩ := X17.virtualBack hx (y := (⟨"com/example/cerrojo/cerrojo/Operator$Unary", "apply", "(I)I"⟩ : MethodName)) (z := (⟨"com/example/cerrojo/cerrojo/Operator$Unary", "apply", "(I)I"⟩ : MethodName)) hown (mvT hZ (hw _ (List.mem_of_getElem? (i := 3) rfl))) (mvT hZ (hw _ (List.mem_of_getElem? (i := 4) rfl))) (notFace_of_selects (args := #[]) (mvT hZ (hw _ (List.mem_of_getElem? (i := 6) rfl)))) (mvT hZ (hw _ (List.mem_of_getElem? (i := 6) rfl))) (mvT hZ (hw _ (List.mem_of_getElem? (i := 5) rfl))) (by decide) (backOf (W := 0) (rm1NOT l Z a0 hw [] (1 : Int32) w_NOT w_NEGATE h0 n0 Zs S_NOT E_w_NOT O_NOT S_NEGATE E_w_NEGATE O_NEGATE) hZ (hw _ (List.mem_of_getElem? (i := 7) rfl)) (hw _ (List.mem_of_getElem? (i := 1) rfl)) (by decide) (by decide)) q18a q18c (g := (mkF m 24 #[.val (.int p1), .val (.int p2), .val (.int (1 : Int32)), .val (.int (1 : Int32)), .unset, .unset] [(.int (1 : Int32)), (.ref w_NOT)])) rfl (by rw [hml]; rfl) (Steps.refl _) (argsL := [(.int (1 : Int32))]) (rest := []) (lenOf pd_0 rfl) rfl (by show 2 * 0 + _ ≤ _; exact Nat.le_of_eq rfl) (hb hby at_24) (fun _ _ => ⟨rfl, e17, (by decide : 0 + 0 ≤ _), (by decide : 0 + 0 ≤ _)⟩)
      dsimp only [Pt.U, Pt.locs, Pt.cells, Pt.slots] at X18 l18 y18 z18 st18 hQ18
      subst l18 y18 z18
      obtain ⟨rfl, N18q, e18⟩ := hQ18
      have N := Fr.app N N18q
      refine OwnGo.thru st18 ?_
      show OwnGo _ _ _ _ (T18.setTop (mkF m 27 #[.val (.int p1), .val (.int p2), .val (.int (1 : Int32)), .val (.int (1 : Int32)), .unset, .unset] [(.int (1 - (1 : Int32)))]))
      refine OwnGo.fwd (fun t k => XS.istore X18.here hx rfl (hb hby at_27) rfl (l' := #[.val (.int p1), .val (.int p2), .val (.int (1 : Int32)), .val (.int (1 : Int32)), .val (.int (1 - (1 : Int32))), .unset]) rfl k) ?_
      show OwnGo _ _ _ _ (T18.setTop (mkF m 29 #[.val (.int p1), .val (.int p2), .val (.int (1 : Int32)), .val (.int (1 : Int32)), .val (.int (1 - (1 : Int32))), .unset] []))
      refine OwnGo.fwd (fun t k => XS.iloadN X18.here hx rfl (hb hby at_29) rfl k) ?_
      show OwnGo _ _ _ _ (T18.setTop (mkF m 30 #[.val (.int p1), .val (.int p2), .val (.int (1 : Int32)), .val (.int (1 : Int32)), .val (.int (1 - (1 : Int32))), .unset] [(.int (1 : Int32))]))
      have hc30_19 : ¬ ((1 : Int) = (0 : Int)) := by decide
      refine OwnGo.fwd (fun t k => XS.ifYes X18.here hx rfl (pc0 := 30) (pc' := 37) rfl (hb hby at_30) rfl ((if0 _ _).trans (own_bneq (by decide) (by decide) hc30_19).2) (by decide) (by decide) k) ?_
      show OwnGo _ _ _ _ (T18.setTop (mkF m 37 #[.val (.int p1), .val (.int p2), .val (.int (1 : Int32)), .val (.int (1 : Int32)), .val (.int (1 - (1 : Int32))), .unset] []))
      refine OwnGo.fwd (fun t k => XS.iconst X18.here hx rfl (hb hby at_37) k) ?_
      show OwnGo _ _ _ _ (T18.setTop (mkF m 38 #[.val (.int p1), .val (.int p2), .val (.int (1 : Int32)), .val (.int (1 : Int32)), .val (.int (1 - (1 : Int32))), .unset] [(.int (0 : Int32))]))
      refine OwnGo.fwd (fun t k => XS.istore X18.here hx rfl (hb hby at_38) rfl (l' := #[.val (.int p1), .val (.int p2), .val (.int (1 : Int32)), .val (.int (1 : Int32)), .val (.int (1 - (1 : Int32))), .val (.int (0 : Int32))]) rfl k) ?_
      show OwnGo _ _ _ _ (T18.setTop (mkF m 40 #[.val (.int p1), .val (.int p2), .val (.int (1 : Int32)), .val (.int (1 : Int32)), .val (.int (1 - (1 : Int32))), .val (.int (0 : Int32))] []))
      refine OwnGo.fwd (fun t k => XS.iload X18.here hx rfl (hb hby at_40) rfl k) ?_
      show OwnGo _ _ _ _ (T18.setTop (mkF m 42 #[.val (.int p1), .val (.int p2), .val (.int (1 : Int32)), .val (.int (1 : Int32)), .val (.int (1 - (1 : Int32))), .val (.int (0 : Int32))] [(.int (1 - (1 : Int32)))]))
      refine OwnGo.fwd (fun t k => XS.iload X18.here hx rfl (hb hby at_42) rfl k) ?_
      show OwnGo _ _ _ _ (T18.setTop (mkF m 44 #[.val (.int p1), .val (.int p2), .val (.int (1 : Int32)), .val (.int (1 : Int32)), .val (.int (1 - (1 : Int32))), .val (.int (0 : Int32))] [(.int (0 : Int32)), (.int (1 - (1 : Int32)))]))
      have hc44_20 : (1 - (1 : Int32)).toInt = 0 := by decide
      refine OwnGo.fwd (fun t k => XS.icmpNo X18.here hx rfl (hb hby at_44) rfl (own_beq rfl (by decide) hc44_20).2 k) ?_
      show OwnGo _ _ _ _ (T18.setTop (mkF m 47 #[.val (.int p1), .val (.int p2), .val (.int (1 : Int32)), .val (.int (1 : Int32)), .val (.int (1 - (1 : Int32))), .val (.int (0 : Int32))] []))
      obtain ⟨T21, X21, e21, st21⟩ := getS2 X18 hx hZ hown (host := "") (Or.inl (hw _ (List.mem_of_getElem? (i := 10) rfl))) Via.refl e18 S_NOT (g := (mkF m 47 #[.val (.int p1), .val (.int p2), .val (.int (1 : Int32)), .val (.int (1 : Int32)), .val (.int (1 - (1 : Int32))), .val (.int (0 : Int32))] [])) rfl (hb hby at_47)
      refine OwnGo.fwd st21 ?_
      show OwnGo _ _ _ _ (T21.setTop (mkF m 50 #[.val (.int p1), .val (.int p2), .val (.int (1 : Int32)), .val (.int (1 : Int32)), .val (.int (1 - (1 : Int32))), .val (.int (0 : Int32))] [(.ref w_NOT)]))
      refine OwnGo.fwd (fun t k => XS.iload X21.here hx rfl (hb hby at_50) rfl k) ?_
      show OwnGo _ _ _ _ (T21.setTop (mkF m 52 #[.val (.int p1), .val (.int p2), .val (.int (1 : Int32)), .val (.int (1 : Int32)), .val (.int (1 - (1 : Int32))), .val (.int (0 : Int32))] [(.int (1 - (1 : Int32))), (.ref w_NOT)]))
      obtain ⟨cq22, kq22, q22a, q22b, q22c⟩ := isOf hZ e21 E_w_NOT
      obtain ⟨_, _, ⟨T22, L22, k22, n22⟩, -, X22, ⟨Lc22, hQ22, l22, y22, z22⟩, st22⟩ := X21.virtualBack hx (y := (⟨"com/example/cerrojo/cerrojo/Operator$Unary", "apply", "(I)I"⟩ : MethodName)) (z := (⟨"com/example/cerrojo/cerrojo/Operator$Unary", "apply", "(I)I"⟩ : MethodName)) hown (mvT hZ (hw _ (List.mem_of_getElem? (i := 3) rfl))) (mvT hZ (hw _ (List.mem_of_getElem? (i := 4) rfl))) (notFace_of_selects (args := #[]) (mvT hZ (hw _ (List.mem_of_getElem? (i := 6) rfl)))) (mvT hZ (hw _ (List.mem_of_getElem? (i := 6) rfl))) (mvT hZ (hw _ (List.mem_of_getElem? (i := 5) rfl))) (by decide) (backOf (W := 0) (rm1NOT l Z a0 hw [] (1 - (1 : Int32)) w_NOT w_NEGATE h0 n0 Zs S_NOT E_w_NOT O_NOT S_NEGATE E_w_NEGATE O_NEGATE) hZ (hw _ (List.mem_of_getElem? (i := 7) rfl)) (hw _ (List.mem_of_getElem? (i := 1) rfl)) (by decide) (by decide)) q22a q22c (g := (mkF m 52 #[.val (.int p1), .val (.int p2), .val (.int (1 : Int32)), .val (.int (1 : Int32)), .val (.int (1 - (1 : Int32))), .val (.int (0 : Int32))] [(.int (1 - (1 : Int32))), (.ref w_NOT)])) rfl (by rw [hml]; rfl) (Steps.refl _) (argsL := [(.int (1 - (1 : Int32)))]) (rest := []) (lenOf pd_0 rfl) rfl (by show 2 * 0 + _ ≤ _; exact Nat.le_of_eq rfl) (hb hby at_52) (fun _ _ => ⟨rfl, e21, (by decide : 0 + 0 ≤ _), (by decide : 0 + 0 ≤ _)⟩)
      dsimp only [Pt.U, Pt.locs, Pt.cells, Pt.slots] at X22 l22 y22 z22 st22 hQ22
      subst l22 y22 z22
      obtain ⟨rfl, N22q, e22⟩ := hQ22
      have N := Fr.app N N22q
      refine OwnGo.thru st22 ?_
      show OwnGo _ _ _ _ (T22.setTop (mkF m 55 #[.val (.int p1), .val (.int p2), .val (.int (1 : Int32)), .val (.int (1 : Int32)), .val (.int (1 - (1 : Int32))), .val (.int (0 : Int32))] [(.int (1 - (1 - (1 : Int32))))]))
      refine OwnGo.fwd (fun t k => XS.iloadN X22.here hx rfl (hb hby at_55) rfl k) ?_
      show OwnGo _ _ _ _ (T22.setTop (mkF m 56 #[.val (.int p1), .val (.int p2), .val (.int (1 : Int32)), .val (.int (1 : Int32)), .val (.int (1 - (1 : Int32))), .val (.int (0 : Int32))] [(.int (1 : Int32)), (.int (1 - (1 - (1 : Int32))))]))
      have hc56_23 : (1 - (1 - (1 : Int32))).toInt = 1 := by decide
      refine OwnGo.fwd (fun t k => XS.icmpNo X22.here hx rfl (hb hby at_56) rfl (own_beq rfl (by decide) hc56_23).2 k) ?_
      show OwnGo _ _ _ _ (T22.setTop (mkF m 59 #[.val (.int p1), .val (.int p2), .val (.int (1 : Int32)), .val (.int (1 : Int32)), .val (.int (1 - (1 : Int32))), .val (.int (0 : Int32))] []))
      refine OwnGo.fwd (fun t k => XS.iconst X22.here hx rfl (hb hby at_59) k) ?_
      show OwnGo _ _ _ _ (T22.setTop (mkF m 60 #[.val (.int p1), .val (.int p2), .val (.int (1 : Int32)), .val (.int (1 : Int32)), .val (.int (1 - (1 : Int32))), .val (.int (0 : Int32))] [(.int (1 : Int32))]))
      refine OwnGo.fwd (fun t k => XS.goto X22.here hx rfl (pc0 := 60) (pc' := 64) rfl (hb hby at_60) (by decide) (by decide) k) ?_
      show OwnGo _ _ _ _ (T22.setTop (mkF m 64 #[.val (.int p1), .val (.int p2), .val (.int (1 : Int32)), .val (.int (1 : Int32)), .val (.int (1 - (1 : Int32))), .val (.int (0 : Int32))] [(.int (1 : Int32))]))
      exact own_retZ X22 hlk hx Bd.returns (hb hby at_64) (by decide) (by decide) e22 ⟨rfl, N⟩
set_option maxRecDepth 65536 in
set_option maxHeartbeats 40000000 in
theorem comes_1 {Post : Tables → Env → Array Value → State → Outcome → State → Prop} (hpost : ∀ tb e args s v u, (limb_1_1.after args s (.returned v) u = true ∧ limb_1_2.after args s (.returned v) u = true ∧ True) → FrameEnd s (.returned v) u (Jvm.fieldLocs frame_1_writes args s ++ Jvm.arrayLocs frame_1_arrays args s ++ Jvm.staticLocs frame_1_statics s) 0 0 → Post tb e args s (.returned v) u) :
    ArmFor flags0 classFile x code maxLocals ret World_1 tables_1 room_1 Calls_1 rest_1 Pre_1 Post := by
  intro l hfl _ _ p e ha hc hk s m args below hf hA hF happ hP
  obtain ⟨hcalls, hrest, hpre⟩ := hP
  obtain ⟨-, -, -, hnamed, -, -, -, hat⟩ := (Spec.applies_iff hf).mp happ
  obtain ⟨hg, hn⟩ := and_e (Cond.before_iff.mp (show (Jvm.Cond.and given_1 narrow_1).before args s = true from hpre))
  obtain ⟨gc, gr0⟩ := and_e hg
  obtain ⟨ga0, gr1⟩ := and_e gr0
  obtain ⟨w0, w1, rfl⟩ : ∃ w0 w1 : Value, args = #[w0, w1] := by
    have hs : args.size = 2 := by simpa [Cond.value, given_1] using gc
    obtain ⟨L⟩ := args
    match L, hs with
    | [w0, w1], _ => exact ⟨w0, w1, rfl⟩
  have hw := fun d (hd : d ∈ tables_1) => atoms_spec (ws := Jvm.Cond.code x code maxLocals ret :: tables_1) hat d (List.mem_cons_of_mem _ hd)
  have hfit : Fit s := fun {y c} hc i hi => by
    obtain ⟨ha, rfl⟩ := Array.getElem?_eq_some_iff.mp hc
    have q := List.all_eq_true.mp ((Array.all_eq_true_iff_forall_mem.mp hF) _ (Array.getElem_mem ha)) i (List.mem_range.mpr hi)
    simpa [Array.getElem?_eq_getElem hi] using q
  obtain ⟨i0, ei0⟩ := is_v ga0
  obtain rfl : w0 = (.int i0) := Option.some.inj ei0
  obtain ⟨i1, ei1⟩ := is_v gr1
  obtain rfl : w1 = (.int i1) := Option.some.inj ei1
  obtain ⟨cx_NEGATE, cr0⟩ := and_e hn
  obtain ⟨cx_NOT, cr1⟩ := and_e cr0
  obtain ⟨co_NEGATE, cr2⟩ := and_e cr1
  have co_NOT := cr2
  obtain ⟨w_NOT, ev_NOT⟩ := exa_v cx_NOT
  have S_NOT : Sta s s.heap "com/example/cerrojo/cerrojo/Operator$Unary" "NOT" "Lcom/example/cerrojo/cerrojo/Operator$Unary;" (.ref w_NOT) := Sta.start ev_NOT (Or.inr ⟨(hw _ (List.mem_of_getElem? (i := 1) rfl)), (hw _ (List.mem_of_getElem? (i := 9) rfl))⟩)
  have E_w_NOT : Exa s s.heap w_NOT "com/example/cerrojo/cerrojo/Operator$Unary" := Exa.start ev_NOT cx_NOT
  have O_NOT : Fld s s.heap w_NOT "java/lang/Enum" "ordinal" "I" (.int 0) := own_fieldInt ev_NOT co_NOT
  obtain ⟨w_NEGATE, ev_NEGATE⟩ := exa_v cx_NEGATE
  have S_NEGATE : Sta s s.heap "com/example/cerrojo/cerrojo/Operator$Unary" "NEGATE" "Lcom/example/cerrojo/cerrojo/Operator$Unary;" (.ref w_NEGATE) := Sta.start ev_NEGATE (Or.inr ⟨(hw _ (List.mem_of_getElem? (i := 1) rfl)), (hw _ (List.mem_of_getElem? (i := 2) rfl))⟩)
  have E_w_NEGATE : Exa s s.heap w_NEGATE "com/example/cerrojo/cerrojo/Operator$Unary" := Exa.start ev_NEGATE cx_NEGATE
  have O_NEGATE : Fld s s.heap w_NEGATE "java/lang/Enum" "ordinal" "I" (.int 1) := own_fieldInt ev_NEGATE co_NEGATE
  obtain ⟨n, o, h1, h2, h3, _, L, rfl, ⟨rfl, N⟩, hq⟩ := rm0 l s _ hw tables_1 i0 i1 w_NOT w_NEGATE s.heap s.heap.size (Nat.le_refl _) S_NOT E_w_NOT O_NOT S_NEGATE E_w_NEGATE O_NEGATE p e ha hc hk s m _ below hf ((Spec.applies_iff_loose hf).mp happ).1 ⟨rfl, State.Warmed39.refl s, rfl⟩ trivial
  refine ⟨n, _, h1, h2, h3, hpost _ _ _ _ _ _ ⟨Cond.after_iff.mpr rfl, Cond.after_iff.mpr (eq_i res_at (Term.int_eval (1)) rfl), trivial⟩ ⟨hq.1, hq.2.1, (hq.2.2.sift fun y hy => Or.inr (N y hy)).mono (by decide) (by decide)⟩⟩
theorem main_1_1 : Claimed_1_1 := comes_1 fun _ _ _ _ _ _ h hF => ⟨h.1, hF⟩
theorem main_1_2 : Claimed_1_2 := comes_1 fun _ _ _ _ _ _ h hF => ⟨h.2.1, hF⟩
end Jvm.Pilot.@@N@@
namespace Jvm.Pilot.@@N@@
open Jvm Jvm.ClassFile Sem Op Lib Jvm.Free Jvm.Stand Jvm.Pilot.@@N@@.Jvm.D
/-! MADE BY PROGRAM (witnessworld.py) out of the Statement's table words and the real class files: 12 classes; the members and pool entries that the words name. The judged class is class 1, her method 1. -/
namespace start1
open Jvm.ClassFile
def u (s : String) : CpInfo := .utf8 (stringToUtf16 s)
/-- a pool by its gaps: so many unusable entries, then the entry; so many at the end -/
def gap : Nat → List CpInfo → List CpInfo
  | 0, r => r
  | n + 1, r => .unusable :: gap n r
def poolList (es : List (Nat × CpInfo)) (last : Nat) : List CpInfo := es.foldr (fun e r => gap e.1 (e.2 :: r)) (gap last [])
def pool (es : List (Nat × CpInfo)) (last : Nat) : Array CpInfo := ⟨poolList es last⟩
def fileOf (pool : Array CpInfo) (this : Nat) (attrs : Array Attribute := #[]) (ms : Array MethodInfo := #[]) (fl : Nat := 33) (sup : Nat := 0) (ifs : Array Nat := #[]) (fds : Array FieldInfo := #[]) : ClassFile where
  minorVersion := 0
  majorVersion := 65
  constantPool := pool
  accessFlags := fl
  thisClass := this
  superClass := sup
  interfaces := ifs
  fields := fds
  methods := ms
  attributes := attrs
def plain (name : String) (sup : Option ClassId) : Class where
  name := name
  kind := .ordinary
  loader := none
  accessFlags := 33
  super := sup
  interfaces := #[]
  cf := none
  fields := #[]
  methods := #[]
  instanceTypes := #[]
  staticTypes := #[]
  resolved := #[]
  callSites := []
  init := .initialized
  statics := none
  mirror := none

def pool0 : Array CpInfo := pool [(5, u "<init>"), (0, u "()V"), (1, .class_ 10), (1, u "java/lang/Object")] 113

def k0m0 : Method := { name := "<init>", desc := "()V", sig := { parameters := [], returnType := none }, accessFlags := 1, code := none }
/-- java/lang/Object -/
def k0 : Class := { plain "java/lang/Object" none with
  accessFlags := 33
  interfaces := #[]
  cf := some (fileOf pool0 8 #[] #[{ accessFlags := 1, nameIndex := 5, descriptorIndex := 6, attributes := #[] }] 33 0 #[] #[])
  fields := #[]
  methods := #[k0m0]
  instanceTypes := #[]
  staticTypes := #[]
  resolved := Array.replicate 124 none
  statics := none }

def pool1 : Array CpInfo := pool [(2, .class_ 4), (1, u "java/lang/Object"), (0, u "<init>"), (0, u "()V"), (0, .fieldref 8 9), (0, .class_ 10), (0, .nameAndType 11 12), (0, u "com/example/cerrojo/cerrojo/Operator$Unary"), (0, u "NOT"), (0, u "Lcom/example/cerrojo/cerrojo/Operator$Unary;"), (0, .methodref 8 14), (0, .nameAndType 15 16), (0, u "apply"), (0, u "(I)I"), (0, .fieldref 8 18), (0, .nameAndType 19 12), (0, u "NEGATE"), (0, .class_ 21), (0, u "com/example/cerrojo/cerrojo/OperatorUnaryApplyPinLaw"), (2, u "law"), (0, u "(II)Z")] 7

def k1m0 : Method := { name := "<init>", desc := "()V", sig := { parameters := [], returnType := none }, accessFlags := 2, code := none }
def k1c1 : Code := { maxStack := 2, maxLocals := 6, code := code, exceptionTable := #[], attributes := #[] }
def k1m1 : Method := { name := "law", desc := "(II)Z", sig := { parameters := [.int, .int], returnType := some .boolean }, accessFlags := 9, code := some k1c1 }
/-- com/example/cerrojo/cerrojo/OperatorUnaryApplyPinLaw -/
def k1 : Class := { plain "com/example/cerrojo/cerrojo/OperatorUnaryApplyPinLaw" (some 0) with
  accessFlags := 49
  interfaces := #[]
  cf := some (fileOf pool1 20 #[] #[{ accessFlags := 2, nameIndex := 5, descriptorIndex := 6, attributes := #[] }, { accessFlags := 9, nameIndex := 24, descriptorIndex := 25, attributes := #[] }] 49 2 #[] #[])
  fields := #[]
  methods := #[k1m0, k1m1]
  instanceTypes := #[]
  staticTypes := #[]
  resolved := Array.replicate 33 none
  statics := none }

def pool2 : Array CpInfo := pool [(1, .class_ 2), (0, u "java/lang/constant/Constable"), (0, .class_ 4), (0, u "java/lang/Object")] 6

/-- java/lang/constant/Constable -/
def k2 : Class := { plain "java/lang/constant/Constable" (some 0) with
  accessFlags := 1537
  interfaces := #[]
  cf := some (fileOf pool2 1 #[] #[] 1537 3 #[] #[])
  fields := #[]
  methods := #[]
  instanceTypes := #[]
  staticTypes := #[]
  resolved := Array.replicate 11 none
  statics := none }

def pool3 : Array CpInfo := pool [(1, .class_ 2), (0, u "java/lang/Comparable"), (0, .class_ 4), (0, u "java/lang/Object")] 7

/-- java/lang/Comparable -/
def k3 : Class := { plain "java/lang/Comparable" (some 0) with
  accessFlags := 1537
  interfaces := #[]
  cf := some (fileOf pool3 1 #[] #[] 1537 3 #[] #[])
  fields := #[]
  methods := #[]
  instanceTypes := #[]
  staticTypes := #[]
  resolved := Array.replicate 12 none
  statics := none }

def pool4 : Array CpInfo := pool [(1, .class_ 2), (0, u "java/io/Serializable"), (0, .class_ 4), (0, u "java/lang/Object")] 2

/-- java/io/Serializable -/
def k4 : Class := { plain "java/io/Serializable" (some 0) with
  accessFlags := 1537
  interfaces := #[]
  cf := some (fileOf pool4 1 #[] #[] 1537 3 #[] #[])
  fields := #[]
  methods := #[]
  instanceTypes := #[]
  staticTypes := #[]
  resolved := Array.replicate 7 none
  statics := none }

def pool5 : Array CpInfo := pool [(2, .class_ 4), (1, u "java/lang/Enum"), (0, u "name"), (0, u "Ljava/lang/String;"), (2, u "ordinal"), (0, u "I"), (1, .class_ 14), (1, u "java/lang/Object"), (4, u "hash"), (86, .class_ 108), (1, u "java/lang/Enum$EnumDesc"), (2, .class_ 112), (0, u "java/lang/constant/Constable"), (0, .class_ 114), (0, u "java/lang/Comparable"), (0, .class_ 116), (0, u "java/io/Serializable")] 87

/-- java/lang/Enum -/
def k5 : Class := { plain "java/lang/Enum" (some 0) with
  accessFlags := 1057
  interfaces := #[2, 3, 4]
  cf := some (fileOf pool5 2 #[.nestMembers #[106]] #[] 1057 12 #[111, 113, 115] #[{ accessFlags := 18, nameIndex := 5, descriptorIndex := 6, attributes := #[] }, { accessFlags := 18, nameIndex := 9, descriptorIndex := 10, attributes := #[] }, { accessFlags := 2, nameIndex := 19, descriptorIndex := 10, attributes := #[] }])
  fields := #[{ name := "name", type := (.object "java/lang/String"), accessFlags := 18, slot := 0, constantValue := 0 }, { name := "ordinal", type := .int, accessFlags := 18, slot := 1, constantValue := 0 }, { name := "hash", type := .int, accessFlags := 2, slot := 2, constantValue := 0 }]
  methods := #[]
  instanceTypes := #[(.object "java/lang/String"), .int, .int]
  staticTypes := #[]
  resolved := Array.replicate 204 none
  statics := none }

def pool6 : Array CpInfo := pool [(1, .class_ 2), (0, u "com/example/cerrojo/cerrojo/Operator$Unary"), (0, .fieldref 1 4), (0, .nameAndType 5 6), (0, u "NOT"), (0, u "Lcom/example/cerrojo/cerrojo/Operator$Unary;"), (2, u "NEGATE"), (2, u "$VALUES"), (0, u "[Lcom/example/cerrojo/cerrojo/Operator$Unary;"), (6, .class_ 22), (1, u "java/lang/Enum"), (8, u "symbol"), (0, u "Ljava/lang/String;"), (2, u "type"), (0, u "Lcom/example/cerrojo/cerrojo/Type;"), (58, u "apply"), (0, u "(I)I"), (12, .class_ 110), (0, u "com/example/cerrojo/cerrojo/Operator")] 21

def k6c0 : Code := { maxStack := 2, maxLocals := 2, code := prog_51_method_6_code, exceptionTable := #[], attributes := #[] }
def k6m0 : Method := { name := "apply", desc := "(I)I", sig := { parameters := [.int], returnType := some .int }, accessFlags := 0, code := some k6c0 }
/-- com/example/cerrojo/cerrojo/Operator$Unary -/
def k6 : Class := { plain "com/example/cerrojo/cerrojo/Operator$Unary" (some 5) with
  accessFlags := 16432
  interfaces := #[]
  cf := some (fileOf pool6 1 #[.nestHost 109] #[{ accessFlags := 0, nameIndex := 95, descriptorIndex := 96, attributes := #[] }] 16432 20 #[] #[{ accessFlags := 16409, nameIndex := 5, descriptorIndex := 6, attributes := #[] }, { accessFlags := 16409, nameIndex := 9, descriptorIndex := 6, attributes := #[] }, { accessFlags := 18, nameIndex := 31, descriptorIndex := 32, attributes := #[] }, { accessFlags := 18, nameIndex := 35, descriptorIndex := 36, attributes := #[] }, { accessFlags := 4122, nameIndex := 12, descriptorIndex := 13, attributes := #[] }])
  fields := #[{ name := "NOT", type := (.object "com/example/cerrojo/cerrojo/Operator$Unary"), accessFlags := 16409, slot := 0, constantValue := 0 }, { name := "NEGATE", type := (.object "com/example/cerrojo/cerrojo/Operator$Unary"), accessFlags := 16409, slot := 1, constantValue := 0 }, { name := "symbol", type := (.object "java/lang/String"), accessFlags := 18, slot := 3, constantValue := 0 }, { name := "type", type := (.object "com/example/cerrojo/cerrojo/Type"), accessFlags := 18, slot := 4, constantValue := 0 }, { name := "$VALUES", type := (.array (.object "com/example/cerrojo/cerrojo/Operator$Unary")), accessFlags := 4122, slot := 2, constantValue := 0 }]
  methods := #[k6m0]
  instanceTypes := #[(.object "java/lang/String"), .int, .int, (.object "java/lang/String"), (.object "com/example/cerrojo/cerrojo/Type")]
  staticTypes := #[(.object "com/example/cerrojo/cerrojo/Operator$Unary"), (.object "com/example/cerrojo/cerrojo/Operator$Unary"), (.array (.object "com/example/cerrojo/cerrojo/Operator$Unary"))]
  resolved := Array.replicate 132 none
  statics := some 0 }

def pool7 : Array CpInfo := pool [(1, u "java/lang/Cloneable"), (0, .class_ 1), (0, u "java/lang/Object"), (0, .class_ 3)] 3

/-- java/lang/Cloneable -/
def k7 : Class := { plain "java/lang/Cloneable" (some 0) with
  accessFlags := 1537
  interfaces := #[]
  cf := some (fileOf pool7 2 #[] #[] 1537 4 #[] #[])
  fields := #[]
  methods := #[]
  instanceTypes := #[]
  staticTypes := #[]
  resolved := Array.replicate 8 none
  statics := none }

/-- the primitive byte -/
def k8 : Class := { plain "byte" none with kind := .primitive 'B', accessFlags := 0x411 }
/-- [B -/
def k9 : Class := { plain "[B" (some 0) with kind := .array 8 .byte, interfaces := #[7, 4], accessFlags := 1041 }

/-- the primitive int -/
def k10 : Class := { plain "int" none with kind := .primitive 'I', accessFlags := 0x411 }
/-- [I -/
def k11 : Class := { plain "[I" (some 0) with kind := .array 10 .int, interfaces := #[7, 4], accessFlags := 1041 }

def heap : Heap := #[{ cls := 6, slots := #[.ref 1, .ref 2, .null], vm := .statics 6 },
  { cls := 6, slots := #[.null, .int 0, .int 0, .null, .null], vm := .none },
  { cls := 6, slots := #[.null, .int 1, .int 0, .null, .null], vm := .none }]
def classes : Array Class := #[k0, k1, k2, k3, k4, k5, k6, k7, k8, k9, k10, k11]
def interned : List (Array UInt16 × Addr) := []
def slotsUsed : Nat := 13
def theMethod : MethodId := ⟨1, 1⟩
def args0 : Array Value := #[.int 1, .int 5]
def aboutOver (below : List Frame) : State where
  vm := { classes := classes, interned := interned.toArray }
  heap := heap
  slotsUsed := slotsUsed
  threads := #[{ frames := .invoking theMethod args0 :: below }]
def below0 : List Frame := [.native { method := ⟨0, 0⟩, args := #[] }]
def about1 : State := aboutOver below0
def p0 : Program := .bare "" "" ""
def e0 : Env := launch0.env 0 0 0
theorem w_frames : about1.frames = Frame.invoking theMethod args0 :: below0 := rfl
set_option maxRecDepth 65536 in
theorem w_args : argsFit about1.vm theMethod args0 = true := by decide +kernel
set_option maxRecDepth 65536 in
theorem w_heap : heapFits about1 = true := by decide +kernel
set_option maxRecDepth 65536 in
theorem w_runnable : about1.curStatus? = some .runnable := by decide +kernel
set_option maxRecDepth 65536 in
theorem w_alone : about1.alone = true := by decide +kernel
set_option maxRecDepth 65536 in
theorem w_named : about1.methodNamed? x = some theMethod := by decide +kernel
set_option maxRecDepth 65536 in
theorem w_hears : about1.hears theMethod below0 = true := by decide +kernel
set_option maxRecDepth 65536 in
theorem w_ripe : about1.ripe theMethod args0 below0 = true := by decide +kernel
theorem w_running : about1.status = .running := rfl
set_option maxRecDepth 65536 in
theorem w_room : about1.hasRoom e0.platform room_1 = true :=
  launch0.hasRoom_least _ room_1 (by decide +kernel) (by decide +kernel) (by decide +kernel) (by decide +kernel) (by decide +kernel) (by decide +kernel)
theorem allAtoms_all (ts : List Jvm.Cond) (a : Array Jvm.Value) (st : Jvm.State) : (allAtoms ts).before a st = ts.all (fun c => c.before a st) := by
  induction ts with
  | nil => rfl
  | cons c t ih =>
    show (Jvm.Cond.and c (allAtoms t)).before a st = _
    rw [Jvm.Cond.before_and, ih, List.all_cons]
def words1 : List Jvm.Cond := Jvm.Cond.code x code maxLocals ret :: tables_1
/-- a 'code' word, met by the world's own term for the bytes: nothing is compared byte by byte -/
theorem code_word {y : MethodName} {bytes : ByteArray} {mx : Nat} {rt : Option FieldType} {a : Array Value} {s : State} {m : MethodId} {meth : Method} {c : Code} (h1 : s.methodNamed? y = some m) (h2 : s.vm.method? m = some meth) (h3 : meth.code = some c) (h4 : c.code = bytes)
    (h5 : (c.maxLocals == mx && c.exceptionTable.isEmpty && decide (c.maxStack ≤ mostOperands) && decide (meth.sig.returnType = rt) && !meth.locks && decide (parseMethodDescriptor y.desc = some meth.sig)) = true) : (Jvm.Cond.code y bytes mx rt).before a s = true := by
  simp only [Bool.and_eq_true, beq_iff_eq, Bool.not_eq_true', decide_eq_true_eq] at h5
  obtain ⟨⟨⟨⟨⟨g1, g2⟩, g3⟩, g4⟩, g5⟩, g6⟩ := h5
  simp [Cond.before, Cond.holds, Cond.value, h1, h2, h3, h4, g1, g2, g3, g4, g5, g6]
def isCode : Jvm.Cond → Bool
  | .code _ _ _ _ => true
  | _ => false
theorem all_split {L : List Jvm.Cond} {P : Jvm.Cond → Bool} (h1 : L.all (fun c => isCode c || P c) = true) (h2 : ∀ c ∈ L.filter isCode, P c = true) : L.all P = true := by
  refine List.all_eq_true.mpr fun c hc => ?_
  have h := List.all_eq_true.mp h1 c hc
  rcases Bool.eq_false_or_eq_true (isCode c) with hi | hi
  · exact h2 c (List.mem_filter.mpr ⟨hc, hi⟩)
  · simpa [hi] using h
set_option maxRecDepth 65536 in
theorem w_c0 : (Jvm.Cond.code x code maxLocals ret).before args0 about1 = true := code_word (m := ⟨1, 1⟩) (meth := k1m1) (c := k1c1) (by decide +kernel) rfl rfl rfl (by decide +kernel)
set_option maxRecDepth 65536 in
theorem w_c1 : (Jvm.Cond.code ({ cls := "com/example/cerrojo/cerrojo/Operator$Unary", name := "apply", desc := "(I)I" } : Jvm.MethodName) prog_51_method_6_code (2 : Nat) (Option.some Jvm.ClassFile.FieldType.int)).before args0 about1 = true := code_word (m := ⟨6, 0⟩) (meth := k6m0) (c := k6c0) (by decide +kernel) rfl rfl rfl (by decide +kernel)
def codes1 : List Jvm.Cond := [Jvm.Cond.code x code maxLocals ret, Jvm.Cond.code ({ cls := "com/example/cerrojo/cerrojo/Operator$Unary", name := "apply", desc := "(I)I" } : Jvm.MethodName) prog_51_method_6_code (2 : Nat) (Option.some Jvm.ClassFile.FieldType.int)]
set_option maxRecDepth 65536 in
theorem codes_eq : words1.filter isCode = codes1 := rfl
theorem w_codes : ∀ c ∈ words1.filter isCode, c.before args0 about1 = true := by
  rw [codes_eq]
  intro c hc
  simp only [codes1, List.mem_cons, List.not_mem_nil, or_false] at hc
  rcases hc with rfl | rfl
  · exact w_c0
  · exact w_c1
set_option maxRecDepth 65536 in
theorem w_t1 : words1.all (fun c => isCode c || c.before args0 about1) = true := by decide +kernel
theorem w_tables : (allAtoms (Jvm.Cond.code x code maxLocals ret :: tables_1)).before args0 about1 = true := by
  rw [allAtoms_all]
  show words1.all (fun c => c.before args0 about1) = true
  refine all_split ?_ w_codes
  rw [w_t1]
set_option maxRecDepth 65536 in
theorem w_case : (Jvm.Cond.and given_1 narrow_1).before args0 about1 = true := by decide +kernel
theorem w_applies : (headSpec (Jvm.Cond.code x code maxLocals ret :: tables_1) room_1).applies x e0.platform about1 = true :=
  (Spec.applies_iff w_frames).mpr ⟨w_running, w_runnable, w_alone, w_named, w_hears, w_ripe, w_room, w_tables⟩
theorem atStart : AtStart classFile x code maxLocals ret World_1 tables_1 room_1 Calls_1 rest_1 Pre_1 launch0 p0 e0 about1 theMethod args0 below0 :=
  ⟨lists_1, trivial, launch0.admits_env _ _ _, launch0.least_env, fairChoices_fair.cas, fairChoices_fair.clock, w_frames, w_args, w_heap, w_applies, trivial, trivial, w_case⟩
end start1
theorem witness_1 : WitnessClaimed_1 := ⟨start1.p0, start1.e0, start1.about1, start1.theMethod, start1.args0, start1.below0, start1.atStart⟩
end Jvm.Pilot.@@N@@
