import JvmDerived
import JvmDerived.Pilot.@@N@@Statement
import JvmDerived.Pilot.@@N@@Code
set_option linter.unusedVariables false
set_option linter.unusedSimpArgs false
namespace Jvm.Pilot.@@N@@
open Jvm Jvm.ClassFile Sem Op Lib Jvm.Free Jvm.Stand Jvm.LawKit Jvm.RoadKit Bundle Jvm.Pilot.@@N@@.Jvm.D
/-! 1. the words of the mirrors: a named value, a check, a call -/
def own_lt {α β : Type} (x : α) (f : α → Option β) : Option β := f x
def own_ck {β : Type} (P : Prop) [Decidable P] (x : Option β) : Option β := if P then x else none
def own_bd {α β : Type} (x : Option α) (f : α → Option β) : Option β := x.bind f
theorem own_lt_e {α β : Type} {x : α} {f : α → Option β} {r : β} (h : own_lt x f = some r) : ∃ v, v = x ∧ f v = some r := ⟨x, rfl, h⟩
theorem own_ck_e {β : Type} {P : Prop} [Decidable P] {x : Option β} {r : β} (h : own_ck P x = some r) : P ∧ x = some r := by
  unfold own_ck at h
  by_cases q : P
  · rw [if_pos q] at h; exact ⟨q, h⟩
  · rw [if_neg q] at h; cases h
theorem own_bd_e {α β : Type} {x : Option α} {f : α → Option β} {r : β} (h : own_bd x f = some r) : ∃ v, x = some v ∧ f v = some r := by
  unfold own_bd at h
  cases x with
  | none => cases h
  | some v => exact ⟨v, rfl, h⟩
abbrev own_inb {α : Type} (bs : List α) (j : Int32) : Prop := ¬ j < 0 ∧ j.toNatClampNeg < bs.length
def own_rd {α : Type} [OfNat α 0] (bs : List α) (j : Int32) : α := bs.getD j.toNatClampNeg 0
def own_wr {α : Type} (bs : List α) (j : Int32) (v : α) : List α := bs.set j.toNatClampNeg v
def own_sz {α : Type} (bs : List α) : Int32 := bs.length.toInt32
/-! 2. a run that comes to an end as Q says -/
def own_Goes (p : Program) (e : Env) (below : List Frame) (s : State) (Q : Option Value → Heap → List Loc → Prop) (ce sl : Nat) (A : State) : Prop :=
  ∃ s₂ o, Steps p.tables e below A s₂ ∧ s₂.status = .running ∧ Ended s₂ below o ∧ ∃ v L, o = .returned v ∧ Q v s₂.heap L ∧ FrameEnd s o s₂ L ce sl
section Own
variable {p : Program} {l : Launch} {e : Env} {R : Room} {s : State} {m : MethodId} {args : Array Value} {below : List Frame} {meth : Method} {c : Code} {T : State} {locs : List Loc} {cells slots : Nat} {Z : State} {h h' : Heap} {Q : Option Value → Heap → List Loc → Prop} {ce sl : Nat}
theorem own_Goes.via {A B : State} (q : ∀ t, Steps p.tables e below B t → Steps p.tables e below A t) (g : own_Goes p e below s Q ce sl B) : own_Goes p e below s Q ce sl A := by
  obtain ⟨s₂, o, h1, r⟩ := g
  exact ⟨s₂, o, q _ h1, r⟩
theorem own_Goes.tr {A B : State} (q : Steps p.tables e below A B) (g : own_Goes p e below s Q ce sl B) : own_Goes p e below s Q ce sl A := g.via fun _ k => q.trans k
theorem own_retV (X : Stand p l e R s m args below meth c T locs cells slots) (hx : p.tables.exec = Jvm.exec) {pc : Nat} {Ls : Array Slot} (hret : meth.sig.returnType = none) (hlk : meth.locks = false) (hd : decode c.code pc = .ok (.return_, 1)) (eT : T.heap = h) (hQ : Q none h locs) (hc : cells ≤ ce) (hs : slots ≤ sl) :
    own_Goes p e below s Q ce sl (T.setTop (mkF m pc Ls [])) := by
  obtain ⟨fs, hr, hrun, hended, hW, hsame⟩ := X.leave (v := none) (fun _ => rfl) hlk
  refine ⟨_, _, ?_, hrun, hended, _, _, rfl, ?_, ⟨_, rfl⟩, hW, hsame.mono hc hs⟩
  · exact X.returnOut hx hret hd hr
  · show Q none T.heap locs
    rw [eT]; exact hQ
theorem own_retI (X : Stand p l e R s m args below meth c T locs cells slots) (hx : p.tables.exec = Jvm.exec) {pc : Nat} {Ls : Array Slot} {z : Int32} {rest : List Value} (hret : meth.sig.returnType = some .int) (hlk : meth.locks = false) (hd : decode c.code pc = .ok (.ireturn, 1)) (eT : T.heap = h) (hQ : Q (some (.int z)) h locs) (hc : cells ≤ ce) (hs : slots ≤ sl) :
    own_Goes p e below s Q ce sl (T.setTop (mkF m pc Ls (.int z :: rest))) := by
  obtain ⟨fs, hr, hrun, hended, hW, hsame⟩ := X.leave (v := some (.int z)) (fun h => by rw [hret] at h; cases h) hlk
  refine ⟨_, _, ?_, hrun, hended, _, _, rfl, ?_, ⟨_, rfl⟩, hW, hsame.mono hc hs⟩
  · exact retOut X hx hret rfl (Or.inl ⟨rfl, Or.inl rfl, z, rfl⟩) hd hr
  · show Q _ T.heap locs
    rw [eT]; exact hQ
theorem own_retJ (X : Stand p l e R s m args below meth c T locs cells slots) (hx : p.tables.exec = Jvm.exec) {pc : Nat} {Ls : Array Slot} {z : Int64} {rest : List Value} (hret : meth.sig.returnType = some .long) (hlk : meth.locks = false) (hd : decode c.code pc = .ok (.lreturn, 1)) (eT : T.heap = h) (hQ : Q (some (.long z)) h locs) (hc : cells ≤ ce) (hs : slots ≤ sl) :
    own_Goes p e below s Q ce sl (T.setTop (mkF m pc Ls (.long z :: rest))) := by
  obtain ⟨fs, hr, hrun, hended, hW, hsame⟩ := X.leave (v := some (.long z)) (fun h => by rw [hret] at h; cases h) hlk
  refine ⟨_, _, ?_, hrun, hended, _, _, rfl, ?_, ⟨_, rfl⟩, hW, hsame.mono hc hs⟩
  · exact retOut X hx hret rfl (Or.inr (Or.inl ⟨rfl, rfl, z, rfl⟩)) hd hr
  · show Q _ T.heap locs
    rw [eT]; exact hQ
theorem own_retR (X : Stand p l e R s m args below meth c T locs cells slots) (hx : p.tables.exec = Jvm.exec) {pc : Nat} {Ls : Array Slot} {t : FieldType} {w : Value} {rest : List Value} (hret : meth.sig.returnType = some t) (hlk : meth.locks = false) (hd : decode c.code pc = .ok (.areturn, 1)) (ht : t.isReference = true) (eT : T.heap = h) (hw : w.isRef = true) (hQ : Q (some w) h locs) (hc : cells ≤ ce) (hs : slots ≤ sl) :
    own_Goes p e below s Q ce sl (T.setTop (mkF m pc Ls (w :: rest))) := by
  obtain ⟨fs, hr, hrun, hended, hW, hsame⟩ := X.leave (v := some w) (fun h => by rw [hret] at h; cases h) hlk
  refine ⟨_, _, ?_, hrun, hended, _, _, rfl, ?_, ⟨_, rfl⟩, hW, hsame.mono hc hs⟩
  · exact retOut X hx hret (by cases t <;> first | (cases ht; done) | rfl) (Or.inr (Or.inr (Or.inr (Or.inr ⟨rfl, ht, hw⟩)))) hd hr
  · show Q _ T.heap locs
    rw [eT]; exact hQ
theorem own_retN (X : Stand p l e R s m args below meth c T locs cells slots) (hx : p.tables.exec = Jvm.exec) {pc : Nat} {Ls : Array Slot} {z v : Int32} {t : FieldType} {rest : List Value} (hret : meth.sig.returnType = some t) (hlk : meth.locks = false) (ht : t = .boolean ∨ t = .byte ∨ t = .char ∨ t = .short) (hd : decode c.code pc = .ok (.ireturn, 1)) (eT : T.heap = h) (hv : nar t z = v) (hQ : Q (some (.int v)) h locs) (hc : cells ≤ ce) (hs : slots ≤ sl) :
    own_Goes p e below s Q ce sl (T.setTop (mkF m pc Ls (.int z :: rest))) := by
  subst hv
  obtain ⟨fs, hr, hrun, hended, hW, hsame⟩ := X.leave (v := some (.int (nar t z))) (fun h => by rw [hret] at h; cases h) hlk
  refine ⟨_, _, ?_, hrun, hended, _, _, rfl, ?_, ⟨_, rfl⟩, hW, hsame.mono hc hs⟩
  · exact retN X hx hret ht hd hr
  · show Q _ T.heap locs
    rw [eT]; exact hQ
/-! 3. single steps -/
theorem own_irem {g : JFrame} {target : State} (X : Stand p l e R s m args below meth c T locs cells slots) (hx : p.tables.exec = Jvm.exec) (hg : g.method = m) {x y : Int32} {rest : List Value} (hd : decode c.code g.pc = .ok (.irem, 1)) (hs : g.stack = .int y :: .int x :: rest) (hy : y ≠ 0)
    (hr : Steps p.tables e below (T.setTop { g with pc := g.pc + 1, stack := .int (x % y) :: rest }) target) : Steps p.tables e below (T.setTop g) target := iremM X hx hg hd hs hy hr
theorem own_lrem {g : JFrame} {target : State} (X : Stand p l e R s m args below meth c T locs cells slots) (hx : p.tables.exec = Jvm.exec) (hg : g.method = m) {x y : Int64} {rest : List Value} (hd : decode c.code g.pc = .ok (.lrem, 1)) (hs : g.stack = .long y :: .long x :: rest) (hy : y ≠ 0)
    (hr : Steps p.tables e below (T.setTop { g with pc := g.pc + 1, stack := .long (x % y) :: rest }) target) : Steps p.tables e below (T.setTop g) target :=
  XS.lrem X.here hx hg hd hs hy (by rw [lrem_mod]; exact hr)
theorem own_tltL {x y : Int64} (q : x < y) : ifCond.holds .lt (lcmpW x y) = true ∧ ifCond.holds .ge (lcmpW x y) = false := by
  rw [if0, if0]; exact ⟨(tlt ((lw_lt x y).mpr q)).1, (tlt ((lw_lt x y).mpr q)).2.1⟩
theorem own_fltL {x y : Int64} (q : ¬ x < y) : ifCond.holds .lt (lcmpW x y) = false ∧ ifCond.holds .ge (lcmpW x y) = true := by
  rw [if0, if0]; exact ⟨(flt fun z => q ((lw_lt x y).mp z)).1, (flt fun z => q ((lw_lt x y).mp z)).2.1⟩
theorem own_tgtL {x y : Int64} (q : y < x) : ifCond.holds .gt (lcmpW x y) = true ∧ ifCond.holds .le (lcmpW x y) = false := by
  rw [if0, if0]; exact ⟨(tlt ((lw_gt x y).mpr q)).2.2.1, (tlt ((lw_gt x y).mpr q)).2.2.2⟩
theorem own_fgtL {x y : Int64} (q : ¬ y < x) : ifCond.holds .gt (lcmpW x y) = false ∧ ifCond.holds .le (lcmpW x y) = true := by
  rw [if0, if0]; exact ⟨(flt fun z => q ((lw_gt x y).mp z)).2.2.1, (flt fun z => q ((lw_gt x y).mp z)).2.2.2⟩
theorem own_teqL {x y : Int64} (q : x = y) : ifCond.holds .eq (lcmpW x y) = true ∧ ifCond.holds .ne (lcmpW x y) = false := by
  rw [if0, if0]; exact ⟨(teq ((lw_eq x y).mpr q)).1, (teq ((lw_eq x y).mpr q)).2⟩
theorem own_feqL {x y : Int64} (q : ¬ x = y) : ifCond.holds .eq (lcmpW x y) = false ∧ ifCond.holds .ne (lcmpW x y) = true := by
  rw [if0, if0]; exact ⟨(feq fun z => q ((lw_eq x y).mp z)).1, (feq fun z => q ((lw_eq x y).mp z)).2⟩
theorem own_st1 {L : Array Slot} {i : Nat} {v : Value} {o : Slot} {L' : Array Slot} (hold : L[i]? = some o) (ho : One o) (hv : v.category = 1) (hL : L.setIfInBounds i (.val v) = L' := by rfl) : storeLocals L i v = some L' := hL ▸ XS.store1 hold ho hv
theorem own_privSel {s : State} {args : Array Value} {y : MethodName} {n : Nat} (wi : (Cond.instantiable y.cls n).before args s = true) (hp : s.PrivateAt y) (hinst : (Cond.instanceMethod y).before args s = true) (hy : y.cls ≠ "java/lang/invoke/MethodHandle" ∧ y.cls ≠ "java/lang/invoke/VarHandle") : (Cond.selects y.cls y y).before args s = true := by
  obtain ⟨c, k, h1, h2, -, h3, -⟩ := Cond.instantiable_spec wi
  exact selects_self_of_private h1 h2 (Bool.or_eq_false_iff.mp h3).1 hp hinst hy
theorem own_st2 {L L' : Array Slot} {i : Nat} {x : Int64} {o1 o2 : Slot} (h1 : L[i]? = some o1) (h2 : L[i + 1]? = some o2) (q1 : One o1) (q2 : One o2) (hL : (L.setIfInBounds i (.val (.long x))).setIfInBounds (i + 1) .second = L' := by rfl) : storeLocals L i (.long x) = some L' := by
  subst hL
  obtain ⟨b1, g1⟩ := Array.getElem?_eq_some_iff.mp h1
  obtain ⟨b2, g2⟩ := Array.getElem?_eq_some_iff.mp h2
  have hc : (Value.long x).category = 2 := rfl
  rcases q1 with rfl | ⟨w, rfl, hw⟩ <;> rcases q2 with rfl | ⟨w', rfl, hw'⟩ <;> simp [storeLocals, storeSelf, setAt, hc, *]
/-! 4. arrays: what lies in them, as a list -/
def own_Ar (Z : State) (h : Heap) (a : Addr) (ty : FieldType) (vs : List Value) : Prop := ∃ c : Cell, Arr Z h a c ty ∧ c.slots.toList = vs ∧ vs.length < 2 ^ 31 ∧ ∀ v ∈ vs, fits ty v = true
variable {a b : Addr} {ty : FieldType} {vs : List Value}
theorem own_Ar.lt (F : own_Ar Z h a ty vs) : a < h.size := by obtain ⟨c, A, -⟩ := F; exact A.lt
theorem own_Ar.ext (F : own_Ar Z h a ty vs) (E : Ext h h') : own_Ar Z h' a ty vs := by obtain ⟨c, A, r⟩ := F; exact ⟨c, A.ext E, r⟩
theorem own_Ar.other {k : Nat} {v : Value} (F : own_Ar Z h b ty vs) (W : Wr h h' a k v) (q : b ≠ a) : own_Ar Z h' b ty vs := by obtain ⟨c, A, r⟩ := F; exact ⟨c, A.other W q, r⟩
theorem own_Ar.keep {ws : List Addr} (F : own_Ar Z h a ty vs) (K : Keep h h' ws) (q : a ∉ ws) : own_Ar Z h' a ty vs := by obtain ⟨c, A, r⟩ := F; exact ⟨c, ⟨K.2.1 a c A.1 q, A.2⟩, r⟩
theorem own_Ar.size {c : Cell} (q : c.slots.toList = vs) : c.slots.size = vs.length := by rw [← q]; simp
theorem own_in {c : Cell} {j : Int32} (q : c.slots.toList = vs) (hj : own_inb vs j) : ¬ (j < 0 ∨ c.slots.size ≤ j.toNatClampNeg) := by
  rw [own_Ar.size q]
  rintro (r | r)
  · exact hj.1 r
  · exact absurd hj.2 (Nat.not_lt.mpr r)
theorem own_get {c : Cell} {i : Nat} (q : c.slots.toList = vs) (d : Value) (hi : i < vs.length) : c.slots[i]? = some (vs.getD i d) := by
  have e : c.slots = vs.toArray := by rw [← q]
  rw [e]
  simp [List.getD, hi]
theorem own_set {c : Cell} {i : Nat} {v : Value} (q : c.slots.toList = vs) : (c.setSlot i v).slots.toList = vs.set i v := by
  have e : c.slots = vs.toArray := by rw [← q]
  simp [Cell.setSlot, e]
theorem own_fits {i : Nat} {v : Value} (q : ∀ v ∈ vs, fits ty v = true) (hv : fits ty v = true) : ∀ u ∈ vs.set i v, fits ty u = true := fun u hu => by
  rcases List.mem_or_eq_of_mem_set hu with r | r
  · exact q u r
  · rw [r]; exact hv
theorem own_mapGet {bs : List Int32} {i : Nat} (hi : i < bs.length) : (bs.map Value.int).getD i (.int 0) = .int (bs.getD i 0) := by simp [List.getD, hi]
theorem own_mapGetJ {bs : List Int64} {i : Nat} (hi : i < bs.length) : (bs.map Value.long).getD i (.long 0) = .long (bs.getD i 0) := by simp [List.getD, hi]
theorem own_mapSet {bs : List Int32} {i : Nat} {v : Int32} : (bs.map Value.int).set i (.int v) = (bs.set i v).map Value.int := by simp
theorem own_mapSetJ {bs : List Int64} {i : Nat} {v : Int64} : (bs.map Value.long).set i (.long v) = (bs.set i v).map Value.long := by simp
theorem own_inbM {α : Type} {f : α → Value} {bs : List α} {j : Int32} (q : own_inb bs j) : own_inb (bs.map f) j := ⟨q.1, by rw [List.length_map]; exact q.2⟩
theorem own_wrk {α : Type} {bs : List α} {j : Int32} {v : α} (k : Nat) (hk : j.toNatClampNeg = k) : own_wr bs j v = bs.set k v := by rw [own_wr, hk]
theorem own_rdk {α : Type} [OfNat α 0] {bs : List α} {j : Int32} (k : Nat) (hk : j.toNatClampNeg = k) : own_rd bs j = bs.getD k 0 := by rw [own_rd, hk]
theorem own_inbk {α : Type} {bs : List α} {j : Int32} (k n : Nat) (h0 : ¬ j < 0) (hk : j.toNatClampNeg = k) (hl : bs.length = n) (hkn : k < n) : own_inb bs j := ⟨h0, by rw [hk, hl]; exact hkn⟩
theorem own_len {α : Type} {f : α → Value} {bs : List α} (X : Stand p l e R s m args below meth c T locs cells slots) (hx : p.tables.exec = Jvm.exec) (hZ : Z.Warmed39 s.vm) (eT : T.heap = h) (A : own_Ar Z h a ty (bs.map f)) {g : JFrame} (hg : g.method = m) {rest : List Value} (hs : g.stack = .ref a :: rest) (hd : decode c.code g.pc = .ok (.arraylength, 1)) {target : State}
    (hr : Steps p.tables e below (T.setTop { g with pc := g.pc + 1, stack := .int (own_sz bs) :: rest }) target) : Steps p.tables e below (T.setTop g) target := by
  obtain ⟨cl, A, q, -⟩ := A
  refine X.arraylength hx (by rw [eT]; exact A.1) (State.isArrayOf_alike hZ.alike A.2.1) hg hs hd _ ?_
  rw [own_Ar.size q, List.length_map]; exact hr
theorem own_ldI {bs : List Int32} {j v : Int32} (X : Stand p l e R s m args below meth c T locs cells slots) (hx : p.tables.exec = Jvm.exec) (hZ : Z.Warmed39 s.vm) (eT : T.heap = h) (A : own_Ar Z h a .int (bs.map Value.int)) (hj : own_inb bs j) (hv : own_rd bs j = v) {g : JFrame} (hg : g.method = m) {rest : List Value} (hs : g.stack = .int j :: .ref a :: rest) (hd : decode c.code g.pc = .ok (.iaload, 1)) {target : State}
    (hr : Steps p.tables e below (T.setTop { g with pc := g.pc + 1, stack := .int v :: rest }) target) : Steps p.tables e below (T.setTop g) target := by
  subst hv
  obtain ⟨cl, A, q, -⟩ := A
  exact X.iaload hx (by rw [eT]; exact A.1) (State.isArrayOf_alike hZ.alike A.2.1) A.2.2 (own_in q (own_inbM hj)) ((own_get q (.int 0) (own_inbM hj).2).trans (congrArg some (own_mapGet hj.2))) hg hs hd _ hr
theorem own_ldB {bs : List Int32} {j v : Int32} (X : Stand p l e R s m args below meth c T locs cells slots) (hx : p.tables.exec = Jvm.exec) (hZ : Z.Warmed39 s.vm) (eT : T.heap = h) (A : own_Ar Z h a .byte (bs.map Value.int)) (hj : own_inb bs j) (hv : own_rd bs j = v) {g : JFrame} (hg : g.method = m) {rest : List Value} (hs : g.stack = .int j :: .ref a :: rest) (hd : decode c.code g.pc = .ok (.baload, 1)) {target : State}
    (hr : Steps p.tables e below (T.setTop { g with pc := g.pc + 1, stack := .int v :: rest }) target) : Steps p.tables e below (T.setTop g) target := by
  subst hv
  obtain ⟨cl, A, q, -⟩ := A
  exact X.baloadBytes hx (by rw [eT]; exact A.1) (State.isArrayOf_alike hZ.alike A.2.1) A.2.2 (own_in q (own_inbM hj)) ((own_get q (.int 0) (own_inbM hj).2).trans (congrArg some (own_mapGet hj.2))) hg hs hd _ hr
theorem own_ldZ {bs : List Int32} {j v : Int32} (X : Stand p l e R s m args below meth c T locs cells slots) (hx : p.tables.exec = Jvm.exec) (hZ : Z.Warmed39 s.vm) (eT : T.heap = h) (A : own_Ar Z h a .boolean (bs.map Value.int)) (hj : own_inb bs j) (hv : own_rd bs j = v) {g : JFrame} (hg : g.method = m) {rest : List Value} (hs : g.stack = .int j :: .ref a :: rest) (hd : decode c.code g.pc = .ok (.baload, 1)) {target : State}
    (hr : Steps p.tables e below (T.setTop { g with pc := g.pc + 1, stack := .int v :: rest }) target) : Steps p.tables e below (T.setTop g) target := by
  subst hv
  obtain ⟨cl, A, q, -⟩ := A
  exact X.baloadBooleans hx (by rw [eT]; exact A.1) (State.isArrayOf_alike hZ.alike A.2.1) A.2.2 (own_in q (own_inbM hj)) ((own_get q (.int 0) (own_inbM hj).2).trans (congrArg some (own_mapGet hj.2))) hg hs hd _ hr
theorem own_ldJ {bs : List Int64} {j : Int32} {v : Int64} (X : Stand p l e R s m args below meth c T locs cells slots) (hx : p.tables.exec = Jvm.exec) (hZ : Z.Warmed39 s.vm) (eT : T.heap = h) (A : own_Ar Z h a .long (bs.map Value.long)) (hj : own_inb bs j) (hv : own_rd bs j = v) {g : JFrame} (hg : g.method = m) {rest : List Value} (hs : g.stack = .int j :: .ref a :: rest) (hd : decode c.code g.pc = .ok (.laload, 1)) {target : State}
    (hr : Steps p.tables e below (T.setTop { g with pc := g.pc + 1, stack := .long v :: rest }) target) : Steps p.tables e below (T.setTop g) target := by
  subst hv
  obtain ⟨cl, A, q, -⟩ := A
  exact X.laload hx (by rw [eT]; exact A.1) (State.isArrayOf_alike hZ.alike A.2.1) A.2.2 (own_in q (own_inbM hj)) ((own_get q (.long 0) (own_inbM hj).2).trans (congrArg some (own_mapGetJ hj.2))) hg hs hd _ hr
theorem own_stI {bs : List Int32} {j x : Int32} (X : Stand p l e R s m args below meth c T locs cells slots) (hx : p.tables.exec = Jvm.exec) (hZ : Z.Warmed39 s.vm) (eT : T.heap = h) (A : own_Ar Z h a .int (bs.map Value.int)) (hj : own_inb bs j) {g : JFrame} (hg : g.method = m) {rest : List Value} (hs : g.stack = .int x :: .int j :: .ref a :: rest) (hd : decode c.code g.pc = .ok (.iastore, 1)) :
    ∃ T' h', Stand p l e R s m args below meth c T' (locs ++ [⟨a, j.toNatClampNeg⟩]) cells slots ∧ T'.heap = h' ∧ Wr h h' a j.toNatClampNeg (.int x) ∧ own_Ar Z h' a .int ((own_wr bs j x).map Value.int) ∧ ∀ target, Steps p.tables e below (T'.setTop { g with pc := g.pc + 1, stack := rest }) target → Steps p.tables e below (T.setTop g) target := by
  obtain ⟨cl, A, q, r, ft⟩ := A
  obtain ⟨T', h', X', e', W, st⟩ := stI X hx hZ eT A (own_in q (own_inbM hj)) hg hs hd
  exact ⟨T', h', X', e', W, ⟨_, A.same W, (own_set q).trans own_mapSet, by simpa [own_wr] using r, own_mapSet ▸ own_fits ft rfl⟩, st⟩
theorem own_stB {bs : List Int32} {j x : Int32} (X : Stand p l e R s m args below meth c T locs cells slots) (hx : p.tables.exec = Jvm.exec) (hZ : Z.Warmed39 s.vm) (eT : T.heap = h) (A : own_Ar Z h a .byte (bs.map Value.int)) (hj : own_inb bs j) {g : JFrame} (hg : g.method = m) {rest : List Value} (hs : g.stack = .int x :: .int j :: .ref a :: rest) (hd : decode c.code g.pc = .ok (.bastore, 1)) :
    ∃ T' h', Stand p l e R s m args below meth c T' (locs ++ [⟨a, j.toNatClampNeg⟩]) cells slots ∧ T'.heap = h' ∧ Wr h h' a j.toNatClampNeg (.int x.toInt8.toInt32) ∧ own_Ar Z h' a .byte ((own_wr bs j x.toInt8.toInt32).map Value.int) ∧ ∀ target, Steps p.tables e below (T'.setTop { g with pc := g.pc + 1, stack := rest }) target → Steps p.tables e below (T.setTop g) target := by
  obtain ⟨cl, A, q, r, ft⟩ := A
  obtain ⟨T', h', X', e', W, st⟩ := stB X hx hZ eT A (own_in q (own_inbM hj)) hg hs hd
  exact ⟨T', h', X', e', W, ⟨_, A.same W, (own_set q).trans own_mapSet, by simpa [own_wr] using r, own_mapSet ▸ own_fits ft (fits_nar_byte _)⟩, st⟩
theorem own_stZ {bs : List Int32} {j x : Int32} (X : Stand p l e R s m args below meth c T locs cells slots) (hx : p.tables.exec = Jvm.exec) (hZ : Z.Warmed39 s.vm) (eT : T.heap = h) (A : own_Ar Z h a .boolean (bs.map Value.int)) (hj : own_inb bs j) {g : JFrame} (hg : g.method = m) {rest : List Value} (hs : g.stack = .int x :: .int j :: .ref a :: rest) (hd : decode c.code g.pc = .ok (.bastore, 1)) :
    ∃ T' h', Stand p l e R s m args below meth c T' (locs ++ [⟨a, j.toNatClampNeg⟩]) cells slots ∧ T'.heap = h' ∧ Wr h h' a j.toNatClampNeg (.int (x &&& 1)) ∧ own_Ar Z h' a .boolean ((own_wr bs j (x &&& 1)).map Value.int) ∧ ∀ target, Steps p.tables e below (T'.setTop { g with pc := g.pc + 1, stack := rest }) target → Steps p.tables e below (T.setTop g) target := by
  obtain ⟨cl, A, q, r, ft⟩ := A
  obtain ⟨T', h', X', e', W, st⟩ := stZ X hx hZ eT A (own_in q (own_inbM hj)) hg hs hd
  exact ⟨T', h', X', e', W, ⟨_, A.same W, (own_set q).trans own_mapSet, by simpa [own_wr] using r, own_mapSet ▸ own_fits ft (fits_nar_bool _)⟩, st⟩
theorem own_stJ {bs : List Int64} {j : Int32} {x : Int64} (X : Stand p l e R s m args below meth c T locs cells slots) (hx : p.tables.exec = Jvm.exec) (hZ : Z.Warmed39 s.vm) (eT : T.heap = h) (A : own_Ar Z h a .long (bs.map Value.long)) (hj : own_inb bs j) {g : JFrame} (hg : g.method = m) {rest : List Value} (hs : g.stack = .long x :: .int j :: .ref a :: rest) (hd : decode c.code g.pc = .ok (.lastore, 1)) :
    ∃ T' h', Stand p l e R s m args below meth c T' (locs ++ [⟨a, j.toNatClampNeg⟩]) cells slots ∧ T'.heap = h' ∧ Wr h h' a j.toNatClampNeg (.long x) ∧ own_Ar Z h' a .long ((own_wr bs j x).map Value.long) ∧ ∀ target, Steps p.tables e below (T'.setTop { g with pc := g.pc + 1, stack := rest }) target → Steps p.tables e below (T.setTop g) target := by
  obtain ⟨cl, A, q, r, ft⟩ := A
  obtain ⟨T', h', X', e', W, st⟩ := stJ X hx hZ eT A (own_in q (own_inbM hj)) hg hs hd
  exact ⟨T', h', X', e', W, ⟨_, A.same W, (own_set q).trans own_mapSetJ, by simpa [own_wr] using r, own_mapSetJ ▸ own_fits ft rfl⟩, st⟩
theorem own_newI {k : ClassId} {n : Int32} {kk : Nat} (A : Arr Z h a (newA k ty n) ty) (q : ¬ n < 0) (hd : defaultValue ty = .int 0) (hk : n.toNatClampNeg = kk) : own_Ar Z h a ty ((List.replicate kk (0 : Int32)).map Value.int) := hk ▸
  ⟨_, A, by simp [newA, hd], by rw [List.length_map, List.length_replicate]; exact (back32 q).2, fun v hv => by
    rw [List.map_replicate] at hv
    rw [(List.mem_replicate.mp hv).2, ← hd]; cases ty <;> rfl⟩
theorem own_newJ {k : ClassId} {n : Int32} {kk : Nat} (A : Arr Z h a (newA k ty n) ty) (q : ¬ n < 0) (hd : defaultValue ty = .long 0) (hk : n.toNatClampNeg = kk) : own_Ar Z h a ty ((List.replicate kk (0 : Int64)).map Value.long) := hk ▸
  ⟨_, A, by simp [newA, hd], by rw [List.length_map, List.length_replicate]; exact (back32 q).2, fun v hv => by
    rw [List.map_replicate] at hv
    rw [(List.mem_replicate.mp hv).2, ← hd]; cases ty <;> rfl⟩
end Own
theorem w0 {a0 : Array Value} {Z : State} (hw : ∀ d ∈ tables_1, d.before a0 Z = true) : ((Jvm.Cond.constantLong "com/example/no_wait_scheduler/nowaitscheduler/timetable/LeapfrogOnGridPinLaw" (7 : Nat) (4611686018427387903 : Int64))).before a0 Z = true := hw _ (List.mem_of_getElem? (i := 0) rfl)
theorem w1 {a0 : Array Value} {Z : State} (hw : ∀ d ∈ tables_1, d.before a0 Z = true) : ((Jvm.Cond.constantLong "com/example/no_wait_scheduler/nowaitscheduler/timetable/LeapfrogOnGridPinLaw" (11 : Nat) (63 : Int64))).before a0 Z = true := hw _ (List.mem_of_getElem? (i := 1) rfl)
theorem w2 {a0 : Array Value} {Z : State} (hw : ∀ d ∈ tables_1, d.before a0 Z = true) : ((Jvm.Cond.classLink "com/example/no_wait_scheduler/nowaitscheduler/timetable/LeapfrogOnGridPinLaw" (15 : Nat) "com/example/no_wait_scheduler/nowaitscheduler/timetable/Leapfrog")).before a0 Z = true := hw _ (List.mem_of_getElem? (i := 2) rfl)
theorem w3 {a0 : Array Value} {Z : State} (hw : ∀ d ∈ tables_1, d.before a0 Z = true) : ((Jvm.Cond.instantiable "com/example/no_wait_scheduler/nowaitscheduler/timetable/Leapfrog" (4 : Nat))).before a0 Z = true := hw _ (List.mem_of_getElem? (i := 3) rfl)
theorem w4 {a0 : Array Value} {Z : State} (hw : ∀ d ∈ tables_1, d.before a0 Z = true) : ((Jvm.Cond.initialized "com/example/no_wait_scheduler/nowaitscheduler/timetable/Leapfrog")).before a0 Z = true := hw _ (List.mem_of_getElem? (i := 4) rfl)
theorem w5 {a0 : Array Value} {Z : State} (hw : ∀ d ∈ tables_1, d.before a0 Z = true) : ((Jvm.Cond.methodLink "com/example/no_wait_scheduler/nowaitscheduler/timetable/LeapfrogOnGridPinLaw" (17 : Nat) ({ cls := "com/example/no_wait_scheduler/nowaitscheduler/timetable/Leapfrog", name := "<init>", desc := "(J)V" } : Jvm.MethodName))).before a0 Z = true := hw _ (List.mem_of_getElem? (i := 5) rfl)
theorem w6 {a0 : Array Value} {Z : State} (hw : ∀ d ∈ tables_1, d.before a0 Z = true) : ((Jvm.Cond.instanceMethod ({ cls := "com/example/no_wait_scheduler/nowaitscheduler/timetable/Leapfrog", name := "<init>", desc := "(J)V" } : Jvm.MethodName))).before a0 Z = true := hw _ (List.mem_of_getElem? (i := 6) rfl)
theorem w7 {a0 : Array Value} {Z : State} (hw : ∀ d ∈ tables_1, d.before a0 Z = true) : ((Jvm.Cond.code ({ cls := "com/example/no_wait_scheduler/nowaitscheduler/timetable/Leapfrog", name := "<init>", desc := "(J)V" } : Jvm.MethodName) prog_47_method_1_code (3 : Nat) (Option.none : Option Jvm.ClassFile.FieldType))).before a0 Z = true := hw _ (List.mem_of_getElem? (i := 7) rfl)
theorem w8 {a0 : Array Value} {Z : State} (hw : ∀ d ∈ tables_1, d.before a0 Z = true) : ((Jvm.Cond.methodLink "com/example/no_wait_scheduler/nowaitscheduler/timetable/Leapfrog" (1 : Nat) ({ cls := "java/lang/Object", name := "<init>", desc := "()V" } : Jvm.MethodName))).before a0 Z = true := hw _ (List.mem_of_getElem? (i := 8) rfl)
theorem w9 {a0 : Array Value} {Z : State} (hw : ∀ d ∈ tables_1, d.before a0 Z = true) : ((Jvm.Cond.instanceMethod ({ cls := "java/lang/Object", name := "<init>", desc := "()V" } : Jvm.MethodName))).before a0 Z = true := hw _ (List.mem_of_getElem? (i := 9) rfl)
theorem w10 {a0 : Array Value} {Z : State} (hw : ∀ d ∈ tables_1, d.before a0 Z = true) : ((Jvm.Cond.code ({ cls := "java/lang/Object", name := "<init>", desc := "()V" } : Jvm.MethodName) object_method_1_code (1 : Nat) (Option.none : Option Jvm.ClassFile.FieldType))).before a0 Z = true := hw _ (List.mem_of_getElem? (i := 10) rfl)
theorem w11 {a0 : Array Value} {Z : State} (hw : ∀ d ∈ tables_1, d.before a0 Z = true) : ((Jvm.Cond.arrayClass Jvm.ClassFile.FieldType.long)).before a0 Z = true := hw _ (List.mem_of_getElem? (i := 11) rfl)
theorem w12 {a0 : Array Value} {Z : State} (hw : ∀ d ∈ tables_1, d.before a0 Z = true) : ((Jvm.Cond.fieldLink "com/example/no_wait_scheduler/nowaitscheduler/timetable/Leapfrog" (7 : Nat) "com/example/no_wait_scheduler/nowaitscheduler/timetable/Leapfrog" "clearUntil" "[J")).before a0 Z = true := hw _ (List.mem_of_getElem? (i := 12) rfl)
theorem w13 {a0 : Array Value} {Z : State} (hw : ∀ d ∈ tables_1, d.before a0 Z = true) : ((Jvm.Cond.lays "com/example/no_wait_scheduler/nowaitscheduler/timetable/Leapfrog" "com/example/no_wait_scheduler/nowaitscheduler/timetable/Leapfrog" "clearUntil" "[J")).before a0 Z = true := hw _ (List.mem_of_getElem? (i := 13) rfl)
theorem w14 {a0 : Array Value} {Z : State} (hw : ∀ d ∈ tables_1, d.before a0 Z = true) : ((Jvm.Cond.fieldLink "com/example/no_wait_scheduler/nowaitscheduler/timetable/Leapfrog" (13 : Nat) "com/example/no_wait_scheduler/nowaitscheduler/timetable/Leapfrog" "free" "[J")).before a0 Z = true := hw _ (List.mem_of_getElem? (i := 14) rfl)
theorem w15 {a0 : Array Value} {Z : State} (hw : ∀ d ∈ tables_1, d.before a0 Z = true) : ((Jvm.Cond.laysFinal "com/example/no_wait_scheduler/nowaitscheduler/timetable/Leapfrog" "com/example/no_wait_scheduler/nowaitscheduler/timetable/Leapfrog" "free" "[J")).before a0 Z = true := hw _ (List.mem_of_getElem? (i := 15) rfl)
theorem w16 {a0 : Array Value} {Z : State} (hw : ∀ d ∈ tables_1, d.before a0 Z = true) : ((Jvm.Cond.fieldLink "com/example/no_wait_scheduler/nowaitscheduler/timetable/Leapfrog" (16 : Nat) "com/example/no_wait_scheduler/nowaitscheduler/timetable/Leapfrog" "step" "J")).before a0 Z = true := hw _ (List.mem_of_getElem? (i := 16) rfl)
theorem w17 {a0 : Array Value} {Z : State} (hw : ∀ d ∈ tables_1, d.before a0 Z = true) : ((Jvm.Cond.laysFinal "com/example/no_wait_scheduler/nowaitscheduler/timetable/Leapfrog" "com/example/no_wait_scheduler/nowaitscheduler/timetable/Leapfrog" "step" "J")).before a0 Z = true := hw _ (List.mem_of_getElem? (i := 17) rfl)
theorem w18 {a0 : Array Value} {Z : State} (hw : ∀ d ∈ tables_1, d.before a0 Z = true) : ((Jvm.Cond.methodLink "com/example/no_wait_scheduler/nowaitscheduler/timetable/LeapfrogOnGridPinLaw" (20 : Nat) ({ cls := "com/example/no_wait_scheduler/nowaitscheduler/timetable/Leapfrog", name := "onGrid", desc := "(JJ)J" } : Jvm.MethodName))).before a0 Z = true := hw _ (List.mem_of_getElem? (i := 18) rfl)
theorem w19 {a0 : Array Value} {Z : State} (hw : ∀ d ∈ tables_1, d.before a0 Z = true) : ((Jvm.Cond.declares ({ cls := "com/example/no_wait_scheduler/nowaitscheduler/timetable/Leapfrog", name := "onGrid", desc := "(JJ)J" } : Jvm.MethodName))).before a0 Z = true := hw _ (List.mem_of_getElem? (i := 19) rfl)
theorem w20 {a0 : Array Value} {Z : State} (hw : ∀ d ∈ tables_1, d.before a0 Z = true) : ((Jvm.Cond.instanceMethod ({ cls := "com/example/no_wait_scheduler/nowaitscheduler/timetable/Leapfrog", name := "onGrid", desc := "(JJ)J" } : Jvm.MethodName))).before a0 Z = true := hw _ (List.mem_of_getElem? (i := 20) rfl)
theorem w21 {a0 : Array Value} {Z : State} (hw : ∀ d ∈ tables_1, d.before a0 Z = true) : ((Jvm.Cond.selects "com/example/no_wait_scheduler/nowaitscheduler/timetable/Leapfrog" ({ cls := "com/example/no_wait_scheduler/nowaitscheduler/timetable/Leapfrog", name := "onGrid", desc := "(JJ)J" } : Jvm.MethodName) ({ cls := "com/example/no_wait_scheduler/nowaitscheduler/timetable/Leapfrog", name := "onGrid", desc := "(JJ)J" } : Jvm.MethodName))).before a0 Z = true := hw _ (List.mem_of_getElem? (i := 21) rfl)
theorem w22 {a0 : Array Value} {Z : State} (hw : ∀ d ∈ tables_1, d.before a0 Z = true) : ((Jvm.Cond.code ({ cls := "com/example/no_wait_scheduler/nowaitscheduler/timetable/Leapfrog", name := "onGrid", desc := "(JJ)J" } : Jvm.MethodName) prog_47_method_4_code (7 : Nat) (Option.some Jvm.ClassFile.FieldType.long))).before a0 Z = true := hw _ (List.mem_of_getElem? (i := 22) rfl)
theorem w23 {a0 : Array Value} {Z : State} (hw : ∀ d ∈ tables_1, d.before a0 Z = true) : ((Jvm.Cond.constantLong "com/example/no_wait_scheduler/nowaitscheduler/timetable/LeapfrogOnGridPinLaw" (9 : Nat) (15 : Int64))).before a0 Z = true := hw _ (List.mem_of_getElem? (i := 23) rfl)
theorem w24 {a0 : Array Value} {Z : State} (hw : ∀ d ∈ tables_1, d.before a0 Z = true) : ((Jvm.Cond.constantLong "com/example/no_wait_scheduler/nowaitscheduler/timetable/LeapfrogOnGridPinLaw" (13 : Nat) (127 : Int64))).before a0 Z = true := hw _ (List.mem_of_getElem? (i := 24) rfl)
theorem pn_com_example_no_wait_scheduler_nowaitscheduler_timetable_Leapfrog : plainName "com/example/no_wait_scheduler/nowaitscheduler/timetable/Leapfrog" = true := by first | (simp [plainName, overriddenIn]; done) | decide +kernel
theorem pn_com_example_no_wait_scheduler_nowaitscheduler_timetable_LeapfrogOnGridPinLaw : plainName "com/example/no_wait_scheduler/nowaitscheduler/timetable/LeapfrogOnGridPinLaw" = true := by first | (simp [plainName, overriddenIn]; done) | decide +kernel
theorem pd_0 : parseMethodDescriptor "(J)V" = some ⟨[.long], none⟩ := by decide +kernel
theorem pd_1 : parseMethodDescriptor "(JJ)J" = some ⟨[.long, .long], some .long⟩ := by decide +kernel
theorem dLeapfrog_mk_0 : decode prog_47_method_1_code 0 = .ok (.aload_n 0, 1) := by decide +kernel
theorem dLeapfrog_mk_1 : decode prog_47_method_1_code 1 = .ok (.invokespecial 1, 3) := by decide +kernel
theorem dLeapfrog_mk_4 : decode prog_47_method_1_code 4 = .ok (.aload_n 0, 1) := by decide +kernel
theorem dLeapfrog_mk_5 : decode prog_47_method_1_code 5 = .ok (.iconst 4, 1) := by decide +kernel
theorem dLeapfrog_mk_6 : decode prog_47_method_1_code 6 = .ok (.newarray .long, 2) := by decide +kernel
theorem dLeapfrog_mk_8 : decode prog_47_method_1_code 8 = .ok (.putfield 7, 3) := by decide +kernel
theorem dLeapfrog_mk_11 : decode prog_47_method_1_code 11 = .ok (.aload_n 0, 1) := by decide +kernel
theorem dLeapfrog_mk_12 : decode prog_47_method_1_code 12 = .ok (.iconst 2, 1) := by decide +kernel
theorem dLeapfrog_mk_13 : decode prog_47_method_1_code 13 = .ok (.newarray .long, 2) := by decide +kernel
theorem dLeapfrog_mk_15 : decode prog_47_method_1_code 15 = .ok (.putfield 13, 3) := by decide +kernel
theorem dLeapfrog_mk_18 : decode prog_47_method_1_code 18 = .ok (.aload_n 0, 1) := by decide +kernel
theorem dLeapfrog_mk_19 : decode prog_47_method_1_code 19 = .ok (.lload_n 1, 1) := by decide +kernel
theorem dLeapfrog_mk_20 : decode prog_47_method_1_code 20 = .ok (.putfield 16, 3) := by decide +kernel
theorem dLeapfrog_mk_23 : decode prog_47_method_1_code 23 = .ok (.return_, 1) := by decide +kernel
theorem dLeapfrog_onGrid_0 : decode prog_47_method_4_code 0 = .ok (.lload_n 1, 1) := by decide +kernel
theorem dLeapfrog_onGrid_1 : decode prog_47_method_4_code 1 = .ok (.lstore 5, 2) := by decide +kernel
theorem dLeapfrog_onGrid_3 : decode prog_47_method_4_code 3 = .ok (.aload_n 0, 1) := by decide +kernel
theorem dLeapfrog_onGrid_4 : decode prog_47_method_4_code 4 = .ok (.getfield 16, 3) := by decide +kernel
theorem dLeapfrog_onGrid_7 : decode prog_47_method_4_code 7 = .ok (.lconst 1, 1) := by decide +kernel
theorem dLeapfrog_onGrid_8 : decode prog_47_method_4_code 8 = .ok (.lcmp, 1) := by decide +kernel
theorem dLeapfrog_onGrid_9 : decode prog_47_method_4_code 9 = .ok (.ifCond .le 35, 3) := by decide +kernel
theorem dLeapfrog_onGrid_12 : decode prog_47_method_4_code 12 = .ok (.lload_n 1, 1) := by decide +kernel
theorem dLeapfrog_onGrid_13 : decode prog_47_method_4_code 13 = .ok (.lload_n 3, 1) := by decide +kernel
theorem dLeapfrog_onGrid_14 : decode prog_47_method_4_code 14 = .ok (.lcmp, 1) := by decide +kernel
theorem dLeapfrog_onGrid_15 : decode prog_47_method_4_code 15 = .ok (.ifCond .ge 29, 3) := by decide +kernel
theorem dLeapfrog_onGrid_18 : decode prog_47_method_4_code 18 = .ok (.lload_n 1, 1) := by decide +kernel
theorem dLeapfrog_onGrid_19 : decode prog_47_method_4_code 19 = .ok (.aload_n 0, 1) := by decide +kernel
theorem dLeapfrog_onGrid_20 : decode prog_47_method_4_code 20 = .ok (.getfield 16, 3) := by decide +kernel
theorem dLeapfrog_onGrid_23 : decode prog_47_method_4_code 23 = .ok (.lrem, 1) := by decide +kernel
theorem dLeapfrog_onGrid_24 : decode prog_47_method_4_code 24 = .ok (.lconst 0, 1) := by decide +kernel
theorem dLeapfrog_onGrid_25 : decode prog_47_method_4_code 25 = .ok (.lcmp, 1) := by decide +kernel
theorem dLeapfrog_onGrid_26 : decode prog_47_method_4_code 26 = .ok (.ifCond .eq 18, 3) := by decide +kernel
theorem dLeapfrog_onGrid_29 : decode prog_47_method_4_code 29 = .ok (.lload_n 1, 1) := by decide +kernel
theorem dLeapfrog_onGrid_30 : decode prog_47_method_4_code 30 = .ok (.aload_n 0, 1) := by decide +kernel
theorem dLeapfrog_onGrid_31 : decode prog_47_method_4_code 31 = .ok (.getfield 16, 3) := by decide +kernel
theorem dLeapfrog_onGrid_34 : decode prog_47_method_4_code 34 = .ok (.ladd, 1) := by decide +kernel
theorem dLeapfrog_onGrid_35 : decode prog_47_method_4_code 35 = .ok (.lload_n 1, 1) := by decide +kernel
theorem dLeapfrog_onGrid_36 : decode prog_47_method_4_code 36 = .ok (.aload_n 0, 1) := by decide +kernel
theorem dLeapfrog_onGrid_37 : decode prog_47_method_4_code 37 = .ok (.getfield 16, 3) := by decide +kernel
theorem dLeapfrog_onGrid_40 : decode prog_47_method_4_code 40 = .ok (.lrem, 1) := by decide +kernel
theorem dLeapfrog_onGrid_41 : decode prog_47_method_4_code 41 = .ok (.lsub, 1) := by decide +kernel
theorem dLeapfrog_onGrid_42 : decode prog_47_method_4_code 42 = .ok (.lstore 5, 2) := by decide +kernel
theorem dLeapfrog_onGrid_44 : decode prog_47_method_4_code 44 = .ok (.lload 5, 2) := by decide +kernel
theorem dLeapfrog_onGrid_46 : decode prog_47_method_4_code 46 = .ok (.lreturn, 1) := by decide +kernel
/-! com/example/no_wait_scheduler/nowaitscheduler/timetable/Leapfrog.<init>:(J)V -/
def f_Leapfrog_mk (v1 : Int64) (f_a1_step : Int64) : Option (Int64 × (List Int64) × (List Int64)) :=
  some (v1, ([(0 : Int64), (0 : Int64), (0 : Int64), (0 : Int64)] : List Int64), ([(0 : Int64), (0 : Int64)] : List Int64))
def Q_Leapfrog_mk (Z : State) (hE : Heap) (n0 : Nat) (a1 : Addr) (r : Int64 × (List Int64) × (List Int64)) (v : Option Value) (h : Heap) (L : List Loc) : Prop := ∃ b1 : Addr, ∃ b2 : Addr, v = none ∧ Fr n0 L ∧ Keep hE h [a1] ∧ Exa Z h a1 "com/example/no_wait_scheduler/nowaitscheduler/timetable/Leapfrog" ∧ Fld Z h a1 "com/example/no_wait_scheduler/nowaitscheduler/timetable/Leapfrog" "clearUntil" "[J" (.ref b1) ∧ Fld Z h a1 "com/example/no_wait_scheduler/nowaitscheduler/timetable/Leapfrog" "free" "[J" (.ref b2) ∧ Fld Z h a1 "com/example/no_wait_scheduler/nowaitscheduler/timetable/Leapfrog" "step" "J" (.long r.1) ∧ n0 ≤ b1 ∧ hE.size ≤ b1 ∧ own_Ar Z h b1 .long (r.2.1.map Value.long) ∧ n0 ≤ b2 ∧ hE.size ≤ b2 ∧ own_Ar Z h b2 .long (r.2.2.map Value.long) ∧ b2 ≠ b1
def Cx_Leapfrog_mk (p : Program) (s : State) (m : MethodId) (meth : Method) (c : Code) (Z : State) (a0 : Array Value) : Prop := p.tables.exec = Jvm.exec ∧ Z.Warmed39 s.vm ∧ (∀ d ∈ tables_1, d.before a0 Z = true) ∧ c.code = prog_47_method_1_code ∧ c.maxLocals = 3 ∧ s.vm.findClass "com/example/no_wait_scheduler/nowaitscheduler/timetable/Leapfrog" = some m.cls ∧ meth.sig.returnType = none ∧ meth.locks = false ∧ meth.name = "<init>"
set_option maxRecDepth 65536 in
set_option maxHeartbeats 4000000 in
theorem b_Leapfrog_mk {p : Program} {l : Launch} {e : Env} {s : State} {m : MethodId} {args : Array Value} {below : List Frame} {meth : Method} {c : Code} {Z : State} {a0 : Array Value} {n0 : Nat} {hE : Heap} (cx : Cx_Leapfrog_mk p s m meth c Z a0) (a1 : Addr) :
    ∀ {T : State} {locs : List Loc} {h : Heap} (X : Stand p l e ({ frames := 1, cells := 2, slots := 6, locals := 12 } : Room) s m args below meth c T locs 0 0) (eT : T.heap = h) (N : Fr n0 locs) (K : Keep hE h [a1]) (z : n0 ≤ h.size) (v1 : Int64) (f_a1_step : Int64) (E_a1 : Exa Z h a1 "com/example/no_wait_scheduler/nowaitscheduler/timetable/Leapfrog") (F_a1_clearUntil : Fld Z h a1 "com/example/no_wait_scheduler/nowaitscheduler/timetable/Leapfrog" "clearUntil" "[J" .null) (F_a1_free : Fld Z h a1 "com/example/no_wait_scheduler/nowaitscheduler/timetable/Leapfrog" "free" "[J" .null) (F_a1_step : Fld Z h a1 "com/example/no_wait_scheduler/nowaitscheduler/timetable/Leapfrog" "step" "J" (.long f_a1_step)) (g_a1 : n0 ≤ a1) (r : Int64 × (List Int64) × (List Int64)), f_Leapfrog_mk v1 f_a1_step = some r → own_Goes p e below s (Q_Leapfrog_mk Z hE n0 a1 r) 2 6 (T.setTop (mkF m 0 #[.val (.ref a1), .val (.long v1), .second] [])) := by
  have cx' := cx
  obtain ⟨hx, hZ, hw, hby, hml, hown, hret, hlk, hnm⟩ := cx'
  intro T locs h X eT N K z v1 f_a1_step E_a1 F_a1_clearUntil F_a1_free F_a1_step g_a1 r hF
  unfold f_Leapfrog_mk at hF
  refine own_Goes.via (B := T.setTop (mkF m 1 #[.val (.ref a1), .val (.long v1), .second] [(.ref a1)])) (fun t k => ?_) ?_
  · show Steps p.tables e below (T.setTop (mkF m 0 #[.val (.ref a1), .val (.long v1), .second] [])) t
    refine XS.aloadN X.here hx rfl (hb hby dLeapfrog_mk_0) rfl rfl ?_
    exact k
  obtain ⟨T21, X21, e21, st21⟩ := initO X hx hZ hown (w8 hw) (w9 hw) (w10 hw) eT (g := (mkF m 1 #[.val (.ref a1), .val (.long v1), .second] [(.ref a1)])) rfl (by rw [hml]; rfl) rfl (hb hby dLeapfrog_mk_1) (by decide) (W := 0) (by show 2 * 0 + _ ≤ _; exact Nat.le_of_eq rfl) (by decide)
  refine own_Goes.via st21 ?_
  show own_Goes _ _ _ _ _ _ _ (T21.setTop (mkF m 4 #[.val (.ref a1), .val (.long v1), .second] []))
  refine own_Goes.via (B := T21.setTop (mkF m 6 #[.val (.ref a1), .val (.long v1), .second] [(.int (4 : Int32)), (.ref a1)])) (fun t k => ?_) ?_
  · show Steps p.tables e below (T21.setTop (mkF m 4 #[.val (.ref a1), .val (.long v1), .second] [])) t
    refine XS.aloadN X21.here hx rfl (hb hby dLeapfrog_mk_4) rfl rfl ?_
    show Steps p.tables e below (T21.setTop (mkF m 5 #[.val (.ref a1), .val (.long v1), .second] [(.ref a1)])) t
    refine XS.iconst X21.here hx rfl (hb hby dLeapfrog_mk_5) ?_
    exact k
  obtain ⟨T22, h22, k22, X22, e22, E22, A22, st22⟩ := newP X21 hx hZ (aty := .long) (w11 hw) e21 (g := (mkF m 6 #[.val (.ref a1), .val (.long v1), .second] [(.int (4 : Int32)), (.ref a1)])) rfl (hb hby dLeapfrog_mk_6) rfl (by decide) (cap := 4) (by decide) (by decide) (by decide) (by decide)
  obtain ⟨c22, q22⟩ : ∃ z, z = h.size := ⟨_, rfl⟩
  rw [← q22] at A22 st22
  have A22_c22 : own_Ar Z h22 c22 .long (([(0 : Int64), (0 : Int64), (0 : Int64), (0 : Int64)] : List Int64).map Value.long) := own_newJ A22 (by decide) rfl (kk := 4) (by decide)
  have g22_c22 : n0 ≤ c22 := Nat.le_trans z (Nat.le_of_eq q22.symm)
  have nE22_c22 : hE.size ≤ c22 := Nat.le_trans K.1 (Nat.le_of_eq q22.symm)
  have ne_a1_c22 : a1 ≠ c22 := Nat.ne_of_lt (Nat.lt_of_lt_of_le E_a1.lt (Nat.le_of_eq q22.symm))
  have E22_a1 := E_a1.ext E22
  have F22_a1_clearUntil := F_a1_clearUntil.ext E22
  have F22_a1_free := F_a1_free.ext E22
  have F22_a1_step := F_a1_step.ext E22
  have z22 := Nat.le_trans z E22.1
  have K22_ := K.ext E22
  refine own_Goes.via st22 ?_
  show own_Goes _ _ _ _ _ _ _ (T22.setTop (mkF m 8 #[.val (.ref a1), .val (.long v1), .second] [(.ref c22), (.ref a1)]))
  obtain ⟨T23, h23, X23, e23, W23, st23⟩ := putF X22 hx hZ hown (host := "") (Or.inl (w12 hw)) Via.refl e22 F22_a1_clearUntil E22_a1 (Or.inl (w13 hw)) (w3 hw) (ty := (.array .long)) (by decide) rfl rfl (g := (mkF m 8 #[.val (.ref a1), .val (.long v1), .second] [(.ref c22), (.ref a1)])) rfl rfl (hb hby dLeapfrog_mk_8)
  refine own_Goes.via st23 ?_
  have E23_a1 := E22_a1.wr W23
  have F23_a1_free := F22_a1_free.other W23 (Or.inr (slot_ne (Or.inr (w15 hw)) (Or.inl (w13 hw)) (by decide) (t := (.array .long)) (t' := (.array .long)) (by decide) (by decide)))
  have F23_a1_step := F22_a1_step.other W23 (Or.inr (slot_ne (Or.inr (w17 hw)) (Or.inl (w13 hw)) (by decide) (t := .long) (t' := (.array .long)) (by decide) (by decide)))
  have A23_c22 := A22_c22.other W23 (Ne.symm ne_a1_c22)
  have F23_a1_clearUntil := F22_a1_clearUntil.same W23
  have z23 := Nat.le_trans z22 (Keep.of_wr W23).1
  have K23_ := K22_.wr W23 (Or.inl (List.mem_of_getElem? (i := 0) rfl))
  have N23 := Fr.snoc X23 N g_a1
  show own_Goes _ _ _ _ _ _ _ (T23.setTop (mkF m 11 #[.val (.ref a1), .val (.long v1), .second] []))
  refine own_Goes.via (B := T23.setTop (mkF m 13 #[.val (.ref a1), .val (.long v1), .second] [(.int (2 : Int32)), (.ref a1)])) (fun t k => ?_) ?_
  · show Steps p.tables e below (T23.setTop (mkF m 11 #[.val (.ref a1), .val (.long v1), .second] [])) t
    refine XS.aloadN X23.here hx rfl (hb hby dLeapfrog_mk_11) rfl rfl ?_
    show Steps p.tables e below (T23.setTop (mkF m 12 #[.val (.ref a1), .val (.long v1), .second] [(.ref a1)])) t
    refine XS.iconst X23.here hx rfl (hb hby dLeapfrog_mk_12) ?_
    exact k
  obtain ⟨T24, h24, k24, X24, e24, E24, A24, st24⟩ := newP X23 hx hZ (aty := .long) (w11 hw) e23 (g := (mkF m 13 #[.val (.ref a1), .val (.long v1), .second] [(.int (2 : Int32)), (.ref a1)])) rfl (hb hby dLeapfrog_mk_13) rfl (by decide) (cap := 2) (by decide) (by decide) (by decide) (by decide)
  obtain ⟨c24, q24⟩ : ∃ z, z = h23.size := ⟨_, rfl⟩
  rw [← q24] at A24 st24
  have A24_c24 : own_Ar Z h24 c24 .long (([(0 : Int64), (0 : Int64)] : List Int64).map Value.long) := own_newJ A24 (by decide) rfl (kk := 2) (by decide)
  have g24_c24 : n0 ≤ c24 := Nat.le_trans z23 (Nat.le_of_eq q24.symm)
  have nE24_c24 : hE.size ≤ c24 := Nat.le_trans K23_.1 (Nat.le_of_eq q24.symm)
  have ne_a1_c24 : a1 ≠ c24 := Nat.ne_of_lt (Nat.lt_of_lt_of_le E23_a1.lt (Nat.le_of_eq q24.symm))
  have ne_c22_c24 : c22 ≠ c24 := Nat.ne_of_lt (Nat.lt_of_lt_of_le A23_c22.lt (Nat.le_of_eq q24.symm))
  have E24_a1 := E23_a1.ext E24
  have F24_a1_clearUntil := F23_a1_clearUntil.ext E24
  have F24_a1_free := F23_a1_free.ext E24
  have F24_a1_step := F23_a1_step.ext E24
  have A24_c22 := A23_c22.ext E24
  have z24 := Nat.le_trans z23 E24.1
  have K24_ := K23_.ext E24
  refine own_Goes.via st24 ?_
  show own_Goes _ _ _ _ _ _ _ (T24.setTop (mkF m 15 #[.val (.ref a1), .val (.long v1), .second] [(.ref c24), (.ref a1)]))
  obtain ⟨T25, h25, X25, e25, W25, st25⟩ := putF X24 hx hZ hown (host := "") (Or.inl (w14 hw)) Via.refl e24 F24_a1_free E24_a1 (Or.inr ⟨(w15 hw), rfl, hnm⟩) (w3 hw) (ty := (.array .long)) (by decide) rfl rfl (g := (mkF m 15 #[.val (.ref a1), .val (.long v1), .second] [(.ref c24), (.ref a1)])) rfl rfl (hb hby dLeapfrog_mk_15)
  refine own_Goes.via st25 ?_
  have E25_a1 := E24_a1.wr W25
  have F25_a1_clearUntil := F24_a1_clearUntil.other W25 (Or.inr (slot_ne (Or.inl (w13 hw)) (Or.inr (w15 hw)) (by decide) (t := (.array .long)) (t' := (.array .long)) (by decide) (by decide)))
  have F25_a1_step := F24_a1_step.other W25 (Or.inr (slot_ne (Or.inr (w17 hw)) (Or.inr (w15 hw)) (by decide) (t := .long) (t' := (.array .long)) (by decide) (by decide)))
  have A25_c22 := A24_c22.other W25 (Ne.symm ne_a1_c22)
  have A25_c24 := A24_c24.other W25 (Ne.symm ne_a1_c24)
  have F25_a1_free := F24_a1_free.same W25
  have z25 := Nat.le_trans z24 (Keep.of_wr W25).1
  have K25_ := K24_.wr W25 (Or.inl (List.mem_of_getElem? (i := 0) rfl))
  have N25 := Fr.snoc X25 N23 g_a1
  show own_Goes _ _ _ _ _ _ _ (T25.setTop (mkF m 18 #[.val (.ref a1), .val (.long v1), .second] []))
  refine own_Goes.via (B := T25.setTop (mkF m 20 #[.val (.ref a1), .val (.long v1), .second] [(.long v1), (.ref a1)])) (fun t k => ?_) ?_
  · show Steps p.tables e below (T25.setTop (mkF m 18 #[.val (.ref a1), .val (.long v1), .second] [])) t
    refine XS.aloadN X25.here hx rfl (hb hby dLeapfrog_mk_18) rfl rfl ?_
    show Steps p.tables e below (T25.setTop (mkF m 19 #[.val (.ref a1), .val (.long v1), .second] [(.ref a1)])) t
    refine XS.lloadN X25.here hx rfl (hb hby dLeapfrog_mk_19) rfl ?_
    exact k
  obtain ⟨T26, h26, X26, e26, W26, st26⟩ := putF X25 hx hZ hown (host := "") (Or.inl (w16 hw)) Via.refl e25 F25_a1_step E25_a1 (Or.inr ⟨(w17 hw), rfl, hnm⟩) (w3 hw) (ty := .long) (by decide) rfl rfl (g := (mkF m 20 #[.val (.ref a1), .val (.long v1), .second] [(.long v1), (.ref a1)])) rfl rfl (hb hby dLeapfrog_mk_20)
  refine own_Goes.via st26 ?_
  have E26_a1 := E25_a1.wr W26
  have F26_a1_clearUntil := F25_a1_clearUntil.other W26 (Or.inr (slot_ne (Or.inl (w13 hw)) (Or.inr (w17 hw)) (by decide) (t := (.array .long)) (t' := .long) (by decide) (by decide)))
  have F26_a1_free := F25_a1_free.other W26 (Or.inr (slot_ne (Or.inr (w15 hw)) (Or.inr (w17 hw)) (by decide) (t := (.array .long)) (t' := .long) (by decide) (by decide)))
  have A26_c22 := A25_c22.other W26 (Ne.symm ne_a1_c22)
  have A26_c24 := A25_c24.other W26 (Ne.symm ne_a1_c24)
  have F26_a1_step := F25_a1_step.same W26
  have z26 := Nat.le_trans z25 (Keep.of_wr W26).1
  have K26_ := K25_.wr W26 (Or.inl (List.mem_of_getElem? (i := 0) rfl))
  have N26 := Fr.snoc X26 N25 g_a1
  show own_Goes _ _ _ _ _ _ _ (T26.setTop (mkF m 23 #[.val (.ref a1), .val (.long v1), .second] []))
  obtain rfl : (v1, ([(0 : Int64), (0 : Int64), (0 : Int64), (0 : Int64)] : List Int64), ([(0 : Int64), (0 : Int64)] : List Int64)) = r := Option.some.inj hF
  exact own_retV X26 hx hret hlk (hb hby dLeapfrog_mk_23) e26 ⟨c22, c24, rfl, N26, K26_, E26_a1, F26_a1_clearUntil, F26_a1_free, F26_a1_step, g22_c22, nE22_c22, A26_c22, g24_c24, nE24_c24, A26_c24, (Ne.symm ne_c22_c24)⟩ (by decide) (by decide)
theorem ef_Leapfrog_mk (m : MethodId) (x0 : Addr) (x1 : Int64) : entryFrame m #[(.ref x0), (.long x1)] 3 = mkF m 0 #[.val (.ref x0), .val (.long x1), .second] [] := by first | (simp [entryFrame, mkF, argsToLocals, Value.category]; done) | rfl
set_option maxRecDepth 65536 in
set_option maxHeartbeats 4000000 in
theorem rm_Leapfrog_mk (l : Launch) (Z : State) (a0 : Array Value) (hw : ∀ d ∈ tables_1, d.before a0 Z = true) (ws : List Jvm.Cond) (hE : Heap) (n0 : Nat) (z : n0 ≤ hE.size) (a1 : Addr) (v1 : Int64) (f_a1_step : Int64) (E_a1 : Exa Z hE a1 "com/example/no_wait_scheduler/nowaitscheduler/timetable/Leapfrog") (F_a1_clearUntil : Fld Z hE a1 "com/example/no_wait_scheduler/nowaitscheduler/timetable/Leapfrog" "clearUntil" "[J" .null) (F_a1_free : Fld Z hE a1 "com/example/no_wait_scheduler/nowaitscheduler/timetable/Leapfrog" "free" "[J" .null) (F_a1_step : Fld Z hE a1 "com/example/no_wait_scheduler/nowaitscheduler/timetable/Leapfrog" "step" "J" (.long f_a1_step)) (g_a1 : n0 ≤ a1) (r : Int64 × (List Int64) × (List Int64)) (hF : (f_Leapfrog_mk v1 f_a1_step) = some r) :
    MetFree l (⟨"com/example/no_wait_scheduler/nowaitscheduler/timetable/Leapfrog", "<init>", "(J)V"⟩ : MethodName) (head1 (Jvm.Cond.code (⟨"com/example/no_wait_scheduler/nowaitscheduler/timetable/Leapfrog", "<init>", "(J)V"⟩ : MethodName) prog_47_method_1_code 3 none :: ws) ({ frames := 1, cells := 2, slots := 6, locals := 12 } : Room)) (fun a U => a = #[(.ref a1), (.long v1)] ∧ Z.Warmed39 U.vm ∧ U.heap = hE) (fun _ _ _ _ _ => True) (fun _ U o U' => ∃ v L, o = .returned v ∧ (Q_Leapfrog_mk Z hE n0 a1 r) v U'.heap L ∧ FrameEnd U o U' L ({ frames := 1, cells := 2, slots := 6, locals := 12 } : Room).cells ({ frames := 1, cells := 2, slots := 6, locals := 12 } : Room).slots) := by
  refine MetFree.of_bodySF (plainFor_of_name pn_com_example_no_wait_scheduler_nowaitscheduler_timetable_Leapfrog) hisR ?_
  intro p e s m args below meth c s₁ Bd hml0 hP hK
  obtain ⟨rfl, hZ, hh⟩ := hP
  have X0 : Stand p l e ({ frames := 1, cells := 2, slots := 6, locals := 12 } : Room) s m #[(.ref a1), (.long v1)] below meth c s₁ [] 0 0 := Stand.of_body Bd
  have e0 : s₁.heap = hE := by rw [← hh, Bd.state]; rfl
  have cx : Cx_Leapfrog_mk p s m meth c Z a0 := ⟨Bd.exec, hZ, hw, Bd.bytes, hml0, findClass_of_methodNamed Bd.named, Bd.returns, Bd.notSynchronized, (name_of_methodNamed Bd.named Bd.method).1⟩
  show own_Goes p e below s (Q_Leapfrog_mk Z hE n0 a1 r) ({ frames := 1, cells := 2, slots := 6, locals := 12 } : Room).cells ({ frames := 1, cells := 2, slots := 6, locals := 12 } : Room).slots (s₁.setTop (entryFrame m #[(.ref a1), (.long v1)] 3))
  rw [ef_Leapfrog_mk]
  exact b_Leapfrog_mk cx a1 X0 e0 (Fr.nil n0) (Keep.refl _ _) z v1 f_a1_step E_a1 F_a1_clearUntil F_a1_free F_a1_step g_a1 _ hF
/-! com/example/no_wait_scheduler/nowaitscheduler/timetable/Leapfrog.onGrid:(JJ)J -/
def f_Leapfrog_onGrid (v1 : Int64) (v3 : Int64) (f_a1_step : Int64) (bs_a2 : List Int64) (bs_a3 : List Int64) : Option (Int64) :=
  if (1 : Int64) < f_a1_step then
    if v1 < v3 then
      own_ck (¬ f_a1_step = (0 : Int64)) <|
      if (v1 % f_a1_step) = (0 : Int64) then
        some v1
      else
        own_ck (¬ f_a1_step = (0 : Int64)) <|
        own_lt ((v1 + f_a1_step) - (v1 % f_a1_step)) fun x47 =>
        some x47
    else
      some v1
  else
    some v1
def Q_Leapfrog_onGrid (Z : State) (hE : Heap) (n0 : Nat) (a1 : Addr) (a2 : Addr) (a3 : Addr) (r : Int64) (v : Option Value) (h : Heap) (L : List Loc) : Prop := v = some (.long r) ∧ Fr n0 L ∧ h = hE
def Cx_Leapfrog_onGrid (p : Program) (s : State) (m : MethodId) (meth : Method) (c : Code) (Z : State) (a0 : Array Value) : Prop := p.tables.exec = Jvm.exec ∧ Z.Warmed39 s.vm ∧ (∀ d ∈ tables_1, d.before a0 Z = true) ∧ c.code = prog_47_method_4_code ∧ c.maxLocals = 7 ∧ s.vm.findClass "com/example/no_wait_scheduler/nowaitscheduler/timetable/Leapfrog" = some m.cls ∧ meth.sig.returnType = some .long ∧ meth.locks = false ∧ meth.name = "onGrid"
set_option maxRecDepth 65536 in
set_option maxHeartbeats 4000000 in
theorem b_Leapfrog_onGrid {p : Program} {l : Launch} {e : Env} {s : State} {m : MethodId} {args : Array Value} {below : List Frame} {meth : Method} {c : Code} {Z : State} {a0 : Array Value} {n0 : Nat} {hE : Heap} (cx : Cx_Leapfrog_onGrid p s m meth c Z a0) (a1 : Addr) (a2 : Addr) (a3 : Addr) :
    ∀ {T : State} {locs : List Loc} (X : Stand p l e ({ frames := 0, cells := 0, slots := 0, locals := 0 } : Room) s m args below meth c T locs 0 0) (eT : T.heap = hE) (N : Fr n0 locs) (z : n0 ≤ hE.size) (v1 : Int64) (v3 : Int64) (f_a1_step : Int64) (bs_a2 : List Int64) (bs_a3 : List Int64) (E_a1 : Exa Z hE a1 "com/example/no_wait_scheduler/nowaitscheduler/timetable/Leapfrog") (F_a1_clearUntil : Fld Z hE a1 "com/example/no_wait_scheduler/nowaitscheduler/timetable/Leapfrog" "clearUntil" "[J" (.ref a2)) (F_a1_free : Fld Z hE a1 "com/example/no_wait_scheduler/nowaitscheduler/timetable/Leapfrog" "free" "[J" (.ref a3)) (F_a1_step : Fld Z hE a1 "com/example/no_wait_scheduler/nowaitscheduler/timetable/Leapfrog" "step" "J" (.long f_a1_step)) (g_a1 : n0 ≤ a1) (A_a2 : own_Ar Z hE a2 .long (bs_a2.map Value.long)) (g_a2 : n0 ≤ a2) (A_a3 : own_Ar Z hE a3 .long (bs_a3.map Value.long)) (g_a3 : n0 ≤ a3) (ne_a1_a2 : a1 ≠ a2) (ne_a1_a3 : a1 ≠ a3) (ne_a2_a3 : a2 ≠ a3) (r : Int64), f_Leapfrog_onGrid v1 v3 f_a1_step bs_a2 bs_a3 = some r → own_Goes p e below s (Q_Leapfrog_onGrid Z hE n0 a1 a2 a3 r) 0 0 (T.setTop (mkF m 0 #[.val (.ref a1), .val (.long v1), .second, .val (.long v3), .second, .unset, .unset] [])) := by
  have cx' := cx
  obtain ⟨hx, hZ, hw, hby, hml, hown, hret, hlk, hnm⟩ := cx'
  intro T locs X eT N z v1 v3 f_a1_step bs_a2 bs_a3 E_a1 F_a1_clearUntil F_a1_free F_a1_step g_a1 A_a2 g_a2 A_a3 g_a3 ne_a1_a2 ne_a1_a3 ne_a2_a3 r hF
  unfold f_Leapfrog_onGrid at hF
  refine own_Goes.via (B := T.setTop (mkF m 4 #[.val (.ref a1), .val (.long v1), .second, .val (.long v3), .second, .val (.long v1), .second] [(.ref a1)])) (fun t k => ?_) ?_
  · show Steps p.tables e below (T.setTop (mkF m 0 #[.val (.ref a1), .val (.long v1), .second, .val (.long v3), .second, .unset, .unset] [])) t
    refine XS.lloadN X.here hx rfl (hb hby dLeapfrog_onGrid_0) rfl ?_
    show Steps p.tables e below (T.setTop (mkF m 1 #[.val (.ref a1), .val (.long v1), .second, .val (.long v3), .second, .unset, .unset] [(.long v1)])) t
    refine XS.lstore X.here hx rfl (hb hby dLeapfrog_onGrid_1) rfl (l' := #[.val (.ref a1), .val (.long v1), .second, .val (.long v3), .second, .val (.long v1), .second]) rfl ?_
    show Steps p.tables e below (T.setTop (mkF m 3 #[.val (.ref a1), .val (.long v1), .second, .val (.long v3), .second, .val (.long v1), .second] [])) t
    refine XS.aloadN X.here hx rfl (hb hby dLeapfrog_onGrid_3) rfl rfl ?_
    exact k
  obtain ⟨T43, X43, e43, st43⟩ := getF X hx hZ hown (host := "") (Or.inl (w16 hw)) Via.refl eT F_a1_step (g := (mkF m 4 #[.val (.ref a1), .val (.long v1), .second, .val (.long v3), .second, .val (.long v1), .second] [(.ref a1)])) rfl rfl (hb hby dLeapfrog_onGrid_4)
  refine own_Goes.via st43 ?_
  show own_Goes _ _ _ _ _ _ _ (T43.setTop (mkF m 7 #[.val (.ref a1), .val (.long v1), .second, .val (.long v3), .second, .val (.long v1), .second] [(.long f_a1_step)]))
  refine own_Goes.via (B := T43.setTop (mkF m 9 #[.val (.ref a1), .val (.long v1), .second, .val (.long v3), .second, .val (.long v1), .second] [(.int (lcmpW f_a1_step (1 : Int64)))])) (fun t k => ?_) ?_
  · show Steps p.tables e below (T43.setTop (mkF m 7 #[.val (.ref a1), .val (.long v1), .second, .val (.long v3), .second, .val (.long v1), .second] [(.long f_a1_step)])) t
    refine XS.lconst X43.here hx rfl (hb hby dLeapfrog_onGrid_7) ?_
    show Steps p.tables e below (T43.setTop (mkF m 8 #[.val (.ref a1), .val (.long v1), .second, .val (.long v3), .second, .val (.long v1), .second] [(.long (1 : Int64)), (.long f_a1_step)])) t
    refine XS.lcmp X43.here hx rfl (hb hby dLeapfrog_onGrid_8) rfl ?_
    exact k
  by_cases hc9 : (1 : Int64) < f_a1_step
  · rw [if_pos hc9] at hF
    refine own_Goes.via (B := T43.setTop (mkF m 15 #[.val (.ref a1), .val (.long v1), .second, .val (.long v3), .second, .val (.long v1), .second] [(.int (lcmpW v1 v3))])) (fun t k => ?_) ?_
    · show Steps p.tables e below (T43.setTop (mkF m 9 #[.val (.ref a1), .val (.long v1), .second, .val (.long v3), .second, .val (.long v1), .second] [(.int (lcmpW f_a1_step (1 : Int64)))])) t
      refine XS.ifNo X43.here hx rfl (hb hby dLeapfrog_onGrid_9) rfl (own_tgtL hc9).2 ?_
      show Steps p.tables e below (T43.setTop (mkF m 12 #[.val (.ref a1), .val (.long v1), .second, .val (.long v3), .second, .val (.long v1), .second] [])) t
      refine XS.lloadN X43.here hx rfl (hb hby dLeapfrog_onGrid_12) rfl ?_
      show Steps p.tables e below (T43.setTop (mkF m 13 #[.val (.ref a1), .val (.long v1), .second, .val (.long v3), .second, .val (.long v1), .second] [(.long v1)])) t
      refine XS.lloadN X43.here hx rfl (hb hby dLeapfrog_onGrid_13) rfl ?_
      show Steps p.tables e below (T43.setTop (mkF m 14 #[.val (.ref a1), .val (.long v1), .second, .val (.long v3), .second, .val (.long v1), .second] [(.long v3), (.long v1)])) t
      refine XS.lcmp X43.here hx rfl (hb hby dLeapfrog_onGrid_14) rfl ?_
      exact k
    by_cases hc15 : v1 < v3
    · rw [if_pos hc15] at hF
      refine own_Goes.via (B := T43.setTop (mkF m 20 #[.val (.ref a1), .val (.long v1), .second, .val (.long v3), .second, .val (.long v1), .second] [(.ref a1), (.long v1)])) (fun t k => ?_) ?_
      · show Steps p.tables e below (T43.setTop (mkF m 15 #[.val (.ref a1), .val (.long v1), .second, .val (.long v3), .second, .val (.long v1), .second] [(.int (lcmpW v1 v3))])) t
        refine XS.ifNo X43.here hx rfl (hb hby dLeapfrog_onGrid_15) rfl (own_tltL hc15).2 ?_
        show Steps p.tables e below (T43.setTop (mkF m 18 #[.val (.ref a1), .val (.long v1), .second, .val (.long v3), .second, .val (.long v1), .second] [])) t
        refine XS.lloadN X43.here hx rfl (hb hby dLeapfrog_onGrid_18) rfl ?_
        show Steps p.tables e below (T43.setTop (mkF m 19 #[.val (.ref a1), .val (.long v1), .second, .val (.long v3), .second, .val (.long v1), .second] [(.long v1)])) t
        refine XS.aloadN X43.here hx rfl (hb hby dLeapfrog_onGrid_19) rfl rfl ?_
        exact k
      obtain ⟨T44, X44, e44, st44⟩ := getF X43 hx hZ hown (host := "") (Or.inl (w16 hw)) Via.refl e43 F_a1_step (g := (mkF m 20 #[.val (.ref a1), .val (.long v1), .second, .val (.long v3), .second, .val (.long v1), .second] [(.ref a1), (.long v1)])) rfl rfl (hb hby dLeapfrog_onGrid_20)
      refine own_Goes.via st44 ?_
      show own_Goes _ _ _ _ _ _ _ (T44.setTop (mkF m 23 #[.val (.ref a1), .val (.long v1), .second, .val (.long v3), .second, .val (.long v1), .second] [(.long f_a1_step), (.long v1)]))
      obtain ⟨hz23, hF⟩ := own_ck_e hF
      refine own_Goes.via (B := T44.setTop (mkF m 26 #[.val (.ref a1), .val (.long v1), .second, .val (.long v3), .second, .val (.long v1), .second] [(.int (lcmpW (v1 % f_a1_step) (0 : Int64)))])) (fun t k => ?_) ?_
      · show Steps p.tables e below (T44.setTop (mkF m 23 #[.val (.ref a1), .val (.long v1), .second, .val (.long v3), .second, .val (.long v1), .second] [(.long f_a1_step), (.long v1)])) t
        refine own_lrem X44 hx rfl (hb hby dLeapfrog_onGrid_23) rfl hz23 ?_
        show Steps p.tables e below (T44.setTop (mkF m 24 #[.val (.ref a1), .val (.long v1), .second, .val (.long v3), .second, .val (.long v1), .second] [(.long (v1 % f_a1_step))])) t
        refine XS.lconst X44.here hx rfl (hb hby dLeapfrog_onGrid_24) ?_
        show Steps p.tables e below (T44.setTop (mkF m 25 #[.val (.ref a1), .val (.long v1), .second, .val (.long v3), .second, .val (.long v1), .second] [(.long (0 : Int64)), (.long (v1 % f_a1_step))])) t
        refine XS.lcmp X44.here hx rfl (hb hby dLeapfrog_onGrid_25) rfl ?_
        exact k
      by_cases hc26 : (v1 % f_a1_step) = (0 : Int64)
      · rw [if_pos hc26] at hF
        refine own_Goes.via (B := T44.setTop (mkF m 46 #[.val (.ref a1), .val (.long v1), .second, .val (.long v3), .second, .val (.long v1), .second] [(.long v1)])) (fun t k => ?_) ?_
        · show Steps p.tables e below (T44.setTop (mkF m 26 #[.val (.ref a1), .val (.long v1), .second, .val (.long v3), .second, .val (.long v1), .second] [(.int (lcmpW (v1 % f_a1_step) (0 : Int64)))])) t
          refine XS.ifYes X44.here hx rfl (pc0 := 26) (pc' := 44) rfl (hb hby dLeapfrog_onGrid_26) rfl (own_teqL hc26).1 (by decide) (by decide) ?_
          show Steps p.tables e below (T44.setTop (mkF m 44 #[.val (.ref a1), .val (.long v1), .second, .val (.long v3), .second, .val (.long v1), .second] [])) t
          refine XS.lload X44.here hx rfl (hb hby dLeapfrog_onGrid_44) rfl ?_
          exact k
        obtain rfl : v1 = r := Option.some.inj hF
        exact own_retJ X44 hx hret hlk (hb hby dLeapfrog_onGrid_46) e44 ⟨rfl, N, rfl⟩ (by decide) (by decide)
      · rw [if_neg hc26] at hF
        refine own_Goes.via (B := T44.setTop (mkF m 31 #[.val (.ref a1), .val (.long v1), .second, .val (.long v3), .second, .val (.long v1), .second] [(.ref a1), (.long v1)])) (fun t k => ?_) ?_
        · show Steps p.tables e below (T44.setTop (mkF m 26 #[.val (.ref a1), .val (.long v1), .second, .val (.long v3), .second, .val (.long v1), .second] [(.int (lcmpW (v1 % f_a1_step) (0 : Int64)))])) t
          refine XS.ifNo X44.here hx rfl (hb hby dLeapfrog_onGrid_26) rfl (own_feqL hc26).1 ?_
          show Steps p.tables e below (T44.setTop (mkF m 29 #[.val (.ref a1), .val (.long v1), .second, .val (.long v3), .second, .val (.long v1), .second] [])) t
          refine XS.lloadN X44.here hx rfl (hb hby dLeapfrog_onGrid_29) rfl ?_
          show Steps p.tables e below (T44.setTop (mkF m 30 #[.val (.ref a1), .val (.long v1), .second, .val (.long v3), .second, .val (.long v1), .second] [(.long v1)])) t
          refine XS.aloadN X44.here hx rfl (hb hby dLeapfrog_onGrid_30) rfl rfl ?_
          exact k
        obtain ⟨T45, X45, e45, st45⟩ := getF X44 hx hZ hown (host := "") (Or.inl (w16 hw)) Via.refl e44 F_a1_step (g := (mkF m 31 #[.val (.ref a1), .val (.long v1), .second, .val (.long v3), .second, .val (.long v1), .second] [(.ref a1), (.long v1)])) rfl rfl (hb hby dLeapfrog_onGrid_31)
        refine own_Goes.via st45 ?_
        show own_Goes _ _ _ _ _ _ _ (T45.setTop (mkF m 34 #[.val (.ref a1), .val (.long v1), .second, .val (.long v3), .second, .val (.long v1), .second] [(.long f_a1_step), (.long v1)]))
        refine own_Goes.via (B := T45.setTop (mkF m 37 #[.val (.ref a1), .val (.long v1), .second, .val (.long v3), .second, .val (.long v1), .second] [(.ref a1), (.long v1), (.long (v1 + f_a1_step))])) (fun t k => ?_) ?_
        · show Steps p.tables e below (T45.setTop (mkF m 34 #[.val (.ref a1), .val (.long v1), .second, .val (.long v3), .second, .val (.long v1), .second] [(.long f_a1_step), (.long v1)])) t
          refine XS.ladd X45.here hx rfl (hb hby dLeapfrog_onGrid_34) rfl ?_
          show Steps p.tables e below (T45.setTop (mkF m 35 #[.val (.ref a1), .val (.long v1), .second, .val (.long v3), .second, .val (.long v1), .second] [(.long (v1 + f_a1_step))])) t
          refine XS.lloadN X45.here hx rfl (hb hby dLeapfrog_onGrid_35) rfl ?_
          show Steps p.tables e below (T45.setTop (mkF m 36 #[.val (.ref a1), .val (.long v1), .second, .val (.long v3), .second, .val (.long v1), .second] [(.long v1), (.long (v1 + f_a1_step))])) t
          refine XS.aloadN X45.here hx rfl (hb hby dLeapfrog_onGrid_36) rfl rfl ?_
          exact k
        obtain ⟨T46, X46, e46, st46⟩ := getF X45 hx hZ hown (host := "") (Or.inl (w16 hw)) Via.refl e45 F_a1_step (g := (mkF m 37 #[.val (.ref a1), .val (.long v1), .second, .val (.long v3), .second, .val (.long v1), .second] [(.ref a1), (.long v1), (.long (v1 + f_a1_step))])) rfl rfl (hb hby dLeapfrog_onGrid_37)
        refine own_Goes.via st46 ?_
        show own_Goes _ _ _ _ _ _ _ (T46.setTop (mkF m 40 #[.val (.ref a1), .val (.long v1), .second, .val (.long v3), .second, .val (.long v1), .second] [(.long f_a1_step), (.long v1), (.long (v1 + f_a1_step))]))
        obtain ⟨hz40, hF⟩ := own_ck_e hF
        refine own_Goes.via (B := T46.setTop (mkF m 42 #[.val (.ref a1), .val (.long v1), .second, .val (.long v3), .second, .val (.long v1), .second] [(.long ((v1 + f_a1_step) - (v1 % f_a1_step)))])) (fun t k => ?_) ?_
        · show Steps p.tables e below (T46.setTop (mkF m 40 #[.val (.ref a1), .val (.long v1), .second, .val (.long v3), .second, .val (.long v1), .second] [(.long f_a1_step), (.long v1), (.long (v1 + f_a1_step))])) t
          refine own_lrem X46 hx rfl (hb hby dLeapfrog_onGrid_40) rfl hz40 ?_
          show Steps p.tables e below (T46.setTop (mkF m 41 #[.val (.ref a1), .val (.long v1), .second, .val (.long v3), .second, .val (.long v1), .second] [(.long (v1 % f_a1_step)), (.long (v1 + f_a1_step))])) t
          refine XS.lsub X46.here hx rfl (hb hby dLeapfrog_onGrid_41) rfl ?_
          exact k
        obtain ⟨x47, hx47, hF⟩ := own_lt_e hF
        rw [← hx47]
        refine own_Goes.via (B := T46.setTop (mkF m 46 #[.val (.ref a1), .val (.long v1), .second, .val (.long v3), .second, .val (.long x47), .second] [(.long x47)])) (fun t k => ?_) ?_
        · show Steps p.tables e below (T46.setTop (mkF m 42 #[.val (.ref a1), .val (.long v1), .second, .val (.long v3), .second, .val (.long v1), .second] [(.long x47)])) t
          refine XS.lstore X46.here hx rfl (hb hby dLeapfrog_onGrid_42) rfl (l' := #[.val (.ref a1), .val (.long v1), .second, .val (.long v3), .second, .val (.long x47), .second]) rfl ?_
          show Steps p.tables e below (T46.setTop (mkF m 44 #[.val (.ref a1), .val (.long v1), .second, .val (.long v3), .second, .val (.long x47), .second] [])) t
          refine XS.lload X46.here hx rfl (hb hby dLeapfrog_onGrid_44) rfl ?_
          exact k
        obtain rfl : x47 = r := Option.some.inj hF
        exact own_retJ X46 hx hret hlk (hb hby dLeapfrog_onGrid_46) e46 ⟨rfl, N, rfl⟩ (by decide) (by decide)
    · rw [if_neg hc15] at hF
      refine own_Goes.via (B := T43.setTop (mkF m 46 #[.val (.ref a1), .val (.long v1), .second, .val (.long v3), .second, .val (.long v1), .second] [(.long v1)])) (fun t k => ?_) ?_
      · show Steps p.tables e below (T43.setTop (mkF m 15 #[.val (.ref a1), .val (.long v1), .second, .val (.long v3), .second, .val (.long v1), .second] [(.int (lcmpW v1 v3))])) t
        refine XS.ifYes X43.here hx rfl (pc0 := 15) (pc' := 44) rfl (hb hby dLeapfrog_onGrid_15) rfl (own_fltL hc15).2 (by decide) (by decide) ?_
        show Steps p.tables e below (T43.setTop (mkF m 44 #[.val (.ref a1), .val (.long v1), .second, .val (.long v3), .second, .val (.long v1), .second] [])) t
        refine XS.lload X43.here hx rfl (hb hby dLeapfrog_onGrid_44) rfl ?_
        exact k
      obtain rfl : v1 = r := Option.some.inj hF
      exact own_retJ X43 hx hret hlk (hb hby dLeapfrog_onGrid_46) e43 ⟨rfl, N, rfl⟩ (by decide) (by decide)
  · rw [if_neg hc9] at hF
    refine own_Goes.via (B := T43.setTop (mkF m 46 #[.val (.ref a1), .val (.long v1), .second, .val (.long v3), .second, .val (.long v1), .second] [(.long v1)])) (fun t k => ?_) ?_
    · show Steps p.tables e below (T43.setTop (mkF m 9 #[.val (.ref a1), .val (.long v1), .second, .val (.long v3), .second, .val (.long v1), .second] [(.int (lcmpW f_a1_step (1 : Int64)))])) t
      refine XS.ifYes X43.here hx rfl (pc0 := 9) (pc' := 44) rfl (hb hby dLeapfrog_onGrid_9) rfl (own_fgtL hc9).2 (by decide) (by decide) ?_
      show Steps p.tables e below (T43.setTop (mkF m 44 #[.val (.ref a1), .val (.long v1), .second, .val (.long v3), .second, .val (.long v1), .second] [])) t
      refine XS.lload X43.here hx rfl (hb hby dLeapfrog_onGrid_44) rfl ?_
      exact k
    obtain rfl : v1 = r := Option.some.inj hF
    exact own_retJ X43 hx hret hlk (hb hby dLeapfrog_onGrid_46) e43 ⟨rfl, N, rfl⟩ (by decide) (by decide)
theorem ef_Leapfrog_onGrid (m : MethodId) (x0 : Addr) (x1 : Int64) (x2 : Int64) : entryFrame m #[(.ref x0), (.long x1), (.long x2)] 7 = mkF m 0 #[.val (.ref x0), .val (.long x1), .second, .val (.long x2), .second, .unset, .unset] [] := by first | (simp [entryFrame, mkF, argsToLocals, Value.category]; done) | rfl
set_option maxRecDepth 65536 in
set_option maxHeartbeats 4000000 in
theorem rm_Leapfrog_onGrid (l : Launch) (Z : State) (a0 : Array Value) (hw : ∀ d ∈ tables_1, d.before a0 Z = true) (ws : List Jvm.Cond) (hE : Heap) (n0 : Nat) (z : n0 ≤ hE.size) (a1 : Addr) (a2 : Addr) (a3 : Addr) (v1 : Int64) (v3 : Int64) (f_a1_step : Int64) (bs_a2 : List Int64) (bs_a3 : List Int64) (E_a1 : Exa Z hE a1 "com/example/no_wait_scheduler/nowaitscheduler/timetable/Leapfrog") (F_a1_clearUntil : Fld Z hE a1 "com/example/no_wait_scheduler/nowaitscheduler/timetable/Leapfrog" "clearUntil" "[J" (.ref a2)) (F_a1_free : Fld Z hE a1 "com/example/no_wait_scheduler/nowaitscheduler/timetable/Leapfrog" "free" "[J" (.ref a3)) (F_a1_step : Fld Z hE a1 "com/example/no_wait_scheduler/nowaitscheduler/timetable/Leapfrog" "step" "J" (.long f_a1_step)) (g_a1 : n0 ≤ a1) (A_a2 : own_Ar Z hE a2 .long (bs_a2.map Value.long)) (g_a2 : n0 ≤ a2) (A_a3 : own_Ar Z hE a3 .long (bs_a3.map Value.long)) (g_a3 : n0 ≤ a3) (ne_a1_a2 : a1 ≠ a2) (ne_a1_a3 : a1 ≠ a3) (ne_a2_a3 : a2 ≠ a3) (r : Int64) (hF : (f_Leapfrog_onGrid v1 v3 f_a1_step bs_a2 bs_a3) = some r) :
    MetFree l (⟨"com/example/no_wait_scheduler/nowaitscheduler/timetable/Leapfrog", "onGrid", "(JJ)J"⟩ : MethodName) (head1 (Jvm.Cond.code (⟨"com/example/no_wait_scheduler/nowaitscheduler/timetable/Leapfrog", "onGrid", "(JJ)J"⟩ : MethodName) prog_47_method_4_code 7 (some .long) :: ws) ({ frames := 0, cells := 0, slots := 0, locals := 0 } : Room)) (fun a U => a = #[(.ref a1), (.long v1), (.long v3)] ∧ Z.Warmed39 U.vm ∧ U.heap = hE) (fun _ _ _ _ _ => True) (fun _ U o U' => ∃ v L, o = .returned v ∧ (Q_Leapfrog_onGrid Z hE n0 a1 a2 a3 r) v U'.heap L ∧ FrameEnd U o U' L ({ frames := 0, cells := 0, slots := 0, locals := 0 } : Room).cells ({ frames := 0, cells := 0, slots := 0, locals := 0 } : Room).slots) := by
  refine MetFree.of_bodySF (plainFor_of_name pn_com_example_no_wait_scheduler_nowaitscheduler_timetable_Leapfrog) hisR ?_
  intro p e s m args below meth c s₁ Bd hml0 hP hK
  obtain ⟨rfl, hZ, hh⟩ := hP
  have X0 : Stand p l e ({ frames := 0, cells := 0, slots := 0, locals := 0 } : Room) s m #[(.ref a1), (.long v1), (.long v3)] below meth c s₁ [] 0 0 := Stand.of_body Bd
  have e0 : s₁.heap = hE := by rw [← hh, Bd.state]; rfl
  have cx : Cx_Leapfrog_onGrid p s m meth c Z a0 := ⟨Bd.exec, hZ, hw, Bd.bytes, hml0, findClass_of_methodNamed Bd.named, Bd.returns, Bd.notSynchronized, (name_of_methodNamed Bd.named Bd.method).1⟩
  show own_Goes p e below s (Q_Leapfrog_onGrid Z hE n0 a1 a2 a3 r) ({ frames := 0, cells := 0, slots := 0, locals := 0 } : Room).cells ({ frames := 0, cells := 0, slots := 0, locals := 0 } : Room).slots (s₁.setTop (entryFrame m #[(.ref a1), (.long v1), (.long v3)] 7))
  rw [ef_Leapfrog_onGrid]
  exact b_Leapfrog_onGrid cx a1 a2 a3 X0 e0 (Fr.nil n0) z v1 v3 f_a1_step bs_a2 bs_a3 E_a1 F_a1_clearUntil F_a1_free F_a1_step g_a1 A_a2 g_a2 A_a3 g_a3 ne_a1_a2 ne_a1_a3 ne_a2_a3 _ hF
/-! com/example/no_wait_scheduler/nowaitscheduler/timetable/LeapfrogOnGridPinLaw.law:(JJJI)Z -/
def f_law_74 (v9 : Int64) (v11 : Int64) (t0 : Int64) : Option (Int32) :=
  own_bd (f_Leapfrog_mk v9 (0 : Int64)) fun r60 =>
  own_bd (f_Leapfrog_onGrid v11 t0 r60.1 r60.2.1 r60.2.2) fun r61 =>
  if v11 < t0 then
    if r61 < v11 then
      some (0 : Int32)
    else
      if (r61 - v11) < v9 then
        own_ck (¬ v9 = (0 : Int64)) <|
        if (r61 % v9) = (0 : Int64) then
          some (1 : Int32)
        else
          some (0 : Int32)
      else
        some (0 : Int32)
  else
    if r61 = v11 then
      some (1 : Int32)
    else
      some (0 : Int32)
def f_law_49 (v4 : Int64) (v6 : Int32) (v7 : Int64) (v9 : Int64) (t0 : Int64) : Option (Int32) :=
  if (v6 &&& (4 : Int32)) = (0 : Int32) then
    (f_law_74 v9 t0 ((v4 &&& v7) + (1 : Int64)))
  else
    (f_law_74 v9 t0 (v4 &&& (127 : Int64)))
def f_law (v0 : Int64) (v2 : Int64) (v4 : Int64) (v6 : Int32) : Option (Int32) :=
  if (v6 &&& (1 : Int32)) = (0 : Int32) then
    own_lt ((v0 &&& (4611686018427387903 : Int64)) + (1 : Int64)) fun x63 =>
    if (v6 &&& (2 : Int32)) = (0 : Int32) then
      (f_law_49 v4 v6 (4611686018427387903 : Int64) x63 (v2 &&& (4611686018427387903 : Int64)))
    else
      (f_law_49 v4 v6 (4611686018427387903 : Int64) x63 (v2 &&& (63 : Int64)))
  else
    own_lt ((v0 &&& (15 : Int64)) + (1 : Int64)) fun x64 =>
    if (v6 &&& (2 : Int32)) = (0 : Int32) then
      (f_law_49 v4 v6 (4611686018427387903 : Int64) x64 (v2 &&& (4611686018427387903 : Int64)))
    else
      (f_law_49 v4 v6 (4611686018427387903 : Int64) x64 (v2 &&& (63 : Int64)))
def Q_law (Z : State) (hE : Heap) (n0 : Nat)  (r : Int32) (v : Option Value) (h : Heap) (L : List Loc) : Prop := v = some (.int r) ∧ Fr n0 L ∧ Keep hE h []
def Cx_law (p : Program) (s : State) (m : MethodId) (meth : Method) (c : Code) (Z : State) (a0 : Array Value) : Prop := p.tables.exec = Jvm.exec ∧ Z.Warmed39 s.vm ∧ (∀ d ∈ tables_1, d.before a0 Z = true) ∧ c.code = code ∧ c.maxLocals = 18 ∧ s.vm.findClass "com/example/no_wait_scheduler/nowaitscheduler/timetable/LeapfrogOnGridPinLaw" = some m.cls ∧ meth.sig.returnType = some .boolean ∧ meth.locks = false ∧ meth.name = "law"
set_option maxRecDepth 65536 in
set_option maxHeartbeats 4000000 in
theorem b_law_74 {p : Program} {l : Launch} {e : Env} {s : State} {m : MethodId} {args : Array Value} {below : List Frame} {meth : Method} {c : Code} {Z : State} {a0 : Array Value} {n0 : Nat} {hE : Heap} (cx : Cx_law p s m meth c Z a0) :
    ∀ {T : State} {locs : List Loc} {h : Heap} (X : Stand p l e room_1 s m args below meth c T locs 0 0) (eT : T.heap = h) (N : Fr n0 locs) (K : Keep hE h []) (z : n0 ≤ h.size) (v9 : Int64) (v11 : Int64) (t0 : Int64) (v0 : Int64) (v2 : Int64) (v4 : Int64) (d6 : Slot) (v7 : Int64) (d13 : Slot) (d14 : Slot) (d15 : Slot) (d16 : Slot) (d17 : Slot) (o_d6 : One d6) (o_d13 : One d13) (o_d14 : One d14) (o_d15 : One d15) (o_d16 : One d16) (o_d17 : One d17) (r : Int32), f_law_74 v9 v11 t0 = some r → own_Goes p e below s (Q_law Z hE n0 r) 3 10 (T.setTop (mkF m 74 #[.val (.long v0), .second, .val (.long v2), .second, .val (.long v4), .second, d6, .val (.long v7), .second, .val (.long v9), .second, .val (.long v11), .second, d13, d14, d15, d16, d17] [(.long t0)])) := by
  have cx' := cx
  obtain ⟨hx, hZ, hw, hby, hml, hown, hret, hlk, hnm⟩ := cx'
  intro T locs h X eT N K z v9 v11 t0 v0 v2 v4 d6 v7 d13 d14 d15 d16 d17 o_d6 o_d13 o_d14 o_d15 o_d16 o_d17 r hF
  unfold f_law_74 at hF
  refine own_Goes.via (B := T.setTop (mkF m 76 #[.val (.long v0), .second, .val (.long v2), .second, .val (.long v4), .second, d6, .val (.long v7), .second, .val (.long v9), .second, .val (.long v11), .second, .val (.long t0), .second, d15, d16, d17] [])) (fun t k => ?_) ?_
  · show Steps p.tables e below (T.setTop (mkF m 74 #[.val (.long v0), .second, .val (.long v2), .second, .val (.long v4), .second, d6, .val (.long v7), .second, .val (.long v9), .second, .val (.long v11), .second, d13, d14, d15, d16, d17] [(.long t0)])) t
    refine XS.lstore X.here hx rfl (hb hby at_74) rfl (l' := #[.val (.long v0), .second, .val (.long v2), .second, .val (.long v4), .second, d6, .val (.long v7), .second, .val (.long v9), .second, .val (.long v11), .second, .val (.long t0), .second, d15, d16, d17]) (own_st2 rfl rfl o_d13 o_d14 rfl) ?_
    exact k
  obtain ⟨T59, h59, X59, e59, E59, A59, D59, -, st59⟩ := newO X hx hZ hown (w2 hw) (w3 hw) (w4 hw) eT (g := (mkF m 76 #[.val (.long v0), .second, .val (.long v2), .second, .val (.long v4), .second, d6, .val (.long v7), .second, .val (.long v9), .second, .val (.long v11), .second, .val (.long t0), .second, d15, d16, d17] [])) rfl (hb hby at_76) (by decide) (by decide)
  obtain ⟨c59, q59⟩ : ∃ z, z = h.size := ⟨_, rfl⟩
  rw [← q59] at A59 D59 st59
  have F59_c59_clearUntil : Fld Z h59 c59 "com/example/no_wait_scheduler/nowaitscheduler/timetable/Leapfrog" "clearUntil" "[J" .null := D59 (Or.inl (w13 hw)) (ty := (.array .long)) (by decide)
  have F59_c59_free : Fld Z h59 c59 "com/example/no_wait_scheduler/nowaitscheduler/timetable/Leapfrog" "free" "[J" .null := D59 (Or.inr (w15 hw)) (ty := (.array .long)) (by decide)
  have F59_c59_step : Fld Z h59 c59 "com/example/no_wait_scheduler/nowaitscheduler/timetable/Leapfrog" "step" "J" (.long (0 : Int64)) := D59 (Or.inr (w17 hw)) (ty := .long) (by decide)
  have g59_c59 : n0 ≤ c59 := Nat.le_trans z (Nat.le_of_eq q59.symm)
  have nE59_c59 : hE.size ≤ c59 := Nat.le_trans K.1 (Nat.le_of_eq q59.symm)
  have z59 := Nat.le_trans z E59.1
  have K59_ := K.ext E59
  refine own_Goes.via st59 ?_
  show own_Goes _ _ _ _ _ _ _ (T59.setTop (mkF m 79 #[.val (.long v0), .second, .val (.long v2), .second, .val (.long v4), .second, d6, .val (.long v7), .second, .val (.long v9), .second, .val (.long v11), .second, .val (.long t0), .second, d15, d16, d17] [(.ref c59)]))
  refine own_Goes.via (B := T59.setTop (mkF m 82 #[.val (.long v0), .second, .val (.long v2), .second, .val (.long v4), .second, d6, .val (.long v7), .second, .val (.long v9), .second, .val (.long v11), .second, .val (.long t0), .second, d15, d16, d17] [(.long v9), (.ref c59), (.ref c59)])) (fun t k => ?_) ?_
  · show Steps p.tables e below (T59.setTop (mkF m 79 #[.val (.long v0), .second, .val (.long v2), .second, .val (.long v4), .second, d6, .val (.long v7), .second, .val (.long v9), .second, .val (.long v11), .second, .val (.long t0), .second, d15, d16, d17] [(.ref c59)])) t
    refine XS.dup X59.here hx rfl (hb hby at_79) rfl rfl ?_
    show Steps p.tables e below (T59.setTop (mkF m 80 #[.val (.long v0), .second, .val (.long v2), .second, .val (.long v4), .second, d6, .val (.long v7), .second, .val (.long v9), .second, .val (.long v11), .second, .val (.long t0), .second, d15, d16, d17] [(.ref c59), (.ref c59)])) t
    refine XS.lload X59.here hx rfl (hb hby at_80) rfl ?_
    exact k
  obtain ⟨r60, hr60, hF⟩ := own_bd_e hF
  obtain ⟨_, _, ⟨T60, L60, k60, n60⟩, -, X60, ⟨Lc60, hQ60, l60, y60, z60⟩, st60⟩ := X59.specialBack hx (y := (⟨"com/example/no_wait_scheduler/nowaitscheduler/timetable/Leapfrog", "<init>", "(J)V"⟩ : MethodName)) rfl hown (mvT hZ (w5 hw)) (mvT hZ (w6 hw)) (mvT hZ (w7 hw)) (by decide) (backOf (W := 1) (rm_Leapfrog_mk l Z a0 hw [] h59 n0 z59 c59 v9 (0 : Int64) A59 F59_c59_clearUntil F59_c59_free F59_c59_step g59_c59 r60 hr60) hZ (w7 hw) (w4 hw) (by decide) (by decide)) (g := (mkF m 82 #[.val (.long v0), .second, .val (.long v2), .second, .val (.long v4), .second, d6, .val (.long v7), .second, .val (.long v9), .second, .val (.long v11), .second, .val (.long t0), .second, d15, d16, d17] [(.long v9), (.ref c59), (.ref c59)])) rfl (by rw [hml]; rfl) (Steps.refl _) (a := c59) (argsL := [(.long v9)]) (rest := [(.ref c59)]) (lenOf pd_0 rfl) rfl (by show 2 * 0 + _ ≤ _; exact Nat.le_of_eq rfl) (hb hby at_82) (fun _ _ => ⟨rfl, e59, (by decide : 1 + 2 ≤ _), (by decide : 4 + 6 ≤ _)⟩)
  dsimp only [Pt.U, Pt.locs, Pt.cells, Pt.slots] at X60 l60 y60 z60 st60 hQ60
  subst l60 y60 z60
  obtain ⟨c60_0, c60_1, rfl, N60q, K60, E60_c59, F60_c59_clearUntil, F60_c59_free, F60_c59_step, g60_c60_0, s60_c60_0, A60_c60_0, g60_c60_1, s60_c60_1, A60_c60_1, ne_c60_1_c60_0'⟩ := hQ60
  have N60 := Fr.app N N60q
  have ne_c59_c60_0 : c59 ≠ c60_0 := Nat.ne_of_lt (Nat.lt_of_lt_of_le A59.lt s60_c60_0)
  have ne_c59_c60_1 : c59 ≠ c60_1 := Nat.ne_of_lt (Nat.lt_of_lt_of_le A59.lt s60_c60_1)
  have ne_c60_0_c60_1 := Ne.symm ne_c60_1_c60_0'
  have nE60_c60_0 : hE.size ≤ c60_0 := Nat.le_trans K59_.1 s60_c60_0
  have nE60_c60_1 : hE.size ≤ c60_1 := Nat.le_trans K59_.1 s60_c60_1
  have K60_ := K59_.trans K60 (allS (Or.inr nE59_c59) all0)
  have z60_ := Nat.le_trans z59 K60.1
  refine own_Goes.tr st60 ?_
  show own_Goes _ _ _ _ _ _ _ (T60.setTop (mkF m 85 #[.val (.long v0), .second, .val (.long v2), .second, .val (.long v4), .second, d6, .val (.long v7), .second, .val (.long v9), .second, .val (.long v11), .second, .val (.long t0), .second, d15, d16, d17] [(.ref c59)]))
  refine own_Goes.via (B := T60.setTop (mkF m 93 #[.val (.long v0), .second, .val (.long v2), .second, .val (.long v4), .second, d6, .val (.long v7), .second, .val (.long v9), .second, .val (.long v11), .second, .val (.long t0), .second, .val (.ref c59), d16, d17] [(.long t0), (.long v11), (.ref c59)])) (fun t k => ?_) ?_
  · show Steps p.tables e below (T60.setTop (mkF m 85 #[.val (.long v0), .second, .val (.long v2), .second, .val (.long v4), .second, d6, .val (.long v7), .second, .val (.long v9), .second, .val (.long v11), .second, .val (.long t0), .second, d15, d16, d17] [(.ref c59)])) t
    refine XS.astoreS X60.here hx rfl (hb hby at_85) rfl rfl rfl rfl o_d15 ?_
    show Steps p.tables e below (T60.setTop (mkF m 87 #[.val (.long v0), .second, .val (.long v2), .second, .val (.long v4), .second, d6, .val (.long v7), .second, .val (.long v9), .second, .val (.long v11), .second, .val (.long t0), .second, .val (.ref c59), d16, d17] [])) t
    refine XS.aload X60.here hx rfl (hb hby at_87) rfl rfl ?_
    show Steps p.tables e below (T60.setTop (mkF m 89 #[.val (.long v0), .second, .val (.long v2), .second, .val (.long v4), .second, d6, .val (.long v7), .second, .val (.long v9), .second, .val (.long v11), .second, .val (.long t0), .second, .val (.ref c59), d16, d17] [(.ref c59)])) t
    refine XS.lload X60.here hx rfl (hb hby at_89) rfl ?_
    show Steps p.tables e below (T60.setTop (mkF m 91 #[.val (.long v0), .second, .val (.long v2), .second, .val (.long v4), .second, d6, .val (.long v7), .second, .val (.long v9), .second, .val (.long v11), .second, .val (.long t0), .second, .val (.ref c59), d16, d17] [(.long v11), (.ref c59)])) t
    refine XS.lload X60.here hx rfl (hb hby at_91) rfl ?_
    exact k
  obtain ⟨r61, hr61, hF⟩ := own_bd_e hF
  obtain ⟨cq61, kq61, q61a, q61b, q61c⟩ := isOf hZ rfl E60_c59
  obtain ⟨_, _, ⟨T61, L61, k61, n61⟩, -, X61, ⟨Lc61, hQ61, l61, y61, z61⟩, st61⟩ := X60.virtualBack hx (y := (⟨"com/example/no_wait_scheduler/nowaitscheduler/timetable/Leapfrog", "onGrid", "(JJ)J"⟩ : MethodName)) (z := (⟨"com/example/no_wait_scheduler/nowaitscheduler/timetable/Leapfrog", "onGrid", "(JJ)J"⟩ : MethodName)) hown (mvT hZ (w18 hw)) (mvT hZ (w19 hw)) (notFace_of_selects (args := #[]) (mvT hZ (w21 hw))) (mvT hZ (w21 hw)) (mvT hZ (w20 hw)) (by decide) (backOf (W := 0) (rm_Leapfrog_onGrid l Z a0 hw [] T60.heap n0 z60_ c59 c60_0 c60_1 v11 t0 r60.1 r60.2.1 r60.2.2 E60_c59 F60_c59_clearUntil F60_c59_free F60_c59_step g59_c59 A60_c60_0 g60_c60_0 A60_c60_1 g60_c60_1 ne_c59_c60_0 ne_c59_c60_1 ne_c60_0_c60_1 r61 hr61) hZ (w22 hw) (w4 hw) (by decide) (by decide)) q61a q61c (g := (mkF m 93 #[.val (.long v0), .second, .val (.long v2), .second, .val (.long v4), .second, d6, .val (.long v7), .second, .val (.long v9), .second, .val (.long v11), .second, .val (.long t0), .second, .val (.ref c59), d16, d17] [(.long t0), (.long v11), (.ref c59)])) rfl (by rw [hml]; rfl) (Steps.refl _) (argsL := [(.long v11), (.long t0)]) (rest := []) (lenOf pd_1 rfl) rfl (by show 2 * 0 + _ ≤ _; exact Nat.le_of_eq rfl) (hb hby at_93) (fun _ _ => ⟨rfl, rfl, (by decide : 3 + 0 ≤ _), (by decide : 10 + 0 ≤ _)⟩)
  dsimp only [Pt.U, Pt.locs, Pt.cells, Pt.slots] at X61 l61 y61 z61 st61 hQ61
  subst l61 y61 z61
  obtain ⟨rfl, N61q, e61⟩ := hQ61
  have N61 := Fr.app N60 N61q
  refine own_Goes.tr st61 ?_
  show own_Goes _ _ _ _ _ _ _ (T61.setTop (mkF m 96 #[.val (.long v0), .second, .val (.long v2), .second, .val (.long v4), .second, d6, .val (.long v7), .second, .val (.long v9), .second, .val (.long v11), .second, .val (.long t0), .second, .val (.ref c59), d16, d17] [(.long r61)]))
  refine own_Goes.via (B := T61.setTop (mkF m 103 #[.val (.long v0), .second, .val (.long v2), .second, .val (.long v4), .second, d6, .val (.long v7), .second, .val (.long v9), .second, .val (.long v11), .second, .val (.long t0), .second, .val (.ref c59), .val (.long r61), .second] [(.int (lcmpW v11 t0))])) (fun t k => ?_) ?_
  · show Steps p.tables e below (T61.setTop (mkF m 96 #[.val (.long v0), .second, .val (.long v2), .second, .val (.long v4), .second, d6, .val (.long v7), .second, .val (.long v9), .second, .val (.long v11), .second, .val (.long t0), .second, .val (.ref c59), d16, d17] [(.long r61)])) t
    refine XS.lstore X61.here hx rfl (hb hby at_96) rfl (l' := #[.val (.long v0), .second, .val (.long v2), .second, .val (.long v4), .second, d6, .val (.long v7), .second, .val (.long v9), .second, .val (.long v11), .second, .val (.long t0), .second, .val (.ref c59), .val (.long r61), .second]) (own_st2 rfl rfl o_d16 o_d17 rfl) ?_
    show Steps p.tables e below (T61.setTop (mkF m 98 #[.val (.long v0), .second, .val (.long v2), .second, .val (.long v4), .second, d6, .val (.long v7), .second, .val (.long v9), .second, .val (.long v11), .second, .val (.long t0), .second, .val (.ref c59), .val (.long r61), .second] [])) t
    refine XS.lload X61.here hx rfl (hb hby at_98) rfl ?_
    show Steps p.tables e below (T61.setTop (mkF m 100 #[.val (.long v0), .second, .val (.long v2), .second, .val (.long v4), .second, d6, .val (.long v7), .second, .val (.long v9), .second, .val (.long v11), .second, .val (.long t0), .second, .val (.ref c59), .val (.long r61), .second] [(.long v11)])) t
    refine XS.lload X61.here hx rfl (hb hby at_100) rfl ?_
    show Steps p.tables e below (T61.setTop (mkF m 102 #[.val (.long v0), .second, .val (.long v2), .second, .val (.long v4), .second, d6, .val (.long v7), .second, .val (.long v9), .second, .val (.long v11), .second, .val (.long t0), .second, .val (.ref c59), .val (.long r61), .second] [(.long t0), (.long v11)])) t
    refine XS.lcmp X61.here hx rfl (hb hby at_102) rfl ?_
    exact k
  by_cases hc103 : v11 < t0
  · rw [if_pos hc103] at hF
    refine own_Goes.via (B := T61.setTop (mkF m 125 #[.val (.long v0), .second, .val (.long v2), .second, .val (.long v4), .second, d6, .val (.long v7), .second, .val (.long v9), .second, .val (.long v11), .second, .val (.long t0), .second, .val (.ref c59), .val (.long r61), .second] [(.int (lcmpW r61 v11))])) (fun t k => ?_) ?_
    · show Steps p.tables e below (T61.setTop (mkF m 103 #[.val (.long v0), .second, .val (.long v2), .second, .val (.long v4), .second, d6, .val (.long v7), .second, .val (.long v9), .second, .val (.long v11), .second, .val (.long t0), .second, .val (.ref c59), .val (.long r61), .second] [(.int (lcmpW v11 t0))])) t
      refine XS.ifYes X61.here hx rfl (pc0 := 103) (pc' := 120) rfl (hb hby at_103) rfl (own_tltL hc103).1 (by decide) (by decide) ?_
      show Steps p.tables e below (T61.setTop (mkF m 120 #[.val (.long v0), .second, .val (.long v2), .second, .val (.long v4), .second, d6, .val (.long v7), .second, .val (.long v9), .second, .val (.long v11), .second, .val (.long t0), .second, .val (.ref c59), .val (.long r61), .second] [])) t
      refine XS.lload X61.here hx rfl (hb hby at_120) rfl ?_
      show Steps p.tables e below (T61.setTop (mkF m 122 #[.val (.long v0), .second, .val (.long v2), .second, .val (.long v4), .second, d6, .val (.long v7), .second, .val (.long v9), .second, .val (.long v11), .second, .val (.long t0), .second, .val (.ref c59), .val (.long r61), .second] [(.long r61)])) t
      refine XS.lload X61.here hx rfl (hb hby at_122) rfl ?_
      show Steps p.tables e below (T61.setTop (mkF m 124 #[.val (.long v0), .second, .val (.long v2), .second, .val (.long v4), .second, d6, .val (.long v7), .second, .val (.long v9), .second, .val (.long v11), .second, .val (.long t0), .second, .val (.ref c59), .val (.long r61), .second] [(.long v11), (.long r61)])) t
      refine XS.lcmp X61.here hx rfl (hb hby at_124) rfl ?_
      exact k
    by_cases hc125 : r61 < v11
    · rw [if_pos hc125] at hF
      refine own_Goes.via (B := T61.setTop (mkF m 154 #[.val (.long v0), .second, .val (.long v2), .second, .val (.long v4), .second, d6, .val (.long v7), .second, .val (.long v9), .second, .val (.long v11), .second, .val (.long t0), .second, .val (.ref c59), .val (.long r61), .second] [(.int (0 : Int32))])) (fun t k => ?_) ?_
      · show Steps p.tables e below (T61.setTop (mkF m 125 #[.val (.long v0), .second, .val (.long v2), .second, .val (.long v4), .second, d6, .val (.long v7), .second, .val (.long v9), .second, .val (.long v11), .second, .val (.long t0), .second, .val (.ref c59), .val (.long r61), .second] [(.int (lcmpW r61 v11))])) t
        refine XS.ifYes X61.here hx rfl (pc0 := 125) (pc' := 153) rfl (hb hby at_125) rfl (own_tltL hc125).1 (by decide) (by decide) ?_
        show Steps p.tables e below (T61.setTop (mkF m 153 #[.val (.long v0), .second, .val (.long v2), .second, .val (.long v4), .second, d6, .val (.long v7), .second, .val (.long v9), .second, .val (.long v11), .second, .val (.long t0), .second, .val (.ref c59), .val (.long r61), .second] [])) t
        refine XS.iconst X61.here hx rfl (hb hby at_153) ?_
        exact k
      obtain rfl : (0 : Int32) = r := Option.some.inj hF
      exact own_retN X61 hx (t := .boolean) hret hlk (by simp) (hb hby at_154) e61 (v := (0 : Int32)) (by decide) ⟨rfl, N61, K60_⟩ (by decide) (by decide)
    · rw [if_neg hc125] at hF
      refine own_Goes.via (B := T61.setTop (mkF m 136 #[.val (.long v0), .second, .val (.long v2), .second, .val (.long v4), .second, d6, .val (.long v7), .second, .val (.long v9), .second, .val (.long v11), .second, .val (.long t0), .second, .val (.ref c59), .val (.long r61), .second] [(.int (lcmpW (r61 - v11) v9))])) (fun t k => ?_) ?_
      · show Steps p.tables e below (T61.setTop (mkF m 125 #[.val (.long v0), .second, .val (.long v2), .second, .val (.long v4), .second, d6, .val (.long v7), .second, .val (.long v9), .second, .val (.long v11), .second, .val (.long t0), .second, .val (.ref c59), .val (.long r61), .second] [(.int (lcmpW r61 v11))])) t
        refine XS.ifNo X61.here hx rfl (hb hby at_125) rfl (own_fltL hc125).1 ?_
        show Steps p.tables e below (T61.setTop (mkF m 128 #[.val (.long v0), .second, .val (.long v2), .second, .val (.long v4), .second, d6, .val (.long v7), .second, .val (.long v9), .second, .val (.long v11), .second, .val (.long t0), .second, .val (.ref c59), .val (.long r61), .second] [])) t
        refine XS.lload X61.here hx rfl (hb hby at_128) rfl ?_
        show Steps p.tables e below (T61.setTop (mkF m 130 #[.val (.long v0), .second, .val (.long v2), .second, .val (.long v4), .second, d6, .val (.long v7), .second, .val (.long v9), .second, .val (.long v11), .second, .val (.long t0), .second, .val (.ref c59), .val (.long r61), .second] [(.long r61)])) t
        refine XS.lload X61.here hx rfl (hb hby at_130) rfl ?_
        show Steps p.tables e below (T61.setTop (mkF m 132 #[.val (.long v0), .second, .val (.long v2), .second, .val (.long v4), .second, d6, .val (.long v7), .second, .val (.long v9), .second, .val (.long v11), .second, .val (.long t0), .second, .val (.ref c59), .val (.long r61), .second] [(.long v11), (.long r61)])) t
        refine XS.lsub X61.here hx rfl (hb hby at_132) rfl ?_
        show Steps p.tables e below (T61.setTop (mkF m 133 #[.val (.long v0), .second, .val (.long v2), .second, .val (.long v4), .second, d6, .val (.long v7), .second, .val (.long v9), .second, .val (.long v11), .second, .val (.long t0), .second, .val (.ref c59), .val (.long r61), .second] [(.long (r61 - v11))])) t
        refine XS.lload X61.here hx rfl (hb hby at_133) rfl ?_
        show Steps p.tables e below (T61.setTop (mkF m 135 #[.val (.long v0), .second, .val (.long v2), .second, .val (.long v4), .second, d6, .val (.long v7), .second, .val (.long v9), .second, .val (.long v11), .second, .val (.long t0), .second, .val (.ref c59), .val (.long r61), .second] [(.long v9), (.long (r61 - v11))])) t
        refine XS.lcmp X61.here hx rfl (hb hby at_135) rfl ?_
        exact k
      by_cases hc136 : (r61 - v11) < v9
      · rw [if_pos hc136] at hF
        refine own_Goes.via (B := T61.setTop (mkF m 143 #[.val (.long v0), .second, .val (.long v2), .second, .val (.long v4), .second, d6, .val (.long v7), .second, .val (.long v9), .second, .val (.long v11), .second, .val (.long t0), .second, .val (.ref c59), .val (.long r61), .second] [(.long v9), (.long r61)])) (fun t k => ?_) ?_
        · show Steps p.tables e below (T61.setTop (mkF m 136 #[.val (.long v0), .second, .val (.long v2), .second, .val (.long v4), .second, d6, .val (.long v7), .second, .val (.long v9), .second, .val (.long v11), .second, .val (.long t0), .second, .val (.ref c59), .val (.long r61), .second] [(.int (lcmpW (r61 - v11) v9))])) t
          refine XS.ifNo X61.here hx rfl (hb hby at_136) rfl (own_tltL hc136).2 ?_
          show Steps p.tables e below (T61.setTop (mkF m 139 #[.val (.long v0), .second, .val (.long v2), .second, .val (.long v4), .second, d6, .val (.long v7), .second, .val (.long v9), .second, .val (.long v11), .second, .val (.long t0), .second, .val (.ref c59), .val (.long r61), .second] [])) t
          refine XS.lload X61.here hx rfl (hb hby at_139) rfl ?_
          show Steps p.tables e below (T61.setTop (mkF m 141 #[.val (.long v0), .second, .val (.long v2), .second, .val (.long v4), .second, d6, .val (.long v7), .second, .val (.long v9), .second, .val (.long v11), .second, .val (.long t0), .second, .val (.ref c59), .val (.long r61), .second] [(.long r61)])) t
          refine XS.lload X61.here hx rfl (hb hby at_141) rfl ?_
          exact k
        obtain ⟨hz143, hF⟩ := own_ck_e hF
        refine own_Goes.via (B := T61.setTop (mkF m 146 #[.val (.long v0), .second, .val (.long v2), .second, .val (.long v4), .second, d6, .val (.long v7), .second, .val (.long v9), .second, .val (.long v11), .second, .val (.long t0), .second, .val (.ref c59), .val (.long r61), .second] [(.int (lcmpW (r61 % v9) (0 : Int64)))])) (fun t k => ?_) ?_
        · show Steps p.tables e below (T61.setTop (mkF m 143 #[.val (.long v0), .second, .val (.long v2), .second, .val (.long v4), .second, d6, .val (.long v7), .second, .val (.long v9), .second, .val (.long v11), .second, .val (.long t0), .second, .val (.ref c59), .val (.long r61), .second] [(.long v9), (.long r61)])) t
          refine own_lrem X61 hx rfl (hb hby at_143) rfl hz143 ?_
          show Steps p.tables e below (T61.setTop (mkF m 144 #[.val (.long v0), .second, .val (.long v2), .second, .val (.long v4), .second, d6, .val (.long v7), .second, .val (.long v9), .second, .val (.long v11), .second, .val (.long t0), .second, .val (.ref c59), .val (.long r61), .second] [(.long (r61 % v9))])) t
          refine XS.lconst X61.here hx rfl (hb hby at_144) ?_
          show Steps p.tables e below (T61.setTop (mkF m 145 #[.val (.long v0), .second, .val (.long v2), .second, .val (.long v4), .second, d6, .val (.long v7), .second, .val (.long v9), .second, .val (.long v11), .second, .val (.long t0), .second, .val (.ref c59), .val (.long r61), .second] [(.long (0 : Int64)), (.long (r61 % v9))])) t
          refine XS.lcmp X61.here hx rfl (hb hby at_145) rfl ?_
          exact k
        by_cases hc146 : (r61 % v9) = (0 : Int64)
        · rw [if_pos hc146] at hF
          refine own_Goes.via (B := T61.setTop (mkF m 154 #[.val (.long v0), .second, .val (.long v2), .second, .val (.long v4), .second, d6, .val (.long v7), .second, .val (.long v9), .second, .val (.long v11), .second, .val (.long t0), .second, .val (.ref c59), .val (.long r61), .second] [(.int (1 : Int32))])) (fun t k => ?_) ?_
          · show Steps p.tables e below (T61.setTop (mkF m 146 #[.val (.long v0), .second, .val (.long v2), .second, .val (.long v4), .second, d6, .val (.long v7), .second, .val (.long v9), .second, .val (.long v11), .second, .val (.long t0), .second, .val (.ref c59), .val (.long r61), .second] [(.int (lcmpW (r61 % v9) (0 : Int64)))])) t
            refine XS.ifNo X61.here hx rfl (hb hby at_146) rfl (own_teqL hc146).2 ?_
            show Steps p.tables e below (T61.setTop (mkF m 149 #[.val (.long v0), .second, .val (.long v2), .second, .val (.long v4), .second, d6, .val (.long v7), .second, .val (.long v9), .second, .val (.long v11), .second, .val (.long t0), .second, .val (.ref c59), .val (.long r61), .second] [])) t
            refine XS.iconst X61.here hx rfl (hb hby at_149) ?_
            show Steps p.tables e below (T61.setTop (mkF m 150 #[.val (.long v0), .second, .val (.long v2), .second, .val (.long v4), .second, d6, .val (.long v7), .second, .val (.long v9), .second, .val (.long v11), .second, .val (.long t0), .second, .val (.ref c59), .val (.long r61), .second] [(.int (1 : Int32))])) t
            refine XS.goto X61.here hx rfl (pc0 := 150) (pc' := 154) rfl (hb hby at_150) (by decide) (by decide) ?_
            exact k
          obtain rfl : (1 : Int32) = r := Option.some.inj hF
          exact own_retN X61 hx (t := .boolean) hret hlk (by simp) (hb hby at_154) e61 (v := (1 : Int32)) (by decide) ⟨rfl, N61, K60_⟩ (by decide) (by decide)
        · rw [if_neg hc146] at hF
          refine own_Goes.via (B := T61.setTop (mkF m 154 #[.val (.long v0), .second, .val (.long v2), .second, .val (.long v4), .second, d6, .val (.long v7), .second, .val (.long v9), .second, .val (.long v11), .second, .val (.long t0), .second, .val (.ref c59), .val (.long r61), .second] [(.int (0 : Int32))])) (fun t k => ?_) ?_
          · show Steps p.tables e below (T61.setTop (mkF m 146 #[.val (.long v0), .second, .val (.long v2), .second, .val (.long v4), .second, d6, .val (.long v7), .second, .val (.long v9), .second, .val (.long v11), .second, .val (.long t0), .second, .val (.ref c59), .val (.long r61), .second] [(.int (lcmpW (r61 % v9) (0 : Int64)))])) t
            refine XS.ifYes X61.here hx rfl (pc0 := 146) (pc' := 153) rfl (hb hby at_146) rfl (own_feqL hc146).2 (by decide) (by decide) ?_
            show Steps p.tables e below (T61.setTop (mkF m 153 #[.val (.long v0), .second, .val (.long v2), .second, .val (.long v4), .second, d6, .val (.long v7), .second, .val (.long v9), .second, .val (.long v11), .second, .val (.long t0), .second, .val (.ref c59), .val (.long r61), .second] [])) t
            refine XS.iconst X61.here hx rfl (hb hby at_153) ?_
            exact k
          obtain rfl : (0 : Int32) = r := Option.some.inj hF
          exact own_retN X61 hx (t := .boolean) hret hlk (by simp) (hb hby at_154) e61 (v := (0 : Int32)) (by decide) ⟨rfl, N61, K60_⟩ (by decide) (by decide)
      · rw [if_neg hc136] at hF
        refine own_Goes.via (B := T61.setTop (mkF m 154 #[.val (.long v0), .second, .val (.long v2), .second, .val (.long v4), .second, d6, .val (.long v7), .second, .val (.long v9), .second, .val (.long v11), .second, .val (.long t0), .second, .val (.ref c59), .val (.long r61), .second] [(.int (0 : Int32))])) (fun t k => ?_) ?_
        · show Steps p.tables e below (T61.setTop (mkF m 136 #[.val (.long v0), .second, .val (.long v2), .second, .val (.long v4), .second, d6, .val (.long v7), .second, .val (.long v9), .second, .val (.long v11), .second, .val (.long t0), .second, .val (.ref c59), .val (.long r61), .second] [(.int (lcmpW (r61 - v11) v9))])) t
          refine XS.ifYes X61.here hx rfl (pc0 := 136) (pc' := 153) rfl (hb hby at_136) rfl (own_fltL hc136).2 (by decide) (by decide) ?_
          show Steps p.tables e below (T61.setTop (mkF m 153 #[.val (.long v0), .second, .val (.long v2), .second, .val (.long v4), .second, d6, .val (.long v7), .second, .val (.long v9), .second, .val (.long v11), .second, .val (.long t0), .second, .val (.ref c59), .val (.long r61), .second] [])) t
          refine XS.iconst X61.here hx rfl (hb hby at_153) ?_
          exact k
        obtain rfl : (0 : Int32) = r := Option.some.inj hF
        exact own_retN X61 hx (t := .boolean) hret hlk (by simp) (hb hby at_154) e61 (v := (0 : Int32)) (by decide) ⟨rfl, N61, K60_⟩ (by decide) (by decide)
  · rw [if_neg hc103] at hF
    refine own_Goes.via (B := T61.setTop (mkF m 111 #[.val (.long v0), .second, .val (.long v2), .second, .val (.long v4), .second, d6, .val (.long v7), .second, .val (.long v9), .second, .val (.long v11), .second, .val (.long t0), .second, .val (.ref c59), .val (.long r61), .second] [(.int (lcmpW r61 v11))])) (fun t k => ?_) ?_
    · show Steps p.tables e below (T61.setTop (mkF m 103 #[.val (.long v0), .second, .val (.long v2), .second, .val (.long v4), .second, d6, .val (.long v7), .second, .val (.long v9), .second, .val (.long v11), .second, .val (.long t0), .second, .val (.ref c59), .val (.long r61), .second] [(.int (lcmpW v11 t0))])) t
      refine XS.ifNo X61.here hx rfl (hb hby at_103) rfl (own_fltL hc103).1 ?_
      show Steps p.tables e below (T61.setTop (mkF m 106 #[.val (.long v0), .second, .val (.long v2), .second, .val (.long v4), .second, d6, .val (.long v7), .second, .val (.long v9), .second, .val (.long v11), .second, .val (.long t0), .second, .val (.ref c59), .val (.long r61), .second] [])) t
      refine XS.lload X61.here hx rfl (hb hby at_106) rfl ?_
      show Steps p.tables e below (T61.setTop (mkF m 108 #[.val (.long v0), .second, .val (.long v2), .second, .val (.long v4), .second, d6, .val (.long v7), .second, .val (.long v9), .second, .val (.long v11), .second, .val (.long t0), .second, .val (.ref c59), .val (.long r61), .second] [(.long r61)])) t
      refine XS.lload X61.here hx rfl (hb hby at_108) rfl ?_
      show Steps p.tables e below (T61.setTop (mkF m 110 #[.val (.long v0), .second, .val (.long v2), .second, .val (.long v4), .second, d6, .val (.long v7), .second, .val (.long v9), .second, .val (.long v11), .second, .val (.long t0), .second, .val (.ref c59), .val (.long r61), .second] [(.long v11), (.long r61)])) t
      refine XS.lcmp X61.here hx rfl (hb hby at_110) rfl ?_
      exact k
    by_cases hc111 : r61 = v11
    · rw [if_pos hc111] at hF
      refine own_Goes.via (B := T61.setTop (mkF m 119 #[.val (.long v0), .second, .val (.long v2), .second, .val (.long v4), .second, d6, .val (.long v7), .second, .val (.long v9), .second, .val (.long v11), .second, .val (.long t0), .second, .val (.ref c59), .val (.long r61), .second] [(.int (1 : Int32))])) (fun t k => ?_) ?_
      · show Steps p.tables e below (T61.setTop (mkF m 111 #[.val (.long v0), .second, .val (.long v2), .second, .val (.long v4), .second, d6, .val (.long v7), .second, .val (.long v9), .second, .val (.long v11), .second, .val (.long t0), .second, .val (.ref c59), .val (.long r61), .second] [(.int (lcmpW r61 v11))])) t
        refine XS.ifNo X61.here hx rfl (hb hby at_111) rfl (own_teqL hc111).2 ?_
        show Steps p.tables e below (T61.setTop (mkF m 114 #[.val (.long v0), .second, .val (.long v2), .second, .val (.long v4), .second, d6, .val (.long v7), .second, .val (.long v9), .second, .val (.long v11), .second, .val (.long t0), .second, .val (.ref c59), .val (.long r61), .second] [])) t
        refine XS.iconst X61.here hx rfl (hb hby at_114) ?_
        show Steps p.tables e below (T61.setTop (mkF m 115 #[.val (.long v0), .second, .val (.long v2), .second, .val (.long v4), .second, d6, .val (.long v7), .second, .val (.long v9), .second, .val (.long v11), .second, .val (.long t0), .second, .val (.ref c59), .val (.long r61), .second] [(.int (1 : Int32))])) t
        refine XS.goto X61.here hx rfl (pc0 := 115) (pc' := 119) rfl (hb hby at_115) (by decide) (by decide) ?_
        exact k
      obtain rfl : (1 : Int32) = r := Option.some.inj hF
      exact own_retN X61 hx (t := .boolean) hret hlk (by simp) (hb hby at_119) e61 (v := (1 : Int32)) (by decide) ⟨rfl, N61, K60_⟩ (by decide) (by decide)
    · rw [if_neg hc111] at hF
      refine own_Goes.via (B := T61.setTop (mkF m 119 #[.val (.long v0), .second, .val (.long v2), .second, .val (.long v4), .second, d6, .val (.long v7), .second, .val (.long v9), .second, .val (.long v11), .second, .val (.long t0), .second, .val (.ref c59), .val (.long r61), .second] [(.int (0 : Int32))])) (fun t k => ?_) ?_
      · show Steps p.tables e below (T61.setTop (mkF m 111 #[.val (.long v0), .second, .val (.long v2), .second, .val (.long v4), .second, d6, .val (.long v7), .second, .val (.long v9), .second, .val (.long v11), .second, .val (.long t0), .second, .val (.ref c59), .val (.long r61), .second] [(.int (lcmpW r61 v11))])) t
        refine XS.ifYes X61.here hx rfl (pc0 := 111) (pc' := 118) rfl (hb hby at_111) rfl (own_feqL hc111).2 (by decide) (by decide) ?_
        show Steps p.tables e below (T61.setTop (mkF m 118 #[.val (.long v0), .second, .val (.long v2), .second, .val (.long v4), .second, d6, .val (.long v7), .second, .val (.long v9), .second, .val (.long v11), .second, .val (.long t0), .second, .val (.ref c59), .val (.long r61), .second] [])) t
        refine XS.iconst X61.here hx rfl (hb hby at_118) ?_
        exact k
      obtain rfl : (0 : Int32) = r := Option.some.inj hF
      exact own_retN X61 hx (t := .boolean) hret hlk (by simp) (hb hby at_119) e61 (v := (0 : Int32)) (by decide) ⟨rfl, N61, K60_⟩ (by decide) (by decide)
set_option maxRecDepth 65536 in
set_option maxHeartbeats 4000000 in
theorem b_law_49 {p : Program} {l : Launch} {e : Env} {s : State} {m : MethodId} {args : Array Value} {below : List Frame} {meth : Method} {c : Code} {Z : State} {a0 : Array Value} {n0 : Nat} {hE : Heap} (cx : Cx_law p s m meth c Z a0) :
    ∀ {T : State} {locs : List Loc} {h : Heap} (X : Stand p l e room_1 s m args below meth c T locs 0 0) (eT : T.heap = h) (N : Fr n0 locs) (K : Keep hE h []) (z : n0 ≤ h.size) (v4 : Int64) (v6 : Int32) (v7 : Int64) (v9 : Int64) (t0 : Int64) (v0 : Int64) (v2 : Int64) (d11 : Slot) (d12 : Slot) (d13 : Slot) (d14 : Slot) (d15 : Slot) (d16 : Slot) (d17 : Slot) (o_d11 : One d11) (o_d12 : One d12) (o_d13 : One d13) (o_d14 : One d14) (o_d15 : One d15) (o_d16 : One d16) (o_d17 : One d17) (r : Int32), f_law_49 v4 v6 v7 v9 t0 = some r → own_Goes p e below s (Q_law Z hE n0 r) 3 10 (T.setTop (mkF m 49 #[.val (.long v0), .second, .val (.long v2), .second, .val (.long v4), .second, .val (.int v6), .val (.long v7), .second, .val (.long v9), .second, d11, d12, d13, d14, d15, d16, d17] [(.long t0)])) := by
  have cx' := cx
  obtain ⟨hx, hZ, hw, hby, hml, hown, hret, hlk, hnm⟩ := cx'
  intro T locs h X eT N K z v4 v6 v7 v9 t0 v0 v2 d11 d12 d13 d14 d15 d16 d17 o_d11 o_d12 o_d13 o_d14 o_d15 o_d16 o_d17 r hF
  unfold f_law_49 at hF
  refine own_Goes.via (B := T.setTop (mkF m 55 #[.val (.long v0), .second, .val (.long v2), .second, .val (.long v4), .second, .val (.int v6), .val (.long v7), .second, .val (.long v9), .second, .val (.long t0), .second, d13, d14, d15, d16, d17] [(.int (v6 &&& (4 : Int32)))])) (fun t k => ?_) ?_
  · show Steps p.tables e below (T.setTop (mkF m 49 #[.val (.long v0), .second, .val (.long v2), .second, .val (.long v4), .second, .val (.int v6), .val (.long v7), .second, .val (.long v9), .second, d11, d12, d13, d14, d15, d16, d17] [(.long t0)])) t
    refine XS.lstore X.here hx rfl (hb hby at_49) rfl (l' := #[.val (.long v0), .second, .val (.long v2), .second, .val (.long v4), .second, .val (.int v6), .val (.long v7), .second, .val (.long v9), .second, .val (.long t0), .second, d13, d14, d15, d16, d17]) (own_st2 rfl rfl o_d11 o_d12 rfl) ?_
    show Steps p.tables e below (T.setTop (mkF m 51 #[.val (.long v0), .second, .val (.long v2), .second, .val (.long v4), .second, .val (.int v6), .val (.long v7), .second, .val (.long v9), .second, .val (.long t0), .second, d13, d14, d15, d16, d17] [])) t
    refine XS.iload X.here hx rfl (hb hby at_51) rfl ?_
    show Steps p.tables e below (T.setTop (mkF m 53 #[.val (.long v0), .second, .val (.long v2), .second, .val (.long v4), .second, .val (.int v6), .val (.long v7), .second, .val (.long v9), .second, .val (.long t0), .second, d13, d14, d15, d16, d17] [(.int v6)])) t
    refine XS.iconst X.here hx rfl (hb hby at_53) ?_
    show Steps p.tables e below (T.setTop (mkF m 54 #[.val (.long v0), .second, .val (.long v2), .second, .val (.long v4), .second, .val (.int v6), .val (.long v7), .second, .val (.long v9), .second, .val (.long t0), .second, d13, d14, d15, d16, d17] [(.int (4 : Int32)), (.int v6)])) t
    refine XS.iand X.here hx rfl (hb hby at_54) rfl ?_
    exact k
  by_cases hc55 : (v6 &&& (4 : Int32)) = (0 : Int32)
  · rw [if_pos hc55] at hF
    refine own_Goes.via (B := T.setTop (mkF m 74 #[.val (.long v0), .second, .val (.long v2), .second, .val (.long v4), .second, .val (.int v6), .val (.long v7), .second, .val (.long v9), .second, .val (.long t0), .second, d13, d14, d15, d16, d17] [(.long ((v4 &&& v7) + (1 : Int64)))])) (fun t k => ?_) ?_
    · show Steps p.tables e below (T.setTop (mkF m 55 #[.val (.long v0), .second, .val (.long v2), .second, .val (.long v4), .second, .val (.int v6), .val (.long v7), .second, .val (.long v9), .second, .val (.long t0), .second, d13, d14, d15, d16, d17] [(.int (v6 &&& (4 : Int32)))])) t
      refine XS.ifYes X.here hx rfl (pc0 := 55) (pc' := 67) rfl (hb hby at_55) rfl ((if0 _ _).trans (teq hc55).1) (by decide) (by decide) ?_
      show Steps p.tables e below (T.setTop (mkF m 67 #[.val (.long v0), .second, .val (.long v2), .second, .val (.long v4), .second, .val (.int v6), .val (.long v7), .second, .val (.long v9), .second, .val (.long t0), .second, d13, d14, d15, d16, d17] [])) t
      refine XS.lload X.here hx rfl (hb hby at_67) rfl ?_
      show Steps p.tables e below (T.setTop (mkF m 69 #[.val (.long v0), .second, .val (.long v2), .second, .val (.long v4), .second, .val (.int v6), .val (.long v7), .second, .val (.long v9), .second, .val (.long t0), .second, d13, d14, d15, d16, d17] [(.long v4)])) t
      refine XS.lload X.here hx rfl (hb hby at_69) rfl ?_
      show Steps p.tables e below (T.setTop (mkF m 71 #[.val (.long v0), .second, .val (.long v2), .second, .val (.long v4), .second, .val (.int v6), .val (.long v7), .second, .val (.long v9), .second, .val (.long t0), .second, d13, d14, d15, d16, d17] [(.long v7), (.long v4)])) t
      refine XS.land X.here hx rfl (hb hby at_71) rfl ?_
      show Steps p.tables e below (T.setTop (mkF m 72 #[.val (.long v0), .second, .val (.long v2), .second, .val (.long v4), .second, .val (.int v6), .val (.long v7), .second, .val (.long v9), .second, .val (.long t0), .second, d13, d14, d15, d16, d17] [(.long (v4 &&& v7))])) t
      refine XS.lconst X.here hx rfl (hb hby at_72) ?_
      show Steps p.tables e below (T.setTop (mkF m 73 #[.val (.long v0), .second, .val (.long v2), .second, .val (.long v4), .second, .val (.int v6), .val (.long v7), .second, .val (.long v9), .second, .val (.long t0), .second, d13, d14, d15, d16, d17] [(.long (1 : Int64)), (.long (v4 &&& v7))])) t
      refine XS.ladd X.here hx rfl (hb hby at_73) rfl ?_
      exact k
    exact b_law_74 cx X eT N K z v9 t0 ((v4 &&& v7) + (1 : Int64)) v0 v2 v4 (.val (.int v6)) v7 d13 d14 d15 d16 d17 (One.val rfl) o_d13 o_d14 o_d15 o_d16 o_d17 _ hF
  · rw [if_neg hc55] at hF
    refine own_Goes.via (B := T.setTop (mkF m 74 #[.val (.long v0), .second, .val (.long v2), .second, .val (.long v4), .second, .val (.int v6), .val (.long v7), .second, .val (.long v9), .second, .val (.long t0), .second, d13, d14, d15, d16, d17] [(.long (v4 &&& (127 : Int64)))])) (fun t k => ?_) ?_
    · show Steps p.tables e below (T.setTop (mkF m 55 #[.val (.long v0), .second, .val (.long v2), .second, .val (.long v4), .second, .val (.int v6), .val (.long v7), .second, .val (.long v9), .second, .val (.long t0), .second, d13, d14, d15, d16, d17] [(.int (v6 &&& (4 : Int32)))])) t
      refine XS.ifNo X.here hx rfl (hb hby at_55) rfl ((if0 _ _).trans (feq hc55).1) ?_
      show Steps p.tables e below (T.setTop (mkF m 58 #[.val (.long v0), .second, .val (.long v2), .second, .val (.long v4), .second, .val (.int v6), .val (.long v7), .second, .val (.long v9), .second, .val (.long t0), .second, d13, d14, d15, d16, d17] [])) t
      refine XS.lload X.here hx rfl (hb hby at_58) rfl ?_
      show Steps p.tables e below (T.setTop (mkF m 60 #[.val (.long v0), .second, .val (.long v2), .second, .val (.long v4), .second, .val (.int v6), .val (.long v7), .second, .val (.long v9), .second, .val (.long t0), .second, d13, d14, d15, d16, d17] [(.long v4)])) t
      refine X.ldc2Long hx hown (mvT hZ (w24 hw)) (g := (mkF m 60 #[.val (.long v0), .second, .val (.long v2), .second, .val (.long v4), .second, .val (.int v6), .val (.long v7), .second, .val (.long v9), .second, .val (.long t0), .second, d13, d14, d15, d16, d17] [(.long v4)])) rfl (hb hby at_60) _ ?_
      show Steps p.tables e below (T.setTop (mkF m 63 #[.val (.long v0), .second, .val (.long v2), .second, .val (.long v4), .second, .val (.int v6), .val (.long v7), .second, .val (.long v9), .second, .val (.long t0), .second, d13, d14, d15, d16, d17] [(.long (127 : Int64)), (.long v4)])) t
      refine XS.land X.here hx rfl (hb hby at_63) rfl ?_
      show Steps p.tables e below (T.setTop (mkF m 64 #[.val (.long v0), .second, .val (.long v2), .second, .val (.long v4), .second, .val (.int v6), .val (.long v7), .second, .val (.long v9), .second, .val (.long t0), .second, d13, d14, d15, d16, d17] [(.long (v4 &&& (127 : Int64)))])) t
      refine XS.goto X.here hx rfl (pc0 := 64) (pc' := 74) rfl (hb hby at_64) (by decide) (by decide) ?_
      exact k
    exact b_law_74 cx X eT N K z v9 t0 (v4 &&& (127 : Int64)) v0 v2 v4 (.val (.int v6)) v7 d13 d14 d15 d16 d17 (One.val rfl) o_d13 o_d14 o_d15 o_d16 o_d17 _ hF
set_option maxRecDepth 65536 in
set_option maxHeartbeats 4000000 in
theorem b_law {p : Program} {l : Launch} {e : Env} {s : State} {m : MethodId} {args : Array Value} {below : List Frame} {meth : Method} {c : Code} {Z : State} {a0 : Array Value} {n0 : Nat} {hE : Heap} (cx : Cx_law p s m meth c Z a0) :
    ∀ {T : State} {locs : List Loc} {h : Heap} (X : Stand p l e room_1 s m args below meth c T locs 0 0) (eT : T.heap = h) (N : Fr n0 locs) (K : Keep hE h []) (z : n0 ≤ h.size) (v0 : Int64) (v2 : Int64) (v4 : Int64) (v6 : Int32) (r : Int32), f_law v0 v2 v4 v6 = some r → own_Goes p e below s (Q_law Z hE n0 r) 3 10 (T.setTop (mkF m 0 #[.val (.long v0), .second, .val (.long v2), .second, .val (.long v4), .second, .val (.int v6), .unset, .unset, .unset, .unset, .unset, .unset, .unset, .unset, .unset, .unset, .unset] [])) := by
  have cx' := cx
  obtain ⟨hx, hZ, hw, hby, hml, hown, hret, hlk, hnm⟩ := cx'
  intro T locs h X eT N K z v0 v2 v4 v6 r hF
  unfold f_law at hF
  refine own_Goes.via (B := T.setTop (mkF m 9 #[.val (.long v0), .second, .val (.long v2), .second, .val (.long v4), .second, .val (.int v6), .val (.long (4611686018427387903 : Int64)), .second, .unset, .unset, .unset, .unset, .unset, .unset, .unset, .unset, .unset] [(.int (v6 &&& (1 : Int32)))])) (fun t k => ?_) ?_
  · show Steps p.tables e below (T.setTop (mkF m 0 #[.val (.long v0), .second, .val (.long v2), .second, .val (.long v4), .second, .val (.int v6), .unset, .unset, .unset, .unset, .unset, .unset, .unset, .unset, .unset, .unset, .unset] [])) t
    refine X.ldc2Long hx hown (mvT hZ (w0 hw)) (g := (mkF m 0 #[.val (.long v0), .second, .val (.long v2), .second, .val (.long v4), .second, .val (.int v6), .unset, .unset, .unset, .unset, .unset, .unset, .unset, .unset, .unset, .unset, .unset] [])) rfl (hb hby at_0) _ ?_
    show Steps p.tables e below (T.setTop (mkF m 3 #[.val (.long v0), .second, .val (.long v2), .second, .val (.long v4), .second, .val (.int v6), .unset, .unset, .unset, .unset, .unset, .unset, .unset, .unset, .unset, .unset, .unset] [(.long (4611686018427387903 : Int64))])) t
    refine XS.lstore X.here hx rfl (hb hby at_3) rfl (l' := #[.val (.long v0), .second, .val (.long v2), .second, .val (.long v4), .second, .val (.int v6), .val (.long (4611686018427387903 : Int64)), .second, .unset, .unset, .unset, .unset, .unset, .unset, .unset, .unset, .unset]) rfl ?_
    show Steps p.tables e below (T.setTop (mkF m 5 #[.val (.long v0), .second, .val (.long v2), .second, .val (.long v4), .second, .val (.int v6), .val (.long (4611686018427387903 : Int64)), .second, .unset, .unset, .unset, .unset, .unset, .unset, .unset, .unset, .unset] [])) t
    refine XS.iload X.here hx rfl (hb hby at_5) rfl ?_
    show Steps p.tables e below (T.setTop (mkF m 7 #[.val (.long v0), .second, .val (.long v2), .second, .val (.long v4), .second, .val (.int v6), .val (.long (4611686018427387903 : Int64)), .second, .unset, .unset, .unset, .unset, .unset, .unset, .unset, .unset, .unset] [(.int v6)])) t
    refine XS.iconst X.here hx rfl (hb hby at_7) ?_
    show Steps p.tables e below (T.setTop (mkF m 8 #[.val (.long v0), .second, .val (.long v2), .second, .val (.long v4), .second, .val (.int v6), .val (.long (4611686018427387903 : Int64)), .second, .unset, .unset, .unset, .unset, .unset, .unset, .unset, .unset, .unset] [(.int (1 : Int32)), (.int v6)])) t
    refine XS.iand X.here hx rfl (hb hby at_8) rfl ?_
    exact k
  by_cases hc9 : (v6 &&& (1 : Int32)) = (0 : Int32)
  · rw [if_pos hc9] at hF
    refine own_Goes.via (B := T.setTop (mkF m 28 #[.val (.long v0), .second, .val (.long v2), .second, .val (.long v4), .second, .val (.int v6), .val (.long (4611686018427387903 : Int64)), .second, .unset, .unset, .unset, .unset, .unset, .unset, .unset, .unset, .unset] [(.long ((v0 &&& (4611686018427387903 : Int64)) + (1 : Int64)))])) (fun t k => ?_) ?_
    · show Steps p.tables e below (T.setTop (mkF m 9 #[.val (.long v0), .second, .val (.long v2), .second, .val (.long v4), .second, .val (.int v6), .val (.long (4611686018427387903 : Int64)), .second, .unset, .unset, .unset, .unset, .unset, .unset, .unset, .unset, .unset] [(.int (v6 &&& (1 : Int32)))])) t
      refine XS.ifYes X.here hx rfl (pc0 := 9) (pc' := 22) rfl (hb hby at_9) rfl ((if0 _ _).trans (teq hc9).1) (by decide) (by decide) ?_
      show Steps p.tables e below (T.setTop (mkF m 22 #[.val (.long v0), .second, .val (.long v2), .second, .val (.long v4), .second, .val (.int v6), .val (.long (4611686018427387903 : Int64)), .second, .unset, .unset, .unset, .unset, .unset, .unset, .unset, .unset, .unset] [])) t
      refine XS.lloadN X.here hx rfl (hb hby at_22) rfl ?_
      show Steps p.tables e below (T.setTop (mkF m 23 #[.val (.long v0), .second, .val (.long v2), .second, .val (.long v4), .second, .val (.int v6), .val (.long (4611686018427387903 : Int64)), .second, .unset, .unset, .unset, .unset, .unset, .unset, .unset, .unset, .unset] [(.long v0)])) t
      refine XS.lload X.here hx rfl (hb hby at_23) rfl ?_
      show Steps p.tables e below (T.setTop (mkF m 25 #[.val (.long v0), .second, .val (.long v2), .second, .val (.long v4), .second, .val (.int v6), .val (.long (4611686018427387903 : Int64)), .second, .unset, .unset, .unset, .unset, .unset, .unset, .unset, .unset, .unset] [(.long (4611686018427387903 : Int64)), (.long v0)])) t
      refine XS.land X.here hx rfl (hb hby at_25) rfl ?_
      show Steps p.tables e below (T.setTop (mkF m 26 #[.val (.long v0), .second, .val (.long v2), .second, .val (.long v4), .second, .val (.int v6), .val (.long (4611686018427387903 : Int64)), .second, .unset, .unset, .unset, .unset, .unset, .unset, .unset, .unset, .unset] [(.long (v0 &&& (4611686018427387903 : Int64)))])) t
      refine XS.lconst X.here hx rfl (hb hby at_26) ?_
      show Steps p.tables e below (T.setTop (mkF m 27 #[.val (.long v0), .second, .val (.long v2), .second, .val (.long v4), .second, .val (.int v6), .val (.long (4611686018427387903 : Int64)), .second, .unset, .unset, .unset, .unset, .unset, .unset, .unset, .unset, .unset] [(.long (1 : Int64)), (.long (v0 &&& (4611686018427387903 : Int64)))])) t
      refine XS.ladd X.here hx rfl (hb hby at_27) rfl ?_
      exact k
    obtain ⟨x63, hx63, hF⟩ := own_lt_e hF
    rw [← hx63]
    refine own_Goes.via (B := T.setTop (mkF m 34 #[.val (.long v0), .second, .val (.long v2), .second, .val (.long v4), .second, .val (.int v6), .val (.long (4611686018427387903 : Int64)), .second, .val (.long x63), .second, .unset, .unset, .unset, .unset, .unset, .unset, .unset] [(.int (v6 &&& (2 : Int32)))])) (fun t k => ?_) ?_
    · show Steps p.tables e below (T.setTop (mkF m 28 #[.val (.long v0), .second, .val (.long v2), .second, .val (.long v4), .second, .val (.int v6), .val (.long (4611686018427387903 : Int64)), .second, .unset, .unset, .unset, .unset, .unset, .unset, .unset, .unset, .unset] [(.long x63)])) t
      refine XS.lstore X.here hx rfl (hb hby at_28) rfl (l' := #[.val (.long v0), .second, .val (.long v2), .second, .val (.long v4), .second, .val (.int v6), .val (.long (4611686018427387903 : Int64)), .second, .val (.long x63), .second, .unset, .unset, .unset, .unset, .unset, .unset, .unset]) rfl ?_
      show Steps p.tables e below (T.setTop (mkF m 30 #[.val (.long v0), .second, .val (.long v2), .second, .val (.long v4), .second, .val (.int v6), .val (.long (4611686018427387903 : Int64)), .second, .val (.long x63), .second, .unset, .unset, .unset, .unset, .unset, .unset, .unset] [])) t
      refine XS.iload X.here hx rfl (hb hby at_30) rfl ?_
      show Steps p.tables e below (T.setTop (mkF m 32 #[.val (.long v0), .second, .val (.long v2), .second, .val (.long v4), .second, .val (.int v6), .val (.long (4611686018427387903 : Int64)), .second, .val (.long x63), .second, .unset, .unset, .unset, .unset, .unset, .unset, .unset] [(.int v6)])) t
      refine XS.iconst X.here hx rfl (hb hby at_32) ?_
      show Steps p.tables e below (T.setTop (mkF m 33 #[.val (.long v0), .second, .val (.long v2), .second, .val (.long v4), .second, .val (.int v6), .val (.long (4611686018427387903 : Int64)), .second, .val (.long x63), .second, .unset, .unset, .unset, .unset, .unset, .unset, .unset] [(.int (2 : Int32)), (.int v6)])) t
      refine XS.iand X.here hx rfl (hb hby at_33) rfl ?_
      exact k
    by_cases hc34 : (v6 &&& (2 : Int32)) = (0 : Int32)
    · rw [if_pos hc34] at hF
      refine own_Goes.via (B := T.setTop (mkF m 49 #[.val (.long v0), .second, .val (.long v2), .second, .val (.long v4), .second, .val (.int v6), .val (.long (4611686018427387903 : Int64)), .second, .val (.long x63), .second, .unset, .unset, .unset, .unset, .unset, .unset, .unset] [(.long (v2 &&& (4611686018427387903 : Int64)))])) (fun t k => ?_) ?_
      · show Steps p.tables e below (T.setTop (mkF m 34 #[.val (.long v0), .second, .val (.long v2), .second, .val (.long v4), .second, .val (.int v6), .val (.long (4611686018427387903 : Int64)), .second, .val (.long x63), .second, .unset, .unset, .unset, .unset, .unset, .unset, .unset] [(.int (v6 &&& (2 : Int32)))])) t
        refine XS.ifYes X.here hx rfl (pc0 := 34) (pc' := 45) rfl (hb hby at_34) rfl ((if0 _ _).trans (teq hc34).1) (by decide) (by decide) ?_
        show Steps p.tables e below (T.setTop (mkF m 45 #[.val (.long v0), .second, .val (.long v2), .second, .val (.long v4), .second, .val (.int v6), .val (.long (4611686018427387903 : Int64)), .second, .val (.long x63), .second, .unset, .unset, .unset, .unset, .unset, .unset, .unset] [])) t
        refine XS.lloadN X.here hx rfl (hb hby at_45) rfl ?_
        show Steps p.tables e below (T.setTop (mkF m 46 #[.val (.long v0), .second, .val (.long v2), .second, .val (.long v4), .second, .val (.int v6), .val (.long (4611686018427387903 : Int64)), .second, .val (.long x63), .second, .unset, .unset, .unset, .unset, .unset, .unset, .unset] [(.long v2)])) t
        refine XS.lload X.here hx rfl (hb hby at_46) rfl ?_
        show Steps p.tables e below (T.setTop (mkF m 48 #[.val (.long v0), .second, .val (.long v2), .second, .val (.long v4), .second, .val (.int v6), .val (.long (4611686018427387903 : Int64)), .second, .val (.long x63), .second, .unset, .unset, .unset, .unset, .unset, .unset, .unset] [(.long (4611686018427387903 : Int64)), (.long v2)])) t
        refine XS.land X.here hx rfl (hb hby at_48) rfl ?_
        exact k
      exact b_law_49 cx X eT N K z v4 v6 (4611686018427387903 : Int64) x63 (v2 &&& (4611686018427387903 : Int64)) v0 v2 (.unset) (.unset) (.unset) (.unset) (.unset) (.unset) (.unset) One.u One.u One.u One.u One.u One.u One.u _ hF
    · rw [if_neg hc34] at hF
      refine own_Goes.via (B := T.setTop (mkF m 49 #[.val (.long v0), .second, .val (.long v2), .second, .val (.long v4), .second, .val (.int v6), .val (.long (4611686018427387903 : Int64)), .second, .val (.long x63), .second, .unset, .unset, .unset, .unset, .unset, .unset, .unset] [(.long (v2 &&& (63 : Int64)))])) (fun t k => ?_) ?_
      · show Steps p.tables e below (T.setTop (mkF m 34 #[.val (.long v0), .second, .val (.long v2), .second, .val (.long v4), .second, .val (.int v6), .val (.long (4611686018427387903 : Int64)), .second, .val (.long x63), .second, .unset, .unset, .unset, .unset, .unset, .unset, .unset] [(.int (v6 &&& (2 : Int32)))])) t
        refine XS.ifNo X.here hx rfl (hb hby at_34) rfl ((if0 _ _).trans (feq hc34).1) ?_
        show Steps p.tables e below (T.setTop (mkF m 37 #[.val (.long v0), .second, .val (.long v2), .second, .val (.long v4), .second, .val (.int v6), .val (.long (4611686018427387903 : Int64)), .second, .val (.long x63), .second, .unset, .unset, .unset, .unset, .unset, .unset, .unset] [])) t
        refine XS.lloadN X.here hx rfl (hb hby at_37) rfl ?_
        show Steps p.tables e below (T.setTop (mkF m 38 #[.val (.long v0), .second, .val (.long v2), .second, .val (.long v4), .second, .val (.int v6), .val (.long (4611686018427387903 : Int64)), .second, .val (.long x63), .second, .unset, .unset, .unset, .unset, .unset, .unset, .unset] [(.long v2)])) t
        refine X.ldc2Long hx hown (mvT hZ (w1 hw)) (g := (mkF m 38 #[.val (.long v0), .second, .val (.long v2), .second, .val (.long v4), .second, .val (.int v6), .val (.long (4611686018427387903 : Int64)), .second, .val (.long x63), .second, .unset, .unset, .unset, .unset, .unset, .unset, .unset] [(.long v2)])) rfl (hb hby at_38) _ ?_
        show Steps p.tables e below (T.setTop (mkF m 41 #[.val (.long v0), .second, .val (.long v2), .second, .val (.long v4), .second, .val (.int v6), .val (.long (4611686018427387903 : Int64)), .second, .val (.long x63), .second, .unset, .unset, .unset, .unset, .unset, .unset, .unset] [(.long (63 : Int64)), (.long v2)])) t
        refine XS.land X.here hx rfl (hb hby at_41) rfl ?_
        show Steps p.tables e below (T.setTop (mkF m 42 #[.val (.long v0), .second, .val (.long v2), .second, .val (.long v4), .second, .val (.int v6), .val (.long (4611686018427387903 : Int64)), .second, .val (.long x63), .second, .unset, .unset, .unset, .unset, .unset, .unset, .unset] [(.long (v2 &&& (63 : Int64)))])) t
        refine XS.goto X.here hx rfl (pc0 := 42) (pc' := 49) rfl (hb hby at_42) (by decide) (by decide) ?_
        exact k
      exact b_law_49 cx X eT N K z v4 v6 (4611686018427387903 : Int64) x63 (v2 &&& (63 : Int64)) v0 v2 (.unset) (.unset) (.unset) (.unset) (.unset) (.unset) (.unset) One.u One.u One.u One.u One.u One.u One.u _ hF
  · rw [if_neg hc9] at hF
    refine own_Goes.via (B := T.setTop (mkF m 28 #[.val (.long v0), .second, .val (.long v2), .second, .val (.long v4), .second, .val (.int v6), .val (.long (4611686018427387903 : Int64)), .second, .unset, .unset, .unset, .unset, .unset, .unset, .unset, .unset, .unset] [(.long ((v0 &&& (15 : Int64)) + (1 : Int64)))])) (fun t k => ?_) ?_
    · show Steps p.tables e below (T.setTop (mkF m 9 #[.val (.long v0), .second, .val (.long v2), .second, .val (.long v4), .second, .val (.int v6), .val (.long (4611686018427387903 : Int64)), .second, .unset, .unset, .unset, .unset, .unset, .unset, .unset, .unset, .unset] [(.int (v6 &&& (1 : Int32)))])) t
      refine XS.ifNo X.here hx rfl (hb hby at_9) rfl ((if0 _ _).trans (feq hc9).1) ?_
      show Steps p.tables e below (T.setTop (mkF m 12 #[.val (.long v0), .second, .val (.long v2), .second, .val (.long v4), .second, .val (.int v6), .val (.long (4611686018427387903 : Int64)), .second, .unset, .unset, .unset, .unset, .unset, .unset, .unset, .unset, .unset] [])) t
      refine XS.lloadN X.here hx rfl (hb hby at_12) rfl ?_
      show Steps p.tables e below (T.setTop (mkF m 13 #[.val (.long v0), .second, .val (.long v2), .second, .val (.long v4), .second, .val (.int v6), .val (.long (4611686018427387903 : Int64)), .second, .unset, .unset, .unset, .unset, .unset, .unset, .unset, .unset, .unset] [(.long v0)])) t
      refine X.ldc2Long hx hown (mvT hZ (w23 hw)) (g := (mkF m 13 #[.val (.long v0), .second, .val (.long v2), .second, .val (.long v4), .second, .val (.int v6), .val (.long (4611686018427387903 : Int64)), .second, .unset, .unset, .unset, .unset, .unset, .unset, .unset, .unset, .unset] [(.long v0)])) rfl (hb hby at_13) _ ?_
      show Steps p.tables e below (T.setTop (mkF m 16 #[.val (.long v0), .second, .val (.long v2), .second, .val (.long v4), .second, .val (.int v6), .val (.long (4611686018427387903 : Int64)), .second, .unset, .unset, .unset, .unset, .unset, .unset, .unset, .unset, .unset] [(.long (15 : Int64)), (.long v0)])) t
      refine XS.land X.here hx rfl (hb hby at_16) rfl ?_
      show Steps p.tables e below (T.setTop (mkF m 17 #[.val (.long v0), .second, .val (.long v2), .second, .val (.long v4), .second, .val (.int v6), .val (.long (4611686018427387903 : Int64)), .second, .unset, .unset, .unset, .unset, .unset, .unset, .unset, .unset, .unset] [(.long (v0 &&& (15 : Int64)))])) t
      refine XS.lconst X.here hx rfl (hb hby at_17) ?_
      show Steps p.tables e below (T.setTop (mkF m 18 #[.val (.long v0), .second, .val (.long v2), .second, .val (.long v4), .second, .val (.int v6), .val (.long (4611686018427387903 : Int64)), .second, .unset, .unset, .unset, .unset, .unset, .unset, .unset, .unset, .unset] [(.long (1 : Int64)), (.long (v0 &&& (15 : Int64)))])) t
      refine XS.ladd X.here hx rfl (hb hby at_18) rfl ?_
      show Steps p.tables e below (T.setTop (mkF m 19 #[.val (.long v0), .second, .val (.long v2), .second, .val (.long v4), .second, .val (.int v6), .val (.long (4611686018427387903 : Int64)), .second, .unset, .unset, .unset, .unset, .unset, .unset, .unset, .unset, .unset] [(.long ((v0 &&& (15 : Int64)) + (1 : Int64)))])) t
      refine XS.goto X.here hx rfl (pc0 := 19) (pc' := 28) rfl (hb hby at_19) (by decide) (by decide) ?_
      exact k
    obtain ⟨x64, hx64, hF⟩ := own_lt_e hF
    rw [← hx64]
    refine own_Goes.via (B := T.setTop (mkF m 34 #[.val (.long v0), .second, .val (.long v2), .second, .val (.long v4), .second, .val (.int v6), .val (.long (4611686018427387903 : Int64)), .second, .val (.long x64), .second, .unset, .unset, .unset, .unset, .unset, .unset, .unset] [(.int (v6 &&& (2 : Int32)))])) (fun t k => ?_) ?_
    · show Steps p.tables e below (T.setTop (mkF m 28 #[.val (.long v0), .second, .val (.long v2), .second, .val (.long v4), .second, .val (.int v6), .val (.long (4611686018427387903 : Int64)), .second, .unset, .unset, .unset, .unset, .unset, .unset, .unset, .unset, .unset] [(.long x64)])) t
      refine XS.lstore X.here hx rfl (hb hby at_28) rfl (l' := #[.val (.long v0), .second, .val (.long v2), .second, .val (.long v4), .second, .val (.int v6), .val (.long (4611686018427387903 : Int64)), .second, .val (.long x64), .second, .unset, .unset, .unset, .unset, .unset, .unset, .unset]) rfl ?_
      show Steps p.tables e below (T.setTop (mkF m 30 #[.val (.long v0), .second, .val (.long v2), .second, .val (.long v4), .second, .val (.int v6), .val (.long (4611686018427387903 : Int64)), .second, .val (.long x64), .second, .unset, .unset, .unset, .unset, .unset, .unset, .unset] [])) t
      refine XS.iload X.here hx rfl (hb hby at_30) rfl ?_
      show Steps p.tables e below (T.setTop (mkF m 32 #[.val (.long v0), .second, .val (.long v2), .second, .val (.long v4), .second, .val (.int v6), .val (.long (4611686018427387903 : Int64)), .second, .val (.long x64), .second, .unset, .unset, .unset, .unset, .unset, .unset, .unset] [(.int v6)])) t
      refine XS.iconst X.here hx rfl (hb hby at_32) ?_
      show Steps p.tables e below (T.setTop (mkF m 33 #[.val (.long v0), .second, .val (.long v2), .second, .val (.long v4), .second, .val (.int v6), .val (.long (4611686018427387903 : Int64)), .second, .val (.long x64), .second, .unset, .unset, .unset, .unset, .unset, .unset, .unset] [(.int (2 : Int32)), (.int v6)])) t
      refine XS.iand X.here hx rfl (hb hby at_33) rfl ?_
      exact k
    by_cases hc34 : (v6 &&& (2 : Int32)) = (0 : Int32)
    · rw [if_pos hc34] at hF
      refine own_Goes.via (B := T.setTop (mkF m 49 #[.val (.long v0), .second, .val (.long v2), .second, .val (.long v4), .second, .val (.int v6), .val (.long (4611686018427387903 : Int64)), .second, .val (.long x64), .second, .unset, .unset, .unset, .unset, .unset, .unset, .unset] [(.long (v2 &&& (4611686018427387903 : Int64)))])) (fun t k => ?_) ?_
      · show Steps p.tables e below (T.setTop (mkF m 34 #[.val (.long v0), .second, .val (.long v2), .second, .val (.long v4), .second, .val (.int v6), .val (.long (4611686018427387903 : Int64)), .second, .val (.long x64), .second, .unset, .unset, .unset, .unset, .unset, .unset, .unset] [(.int (v6 &&& (2 : Int32)))])) t
        refine XS.ifYes X.here hx rfl (pc0 := 34) (pc' := 45) rfl (hb hby at_34) rfl ((if0 _ _).trans (teq hc34).1) (by decide) (by decide) ?_
        show Steps p.tables e below (T.setTop (mkF m 45 #[.val (.long v0), .second, .val (.long v2), .second, .val (.long v4), .second, .val (.int v6), .val (.long (4611686018427387903 : Int64)), .second, .val (.long x64), .second, .unset, .unset, .unset, .unset, .unset, .unset, .unset] [])) t
        refine XS.lloadN X.here hx rfl (hb hby at_45) rfl ?_
        show Steps p.tables e below (T.setTop (mkF m 46 #[.val (.long v0), .second, .val (.long v2), .second, .val (.long v4), .second, .val (.int v6), .val (.long (4611686018427387903 : Int64)), .second, .val (.long x64), .second, .unset, .unset, .unset, .unset, .unset, .unset, .unset] [(.long v2)])) t
        refine XS.lload X.here hx rfl (hb hby at_46) rfl ?_
        show Steps p.tables e below (T.setTop (mkF m 48 #[.val (.long v0), .second, .val (.long v2), .second, .val (.long v4), .second, .val (.int v6), .val (.long (4611686018427387903 : Int64)), .second, .val (.long x64), .second, .unset, .unset, .unset, .unset, .unset, .unset, .unset] [(.long (4611686018427387903 : Int64)), (.long v2)])) t
        refine XS.land X.here hx rfl (hb hby at_48) rfl ?_
        exact k
      exact b_law_49 cx X eT N K z v4 v6 (4611686018427387903 : Int64) x64 (v2 &&& (4611686018427387903 : Int64)) v0 v2 (.unset) (.unset) (.unset) (.unset) (.unset) (.unset) (.unset) One.u One.u One.u One.u One.u One.u One.u _ hF
    · rw [if_neg hc34] at hF
      refine own_Goes.via (B := T.setTop (mkF m 49 #[.val (.long v0), .second, .val (.long v2), .second, .val (.long v4), .second, .val (.int v6), .val (.long (4611686018427387903 : Int64)), .second, .val (.long x64), .second, .unset, .unset, .unset, .unset, .unset, .unset, .unset] [(.long (v2 &&& (63 : Int64)))])) (fun t k => ?_) ?_
      · show Steps p.tables e below (T.setTop (mkF m 34 #[.val (.long v0), .second, .val (.long v2), .second, .val (.long v4), .second, .val (.int v6), .val (.long (4611686018427387903 : Int64)), .second, .val (.long x64), .second, .unset, .unset, .unset, .unset, .unset, .unset, .unset] [(.int (v6 &&& (2 : Int32)))])) t
        refine XS.ifNo X.here hx rfl (hb hby at_34) rfl ((if0 _ _).trans (feq hc34).1) ?_
        show Steps p.tables e below (T.setTop (mkF m 37 #[.val (.long v0), .second, .val (.long v2), .second, .val (.long v4), .second, .val (.int v6), .val (.long (4611686018427387903 : Int64)), .second, .val (.long x64), .second, .unset, .unset, .unset, .unset, .unset, .unset, .unset] [])) t
        refine XS.lloadN X.here hx rfl (hb hby at_37) rfl ?_
        show Steps p.tables e below (T.setTop (mkF m 38 #[.val (.long v0), .second, .val (.long v2), .second, .val (.long v4), .second, .val (.int v6), .val (.long (4611686018427387903 : Int64)), .second, .val (.long x64), .second, .unset, .unset, .unset, .unset, .unset, .unset, .unset] [(.long v2)])) t
        refine X.ldc2Long hx hown (mvT hZ (w1 hw)) (g := (mkF m 38 #[.val (.long v0), .second, .val (.long v2), .second, .val (.long v4), .second, .val (.int v6), .val (.long (4611686018427387903 : Int64)), .second, .val (.long x64), .second, .unset, .unset, .unset, .unset, .unset, .unset, .unset] [(.long v2)])) rfl (hb hby at_38) _ ?_
        show Steps p.tables e below (T.setTop (mkF m 41 #[.val (.long v0), .second, .val (.long v2), .second, .val (.long v4), .second, .val (.int v6), .val (.long (4611686018427387903 : Int64)), .second, .val (.long x64), .second, .unset, .unset, .unset, .unset, .unset, .unset, .unset] [(.long (63 : Int64)), (.long v2)])) t
        refine XS.land X.here hx rfl (hb hby at_41) rfl ?_
        show Steps p.tables e below (T.setTop (mkF m 42 #[.val (.long v0), .second, .val (.long v2), .second, .val (.long v4), .second, .val (.int v6), .val (.long (4611686018427387903 : Int64)), .second, .val (.long x64), .second, .unset, .unset, .unset, .unset, .unset, .unset, .unset] [(.long (v2 &&& (63 : Int64)))])) t
        refine XS.goto X.here hx rfl (pc0 := 42) (pc' := 49) rfl (hb hby at_42) (by decide) (by decide) ?_
        exact k
      exact b_law_49 cx X eT N K z v4 v6 (4611686018427387903 : Int64) x64 (v2 &&& (63 : Int64)) v0 v2 (.unset) (.unset) (.unset) (.unset) (.unset) (.unset) (.unset) One.u One.u One.u One.u One.u One.u One.u _ hF
theorem ef_law (m : MethodId) (x0 : Int64) (x1 : Int64) (x2 : Int64) (x3 : Int32) : entryFrame m #[(.long x0), (.long x1), (.long x2), (.int x3)] maxLocals = mkF m 0 #[.val (.long x0), .second, .val (.long x1), .second, .val (.long x2), .second, .val (.int x3), .unset, .unset, .unset, .unset, .unset, .unset, .unset, .unset, .unset, .unset, .unset] [] := by first | (simp [entryFrame, mkF, argsToLocals, Value.category, maxLocals]; done) | rfl
set_option maxRecDepth 65536 in
set_option maxHeartbeats 4000000 in
theorem rm_law (l : Launch) (Z : State) (a0 : Array Value) (hw : ∀ d ∈ tables_1, d.before a0 Z = true) (ws : List Jvm.Cond) (hE : Heap) (n0 : Nat) (z : n0 ≤ hE.size)  (v0 : Int64) (v2 : Int64) (v4 : Int64) (v6 : Int32) (r : Int32) (hF : (f_law v0 v2 v4 v6) = some r) :
    MetFree l x (head1 (Jvm.Cond.code x code maxLocals ret :: ws) room_1) (fun a U => a = #[(.long v0), (.long v2), (.long v4), (.int v6)] ∧ Z.Warmed39 U.vm ∧ U.heap = hE) (fun _ _ _ _ _ => True) (fun _ U o U' => ∃ v L, o = .returned v ∧ (Q_law Z hE n0 r) v U'.heap L ∧ FrameEnd U o U' L 3 10) := by
  refine MetFree.of_bodySF (plainFor_of_name pn_com_example_no_wait_scheduler_nowaitscheduler_timetable_LeapfrogOnGridPinLaw) hisR ?_
  intro p e s m args below meth c s₁ Bd hml0 hP hK
  obtain ⟨rfl, hZ, hh⟩ := hP
  have X0 : Stand p l e room_1 s m #[(.long v0), (.long v2), (.long v4), (.int v6)] below meth c s₁ [] 0 0 := Stand.of_body Bd
  have e0 : s₁.heap = hE := by rw [← hh, Bd.state]; rfl
  have cx : Cx_law p s m meth c Z a0 := ⟨Bd.exec, hZ, hw, Bd.bytes, hml0, findClass_of_methodNamed Bd.named, Bd.returns, Bd.notSynchronized, (name_of_methodNamed Bd.named Bd.method).1⟩
  show own_Goes p e below s (Q_law Z hE n0 r) 3 10 (s₁.setTop (entryFrame m #[(.long v0), (.long v2), (.long v4), (.int v6)] maxLocals))
  rw [ef_law]
  exact b_law cx X0 e0 (Fr.nil n0) (Keep.refl _ _) z v0 v2 v4 v6 _ hF
/-! the words of the mirrors -/
theorem own_bs {α β : Type} (x : α) (f : α → Option β) : own_bd (some x) f = f x := by unfold own_bd; exact rfl
theorem own_ls {α β : Type} (x : α) (f : α → Option β) : own_lt x f = f x := by unfold own_lt; exact rfl
theorem own_bn {α : Type} (x : Option α) : own_bd x (fun y => some y) = x := by cases x <;> exact rfl
theorem own_ct {β : Type} {P : Prop} [Decidable P] (x : Option β) (h : P) : own_ck P x = x := by unfold own_ck; exact if_pos h
/-! numbers: ints and longs as integers -/
theorem own_i1 (x : Int32) : -2147483648 ≤ x.toInt := Int32.le_toInt x
theorem own_i2 (x : Int32) : x.toInt < 2147483648 := Int32.toInt_lt x
theorem own_j1 (x : Int64) : -9223372036854775808 ≤ x.toInt := Int64.le_toInt x
theorem own_j2 (x : Int64) : x.toInt < 9223372036854775808 := Int64.toInt_lt x
theorem own_iadd {a b : Int32} (h1 : -2147483648 ≤ a.toInt + b.toInt) (h2 : a.toInt + b.toInt < 2147483648) : (a + b).toInt = a.toInt + b.toInt := by
  rw [Int32.toInt_add]; exact Int.bmod_eq_of_le (by omega) (by omega)
theorem own_isub {a b : Int32} (h1 : -2147483648 ≤ a.toInt - b.toInt) (h2 : a.toInt - b.toInt < 2147483648) : (a - b).toInt = a.toInt - b.toInt := by
  rw [Int32.toInt_sub]; exact Int.bmod_eq_of_le (by omega) (by omega)
theorem own_imul {a b : Int32} (h1 : -2147483648 ≤ a.toInt * b.toInt) (h2 : a.toInt * b.toInt < 2147483648) : (a * b).toInt = a.toInt * b.toInt := by
  rw [Int32.toInt_mul]; exact Int.bmod_eq_of_le (by omega) (by omega)
theorem own_ladd {a b : Int64} (h1 : -9223372036854775808 ≤ a.toInt + b.toInt) (h2 : a.toInt + b.toInt < 9223372036854775808) : (a + b).toInt = a.toInt + b.toInt := by
  rw [Int64.toInt_add]; exact Int.bmod_eq_of_le (by omega) (by omega)
theorem own_lsub {a b : Int64} (h1 : -9223372036854775808 ≤ a.toInt - b.toInt) (h2 : a.toInt - b.toInt < 9223372036854775808) : (a - b).toInt = a.toInt - b.toInt := by
  rw [Int64.toInt_sub]; exact Int.bmod_eq_of_le (by omega) (by omega)
theorem own_lmul {a b : Int64} (h1 : -9223372036854775808 ≤ a.toInt * b.toInt) (h2 : a.toInt * b.toInt < 9223372036854775808) : (a * b).toInt = a.toInt * b.toInt := by
  rw [Int64.toInt_mul]; exact Int.bmod_eq_of_le (by omega) (by omega)
theorem own_imask {x m : Int32} (k : Nat) (hk : k ≤ 31) (hm : m.toBitVec.toNat = 2 ^ k - 1) : (x &&& m).toInt = x.toInt % 2 ^ k := by
  have h1 : (x &&& m).toBitVec.toNat = x.toBitVec.toNat % 2 ^ k := by rw [Int32.toBitVec_and, BitVec.toNat_and, hm, Nat.and_two_pow_sub_one_eq_mod]
  have h3 : x.toBitVec.toNat % 2 ^ k < 2 ^ k := Nat.mod_lt _ (Nat.pow_pos (by decide))
  have h4 : (2 : Nat) ^ k ≤ 2 ^ 31 := Nat.pow_le_pow_right (by decide) hk
  have h2 : (x &&& m).toInt = ((x.toBitVec.toNat % 2 ^ k : Nat) : Int) := by
    show (x &&& m).toBitVec.toInt = _
    rw [BitVec.toInt_eq_toNat_of_lt (by rw [h1]; omega), h1]
  rw [h2]
  have h5 : x.toInt = x.toBitVec.toInt := rfl
  have h6 : ((2 : Int) ^ k) ∣ 4294967296 := by
    have : (4294967296 : Int) = 2 ^ k * 2 ^ (32 - k) := by rw [← Int.pow_add, show k + (32 - k) = 32 by omega]; rfl
    exact ⟨_, this⟩
  rw [h5, BitVec.toInt_eq_toNat_cond]
  split
  · exact Int.natCast_emod _ _
  · rw [Int.natCast_emod, show (((2 ^ 32 : Nat) : Int)) = 4294967296 from rfl, Int.sub_emod, Int.emod_eq_zero_of_dvd h6]; simp
theorem own_lmask {x m : Int64} (k : Nat) (hk : k ≤ 63) (hm : m.toBitVec.toNat = 2 ^ k - 1) : (x &&& m).toInt = x.toInt % 2 ^ k := by
  have h1 : (x &&& m).toBitVec.toNat = x.toBitVec.toNat % 2 ^ k := by rw [Int64.toBitVec_and, BitVec.toNat_and, hm, Nat.and_two_pow_sub_one_eq_mod]
  have h3 : x.toBitVec.toNat % 2 ^ k < 2 ^ k := Nat.mod_lt _ (Nat.pow_pos (by decide))
  have h4 : (2 : Nat) ^ k ≤ 2 ^ 63 := Nat.pow_le_pow_right (by decide) hk
  have h2 : (x &&& m).toInt = ((x.toBitVec.toNat % 2 ^ k : Nat) : Int) := by
    show (x &&& m).toBitVec.toInt = _
    rw [BitVec.toInt_eq_toNat_of_lt (by rw [h1]; omega), h1]
  rw [h2]
  have h5 : x.toInt = x.toBitVec.toInt := rfl
  have h6 : ((2 : Int) ^ k) ∣ 18446744073709551616 := by
    have : (18446744073709551616 : Int) = 2 ^ k * 2 ^ (64 - k) := by rw [← Int.pow_add, show k + (64 - k) = 64 by omega]; rfl
    exact ⟨_, this⟩
  rw [h5, BitVec.toInt_eq_toNat_cond]
  split
  · exact Int.natCast_emod _ _
  · rw [Int.natCast_emod, show (((2 ^ 64 : Nat) : Int)) = 18446744073709551616 from rfl, Int.sub_emod, Int.emod_eq_zero_of_dvd h6]; simp
theorem own_bm32 (x : Int) : x.bmod 4294967296 = (x + 2147483648) % 4294967296 - 2147483648 := by
  unfold Int.bmod; dsimp only; split <;> omega
theorem own_bm64 (x : Int) : x.bmod 18446744073709551616 = (x + 9223372036854775808) % 18446744073709551616 - 9223372036854775808 := by
  unfold Int.bmod; dsimp only; split <;> omega
theorem own_bm8 (x : Int) : x.bmod 256 = (x + 128) % 256 - 128 := by
  unfold Int.bmod; dsimp only; split <;> omega
theorem own_bm16 (x : Int) : x.bmod 65536 = (x + 32768) % 65536 - 32768 := by
  unfold Int.bmod; dsimp only; split <;> omega
theorem own_b8 (x : Int32) : x.toInt8.toInt32.toInt = (x.toInt + 128) % 256 - 128 := by rw [Int8.toInt_toInt32, Int32.toInt_toInt8]; exact own_bm8 _
theorem own_s16 (x : Int32) : x.toInt16.toInt32.toInt = (x.toInt + 32768) % 65536 - 32768 := by rw [Int16.toInt_toInt32, Int32.toInt_toInt16]; exact own_bm16 _
theorem own_l2i (x : Int64) : x.toInt32.toInt = (x.toInt + 2147483648) % 4294967296 - 2147483648 := by rw [Int64.toInt_toInt32]; exact own_bm32 _
theorem own_i2l (x : Int32) : x.toInt64.toInt = x.toInt := Int32.toInt_toInt64 x
theorem own_idiv {a b : Int32} (h1 : 0 ≤ a.toInt) (h2 : 0 < b.toInt) : (a / b).toInt = a.toInt / b.toInt := by
  rw [Int32.toInt_div_of_ne_right a b (fun q => by rw [q] at h2; exact absurd h2 (by decide)), Int.tdiv_eq_ediv_of_nonneg h1]
theorem own_ldiv {a b : Int64} (h1 : 0 ≤ a.toInt) (h2 : 0 < b.toInt) : (a / b).toInt = a.toInt / b.toInt := by
  rw [Int64.toInt_div_of_ne_right a b (fun q => by rw [q] at h2; exact absurd h2 (by decide)), Int.tdiv_eq_ediv_of_nonneg h1]
theorem own_imod {a b : Int32} (h1 : 0 ≤ a.toInt) : (a % b).toInt = a.toInt % b.toInt := by rw [Int32.toInt_mod, Int.tmod_eq_emod_of_nonneg h1]
theorem own_lmod {a b : Int64} (h1 : 0 ≤ a.toInt) : (a % b).toInt = a.toInt % b.toInt := by rw [Int64.toInt_mod, Int.tmod_eq_emod_of_nonneg h1]
theorem own_uI (x : Int32) : (x.toUInt32.toNat : Int) = x.toInt % 4294967296 := by
  have h : x.toInt = x.toBitVec.toInt := rfl
  have q : x.toUInt32.toNat = x.toBitVec.toNat := rfl
  have b := x.toBitVec.isLt
  rw [h, q, BitVec.toInt_eq_toNat_cond]
  split <;> omega
theorem own_uJ (x : Int64) : (x.toUInt64.toNat : Int) = x.toInt % 18446744073709551616 := by
  have h : x.toInt = x.toBitVec.toInt := rfl
  have q : x.toUInt64.toNat = x.toBitVec.toNat := rfl
  have b := x.toBitVec.isLt
  rw [h, q, BitVec.toInt_eq_toNat_cond]
  split <;> omega
theorem own_ofU (u : UInt32) (h : u.toNat < 2147483648) : u.toInt32.toInt = u.toNat := by
  show u.toBitVec.toInt = _
  exact BitVec.toInt_eq_toNat_of_lt (by show 2 * u.toNat < 2 ^ 32; omega)
theorem own_ofUJ (u : UInt64) (h : u.toNat < 9223372036854775808) : u.toInt64.toInt = u.toNat := by
  show u.toBitVec.toInt = _
  exact BitVec.toInt_eq_toNat_of_lt (by show 2 * u.toNat < 2 ^ 64; omega)
/-- Java's >>> on ints by a constant from 1 to 31 -/
theorem own_iushr (x s : Int32) (n : Nat) (h0 : 1 ≤ n) (hn : n < 32) (hs : (s &&& 31).toUInt32.toNat = n) : ((x.toUInt32 >>> (s &&& 31).toUInt32).toInt32).toInt = (x.toInt % 4294967296) / (2 ^ n : Nat) := by
  have e : (x.toUInt32 >>> (s &&& 31).toUInt32).toNat = x.toUInt32.toNat / 2 ^ n := by rw [UInt32.toNat_shiftRight, hs, Nat.mod_eq_of_lt hn, Nat.shiftRight_eq_div_pow]
  have b : x.toUInt32.toNat < 4294967296 := x.toUInt32.toNat_lt
  have c : x.toUInt32.toNat / 2 ^ n ≤ x.toUInt32.toNat / 2 ^ 1 := Nat.div_le_div_left (Nat.pow_le_pow_right (by decide) h0) (by decide)
  rw [own_ofU _ (by rw [e]; omega), e, Int.natCast_ediv, own_uI]
theorem own_lushr (x : Int64) (s : Int32) (n : Nat) (h0 : 1 ≤ n) (hn : n < 64) (hs : (s &&& 0x3f).toInt64.toUInt64.toNat = n) : ((x.toUInt64 >>> (s &&& 0x3f).toInt64.toUInt64).toInt64).toInt = (x.toInt % 18446744073709551616) / (2 ^ n : Nat) := by
  have e : (x.toUInt64 >>> (s &&& 0x3f).toInt64.toUInt64).toNat = x.toUInt64.toNat / 2 ^ n := by rw [UInt64.toNat_shiftRight, hs, Nat.mod_eq_of_lt hn, Nat.shiftRight_eq_div_pow]
  have b : x.toUInt64.toNat < 18446744073709551616 := x.toUInt64.toNat_lt
  have c : x.toUInt64.toNat / 2 ^ n ≤ x.toUInt64.toNat / 2 ^ 1 := Nat.div_le_div_left (Nat.pow_le_pow_right (by decide) h0) (by decide)
  rw [own_ofUJ _ (by rw [e]; omega), e, Int.natCast_ediv, own_uJ]
theorem own_ishl {x s : Int32} (n : Nat) (hs : (s.toBitVec.smod 32).toNat = n) (h0 : 0 ≤ x.toInt) (h1 : x.toInt * (2 ^ n : Nat) < 2147483648) : (x <<< s).toInt = x.toInt * (2 ^ n : Nat) := by
  have h : x.toInt = x.toBitVec.toInt := rfl
  have hx : x.toInt = x.toBitVec.toNat := by
    have b := x.toBitVec.isLt
    rw [h, BitVec.toInt_eq_toNat_cond]; rw [h, BitVec.toInt_eq_toNat_cond] at h0
    split at h0 <;> rename_i q
    · rw [if_pos q]
    · omega
  have e : (x <<< s).toBitVec.toNat = x.toBitVec.toNat * 2 ^ n := by
    rw [Int32.toBitVec_shiftLeft, BitVec.shiftLeft_eq', hs, BitVec.toNat_shiftLeft, Nat.shiftLeft_eq]
    apply Nat.mod_eq_of_lt
    rw [hx] at h1
    omega
  show (x <<< s).toBitVec.toInt = _
  rw [BitVec.toInt_eq_toNat_of_lt (by rw [e]; rw [hx] at h1; omega), e, hx]
  simp
theorem own_lshl {x s : Int64} (n : Nat) (hs : (s.toBitVec.smod 64).toNat = n) (h0 : 0 ≤ x.toInt) (h1 : x.toInt * (2 ^ n : Nat) < 9223372036854775808) : (x <<< s).toInt = x.toInt * (2 ^ n : Nat) := by
  have h : x.toInt = x.toBitVec.toInt := rfl
  have hx : x.toInt = x.toBitVec.toNat := by
    have b := x.toBitVec.isLt
    rw [h, BitVec.toInt_eq_toNat_cond]; rw [h, BitVec.toInt_eq_toNat_cond] at h0
    split at h0 <;> rename_i q
    · rw [if_pos q]
    · omega
  have e : (x <<< s).toBitVec.toNat = x.toBitVec.toNat * 2 ^ n := by
    rw [Int64.toBitVec_shiftLeft, BitVec.shiftLeft_eq', hs, BitVec.toNat_shiftLeft, Nat.shiftLeft_eq]
    apply Nat.mod_eq_of_lt
    rw [hx] at h1
    omega
  show (x <<< s).toBitVec.toInt = _
  rw [BitVec.toInt_eq_toNat_of_lt (by rw [e]; rw [hx] at h1; omega), e, hx]
  simp
theorem own_ishr (x s : Int32) (n : Nat) (hs : (s.toBitVec.smod 32).toNat = n) : (x >>> s).toInt = x.toInt / (2 ^ n : Nat) := by
  show (x >>> s).toBitVec.toInt = _
  rw [Int32.toBitVec_shiftRight, BitVec.sshiftRight', hs, BitVec.toInt_sshiftRight, Int.shiftRight_eq_div_pow]
  rfl
theorem own_lshr (x s : Int64) (n : Nat) (hs : (s.toBitVec.smod 64).toNat = n) : (x >>> s).toInt = x.toInt / (2 ^ n : Nat) := by
  show (x >>> s).toBitVec.toInt = _
  rw [Int64.toBitVec_shiftRight, BitVec.sshiftRight', hs, BitVec.toInt_sshiftRight, Int.shiftRight_eq_div_pow]
  rfl
theorem own_mk (s : Int64) : f_Leapfrog_mk s 0 = some (s, [0, 0, 0, 0], [0, 0]) := by unfold f_Leapfrog_mk; exact rfl
theorem own_core (st pt lim : Int64) (h1 : 1 ≤ st.toInt) (h2 : st.toInt ≤ 4611686018427387904) (h3 : 0 ≤ pt.toInt) (h4 : pt.toInt < 4611686018427387904) : f_law_74 st pt lim = some 1 := by
  have l0 : (0 : Int64).toInt = 0 := rfl
  have l1 : (1 : Int64).toInt = 1 := rfl
  have nz : ¬ st = 0 := by rw [← Int64.toInt_inj, l0]; omega
  have em : (pt % st).toInt = pt.toInt % st.toInt := own_lmod h3
  have p1 : 0 ≤ pt.toInt % st.toInt := Int.emod_nonneg _ (by omega)
  have p2 : pt.toInt % st.toInt < st.toInt := Int.emod_lt_of_pos _ (by omega)
  have p3 : pt.toInt % st.toInt ≤ pt.toInt := by
    have := Int.emod_add_mul_ediv pt.toInt st.toInt
    have q : 0 ≤ st.toInt * (pt.toInt / st.toInt) := Int.mul_nonneg (by omega) (Int.ediv_nonneg h3 (by omega))
    omega
  unfold f_law_74
  rw [own_mk, own_bs]
  dsimp only
  unfold f_Leapfrog_onGrid
  by_cases hl : pt < lim
  · have hl' := hl
    by_cases hs : (1 : Int64) < st
    · rw [if_pos hs, if_pos hl, own_ct _ nz]
      by_cases hz : pt % st = 0
      · rw [if_pos hz, own_bs, if_pos hl, if_neg (by rw [Int64.lt_iff_toInt_lt]; omega)]
        have e : (pt - pt).toInt = 0 := by rw [own_lsub (by omega) (by omega)]; omega
        rw [if_pos (by rw [Int64.lt_iff_toInt_lt, e]; omega), own_ct _ nz, if_pos hz]
      · rw [if_neg hz, own_ct _ nz, own_ls, own_bs, if_pos hl]
        have hz' : pt.toInt % st.toInt ≠ 0 := fun q => hz (by rw [← Int64.toInt_inj, em, q]; exact l0.symm)
        have e1 : (pt + st).toInt = pt.toInt + st.toInt := own_ladd (by omega) (by omega)
        have e2 : (pt + st - pt % st).toInt = pt.toInt + st.toInt - pt.toInt % st.toInt := by rw [own_lsub (by rw [e1, em]; omega) (by rw [e1, em]; omega), e1, em]
        have e3 : (pt + st - pt % st - pt).toInt = st.toInt - pt.toInt % st.toInt := by rw [own_lsub (by rw [e2]; omega) (by rw [e2]; omega), e2]; omega
        rw [if_neg (by rw [Int64.lt_iff_toInt_lt, e2]; omega), if_pos (by rw [Int64.lt_iff_toInt_lt, e3]; omega), own_ct _ nz, if_pos]
        rw [← Int64.toInt_inj, own_lmod (by rw [e2]; omega), e2, l0]
        have q : pt.toInt + st.toInt - pt.toInt % st.toInt = st.toInt * (pt.toInt / st.toInt + 1) := by
          have := Int.emod_add_mul_ediv pt.toInt st.toInt
          rw [Int.mul_add]; omega
        rw [q]; exact Int.mul_emod_right _ _
    · rw [if_neg hs, own_bs, if_pos hl, if_neg (by rw [Int64.lt_iff_toInt_lt]; omega)]
      rw [Int64.lt_iff_toInt_lt, l1] at hs
      have e : (pt - pt).toInt = 0 := by rw [own_lsub (by omega) (by omega)]; omega
      rw [if_pos (by rw [Int64.lt_iff_toInt_lt, e]; omega), own_ct _ nz, if_pos]
      rw [← Int64.toInt_inj, em, l0, show st.toInt = 1 by omega]; omega
  · by_cases hs : (1 : Int64) < st
    · rw [if_pos hs, if_neg hl, own_bs, if_neg hl, if_pos rfl]
    · rw [if_neg hs, own_bs, if_neg hl, if_pos rfl]
theorem own_next (l : Int64) (f : Int32) (k st pt : Int64) (h1 : 1 ≤ st.toInt) (h2 : st.toInt ≤ 4611686018427387904) (h3 : 0 ≤ pt.toInt) (h4 : pt.toInt < 4611686018427387904) : f_law_49 l f k st pt = some 1 := by
  unfold f_law_49
  split
  · exact own_core _ _ _ h1 h2 h3 h4
  · exact own_core _ _ _ h1 h2 h3 h4
theorem own_law (s p l : Int64) (f : Int32) : f_law s p l f = some 1 := by
  have l1 : (1 : Int64).toInt = 1 := rfl
  have m1 : (s &&& (4611686018427387903 : Int64)).toInt = s.toInt % 2 ^ 62 := own_lmask 62 (by decide) (by decide)
  have m2 : (p &&& (4611686018427387903 : Int64)).toInt = p.toInt % 2 ^ 62 := own_lmask 62 (by decide) (by decide)
  have m3 : (s &&& (15 : Int64)).toInt = s.toInt % 2 ^ 4 := own_lmask 4 (by decide) (by decide)
  have m4 : (p &&& (63 : Int64)).toInt = p.toInt % 2 ^ 6 := own_lmask 6 (by decide) (by decide)
  have e1 : ((s &&& (4611686018427387903 : Int64)) + 1).toInt = s.toInt % 2 ^ 62 + 1 := by rw [own_ladd (by omega) (by omega), m1, l1]
  have e2 : ((s &&& (15 : Int64)) + 1).toInt = s.toInt % 2 ^ 4 + 1 := by rw [own_ladd (by omega) (by omega), m3, l1]
  unfold f_law
  split
  · rw [own_ls]
    split
    · exact own_next _ _ _ _ _ (by omega) (by omega) (by omega) (by omega)
    · exact own_next _ _ _ _ _ (by omega) (by omega) (by omega) (by omega)
  · rw [own_ls]
    split
    · exact own_next _ _ _ _ _ (by omega) (by omega) (by omega) (by omega)
    · exact own_next _ _ _ _ _ (by omega) (by omega) (by omega) (by omega)

set_option maxRecDepth 65536 in
set_option maxHeartbeats 4000000 in
theorem comes_1 {Post : Tables → Env → Array Value → State → Outcome → State → Prop} (hpost : ∀ tb e args s v u, (limb_1_1.after args s (.returned v) u = true ∧ limb_1_2.after args s (.returned v) u = true ∧ True) → FrameEnd s (.returned v) u (Jvm.fieldLocs frame_1_writes args s ++ Jvm.arrayLocs frame_1_arrays args s ++ Jvm.staticLocs frame_1_statics s) 16 128 → Post tb e args s (.returned v) u) :
    ArmFor flags0 classFile x code maxLocals ret World_1 tables_1 room_1 Calls_1 rest_1 Pre_1 Post := by
  intro l hfl _ _ p e ha hc hk s m args below hf hA hF happ hP
  obtain ⟨hcalls, hrest, hpre⟩ := hP
  obtain ⟨-, -, -, hnamed, -, -, -, hat⟩ := (Spec.applies_iff hf).mp happ
  obtain ⟨hg, hn⟩ := and_e (Cond.before_iff.mp (show (Jvm.Cond.and given_1 narrow_1).before args s = true from hpre))
  obtain ⟨gc, g0⟩ := and_e hg
  obtain ⟨ga0, g1⟩ := and_e g0
  obtain ⟨ga1, g2⟩ := and_e g1
  obtain ⟨ga2, g3⟩ := and_e g2
  have ga3 := g3
  obtain ⟨w0, w1, w2, w3, rfl⟩ : ∃ w0 w1 w2 w3 : Value, args = #[w0, w1, w2, w3] := by
    have hs : args.size = 4 := by simpa [Cond.value, given_1] using gc
    obtain ⟨L⟩ := args
    match L, hs with
    | [w0, w1, w2, w3], _ => exact ⟨w0, w1, w2, w3, rfl⟩
  have hw := fun d (hd : d ∈ tables_1) => atoms_spec (ws := Jvm.Cond.code x code maxLocals ret :: tables_1) hat d (List.mem_cons_of_mem _ hd)
  obtain ⟨i0, ei0⟩ := isL_v ga0
  obtain rfl : w0 = (.long i0) := Option.some.inj ei0
  obtain ⟨i1, ei1⟩ := isL_v ga1
  obtain rfl : w1 = (.long i1) := Option.some.inj ei1
  obtain ⟨i2, ei2⟩ := isL_v ga2
  obtain rfl : w2 = (.long i2) := Option.some.inj ei2
  obtain ⟨i3, ei3⟩ := is_v ga3
  obtain rfl : w3 = (.int i3) := Option.some.inj ei3
  obtain ⟨n, o, h1, h2, h3, _, L, rfl, hQ, hq⟩ := rm_law l s _ hw tables_1 s.heap s.heap.size (Nat.le_refl _) i0 i1 i2 i3 1 (own_law i0 i1 i2 i3) p e ha hc hk s m _ below hf ((Spec.applies_iff_loose hf).mp happ).1 ⟨rfl, State.Warmed39.refl s, rfl⟩ trivial
  obtain ⟨rfl, N, -⟩ := hQ
  refine ⟨n, _, h1, h2, h3, hpost _ _ _ _ _ _ ⟨Cond.after_iff.mpr rfl, Cond.after_iff.mpr (eq_i res_at (Term.int_eval (1)) rfl), trivial⟩ ⟨hq.1, hq.2.1, (hq.2.2.sift fun y hy => Or.inr (N y hy)).mono (by decide) (by decide)⟩⟩
theorem main_1_1 : Claimed_1_1 := comes_1 fun _ _ _ _ _ _ h hF => ⟨h.1, hF⟩
theorem main_1_2 : Claimed_1_2 := comes_1 fun _ _ _ _ _ _ h hF => ⟨h.2.1, hF⟩
end Jvm.Pilot.@@N@@
namespace Jvm.Pilot.@@N@@
open Jvm Jvm.ClassFile Sem Op Lib Jvm.Free Jvm.Stand Jvm.Pilot.@@N@@.Jvm.D
/-! MADE BY PROGRAM (witnessworld.py) out of the Statement's table words and the real class files: 11 classes; the members and pool entries that the words name. The judged class is class 1, her method 1. -/
namespace start1
open Jvm.ClassFile
def u (s : String) : CpInfo := .utf8 (stringToUtf16 s)
/-- a pool by its gaps: so many unusable entries, then the entry; so many at the end -/
def gap : Nat → List CpInfo → List CpInfo
  | 0, r => r
  | n + 1, r => .unusable :: gap n r
def poolList (es : List (Nat × CpInfo)) (last : Nat) : List CpInfo := es.foldr (fun e r => gap e.1 (e.2 :: r)) (gap last [])
def pool (es : List (Nat × CpInfo)) (last : Nat) : Array CpInfo := ⟨poolList es last⟩
def fileOf (pool : Array CpInfo) (this : Nat) (attrs : Array Attribute := #[]) (ms : Array MethodInfo := #[]) (fl : Nat := 33) (sup : Nat := 0) (ifs : Array Nat := #[]) (fds : Array FieldInfo := #[]) : ClassFile where
  minorVersion := 0
  majorVersion := 65
  constantPool := pool
  accessFlags := fl
  thisClass := this
  superClass := sup
  interfaces := ifs
  fields := fds
  methods := ms
  attributes := attrs
def plain (name : String) (sup : Option ClassId) : Class where
  name := name
  kind := .ordinary
  loader := none
  accessFlags := 33
  super := sup
  interfaces := #[]
  cf := none
  fields := #[]
  methods := #[]
  instanceTypes := #[]
  staticTypes := #[]
  resolved := #[]
  callSites := []
  init := .initialized
  statics := none
  mirror := none

def pool0 : Array CpInfo := pool [(5, u "<init>"), (0, u "()V"), (1, .class_ 10), (1, u "java/lang/Object")] 113

def k0c0 : Code := { maxStack := 0, maxLocals := 1, code := object_method_1_code, exceptionTable := #[], attributes := #[] }
def k0m0 : Method := { name := "<init>", desc := "()V", sig := { parameters := [], returnType := none }, accessFlags := 1, code := some k0c0 }
/-- java/lang/Object -/
def k0 : Class := { plain "java/lang/Object" none with
  accessFlags := 33
  interfaces := #[]
  cf := some (fileOf pool0 8 #[] #[{ accessFlags := 1, nameIndex := 5, descriptorIndex := 6, attributes := #[] }] 33 0 #[] #[])
  fields := #[]
  methods := #[k0m0]
  instanceTypes := #[]
  staticTypes := #[]
  resolved := Array.replicate 124 none
  statics := none }

def pool1 : Array CpInfo := pool [(2, .class_ 4), (1, u "java/lang/Object"), (0, u "<init>"), (0, u "()V"), (0, .long 4611686018427387903), (1, .long 15), (1, .long 63), (1, .long 127), (1, .class_ 16), (0, u "com/example/no_wait_scheduler/nowaitscheduler/timetable/Leapfrog"), (0, .methodref 15 18), (0, .nameAndType 5 19), (0, u "(J)V"), (0, .methodref 15 21), (0, .nameAndType 22 23), (0, u "onGrid"), (0, u "(JJ)J"), (0, .class_ 25), (0, u "com/example/no_wait_scheduler/nowaitscheduler/timetable/LeapfrogOnGridPinLaw"), (2, u "law"), (0, u "(JJJI)Z")] 3

def k1m0 : Method := { name := "<init>", desc := "()V", sig := { parameters := [], returnType := none }, accessFlags := 2, code := none }
def k1c1 : Code := { maxStack := 5, maxLocals := 18, code := code, exceptionTable := #[], attributes := #[] }
def k1m1 : Method := { name := "law", desc := "(JJJI)Z", sig := { parameters := [.long, .long, .long, .int], returnType := some .boolean }, accessFlags := 9, code := some k1c1 }
/-- com/example/no_wait_scheduler/nowaitscheduler/timetable/LeapfrogOnGridPinLaw -/
def k1 : Class := { plain "com/example/no_wait_scheduler/nowaitscheduler/timetable/LeapfrogOnGridPinLaw" (some 0) with
  accessFlags := 49
  interfaces := #[]
  cf := some (fileOf pool1 24 #[] #[{ accessFlags := 2, nameIndex := 5, descriptorIndex := 6, attributes := #[] }, { accessFlags := 9, nameIndex := 28, descriptorIndex := 29, attributes := #[] }] 49 2 #[] #[])
  fields := #[]
  methods := #[k1m0, k1m1]
  instanceTypes := #[]
  staticTypes := #[]
  resolved := Array.replicate 33 none
  statics := none }

def pool2 : Array CpInfo := pool [(1, .methodref 2 3), (0, .class_ 4), (0, .nameAndType 5 6), (0, u "java/lang/Object"), (0, u "<init>"), (0, u "()V"), (0, .fieldref 8 9), (0, .class_ 10), (0, .nameAndType 11 12), (0, u "com/example/no_wait_scheduler/nowaitscheduler/timetable/Leapfrog"), (0, u "clearUntil"), (0, u "[J"), (0, .fieldref 8 14), (0, .nameAndType 15 12), (0, u "free"), (0, .fieldref 8 17), (0, .nameAndType 18 19), (0, u "step"), (0, u "J"), (9, .class_ 31), (1, u "com/example/no_wait_scheduler/nowaitscheduler/timetable/Leapfrog$Parts"), (4, u "onGrid"), (0, u "(JJ)J"), (6, u "reach"), (5, u "(J)V")] 11

def k2c0 : Code := { maxStack := 3, maxLocals := 3, code := prog_47_method_1_code, exceptionTable := #[], attributes := #[] }
def k2m0 : Method := { name := "<init>", desc := "(J)V", sig := { parameters := [.long], returnType := none }, accessFlags := 0, code := some k2c0 }
def k2c1 : Code := { maxStack := 6, maxLocals := 7, code := prog_47_method_4_code, exceptionTable := #[], attributes := #[] }
def k2m1 : Method := { name := "onGrid", desc := "(JJ)J", sig := { parameters := [.long, .long], returnType := some .long }, accessFlags := 0, code := some k2c1 }
/-- com/example/no_wait_scheduler/nowaitscheduler/timetable/Leapfrog -/
def k2 : Class := { plain "com/example/no_wait_scheduler/nowaitscheduler/timetable/Leapfrog" (some 0) with
  accessFlags := 48
  interfaces := #[]
  cf := some (fileOf pool2 8 #[.nestMembers #[29]] #[{ accessFlags := 0, nameIndex := 5, descriptorIndex := 50, attributes := #[] }, { accessFlags := 0, nameIndex := 36, descriptorIndex := 37, attributes := #[] }] 48 2 #[] #[{ accessFlags := 18, nameIndex := 18, descriptorIndex := 19, attributes := #[] }, { accessFlags := 2, nameIndex := 11, descriptorIndex := 12, attributes := #[] }, { accessFlags := 18, nameIndex := 15, descriptorIndex := 12, attributes := #[] }, { accessFlags := 2, nameIndex := 44, descriptorIndex := 19, attributes := #[] }])
  fields := #[{ name := "step", type := .long, accessFlags := 18, slot := 0, constantValue := 0 }, { name := "clearUntil", type := (.array .long), accessFlags := 2, slot := 1, constantValue := 0 }, { name := "free", type := (.array .long), accessFlags := 18, slot := 2, constantValue := 0 }, { name := "reach", type := .long, accessFlags := 2, slot := 3, constantValue := 0 }]
  methods := #[k2m0, k2m1]
  instanceTypes := #[.long, (.array .long), (.array .long), .long]
  staticTypes := #[]
  resolved := Array.replicate 62 none
  statics := none }

def pool3 : Array CpInfo := pool [(1, u "java/lang/Cloneable"), (0, .class_ 1), (0, u "java/lang/Object"), (0, .class_ 3)] 3

/-- java/lang/Cloneable -/
def k3 : Class := { plain "java/lang/Cloneable" (some 0) with
  accessFlags := 1537
  interfaces := #[]
  cf := some (fileOf pool3 2 #[] #[] 1537 4 #[] #[])
  fields := #[]
  methods := #[]
  instanceTypes := #[]
  staticTypes := #[]
  resolved := Array.replicate 8 none
  statics := none }

def pool4 : Array CpInfo := pool [(1, u "java/io/Serializable"), (0, .class_ 1), (0, u "java/lang/Object"), (0, .class_ 3)] 3

/-- java/io/Serializable -/
def k4 : Class := { plain "java/io/Serializable" (some 0) with
  accessFlags := 1537
  interfaces := #[]
  cf := some (fileOf pool4 2 #[] #[] 1537 4 #[] #[])
  fields := #[]
  methods := #[]
  instanceTypes := #[]
  staticTypes := #[]
  resolved := Array.replicate 8 none
  statics := none }

/-- the primitive byte -/
def k5 : Class := { plain "byte" none with kind := .primitive 'B', accessFlags := 0x411 }
/-- [B -/
def k6 : Class := { plain "[B" (some 0) with kind := .array 5 .byte, interfaces := #[3, 4], accessFlags := 1041 }

/-- the primitive int -/
def k7 : Class := { plain "int" none with kind := .primitive 'I', accessFlags := 0x411 }
/-- [I -/
def k8 : Class := { plain "[I" (some 0) with kind := .array 7 .int, interfaces := #[3, 4], accessFlags := 1041 }

/-- the primitive long -/
def k9 : Class := { plain "long" none with kind := .primitive 'J', accessFlags := 0x411 }
/-- [J -/
def k10 : Class := { plain "[J" (some 0) with kind := .array 9 .long, interfaces := #[3, 4], accessFlags := 1041 }

def heap : Heap := #[]
def classes : Array Class := #[k0, k1, k2, k3, k4, k5, k6, k7, k8, k9, k10]
def interned : List (Array UInt16 × Addr) := []
def slotsUsed : Nat := 0
def theMethod : MethodId := ⟨1, 1⟩
def args0 : Array Value := #[.long 5, .long 5, .long 5, .int 5]
def aboutOver (below : List Frame) : State where
  vm := { classes := classes, interned := interned.toArray }
  heap := heap
  slotsUsed := slotsUsed
  threads := #[{ frames := .invoking theMethod args0 :: below }]
def below0 : List Frame := [.native { method := ⟨0, 0⟩, args := #[] }]
def about1 : State := aboutOver below0
def p0 : Program := .bare "" "" ""
def e0 : Env := launch0.env 0 0 0
theorem w_frames : about1.frames = Frame.invoking theMethod args0 :: below0 := rfl
set_option maxRecDepth 65536 in
theorem w_args : argsFit about1.vm theMethod args0 = true := by decide +kernel
set_option maxRecDepth 65536 in
theorem w_heap : heapFits about1 = true := by decide +kernel
set_option maxRecDepth 65536 in
theorem w_runnable : about1.curStatus? = some .runnable := by decide +kernel
set_option maxRecDepth 65536 in
theorem w_alone : about1.alone = true := by decide +kernel
set_option maxRecDepth 65536 in
theorem w_named : about1.methodNamed? x = some theMethod := by decide +kernel
set_option maxRecDepth 65536 in
theorem w_hears : about1.hears theMethod below0 = true := by decide +kernel
set_option maxRecDepth 65536 in
theorem w_ripe : about1.ripe theMethod args0 below0 = true := by decide +kernel
theorem w_running : about1.status = .running := rfl
set_option maxRecDepth 65536 in
theorem w_room : about1.hasRoom e0.platform room_1 = true :=
  launch0.hasRoom_least _ room_1 (by decide +kernel) (by decide +kernel) (by decide +kernel) (by decide +kernel) (by decide +kernel) (by decide +kernel)
theorem allAtoms_all (ts : List Jvm.Cond) (a : Array Jvm.Value) (st : Jvm.State) : (allAtoms ts).before a st = ts.all (fun c => c.before a st) := by
  induction ts with
  | nil => rfl
  | cons c t ih =>
    show (Jvm.Cond.and c (allAtoms t)).before a st = _
    rw [Jvm.Cond.before_and, ih, List.all_cons]
def words1 : List Jvm.Cond := Jvm.Cond.code x code maxLocals ret :: tables_1
/-- a 'code' word, met by the world's own term for the bytes: nothing is compared byte by byte -/
theorem code_word {y : MethodName} {bytes : ByteArray} {mx : Nat} {rt : Option FieldType} {a : Array Value} {s : State} {m : MethodId} {meth : Method} {c : Code} (h1 : s.methodNamed? y = some m) (h2 : s.vm.method? m = some meth) (h3 : meth.code = some c) (h4 : c.code = bytes)
    (h5 : (c.maxLocals == mx && c.exceptionTable.isEmpty && decide (c.maxStack ≤ mostOperands) && decide (meth.sig.returnType = rt) && !meth.locks && decide (parseMethodDescriptor y.desc = some meth.sig)) = true) : (Jvm.Cond.code y bytes mx rt).before a s = true := by
  simp only [Bool.and_eq_true, beq_iff_eq, Bool.not_eq_true', decide_eq_true_eq] at h5
  obtain ⟨⟨⟨⟨⟨g1, g2⟩, g3⟩, g4⟩, g5⟩, g6⟩ := h5
  simp [Cond.before, Cond.holds, Cond.value, h1, h2, h3, h4, g1, g2, g3, g4, g5, g6]
def isCode : Jvm.Cond → Bool
  | .code _ _ _ _ => true
  | _ => false
theorem all_split {L : List Jvm.Cond} {P : Jvm.Cond → Bool} (h1 : L.all (fun c => isCode c || P c) = true) (h2 : ∀ c ∈ L.filter isCode, P c = true) : L.all P = true := by
  refine List.all_eq_true.mpr fun c hc => ?_
  have h := List.all_eq_true.mp h1 c hc
  rcases Bool.eq_false_or_eq_true (isCode c) with hi | hi
  · exact h2 c (List.mem_filter.mpr ⟨hc, hi⟩)
  · simpa [hi] using h
set_option maxRecDepth 65536 in
theorem w_c0 : (Jvm.Cond.code x code maxLocals ret).before args0 about1 = true := code_word (m := ⟨1, 1⟩) (meth := k1m1) (c := k1c1) (by decide +kernel) rfl rfl rfl (by decide +kernel)
set_option maxRecDepth 65536 in
theorem w_c1 : (Jvm.Cond.code ({ cls := "com/example/no_wait_scheduler/nowaitscheduler/timetable/Leapfrog", name := "<init>", desc := "(J)V" } : Jvm.MethodName) prog_47_method_1_code (3 : Nat) (Option.none : Option Jvm.ClassFile.FieldType)).before args0 about1 = true := code_word (m := ⟨2, 0⟩) (meth := k2m0) (c := k2c0) (by decide +kernel) rfl rfl rfl (by decide +kernel)
set_option maxRecDepth 65536 in
theorem w_c2 : (Jvm.Cond.code ({ cls := "java/lang/Object", name := "<init>", desc := "()V" } : Jvm.MethodName) object_method_1_code (1 : Nat) (Option.none : Option Jvm.ClassFile.FieldType)).before args0 about1 = true := code_word (m := ⟨0, 0⟩) (meth := k0m0) (c := k0c0) (by decide +kernel) rfl rfl rfl (by decide +kernel)
set_option maxRecDepth 65536 in
theorem w_c3 : (Jvm.Cond.code ({ cls := "com/example/no_wait_scheduler/nowaitscheduler/timetable/Leapfrog", name := "onGrid", desc := "(JJ)J" } : Jvm.MethodName) prog_47_method_4_code (7 : Nat) (Option.some Jvm.ClassFile.FieldType.long)).before args0 about1 = true := code_word (m := ⟨2, 1⟩) (meth := k2m1) (c := k2c1) (by decide +kernel) rfl rfl rfl (by decide +kernel)
def codes1 : List Jvm.Cond := [Jvm.Cond.code x code maxLocals ret, Jvm.Cond.code ({ cls := "com/example/no_wait_scheduler/nowaitscheduler/timetable/Leapfrog", name := "<init>", desc := "(J)V" } : Jvm.MethodName) prog_47_method_1_code (3 : Nat) (Option.none : Option Jvm.ClassFile.FieldType), Jvm.Cond.code ({ cls := "java/lang/Object", name := "<init>", desc := "()V" } : Jvm.MethodName) object_method_1_code (1 : Nat) (Option.none : Option Jvm.ClassFile.FieldType), Jvm.Cond.code ({ cls := "com/example/no_wait_scheduler/nowaitscheduler/timetable/Leapfrog", name := "onGrid", desc := "(JJ)J" } : Jvm.MethodName) prog_47_method_4_code (7 : Nat) (Option.some Jvm.ClassFile.FieldType.long)]
set_option maxRecDepth 65536 in
theorem codes_eq : words1.filter isCode = codes1 := rfl
theorem w_codes : ∀ c ∈ words1.filter isCode, c.before args0 about1 = true := by
  rw [codes_eq]
  intro c hc
  simp only [codes1, List.mem_cons, List.not_mem_nil, or_false] at hc
  rcases hc with rfl | rfl | rfl | rfl
  · exact w_c0
  · exact w_c1
  · exact w_c2
  · exact w_c3
set_option maxRecDepth 65536 in
theorem w_t1 : (words1.take 24).all (fun c => isCode c || c.before args0 about1) = true := by decide +kernel
set_option maxRecDepth 65536 in
theorem w_t2 : (words1.drop 24).all (fun c => isCode c || c.before args0 about1) = true := by decide +kernel
theorem w_tables : (allAtoms (Jvm.Cond.code x code maxLocals ret :: tables_1)).before args0 about1 = true := by
  rw [allAtoms_all]
  show words1.all (fun c => c.before args0 about1) = true
  refine all_split ?_ w_codes
  rw [← List.take_append_drop 24 words1, List.all_append, w_t1, w_t2]
  rfl
set_option maxRecDepth 65536 in
theorem w_case : (Jvm.Cond.and given_1 narrow_1).before args0 about1 = true := by decide +kernel
theorem w_applies : (headSpec (Jvm.Cond.code x code maxLocals ret :: tables_1) room_1).applies x e0.platform about1 = true :=
  (Spec.applies_iff w_frames).mpr ⟨w_running, w_runnable, w_alone, w_named, w_hears, w_ripe, w_room, w_tables⟩
theorem atStart : AtStart classFile x code maxLocals ret World_1 tables_1 room_1 Calls_1 rest_1 Pre_1 launch0 p0 e0 about1 theMethod args0 below0 :=
  ⟨lists_1, trivial, launch0.admits_env _ _ _, launch0.least_env, fairChoices_fair.cas, fairChoices_fair.clock, w_frames, w_args, w_heap, w_applies, trivial, trivial, w_case⟩
end start1
theorem witness_1 : WitnessClaimed_1 := ⟨start1.p0, start1.e0, start1.about1, start1.theMethod, start1.args0, start1.below0, start1.atStart⟩
end Jvm.Pilot.@@N@@
