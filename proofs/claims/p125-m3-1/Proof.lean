import JvmDerived
import JvmDerived.Pilot.@@N@@Statement
import JvmDerived.Pilot.@@N@@Code
set_option linter.unusedVariables false
set_option linter.unusedSimpArgs false
namespace Jvm.Pilot.@@N@@
open Jvm Jvm.ClassFile Sem Op Lib Jvm.Free Jvm.Stand Jvm.LawKit Jvm.RoadKit Bundle Jvm.Pilot.@@N@@.Jvm.D
/-! 1. the words of the mirrors: a named value, a check, a call -/
def own_lt {α β : Type} (x : α) (f : α → Option β) : Option β := f x
def own_ck {β : Type} (P : Prop) [Decidable P] (x : Option β) : Option β := if P then x else none
def own_bd {α β : Type} (x : Option α) (f : α → Option β) : Option β := x.bind f
theorem own_lt_e {α β : Type} {x : α} {f : α → Option β} {r : β} (h : own_lt x f = some r) : ∃ v, v = x ∧ f v = some r := ⟨x, rfl, h⟩
theorem own_ck_e {β : Type} {P : Prop} [Decidable P] {x : Option β} {r : β} (h : own_ck P x = some r) : P ∧ x = some r := by
  unfold own_ck at h
  by_cases q : P
  · rw [if_pos q] at h; exact ⟨q, h⟩
  · rw [if_neg q] at h; cases h
theorem own_bd_e {α β : Type} {x : Option α} {f : α → Option β} {r : β} (h : own_bd x f = some r) : ∃ v, x = some v ∧ f v = some r := by
  unfold own_bd at h
  cases x with
  | none => cases h
  | some v => exact ⟨v, rfl, h⟩
abbrev own_inb {α : Type} (bs : List α) (j : Int32) : Prop := ¬ j < 0 ∧ j.toNatClampNeg < bs.length
def own_rd {α : Type} [OfNat α 0] (bs : List α) (j : Int32) : α := bs.getD j.toNatClampNeg 0
def own_wr {α : Type} (bs : List α) (j : Int32) (v : α) : List α := bs.set j.toNatClampNeg v
def own_sz {α : Type} (bs : List α) : Int32 := bs.length.toInt32
/-! 2. a run that comes to an end as Q says -/
def own_Goes (p : Program) (e : Env) (below : List Frame) (s : State) (Q : Option Value → Heap → List Loc → Prop) (ce sl : Nat) (A : State) : Prop :=
  ∃ s₂ o, Steps p.tables e below A s₂ ∧ s₂.status = .running ∧ Ended s₂ below o ∧ ∃ v L, o = .returned v ∧ Q v s₂.heap L ∧ FrameEnd s o s₂ L ce sl
section Own
variable {p : Program} {l : Launch} {e : Env} {R : Room} {s : State} {m : MethodId} {args : Array Value} {below : List Frame} {meth : Method} {c : Code} {T : State} {locs : List Loc} {cells slots : Nat} {Z : State} {h h' : Heap} {Q : Option Value → Heap → List Loc → Prop} {ce sl : Nat}
theorem own_Goes.via {A B : State} (q : ∀ t, Steps p.tables e below B t → Steps p.tables e below A t) (g : own_Goes p e below s Q ce sl B) : own_Goes p e below s Q ce sl A := by
  obtain ⟨s₂, o, h1, r⟩ := g
  exact ⟨s₂, o, q _ h1, r⟩
theorem own_Goes.tr {A B : State} (q : Steps p.tables e below A B) (g : own_Goes p e below s Q ce sl B) : own_Goes p e below s Q ce sl A := g.via fun _ k => q.trans k
theorem own_retV (X : Stand p l e R s m args below meth c T locs cells slots) (hx : p.tables.exec = Jvm.exec) {pc : Nat} {Ls : Array Slot} (hret : meth.sig.returnType = none) (hlk : meth.locks = false) (hd : decode c.code pc = .ok (.return_, 1)) (eT : T.heap = h) (hQ : Q none h locs) (hc : cells ≤ ce) (hs : slots ≤ sl) :
    own_Goes p e below s Q ce sl (T.setTop (mkF m pc Ls [])) := by
  obtain ⟨fs, hr, hrun, hended, hW, hsame⟩ := X.leave (v := none) (fun _ => rfl) hlk
  refine ⟨_, _, ?_, hrun, hended, _, _, rfl, ?_, ⟨_, rfl⟩, hW, hsame.mono hc hs⟩
  · exact X.returnOut hx hret hd hr
  · show Q none T.heap locs
    rw [eT]; exact hQ
theorem own_retI (X : Stand p l e R s m args below meth c T locs cells slots) (hx : p.tables.exec = Jvm.exec) {pc : Nat} {Ls : Array Slot} {z : Int32} {rest : List Value} (hret : meth.sig.returnType = some .int) (hlk : meth.locks = false) (hd : decode c.code pc = .ok (.ireturn, 1)) (eT : T.heap = h) (hQ : Q (some (.int z)) h locs) (hc : cells ≤ ce) (hs : slots ≤ sl) :
    own_Goes p e below s Q ce sl (T.setTop (mkF m pc Ls (.int z :: rest))) := by
  obtain ⟨fs, hr, hrun, hended, hW, hsame⟩ := X.leave (v := some (.int z)) (fun h => by rw [hret] at h; cases h) hlk
  refine ⟨_, _, ?_, hrun, hended, _, _, rfl, ?_, ⟨_, rfl⟩, hW, hsame.mono hc hs⟩
  · exact retOut X hx hret rfl (Or.inl ⟨rfl, Or.inl rfl, z, rfl⟩) hd hr
  · show Q _ T.heap locs
    rw [eT]; exact hQ
theorem own_retJ (X : Stand p l e R s m args below meth c T locs cells slots) (hx : p.tables.exec = Jvm.exec) {pc : Nat} {Ls : Array Slot} {z : Int64} {rest : List Value} (hret : meth.sig.returnType = some .long) (hlk : meth.locks = false) (hd : decode c.code pc = .ok (.lreturn, 1)) (eT : T.heap = h) (hQ : Q (some (.long z)) h locs) (hc : cells ≤ ce) (hs : slots ≤ sl) :
    own_Goes p e below s Q ce sl (T.setTop (mkF m pc Ls (.long z :: rest))) := by
  obtain ⟨fs, hr, hrun, hended, hW, hsame⟩ := X.leave (v := some (.long z)) (fun h => by rw [hret] at h; cases h) hlk
  refine ⟨_, _, ?_, hrun, hended, _, _, rfl, ?_, ⟨_, rfl⟩, hW, hsame.mono hc hs⟩
  · exact retOut X hx hret rfl (Or.inr (Or.inl ⟨rfl, rfl, z, rfl⟩)) hd hr
  · show Q _ T.heap locs
    rw [eT]; exact hQ
theorem own_retR (X : Stand p l e R s m args below meth c T locs cells slots) (hx : p.tables.exec = Jvm.exec) {pc : Nat} {Ls : Array Slot} {t : FieldType} {w : Value} {rest : List Value} (hret : meth.sig.returnType = some t) (hlk : meth.locks = false) (hd : decode c.code pc = .ok (.areturn, 1)) (ht : t.isReference = true) (eT : T.heap = h) (hw : w.isRef = true) (hQ : Q (some w) h locs) (hc : cells ≤ ce) (hs : slots ≤ sl) :
    own_Goes p e below s Q ce sl (T.setTop (mkF m pc Ls (w :: rest))) := by
  obtain ⟨fs, hr, hrun, hended, hW, hsame⟩ := X.leave (v := some w) (fun h => by rw [hret] at h; cases h) hlk
  refine ⟨_, _, ?_, hrun, hended, _, _, rfl, ?_, ⟨_, rfl⟩, hW, hsame.mono hc hs⟩
  · exact retOut X hx hret (by cases t <;> first | (cases ht; done) | rfl) (Or.inr (Or.inr (Or.inr (Or.inr ⟨rfl, ht, hw⟩)))) hd hr
  · show Q _ T.heap locs
    rw [eT]; exact hQ
theorem own_retN (X : Stand p l e R s m args below meth c T locs cells slots) (hx : p.tables.exec = Jvm.exec) {pc : Nat} {Ls : Array Slot} {z v : Int32} {t : FieldType} {rest : List Value} (hret : meth.sig.returnType = some t) (hlk : meth.locks = false) (ht : t = .boolean ∨ t = .byte ∨ t = .char ∨ t = .short) (hd : decode c.code pc = .ok (.ireturn, 1)) (eT : T.heap = h) (hv : nar t z = v) (hQ : Q (some (.int v)) h locs) (hc : cells ≤ ce) (hs : slots ≤ sl) :
    own_Goes p e below s Q ce sl (T.setTop (mkF m pc Ls (.int z :: rest))) := by
  subst hv
  obtain ⟨fs, hr, hrun, hended, hW, hsame⟩ := X.leave (v := some (.int (nar t z))) (fun h => by rw [hret] at h; cases h) hlk
  refine ⟨_, _, ?_, hrun, hended, _, _, rfl, ?_, ⟨_, rfl⟩, hW, hsame.mono hc hs⟩
  · exact retN X hx hret ht hd hr
  · show Q _ T.heap locs
    rw [eT]; exact hQ
/-! 3. single steps -/
theorem own_irem {g : JFrame} {target : State} (X : Stand p l e R s m args below meth c T locs cells slots) (hx : p.tables.exec = Jvm.exec) (hg : g.method = m) {x y : Int32} {rest : List Value} (hd : decode c.code g.pc = .ok (.irem, 1)) (hs : g.stack = .int y :: .int x :: rest) (hy : y ≠ 0)
    (hr : Steps p.tables e below (T.setTop { g with pc := g.pc + 1, stack := .int (x % y) :: rest }) target) : Steps p.tables e below (T.setTop g) target := iremM X hx hg hd hs hy hr
theorem own_lrem {g : JFrame} {target : State} (X : Stand p l e R s m args below meth c T locs cells slots) (hx : p.tables.exec = Jvm.exec) (hg : g.method = m) {x y : Int64} {rest : List Value} (hd : decode c.code g.pc = .ok (.lrem, 1)) (hs : g.stack = .long y :: .long x :: rest) (hy : y ≠ 0)
    (hr : Steps p.tables e below (T.setTop { g with pc := g.pc + 1, stack := .long (x % y) :: rest }) target) : Steps p.tables e below (T.setTop g) target :=
  XS.lrem X.here hx hg hd hs hy (by rw [lrem_mod]; exact hr)
theorem own_tltL {x y : Int64} (q : x < y) : ifCond.holds .lt (lcmpW x y) = true ∧ ifCond.holds .ge (lcmpW x y) = false := by
  rw [if0, if0]; exact ⟨(tlt ((lw_lt x y).mpr q)).1, (tlt ((lw_lt x y).mpr q)).2.1⟩
theorem own_fltL {x y : Int64} (q : ¬ x < y) : ifCond.holds .lt (lcmpW x y) = false ∧ ifCond.holds .ge (lcmpW x y) = true := by
  rw [if0, if0]; exact ⟨(flt fun z => q ((lw_lt x y).mp z)).1, (flt fun z => q ((lw_lt x y).mp z)).2.1⟩
theorem own_tgtL {x y : Int64} (q : y < x) : ifCond.holds .gt (lcmpW x y) = true ∧ ifCond.holds .le (lcmpW x y) = false := by
  rw [if0, if0]; exact ⟨(tlt ((lw_gt x y).mpr q)).2.2.1, (tlt ((lw_gt x y).mpr q)).2.2.2⟩
theorem own_fgtL {x y : Int64} (q : ¬ y < x) : ifCond.holds .gt (lcmpW x y) = false ∧ ifCond.holds .le (lcmpW x y) = true := by
  rw [if0, if0]; exact ⟨(flt fun z => q ((lw_gt x y).mp z)).2.2.1, (flt fun z => q ((lw_gt x y).mp z)).2.2.2⟩
theorem own_teqL {x y : Int64} (q : x = y) : ifCond.holds .eq (lcmpW x y) = true ∧ ifCond.holds .ne (lcmpW x y) = false := by
  rw [if0, if0]; exact ⟨(teq ((lw_eq x y).mpr q)).1, (teq ((lw_eq x y).mpr q)).2⟩
theorem own_feqL {x y : Int64} (q : ¬ x = y) : ifCond.holds .eq (lcmpW x y) = false ∧ ifCond.holds .ne (lcmpW x y) = true := by
  rw [if0, if0]; exact ⟨(feq fun z => q ((lw_eq x y).mp z)).1, (feq fun z => q ((lw_eq x y).mp z)).2⟩
theorem own_st1 {L : Array Slot} {i : Nat} {v : Value} {o : Slot} {L' : Array Slot} (hold : L[i]? = some o) (ho : One o) (hv : v.category = 1) (hL : L.setIfInBounds i (.val v) = L' := by rfl) : storeLocals L i v = some L' := hL ▸ XS.store1 hold ho hv
theorem own_privSel {s : State} {args : Array Value} {y : MethodName} {n : Nat} (wi : (Cond.instantiable y.cls n).before args s = true) (hp : s.PrivateAt y) (hinst : (Cond.instanceMethod y).before args s = true) (hy : y.cls ≠ "java/lang/invoke/MethodHandle" ∧ y.cls ≠ "java/lang/invoke/VarHandle") : (Cond.selects y.cls y y).before args s = true := by
  obtain ⟨c, k, h1, h2, -, h3, -⟩ := Cond.instantiable_spec wi
  exact selects_self_of_private h1 h2 (Bool.or_eq_false_iff.mp h3).1 hp hinst hy
theorem own_st2 {L L' : Array Slot} {i : Nat} {x : Int64} {o1 o2 : Slot} (h1 : L[i]? = some o1) (h2 : L[i + 1]? = some o2) (q1 : One o1) (q2 : One o2) (hL : (L.setIfInBounds i (.val (.long x))).setIfInBounds (i + 1) .second = L' := by rfl) : storeLocals L i (.long x) = some L' := by
  subst hL
  obtain ⟨b1, g1⟩ := Array.getElem?_eq_some_iff.mp h1
  obtain ⟨b2, g2⟩ := Array.getElem?_eq_some_iff.mp h2
  have hc : (Value.long x).category = 2 := rfl
  rcases q1 with rfl | ⟨w, rfl, hw⟩ <;> rcases q2 with rfl | ⟨w', rfl, hw'⟩ <;> simp [storeLocals, storeSelf, setAt, hc, *]
/-! 4. arrays: what lies in them, as a list -/
def own_Ar (Z : State) (h : Heap) (a : Addr) (ty : FieldType) (vs : List Value) : Prop := ∃ c : Cell, Arr Z h a c ty ∧ c.slots.toList = vs ∧ vs.length < 2 ^ 31 ∧ ∀ v ∈ vs, fits ty v = true
variable {a b : Addr} {ty : FieldType} {vs : List Value}
theorem own_Ar.lt (F : own_Ar Z h a ty vs) : a < h.size := by obtain ⟨c, A, -⟩ := F; exact A.lt
theorem own_Ar.ext (F : own_Ar Z h a ty vs) (E : Ext h h') : own_Ar Z h' a ty vs := by obtain ⟨c, A, r⟩ := F; exact ⟨c, A.ext E, r⟩
theorem own_Ar.other {k : Nat} {v : Value} (F : own_Ar Z h b ty vs) (W : Wr h h' a k v) (q : b ≠ a) : own_Ar Z h' b ty vs := by obtain ⟨c, A, r⟩ := F; exact ⟨c, A.other W q, r⟩
theorem own_Ar.keep {ws : List Addr} (F : own_Ar Z h a ty vs) (K : Keep h h' ws) (q : a ∉ ws) : own_Ar Z h' a ty vs := by obtain ⟨c, A, r⟩ := F; exact ⟨c, ⟨K.2.1 a c A.1 q, A.2⟩, r⟩
theorem own_Ar.size {c : Cell} (q : c.slots.toList = vs) : c.slots.size = vs.length := by rw [← q]; simp
theorem own_in {c : Cell} {j : Int32} (q : c.slots.toList = vs) (hj : own_inb vs j) : ¬ (j < 0 ∨ c.slots.size ≤ j.toNatClampNeg) := by
  rw [own_Ar.size q]
  rintro (r | r)
  · exact hj.1 r
  · exact absurd hj.2 (Nat.not_lt.mpr r)
theorem own_get {c : Cell} {i : Nat} (q : c.slots.toList = vs) (d : Value) (hi : i < vs.length) : c.slots[i]? = some (vs.getD i d) := by
  have e : c.slots = vs.toArray := by rw [← q]
  rw [e]
  simp [List.getD, hi]
theorem own_set {c : Cell} {i : Nat} {v : Value} (q : c.slots.toList = vs) : (c.setSlot i v).slots.toList = vs.set i v := by
  have e : c.slots = vs.toArray := by rw [← q]
  simp [Cell.setSlot, e]
theorem own_fits {i : Nat} {v : Value} (q : ∀ v ∈ vs, fits ty v = true) (hv : fits ty v = true) : ∀ u ∈ vs.set i v, fits ty u = true := fun u hu => by
  rcases List.mem_or_eq_of_mem_set hu with r | r
  · exact q u r
  · rw [r]; exact hv
theorem own_mapGet {bs : List Int32} {i : Nat} (hi : i < bs.length) : (bs.map Value.int).getD i (.int 0) = .int (bs.getD i 0) := by simp [List.getD, hi]
theorem own_mapGetJ {bs : List Int64} {i : Nat} (hi : i < bs.length) : (bs.map Value.long).getD i (.long 0) = .long (bs.getD i 0) := by simp [List.getD, hi]
theorem own_mapSet {bs : List Int32} {i : Nat} {v : Int32} : (bs.map Value.int).set i (.int v) = (bs.set i v).map Value.int := by simp
theorem own_mapSetJ {bs : List Int64} {i : Nat} {v : Int64} : (bs.map Value.long).set i (.long v) = (bs.set i v).map Value.long := by simp
theorem own_inbM {α : Type} {f : α → Value} {bs : List α} {j : Int32} (q : own_inb bs j) : own_inb (bs.map f) j := ⟨q.1, by rw [List.length_map]; exact q.2⟩
theorem own_wrk {α : Type} {bs : List α} {j : Int32} {v : α} (k : Nat) (hk : j.toNatClampNeg = k) : own_wr bs j v = bs.set k v := by rw [own_wr, hk]
theorem own_rdk {α : Type} [OfNat α 0] {bs : List α} {j : Int32} (k : Nat) (hk : j.toNatClampNeg = k) : own_rd bs j = bs.getD k 0 := by rw [own_rd, hk]
theorem own_inbk {α : Type} {bs : List α} {j : Int32} (k n : Nat) (h0 : ¬ j < 0) (hk : j.toNatClampNeg = k) (hl : bs.length = n) (hkn : k < n) : own_inb bs j := ⟨h0, by rw [hk, hl]; exact hkn⟩
theorem own_len {α : Type} {f : α → Value} {bs : List α} (X : Stand p l e R s m args below meth c T locs cells slots) (hx : p.tables.exec = Jvm.exec) (hZ : Z.Warmed39 s.vm) (eT : T.heap = h) (A : own_Ar Z h a ty (bs.map f)) {g : JFrame} (hg : g.method = m) {rest : List Value} (hs : g.stack = .ref a :: rest) (hd : decode c.code g.pc = .ok (.arraylength, 1)) {target : State}
    (hr : Steps p.tables e below (T.setTop { g with pc := g.pc + 1, stack := .int (own_sz bs) :: rest }) target) : Steps p.tables e below (T.setTop g) target := by
  obtain ⟨cl, A, q, -⟩ := A
  refine X.arraylength hx (by rw [eT]; exact A.1) (State.isArrayOf_alike hZ.alike A.2.1) hg hs hd _ ?_
  rw [own_Ar.size q, List.length_map]; exact hr
theorem own_ldI {bs : List Int32} {j v : Int32} (X : Stand p l e R s m args below meth c T locs cells slots) (hx : p.tables.exec = Jvm.exec) (hZ : Z.Warmed39 s.vm) (eT : T.heap = h) (A : own_Ar Z h a .int (bs.map Value.int)) (hj : own_inb bs j) (hv : own_rd bs j = v) {g : JFrame} (hg : g.method = m) {rest : List Value} (hs : g.stack = .int j :: .ref a :: rest) (hd : decode c.code g.pc = .ok (.iaload, 1)) {target : State}
    (hr : Steps p.tables e below (T.setTop { g with pc := g.pc + 1, stack := .int v :: rest }) target) : Steps p.tables e below (T.setTop g) target := by
  subst hv
  obtain ⟨cl, A, q, -⟩ := A
  exact X.iaload hx (by rw [eT]; exact A.1) (State.isArrayOf_alike hZ.alike A.2.1) A.2.2 (own_in q (own_inbM hj)) ((own_get q (.int 0) (own_inbM hj).2).trans (congrArg some (own_mapGet hj.2))) hg hs hd _ hr
theorem own_ldB {bs : List Int32} {j v : Int32} (X : Stand p l e R s m args below meth c T locs cells slots) (hx : p.tables.exec = Jvm.exec) (hZ : Z.Warmed39 s.vm) (eT : T.heap = h) (A : own_Ar Z h a .byte (bs.map Value.int)) (hj : own_inb bs j) (hv : own_rd bs j = v) {g : JFrame} (hg : g.method = m) {rest : List Value} (hs : g.stack = .int j :: .ref a :: rest) (hd : decode c.code g.pc = .ok (.baload, 1)) {target : State}
    (hr : Steps p.tables e below (T.setTop { g with pc := g.pc + 1, stack := .int v :: rest }) target) : Steps p.tables e below (T.setTop g) target := by
  subst hv
  obtain ⟨cl, A, q, -⟩ := A
  exact X.baloadBytes hx (by rw [eT]; exact A.1) (State.isArrayOf_alike hZ.alike A.2.1) A.2.2 (own_in q (own_inbM hj)) ((own_get q (.int 0) (own_inbM hj).2).trans (congrArg some (own_mapGet hj.2))) hg hs hd _ hr
theorem own_ldZ {bs : List Int32} {j v : Int32} (X : Stand p l e R s m args below meth c T locs cells slots) (hx : p.tables.exec = Jvm.exec) (hZ : Z.Warmed39 s.vm) (eT : T.heap = h) (A : own_Ar Z h a .boolean (bs.map Value.int)) (hj : own_inb bs j) (hv : own_rd bs j = v) {g : JFrame} (hg : g.method = m) {rest : List Value} (hs : g.stack = .int j :: .ref a :: rest) (hd : decode c.code g.pc = .ok (.baload, 1)) {target : State}
    (hr : Steps p.tables e below (T.setTop { g with pc := g.pc + 1, stack := .int v :: rest }) target) : Steps p.tables e below (T.setTop g) target := by
  subst hv
  obtain ⟨cl, A, q, -⟩ := A
  exact X.baloadBooleans hx (by rw [eT]; exact A.1) (State.isArrayOf_alike hZ.alike A.2.1) A.2.2 (own_in q (own_inbM hj)) ((own_get q (.int 0) (own_inbM hj).2).trans (congrArg some (own_mapGet hj.2))) hg hs hd _ hr
theorem own_ldJ {bs : List Int64} {j : Int32} {v : Int64} (X : Stand p l e R s m args below meth c T locs cells slots) (hx : p.tables.exec = Jvm.exec) (hZ : Z.Warmed39 s.vm) (eT : T.heap = h) (A : own_Ar Z h a .long (bs.map Value.long)) (hj : own_inb bs j) (hv : own_rd bs j = v) {g : JFrame} (hg : g.method = m) {rest : List Value} (hs : g.stack = .int j :: .ref a :: rest) (hd : decode c.code g.pc = .ok (.laload, 1)) {target : State}
    (hr : Steps p.tables e below (T.setTop { g with pc := g.pc + 1, stack := .long v :: rest }) target) : Steps p.tables e below (T.setTop g) target := by
  subst hv
  obtain ⟨cl, A, q, -⟩ := A
  exact X.laload hx (by rw [eT]; exact A.1) (State.isArrayOf_alike hZ.alike A.2.1) A.2.2 (own_in q (own_inbM hj)) ((own_get q (.long 0) (own_inbM hj).2).trans (congrArg some (own_mapGetJ hj.2))) hg hs hd _ hr
theorem own_stI {bs : List Int32} {j x : Int32} (X : Stand p l e R s m args below meth c T locs cells slots) (hx : p.tables.exec = Jvm.exec) (hZ : Z.Warmed39 s.vm) (eT : T.heap = h) (A : own_Ar Z h a .int (bs.map Value.int)) (hj : own_inb bs j) {g : JFrame} (hg : g.method = m) {rest : List Value} (hs : g.stack = .int x :: .int j :: .ref a :: rest) (hd : decode c.code g.pc = .ok (.iastore, 1)) :
    ∃ T' h', Stand p l e R s m args below meth c T' (locs ++ [⟨a, j.toNatClampNeg⟩]) cells slots ∧ T'.heap = h' ∧ Wr h h' a j.toNatClampNeg (.int x) ∧ own_Ar Z h' a .int ((own_wr bs j x).map Value.int) ∧ ∀ target, Steps p.tables e below (T'.setTop { g with pc := g.pc + 1, stack := rest }) target → Steps p.tables e below (T.setTop g) target := by
  obtain ⟨cl, A, q, r, ft⟩ := A
  obtain ⟨T', h', X', e', W, st⟩ := stI X hx hZ eT A (own_in q (own_inbM hj)) hg hs hd
  exact ⟨T', h', X', e', W, ⟨_, A.same W, (own_set q).trans own_mapSet, by simpa [own_wr] using r, own_mapSet ▸ own_fits ft rfl⟩, st⟩
theorem own_stB {bs : List Int32} {j x : Int32} (X : Stand p l e R s m args below meth c T locs cells slots) (hx : p.tables.exec = Jvm.exec) (hZ : Z.Warmed39 s.vm) (eT : T.heap = h) (A : own_Ar Z h a .byte (bs.map Value.int)) (hj : own_inb bs j) {g : JFrame} (hg : g.method = m) {rest : List Value} (hs : g.stack = .int x :: .int j :: .ref a :: rest) (hd : decode c.code g.pc = .ok (.bastore, 1)) :
    ∃ T' h', Stand p l e R s m args below meth c T' (locs ++ [⟨a, j.toNatClampNeg⟩]) cells slots ∧ T'.heap = h' ∧ Wr h h' a j.toNatClampNeg (.int x.toInt8.toInt32) ∧ own_Ar Z h' a .byte ((own_wr bs j x.toInt8.toInt32).map Value.int) ∧ ∀ target, Steps p.tables e below (T'.setTop { g with pc := g.pc + 1, stack := rest }) target → Steps p.tables e below (T.setTop g) target := by
  obtain ⟨cl, A, q, r, ft⟩ := A
  obtain ⟨T', h', X', e', W, st⟩ := stB X hx hZ eT A (own_in q (own_inbM hj)) hg hs hd
  exact ⟨T', h', X', e', W, ⟨_, A.same W, (own_set q).trans own_mapSet, by simpa [own_wr] using r, own_mapSet ▸ own_fits ft (fits_nar_byte _)⟩, st⟩
theorem own_stZ {bs : List Int32} {j x : Int32} (X : Stand p l e R s m args below meth c T locs cells slots) (hx : p.tables.exec = Jvm.exec) (hZ : Z.Warmed39 s.vm) (eT : T.heap = h) (A : own_Ar Z h a .boolean (bs.map Value.int)) (hj : own_inb bs j) {g : JFrame} (hg : g.method = m) {rest : List Value} (hs : g.stack = .int x :: .int j :: .ref a :: rest) (hd : decode c.code g.pc = .ok (.bastore, 1)) :
    ∃ T' h', Stand p l e R s m args below meth c T' (locs ++ [⟨a, j.toNatClampNeg⟩]) cells slots ∧ T'.heap = h' ∧ Wr h h' a j.toNatClampNeg (.int (x &&& 1)) ∧ own_Ar Z h' a .boolean ((own_wr bs j (x &&& 1)).map Value.int) ∧ ∀ target, Steps p.tables e below (T'.setTop { g with pc := g.pc + 1, stack := rest }) target → Steps p.tables e below (T.setTop g) target := by
  obtain ⟨cl, A, q, r, ft⟩ := A
  obtain ⟨T', h', X', e', W, st⟩ := stZ X hx hZ eT A (own_in q (own_inbM hj)) hg hs hd
  exact ⟨T', h', X', e', W, ⟨_, A.same W, (own_set q).trans own_mapSet, by simpa [own_wr] using r, own_mapSet ▸ own_fits ft (fits_nar_bool _)⟩, st⟩
theorem own_stJ {bs : List Int64} {j : Int32} {x : Int64} (X : Stand p l e R s m args below meth c T locs cells slots) (hx : p.tables.exec = Jvm.exec) (hZ : Z.Warmed39 s.vm) (eT : T.heap = h) (A : own_Ar Z h a .long (bs.map Value.long)) (hj : own_inb bs j) {g : JFrame} (hg : g.method = m) {rest : List Value} (hs : g.stack = .long x :: .int j :: .ref a :: rest) (hd : decode c.code g.pc = .ok (.lastore, 1)) :
    ∃ T' h', Stand p l e R s m args below meth c T' (locs ++ [⟨a, j.toNatClampNeg⟩]) cells slots ∧ T'.heap = h' ∧ Wr h h' a j.toNatClampNeg (.long x) ∧ own_Ar Z h' a .long ((own_wr bs j x).map Value.long) ∧ ∀ target, Steps p.tables e below (T'.setTop { g with pc := g.pc + 1, stack := rest }) target → Steps p.tables e below (T.setTop g) target := by
  obtain ⟨cl, A, q, r, ft⟩ := A
  obtain ⟨T', h', X', e', W, st⟩ := stJ X hx hZ eT A (own_in q (own_inbM hj)) hg hs hd
  exact ⟨T', h', X', e', W, ⟨_, A.same W, (own_set q).trans own_mapSetJ, by simpa [own_wr] using r, own_mapSetJ ▸ own_fits ft rfl⟩, st⟩
theorem own_newI {k : ClassId} {n : Int32} {kk : Nat} (A : Arr Z h a (newA k ty n) ty) (q : ¬ n < 0) (hd : defaultValue ty = .int 0) (hk : n.toNatClampNeg = kk) : own_Ar Z h a ty ((List.replicate kk (0 : Int32)).map Value.int) := hk ▸
  ⟨_, A, by simp [newA, hd], by rw [List.length_map, List.length_replicate]; exact (back32 q).2, fun v hv => by
    rw [List.map_replicate] at hv
    rw [(List.mem_replicate.mp hv).2, ← hd]; cases ty <;> rfl⟩
theorem own_newJ {k : ClassId} {n : Int32} {kk : Nat} (A : Arr Z h a (newA k ty n) ty) (q : ¬ n < 0) (hd : defaultValue ty = .long 0) (hk : n.toNatClampNeg = kk) : own_Ar Z h a ty ((List.replicate kk (0 : Int64)).map Value.long) := hk ▸
  ⟨_, A, by simp [newA, hd], by rw [List.length_map, List.length_replicate]; exact (back32 q).2, fun v hv => by
    rw [List.map_replicate] at hv
    rw [(List.mem_replicate.mp hv).2, ← hd]; cases ty <;> rfl⟩
end Own
theorem w0 {a0 : Array Value} {Z : State} (hw : ∀ d ∈ tables_1, d.before a0 Z = true) : ((Jvm.Cond.constantLong "com/example/vaulted_cloud_files/vaultedcloudfiles/crypto/ObjectFormatChunkLengthPinLaw" (7 : Nat) (140737488355327 : Int64))).before a0 Z = true := hw _ (List.mem_of_getElem? (i := 0) rfl)
theorem w1 {a0 : Array Value} {Z : State} (hw : ∀ d ∈ tables_1, d.before a0 Z = true) : ((Jvm.Cond.constant "com/example/vaulted_cloud_files/vaultedcloudfiles/crypto/ObjectFormatChunkLengthPinLaw" (9 : Nat) (65535 : Int32))).before a0 Z = true := hw _ (List.mem_of_getElem? (i := 1) rfl)
theorem w2 {a0 : Array Value} {Z : State} (hw : ∀ d ∈ tables_1, d.before a0 Z = true) : ((Jvm.Cond.constantLong "com/example/vaulted_cloud_files/vaultedcloudfiles/crypto/ObjectFormatChunkLengthPinLaw" (10 : Nat) (65536 : Int64))).before a0 Z = true := hw _ (List.mem_of_getElem? (i := 2) rfl)
theorem w3 {a0 : Array Value} {Z : State} (hw : ∀ d ∈ tables_1, d.before a0 Z = true) : ((Jvm.Cond.methodLink "com/example/vaulted_cloud_files/vaultedcloudfiles/crypto/ObjectFormatChunkLengthPinLaw" (13 : Nat) ({ cls := "com/example/vaulted_cloud_files/vaultedcloudfiles/crypto/ObjectFormat", name := "chunkLength", desc := "(JJ)I" } : Jvm.MethodName))).before a0 Z = true := hw _ (List.mem_of_getElem? (i := 3) rfl)
theorem w4 {a0 : Array Value} {Z : State} (hw : ∀ d ∈ tables_1, d.before a0 Z = true) : ((Jvm.Cond.static ({ cls := "com/example/vaulted_cloud_files/vaultedcloudfiles/crypto/ObjectFormat", name := "chunkLength", desc := "(JJ)I" } : Jvm.MethodName))).before a0 Z = true := hw _ (List.mem_of_getElem? (i := 4) rfl)
theorem w5 {a0 : Array Value} {Z : State} (hw : ∀ d ∈ tables_1, d.before a0 Z = true) : ((Jvm.Cond.initialized "com/example/vaulted_cloud_files/vaultedcloudfiles/crypto/ObjectFormat")).before a0 Z = true := hw _ (List.mem_of_getElem? (i := 5) rfl)
theorem w6 {a0 : Array Value} {Z : State} (hw : ∀ d ∈ tables_1, d.before a0 Z = true) : ((Jvm.Cond.code ({ cls := "com/example/vaulted_cloud_files/vaultedcloudfiles/crypto/ObjectFormat", name := "chunkLength", desc := "(JJ)I" } : Jvm.MethodName) prog_17_method_8_code (4 : Nat) (Option.some Jvm.ClassFile.FieldType.int))).before a0 Z = true := hw _ (List.mem_of_getElem? (i := 6) rfl)
theorem w7 {a0 : Array Value} {Z : State} (hw : ∀ d ∈ tables_1, d.before a0 Z = true) : ((Jvm.Cond.constantLong "com/example/vaulted_cloud_files/vaultedcloudfiles/crypto/ObjectFormat" (233 : Nat) (65536 : Int64))).before a0 Z = true := hw _ (List.mem_of_getElem? (i := 7) rfl)
theorem w8 {a0 : Array Value} {Z : State} (hw : ∀ d ∈ tables_1, d.before a0 Z = true) : ((Jvm.Cond.methodLink "com/example/vaulted_cloud_files/vaultedcloudfiles/crypto/ObjectFormat" (235 : Nat) ({ cls := "java/lang/Math", name := "min", desc := "(JJ)J" } : Jvm.MethodName))).before a0 Z = true := hw _ (List.mem_of_getElem? (i := 8) rfl)
theorem w9 {a0 : Array Value} {Z : State} (hw : ∀ d ∈ tables_1, d.before a0 Z = true) : ((Jvm.Cond.static ({ cls := "java/lang/Math", name := "min", desc := "(JJ)J" } : Jvm.MethodName))).before a0 Z = true := hw _ (List.mem_of_getElem? (i := 9) rfl)
theorem w10 {a0 : Array Value} {Z : State} (hw : ∀ d ∈ tables_1, d.before a0 Z = true) : ((Jvm.Cond.initialized "java/lang/Math")).before a0 Z = true := hw _ (List.mem_of_getElem? (i := 10) rfl)
theorem w11 {a0 : Array Value} {Z : State} (hw : ∀ d ∈ tables_1, d.before a0 Z = true) : ((Jvm.Cond.code ({ cls := "java/lang/Math", name := "min", desc := "(JJ)J" } : Jvm.MethodName) jdk_29_method_70_code (4 : Nat) (Option.some Jvm.ClassFile.FieldType.long))).before a0 Z = true := hw _ (List.mem_of_getElem? (i := 11) rfl)
theorem w12 {a0 : Array Value} {Z : State} (hw : ∀ d ∈ tables_1, d.before a0 Z = true) : ((Jvm.Cond.constant "com/example/vaulted_cloud_files/vaultedcloudfiles/crypto/ObjectFormatChunkLengthPinLaw" (12 : Nat) (65536 : Int32))).before a0 Z = true := hw _ (List.mem_of_getElem? (i := 12) rfl)
theorem pn_com_example_vaulted_cloud_files_vaultedcloudfiles_crypto_ObjectFormat : plainName "com/example/vaulted_cloud_files/vaultedcloudfiles/crypto/ObjectFormat" = true := by first | (simp [plainName, overriddenIn]; done) | decide +kernel
theorem pn_com_example_vaulted_cloud_files_vaultedcloudfiles_crypto_ObjectFormatChunkLengthPinLaw : plainName "com/example/vaulted_cloud_files/vaultedcloudfiles/crypto/ObjectFormatChunkLengthPinLaw" = true := by first | (simp [plainName, overriddenIn]; done) | decide +kernel
theorem pd_0 : parseMethodDescriptor "(JJ)J" = some ⟨[.long, .long], some .long⟩ := by decide +kernel
theorem pd_1 : parseMethodDescriptor "(JJ)I" = some ⟨[.long, .long], some .int⟩ := by decide +kernel
theorem dObjectFormat_chunkLength_0 : decode prog_17_method_8_code 0 = .ok (.ldc2_w 233, 3) := by decide +kernel
theorem dObjectFormat_chunkLength_3 : decode prog_17_method_8_code 3 = .ok (.lload_n 0, 1) := by decide +kernel
theorem dObjectFormat_chunkLength_4 : decode prog_17_method_8_code 4 = .ok (.lload_n 2, 1) := by decide +kernel
theorem dObjectFormat_chunkLength_5 : decode prog_17_method_8_code 5 = .ok (.ldc2_w 233, 3) := by decide +kernel
theorem dObjectFormat_chunkLength_8 : decode prog_17_method_8_code 8 = .ok (.lmul, 1) := by decide +kernel
theorem dObjectFormat_chunkLength_9 : decode prog_17_method_8_code 9 = .ok (.lsub, 1) := by decide +kernel
theorem dObjectFormat_chunkLength_10 : decode prog_17_method_8_code 10 = .ok (.invokestatic 235, 3) := by decide +kernel
theorem dObjectFormat_chunkLength_13 : decode prog_17_method_8_code 13 = .ok (.l2i, 1) := by decide +kernel
theorem dObjectFormat_chunkLength_14 : decode prog_17_method_8_code 14 = .ok (.ireturn, 1) := by decide +kernel
theorem dMath_min_0 : decode jdk_29_method_70_code 0 = .ok (.lload_n 0, 1) := by decide +kernel
theorem dMath_min_1 : decode jdk_29_method_70_code 1 = .ok (.lload_n 2, 1) := by decide +kernel
theorem dMath_min_2 : decode jdk_29_method_70_code 2 = .ok (.lcmp, 1) := by decide +kernel
theorem dMath_min_3 : decode jdk_29_method_70_code 3 = .ok (.ifCond .gt 7, 3) := by decide +kernel
theorem dMath_min_6 : decode jdk_29_method_70_code 6 = .ok (.lload_n 0, 1) := by decide +kernel
theorem dMath_min_7 : decode jdk_29_method_70_code 7 = .ok (.goto 4, 3) := by decide +kernel
theorem dMath_min_10 : decode jdk_29_method_70_code 10 = .ok (.lload_n 2, 1) := by decide +kernel
theorem dMath_min_11 : decode jdk_29_method_70_code 11 = .ok (.lreturn, 1) := by decide +kernel
/-! java/lang/Math.min:(JJ)J -/
def f_Math_min (v0 : Int64) (v2 : Int64) : Option (Int64) :=
  if v2 < v0 then
    some v2
  else
    some v0
def Q_Math_min (Z : State) (hE : Heap) (n0 : Nat)  (r : Int64) (v : Option Value) (h : Heap) (L : List Loc) : Prop := v = some (.long r) ∧ Fr n0 L ∧ h = hE
def Cx_Math_min (p : Program) (s : State) (m : MethodId) (meth : Method) (c : Code) (Z : State) (a0 : Array Value) : Prop := p.tables.exec = Jvm.exec ∧ Z.Warmed39 s.vm ∧ (∀ d ∈ tables_1, d.before a0 Z = true) ∧ c.code = jdk_29_method_70_code ∧ c.maxLocals = 4 ∧ s.vm.findClass "java/lang/Math" = some m.cls ∧ meth.sig.returnType = some .long ∧ meth.locks = false ∧ meth.name = "min"
set_option maxRecDepth 65536 in
set_option maxHeartbeats 4000000 in
theorem b_Math_min {p : Program} {l : Launch} {e : Env} {s : State} {m : MethodId} {args : Array Value} {below : List Frame} {meth : Method} {c : Code} {Z : State} {a0 : Array Value} {n0 : Nat} {hE : Heap} (cx : Cx_Math_min p s m meth c Z a0) :
    ∀ {T : State} {locs : List Loc} (X : Stand p l e ({ frames := 0, cells := 0, slots := 0, locals := 0 } : Room) s m args below meth c T locs 0 0) (eT : T.heap = hE) (N : Fr n0 locs) (z : n0 ≤ hE.size) (v0 : Int64) (v2 : Int64) (r : Int64), f_Math_min v0 v2 = some r → own_Goes p e below s (Q_Math_min Z hE n0 r) 0 0 (T.setTop (mkF m 0 #[.val (.long v0), .second, .val (.long v2), .second] [])) := by
  have cx' := cx
  obtain ⟨hx, hZ, hw, hby, hml, hown, hret, hlk, hnm⟩ := cx'
  intro T locs X eT N z v0 v2 r hF
  unfold f_Math_min at hF
  refine own_Goes.via (B := T.setTop (mkF m 3 #[.val (.long v0), .second, .val (.long v2), .second] [(.int (lcmpW v0 v2))])) (fun t k => ?_) ?_
  · show Steps p.tables e below (T.setTop (mkF m 0 #[.val (.long v0), .second, .val (.long v2), .second] [])) t
    refine XS.lloadN X.here hx rfl (hb hby dMath_min_0) rfl ?_
    show Steps p.tables e below (T.setTop (mkF m 1 #[.val (.long v0), .second, .val (.long v2), .second] [(.long v0)])) t
    refine XS.lloadN X.here hx rfl (hb hby dMath_min_1) rfl ?_
    show Steps p.tables e below (T.setTop (mkF m 2 #[.val (.long v0), .second, .val (.long v2), .second] [(.long v2), (.long v0)])) t
    refine XS.lcmp X.here hx rfl (hb hby dMath_min_2) rfl ?_
    exact k
  by_cases hc3 : v2 < v0
  · rw [if_pos hc3] at hF
    refine own_Goes.via (B := T.setTop (mkF m 11 #[.val (.long v0), .second, .val (.long v2), .second] [(.long v2)])) (fun t k => ?_) ?_
    · show Steps p.tables e below (T.setTop (mkF m 3 #[.val (.long v0), .second, .val (.long v2), .second] [(.int (lcmpW v0 v2))])) t
      refine XS.ifYes X.here hx rfl (pc0 := 3) (pc' := 10) rfl (hb hby dMath_min_3) rfl (own_tgtL hc3).1 (by decide) (by decide) ?_
      show Steps p.tables e below (T.setTop (mkF m 10 #[.val (.long v0), .second, .val (.long v2), .second] [])) t
      refine XS.lloadN X.here hx rfl (hb hby dMath_min_10) rfl ?_
      exact k
    obtain rfl : v2 = r := Option.some.inj hF
    exact own_retJ X hx hret hlk (hb hby dMath_min_11) eT ⟨rfl, N, rfl⟩ (by decide) (by decide)
  · rw [if_neg hc3] at hF
    refine own_Goes.via (B := T.setTop (mkF m 11 #[.val (.long v0), .second, .val (.long v2), .second] [(.long v0)])) (fun t k => ?_) ?_
    · show Steps p.tables e below (T.setTop (mkF m 3 #[.val (.long v0), .second, .val (.long v2), .second] [(.int (lcmpW v0 v2))])) t
      refine XS.ifNo X.here hx rfl (hb hby dMath_min_3) rfl (own_fgtL hc3).1 ?_
      show Steps p.tables e below (T.setTop (mkF m 6 #[.val (.long v0), .second, .val (.long v2), .second] [])) t
      refine XS.lloadN X.here hx rfl (hb hby dMath_min_6) rfl ?_
      show Steps p.tables e below (T.setTop (mkF m 7 #[.val (.long v0), .second, .val (.long v2), .second] [(.long v0)])) t
      refine XS.goto X.here hx rfl (pc0 := 7) (pc' := 11) rfl (hb hby dMath_min_7) (by decide) (by decide) ?_
      exact k
    obtain rfl : v0 = r := Option.some.inj hF
    exact own_retJ X hx hret hlk (hb hby dMath_min_11) eT ⟨rfl, N, rfl⟩ (by decide) (by decide)
theorem ef_Math_min (m : MethodId) (x0 : Int64) (x1 : Int64) : entryFrame m #[(.long x0), (.long x1)] 4 = mkF m 0 #[.val (.long x0), .second, .val (.long x1), .second] [] := by first | (simp [entryFrame, mkF, argsToLocals, Value.category]; done) | rfl
set_option maxRecDepth 65536 in
set_option maxHeartbeats 4000000 in
theorem rm_Math_min (l : Launch) (Z : State) (a0 : Array Value) (hw : ∀ d ∈ tables_1, d.before a0 Z = true) (ws : List Jvm.Cond) (hE : Heap) (n0 : Nat) (z : n0 ≤ hE.size)  (v0 : Int64) (v2 : Int64) (r : Int64) (hF : (f_Math_min v0 v2) = some r) :
    MetFree l (⟨"java/lang/Math", "min", "(JJ)J"⟩ : MethodName) (head1 (Jvm.Cond.code (⟨"java/lang/Math", "min", "(JJ)J"⟩ : MethodName) jdk_29_method_70_code 4 (some .long) :: ws) ({ frames := 0, cells := 0, slots := 0, locals := 0 } : Room)) (fun a U => a = #[(.long v0), (.long v2)] ∧ Z.Warmed39 U.vm ∧ U.heap = hE) (fun _ _ _ _ _ => True) (fun _ U o U' => ∃ v L, o = .returned v ∧ (Q_Math_min Z hE n0 r) v U'.heap L ∧ FrameEnd U o U' L ({ frames := 0, cells := 0, slots := 0, locals := 0 } : Room).cells ({ frames := 0, cells := 0, slots := 0, locals := 0 } : Room).slots) := by
  refine MetFree.of_bodySF (Jvm.Free.JP.mathPlain rfl (by decide +kernel)) hisR ?_
  intro p e s m args below meth c s₁ Bd hml0 hP hK
  obtain ⟨rfl, hZ, hh⟩ := hP
  have X0 : Stand p l e ({ frames := 0, cells := 0, slots := 0, locals := 0 } : Room) s m #[(.long v0), (.long v2)] below meth c s₁ [] 0 0 := Stand.of_body Bd
  have e0 : s₁.heap = hE := by rw [← hh, Bd.state]; rfl
  have cx : Cx_Math_min p s m meth c Z a0 := ⟨Bd.exec, hZ, hw, Bd.bytes, hml0, findClass_of_methodNamed Bd.named, Bd.returns, Bd.notSynchronized, (name_of_methodNamed Bd.named Bd.method).1⟩
  show own_Goes p e below s (Q_Math_min Z hE n0 r) ({ frames := 0, cells := 0, slots := 0, locals := 0 } : Room).cells ({ frames := 0, cells := 0, slots := 0, locals := 0 } : Room).slots (s₁.setTop (entryFrame m #[(.long v0), (.long v2)] 4))
  rw [ef_Math_min]
  exact b_Math_min cx X0 e0 (Fr.nil n0) z v0 v2 _ hF
/-! com/example/vaulted_cloud_files/vaultedcloudfiles/crypto/ObjectFormat.chunkLength:(JJ)I -/
def f_ObjectFormat_chunkLength (v0 : Int64) (v2 : Int64) : Option (Int32) :=
  own_lt (v0 - (v2 * (65536 : Int64))) fun x12 =>
  own_bd (f_Math_min (65536 : Int64) x12) fun r13 =>
  some (r13.toInt32)
def Q_ObjectFormat_chunkLength (Z : State) (hE : Heap) (n0 : Nat)  (r : Int32) (v : Option Value) (h : Heap) (L : List Loc) : Prop := v = some (.int r) ∧ Fr n0 L ∧ h = hE
def Cx_ObjectFormat_chunkLength (p : Program) (s : State) (m : MethodId) (meth : Method) (c : Code) (Z : State) (a0 : Array Value) : Prop := p.tables.exec = Jvm.exec ∧ Z.Warmed39 s.vm ∧ (∀ d ∈ tables_1, d.before a0 Z = true) ∧ c.code = prog_17_method_8_code ∧ c.maxLocals = 4 ∧ s.vm.findClass "com/example/vaulted_cloud_files/vaultedcloudfiles/crypto/ObjectFormat" = some m.cls ∧ meth.sig.returnType = some .int ∧ meth.locks = false ∧ meth.name = "chunkLength"
set_option maxRecDepth 65536 in
set_option maxHeartbeats 4000000 in
theorem b_ObjectFormat_chunkLength {p : Program} {l : Launch} {e : Env} {s : State} {m : MethodId} {args : Array Value} {below : List Frame} {meth : Method} {c : Code} {Z : State} {a0 : Array Value} {n0 : Nat} {hE : Heap} (cx : Cx_ObjectFormat_chunkLength p s m meth c Z a0) :
    ∀ {T : State} {locs : List Loc} (X : Stand p l e ({ frames := 1, cells := 0, slots := 0, locals := 15 } : Room) s m args below meth c T locs 0 0) (eT : T.heap = hE) (N : Fr n0 locs) (z : n0 ≤ hE.size) (v0 : Int64) (v2 : Int64) (r : Int32), f_ObjectFormat_chunkLength v0 v2 = some r → own_Goes p e below s (Q_ObjectFormat_chunkLength Z hE n0 r) 0 0 (T.setTop (mkF m 0 #[.val (.long v0), .second, .val (.long v2), .second] [])) := by
  have cx' := cx
  obtain ⟨hx, hZ, hw, hby, hml, hown, hret, hlk, hnm⟩ := cx'
  intro T locs X eT N z v0 v2 r hF
  unfold f_ObjectFormat_chunkLength at hF
  refine own_Goes.via (B := T.setTop (mkF m 10 #[.val (.long v0), .second, .val (.long v2), .second] [(.long (v0 - (v2 * (65536 : Int64)))), (.long (65536 : Int64))])) (fun t k => ?_) ?_
  · show Steps p.tables e below (T.setTop (mkF m 0 #[.val (.long v0), .second, .val (.long v2), .second] [])) t
    refine X.ldc2Long hx hown (mvT hZ (w7 hw)) (g := (mkF m 0 #[.val (.long v0), .second, .val (.long v2), .second] [])) rfl (hb hby dObjectFormat_chunkLength_0) _ ?_
    show Steps p.tables e below (T.setTop (mkF m 3 #[.val (.long v0), .second, .val (.long v2), .second] [(.long (65536 : Int64))])) t
    refine XS.lloadN X.here hx rfl (hb hby dObjectFormat_chunkLength_3) rfl ?_
    show Steps p.tables e below (T.setTop (mkF m 4 #[.val (.long v0), .second, .val (.long v2), .second] [(.long v0), (.long (65536 : Int64))])) t
    refine XS.lloadN X.here hx rfl (hb hby dObjectFormat_chunkLength_4) rfl ?_
    show Steps p.tables e below (T.setTop (mkF m 5 #[.val (.long v0), .second, .val (.long v2), .second] [(.long v2), (.long v0), (.long (65536 : Int64))])) t
    refine X.ldc2Long hx hown (mvT hZ (w7 hw)) (g := (mkF m 5 #[.val (.long v0), .second, .val (.long v2), .second] [(.long v2), (.long v0), (.long (65536 : Int64))])) rfl (hb hby dObjectFormat_chunkLength_5) _ ?_
    show Steps p.tables e below (T.setTop (mkF m 8 #[.val (.long v0), .second, .val (.long v2), .second] [(.long (65536 : Int64)), (.long v2), (.long v0), (.long (65536 : Int64))])) t
    refine XS.lmul X.here hx rfl (hb hby dObjectFormat_chunkLength_8) rfl ?_
    show Steps p.tables e below (T.setTop (mkF m 9 #[.val (.long v0), .second, .val (.long v2), .second] [(.long (v2 * (65536 : Int64))), (.long v0), (.long (65536 : Int64))])) t
    refine XS.lsub X.here hx rfl (hb hby dObjectFormat_chunkLength_9) rfl ?_
    exact k
  obtain ⟨x12, hx12, hF⟩ := own_lt_e hF
  rw [← hx12]
  obtain ⟨r13, hr13, hF⟩ := own_bd_e hF
  obtain ⟨_, _, ⟨T13, L13, k13, n13⟩, -, X13, ⟨Lc13, hQ13, l13, y13, z13⟩, st13⟩ := Jvm.LawKit.callS X hx (y := (⟨"java/lang/Math", "min", "(JJ)J"⟩ : MethodName)) hown (mvT hZ (w8 hw)) (mvT hZ (w9 hw)) (mvT hZ (w10 hw)) (mvT hZ (w11 hw)) (by decide) (backOf (W := 0) (rm_Math_min l Z a0 hw [] hE n0 z (65536 : Int64) x12 r13 hr13) hZ (w11 hw) (w10 hw) (by decide) (by decide)) (g := (mkF m 10 #[.val (.long v0), .second, .val (.long v2), .second] [(.long x12), (.long (65536 : Int64))])) rfl (by rw [hml]; rfl) (argsL := [(.long (65536 : Int64)), (.long x12)]) (rest := []) (lenOf pd_0 rfl) rfl (by show 2 * 0 + _ ≤ _; exact Nat.le_of_eq rfl) (hb hby dObjectFormat_chunkLength_10) (fun _ _ => ⟨rfl, eT, (by decide : 0 + 0 ≤ _), (by decide : 0 + 0 ≤ _)⟩)
  dsimp only [Pt.U, Pt.locs, Pt.cells, Pt.slots] at X13 l13 y13 z13 st13 hQ13
  subst l13 y13 z13
  obtain ⟨rfl, N13q, e13⟩ := hQ13
  have N13 := Fr.app N N13q
  refine own_Goes.via st13 ?_
  show own_Goes _ _ _ _ _ _ _ (T13.setTop (mkF m 13 #[.val (.long v0), .second, .val (.long v2), .second] [(.long r13)]))
  refine own_Goes.via (B := T13.setTop (mkF m 14 #[.val (.long v0), .second, .val (.long v2), .second] [(.int (r13.toInt32))])) (fun t k => ?_) ?_
  · show Steps p.tables e below (T13.setTop (mkF m 13 #[.val (.long v0), .second, .val (.long v2), .second] [(.long r13)])) t
    refine XS.l2i X13.here hx rfl (hb hby dObjectFormat_chunkLength_13) rfl ?_
    exact k
  obtain rfl : (r13.toInt32) = r := Option.some.inj hF
  exact own_retI X13 hx hret hlk (hb hby dObjectFormat_chunkLength_14) e13 ⟨rfl, N13, rfl⟩ (by decide) (by decide)
theorem ef_ObjectFormat_chunkLength (m : MethodId) (x0 : Int64) (x1 : Int64) : entryFrame m #[(.long x0), (.long x1)] 4 = mkF m 0 #[.val (.long x0), .second, .val (.long x1), .second] [] := by first | (simp [entryFrame, mkF, argsToLocals, Value.category]; done) | rfl
set_option maxRecDepth 65536 in
set_option maxHeartbeats 4000000 in
theorem rm_ObjectFormat_chunkLength (l : Launch) (Z : State) (a0 : Array Value) (hw : ∀ d ∈ tables_1, d.before a0 Z = true) (ws : List Jvm.Cond) (hE : Heap) (n0 : Nat) (z : n0 ≤ hE.size)  (v0 : Int64) (v2 : Int64) (r : Int32) (hF : (f_ObjectFormat_chunkLength v0 v2) = some r) :
    MetFree l (⟨"com/example/vaulted_cloud_files/vaultedcloudfiles/crypto/ObjectFormat", "chunkLength", "(JJ)I"⟩ : MethodName) (head1 (Jvm.Cond.code (⟨"com/example/vaulted_cloud_files/vaultedcloudfiles/crypto/ObjectFormat", "chunkLength", "(JJ)I"⟩ : MethodName) prog_17_method_8_code 4 (some .int) :: ws) ({ frames := 1, cells := 0, slots := 0, locals := 15 } : Room)) (fun a U => a = #[(.long v0), (.long v2)] ∧ Z.Warmed39 U.vm ∧ U.heap = hE) (fun _ _ _ _ _ => True) (fun _ U o U' => ∃ v L, o = .returned v ∧ (Q_ObjectFormat_chunkLength Z hE n0 r) v U'.heap L ∧ FrameEnd U o U' L ({ frames := 1, cells := 0, slots := 0, locals := 15 } : Room).cells ({ frames := 1, cells := 0, slots := 0, locals := 15 } : Room).slots) := by
  refine MetFree.of_bodySF (plainFor_of_name pn_com_example_vaulted_cloud_files_vaultedcloudfiles_crypto_ObjectFormat) hisR ?_
  intro p e s m args below meth c s₁ Bd hml0 hP hK
  obtain ⟨rfl, hZ, hh⟩ := hP
  have X0 : Stand p l e ({ frames := 1, cells := 0, slots := 0, locals := 15 } : Room) s m #[(.long v0), (.long v2)] below meth c s₁ [] 0 0 := Stand.of_body Bd
  have e0 : s₁.heap = hE := by rw [← hh, Bd.state]; rfl
  have cx : Cx_ObjectFormat_chunkLength p s m meth c Z a0 := ⟨Bd.exec, hZ, hw, Bd.bytes, hml0, findClass_of_methodNamed Bd.named, Bd.returns, Bd.notSynchronized, (name_of_methodNamed Bd.named Bd.method).1⟩
  show own_Goes p e below s (Q_ObjectFormat_chunkLength Z hE n0 r) ({ frames := 1, cells := 0, slots := 0, locals := 15 } : Room).cells ({ frames := 1, cells := 0, slots := 0, locals := 15 } : Room).slots (s₁.setTop (entryFrame m #[(.long v0), (.long v2)] 4))
  rw [ef_ObjectFormat_chunkLength]
  exact b_ObjectFormat_chunkLength cx X0 e0 (Fr.nil n0) z v0 v2 _ hF
/-! com/example/vaulted_cloud_files/vaultedcloudfiles/crypto/ObjectFormatChunkLengthPinLaw.law:(JIJI)Z -/
def f_law_119 (v6 : Int64) (v8 : Int32) (v9 : Int64) (v12 : Int64) : Option (Int32) :=
  if v12 < v6 then
    own_bd (f_ObjectFormat_chunkLength v9 v12) fun r34 =>
    if r34 = (65536 : Int32) then
      some (1 : Int32)
    else
      some (0 : Int32)
  else
    own_bd (f_ObjectFormat_chunkLength v9 v12) fun r35 =>
    if r35 = v8 then
      some (1 : Int32)
    else
      some (0 : Int32)
def f_law_93 (v6 : Int64) (v8 : Int32) (v9 : Int64) (v12 : Int64) : Option (Int32) :=
  if v12 = v6 then
    if v8 = (0 : Int32) then
      if (0 : Int64) < v6 then
        own_lt (v6 - (1 : Int64)) fun x36 =>
        (f_law_119 v6 v8 v9 x36)
      else
        (f_law_119 v6 v8 v9 v12)
    else
      (f_law_119 v6 v8 v9 v12)
  else
    (f_law_119 v6 v8 v9 v12)
def f_law (v0 : Int64) (v2 : Int32) (v3 : Int64) (v5 : Int32) : Option (Int32) :=
  own_lt (v0 &&& (140737488355327 : Int64)) fun x39 =>
  own_lt (v2 &&& (65535 : Int32)) fun x40 =>
  own_lt ((x39 * (65536 : Int64)) + (x40.toInt64)) fun x41 =>
  own_lt (v5 &&& (3 : Int32)) fun x42 =>
  if x42 = (0 : Int32) then
    (f_law_93 x39 x40 x41 x39)
  else
    if x42 = (1 : Int32) then
      if (0 : Int64) < x39 then
        own_lt (x39 - (1 : Int64)) fun x43 =>
        (f_law_93 x39 x40 x41 x43)
      else
        (f_law_93 x39 x40 x41 (0 : Int64))
    else
      if x42 = (2 : Int32) then
        own_ck (¬ (x39 + (1 : Int64)) = (0 : Int64)) <|
        own_lt ((v3 &&& (140737488355327 : Int64)) % (x39 + (1 : Int64))) fun x44 =>
        (f_law_93 x39 x40 x41 x44)
      else
        (f_law_93 x39 x40 x41 (0 : Int64))
def Q_law (Z : State) (hE : Heap) (n0 : Nat)  (r : Int32) (v : Option Value) (h : Heap) (L : List Loc) : Prop := v = some (.int r) ∧ Fr n0 L ∧ h = hE
def Cx_law (p : Program) (s : State) (m : MethodId) (meth : Method) (c : Code) (Z : State) (a0 : Array Value) : Prop := p.tables.exec = Jvm.exec ∧ Z.Warmed39 s.vm ∧ (∀ d ∈ tables_1, d.before a0 Z = true) ∧ c.code = code ∧ c.maxLocals = 15 ∧ s.vm.findClass "com/example/vaulted_cloud_files/vaultedcloudfiles/crypto/ObjectFormatChunkLengthPinLaw" = some m.cls ∧ meth.sig.returnType = some .boolean ∧ meth.locks = false ∧ meth.name = "law"
set_option maxRecDepth 65536 in
set_option maxHeartbeats 4000000 in
theorem b_law_119 {p : Program} {l : Launch} {e : Env} {s : State} {m : MethodId} {args : Array Value} {below : List Frame} {meth : Method} {c : Code} {Z : State} {a0 : Array Value} {n0 : Nat} {hE : Heap} (cx : Cx_law p s m meth c Z a0) :
    ∀ {T : State} {locs : List Loc} (X : Stand p l e room_1 s m args below meth c T locs 0 0) (eT : T.heap = hE) (N : Fr n0 locs) (z : n0 ≤ hE.size) (v6 : Int64) (v8 : Int32) (v9 : Int64) (v12 : Int64) (v0 : Int64) (d2 : Slot) (v3 : Int64) (d5 : Slot) (d11 : Slot) (d14 : Slot) (o_d2 : One d2) (o_d5 : One d5) (o_d11 : One d11) (o_d14 : One d14) (r : Int32), f_law_119 v6 v8 v9 v12 = some r → own_Goes p e below s (Q_law Z hE n0 r) 0 0 (T.setTop (mkF m 119 #[.val (.long v0), .second, d2, .val (.long v3), .second, d5, .val (.long v6), .second, .val (.int v8), .val (.long v9), .second, d11, .val (.long v12), .second, d14] [])) := by
  have cx' := cx
  obtain ⟨hx, hZ, hw, hby, hml, hown, hret, hlk, hnm⟩ := cx'
  intro T locs X eT N z v6 v8 v9 v12 v0 d2 v3 d5 d11 d14 o_d2 o_d5 o_d11 o_d14 r hF
  unfold f_law_119 at hF
  refine own_Goes.via (B := T.setTop (mkF m 124 #[.val (.long v0), .second, d2, .val (.long v3), .second, d5, .val (.long v6), .second, .val (.int v8), .val (.long v9), .second, d11, .val (.long v12), .second, d14] [(.int (lcmpW v12 v6))])) (fun t k => ?_) ?_
  · show Steps p.tables e below (T.setTop (mkF m 119 #[.val (.long v0), .second, d2, .val (.long v3), .second, d5, .val (.long v6), .second, .val (.int v8), .val (.long v9), .second, d11, .val (.long v12), .second, d14] [])) t
    refine XS.lload X.here hx rfl (hb hby at_119) rfl ?_
    show Steps p.tables e below (T.setTop (mkF m 121 #[.val (.long v0), .second, d2, .val (.long v3), .second, d5, .val (.long v6), .second, .val (.int v8), .val (.long v9), .second, d11, .val (.long v12), .second, d14] [(.long v12)])) t
    refine XS.lload X.here hx rfl (hb hby at_121) rfl ?_
    show Steps p.tables e below (T.setTop (mkF m 123 #[.val (.long v0), .second, d2, .val (.long v3), .second, d5, .val (.long v6), .second, .val (.int v8), .val (.long v9), .second, d11, .val (.long v12), .second, d14] [(.long v6), (.long v12)])) t
    refine XS.lcmp X.here hx rfl (hb hby at_123) rfl ?_
    exact k
  by_cases hc124 : v12 < v6
  · rw [if_pos hc124] at hF
    refine own_Goes.via (B := T.setTop (mkF m 140 #[.val (.long v0), .second, d2, .val (.long v3), .second, d5, .val (.long v6), .second, .val (.int v8), .val (.long v9), .second, d11, .val (.long v12), .second, .val (.int (65536 : Int32))] [(.long v12), (.long v9)])) (fun t k => ?_) ?_
    · show Steps p.tables e below (T.setTop (mkF m 124 #[.val (.long v0), .second, d2, .val (.long v3), .second, d5, .val (.long v6), .second, .val (.int v8), .val (.long v9), .second, d11, .val (.long v12), .second, d14] [(.int (lcmpW v12 v6))])) t
      refine XS.ifNo X.here hx rfl (hb hby at_124) rfl (own_tltL hc124).2 ?_
      show Steps p.tables e below (T.setTop (mkF m 127 #[.val (.long v0), .second, d2, .val (.long v3), .second, d5, .val (.long v6), .second, .val (.int v8), .val (.long v9), .second, d11, .val (.long v12), .second, d14] [])) t
      refine X.ldcInt hx hown (mvT hZ (w12 hw)) (g := (mkF m 127 #[.val (.long v0), .second, d2, .val (.long v3), .second, d5, .val (.long v6), .second, .val (.int v8), .val (.long v9), .second, d11, .val (.long v12), .second, d14] [])) rfl (hb hby at_127) _ ?_
      show Steps p.tables e below (T.setTop (mkF m 129 #[.val (.long v0), .second, d2, .val (.long v3), .second, d5, .val (.long v6), .second, .val (.int v8), .val (.long v9), .second, d11, .val (.long v12), .second, d14] [(.int (65536 : Int32))])) t
      refine XS.goto X.here hx rfl (pc0 := 129) (pc' := 134) rfl (hb hby at_129) (by decide) (by decide) ?_
      show Steps p.tables e below (T.setTop (mkF m 134 #[.val (.long v0), .second, d2, .val (.long v3), .second, d5, .val (.long v6), .second, .val (.int v8), .val (.long v9), .second, d11, .val (.long v12), .second, d14] [(.int (65536 : Int32))])) t
      refine XS.istoreS X.here hx rfl (hb hby at_134) rfl rfl o_d14 ?_
      show Steps p.tables e below (T.setTop (mkF m 136 #[.val (.long v0), .second, d2, .val (.long v3), .second, d5, .val (.long v6), .second, .val (.int v8), .val (.long v9), .second, d11, .val (.long v12), .second, .val (.int (65536 : Int32))] [])) t
      refine XS.lload X.here hx rfl (hb hby at_136) rfl ?_
      show Steps p.tables e below (T.setTop (mkF m 138 #[.val (.long v0), .second, d2, .val (.long v3), .second, d5, .val (.long v6), .second, .val (.int v8), .val (.long v9), .second, d11, .val (.long v12), .second, .val (.int (65536 : Int32))] [(.long v9)])) t
      refine XS.lload X.here hx rfl (hb hby at_138) rfl ?_
      exact k
    obtain ⟨r34, hr34, hF⟩ := own_bd_e hF
    obtain ⟨_, _, ⟨T34, L34, k34, n34⟩, -, X34, ⟨Lc34, hQ34, l34, y34, z34⟩, st34⟩ := Jvm.LawKit.callS X hx (y := (⟨"com/example/vaulted_cloud_files/vaultedcloudfiles/crypto/ObjectFormat", "chunkLength", "(JJ)I"⟩ : MethodName)) hown (mvT hZ (w3 hw)) (mvT hZ (w4 hw)) (mvT hZ (w5 hw)) (mvT hZ (w6 hw)) (by decide) (backOf (W := 0) (rm_ObjectFormat_chunkLength l Z a0 hw [] hE n0 z v9 v12 r34 hr34) hZ (w6 hw) (w5 hw) (by decide) (by decide)) (g := (mkF m 140 #[.val (.long v0), .second, d2, .val (.long v3), .second, d5, .val (.long v6), .second, .val (.int v8), .val (.long v9), .second, d11, .val (.long v12), .second, .val (.int (65536 : Int32))] [(.long v12), (.long v9)])) rfl (by rw [hml]; rfl) (argsL := [(.long v9), (.long v12)]) (rest := []) (lenOf pd_1 rfl) rfl (by show 2 * 0 + _ ≤ _; exact Nat.le_of_eq rfl) (hb hby at_140) (fun _ _ => ⟨rfl, eT, (by decide : 0 + 0 ≤ _), (by decide : 0 + 0 ≤ _)⟩)
    dsimp only [Pt.U, Pt.locs, Pt.cells, Pt.slots] at X34 l34 y34 z34 st34 hQ34
    subst l34 y34 z34
    obtain ⟨rfl, N34q, e34⟩ := hQ34
    have N34 := Fr.app N N34q
    refine own_Goes.via st34 ?_
    show own_Goes _ _ _ _ _ _ _ (T34.setTop (mkF m 143 #[.val (.long v0), .second, d2, .val (.long v3), .second, d5, .val (.long v6), .second, .val (.int v8), .val (.long v9), .second, d11, .val (.long v12), .second, .val (.int (65536 : Int32))] [(.int r34)]))
    refine own_Goes.via (B := T34.setTop (mkF m 145 #[.val (.long v0), .second, d2, .val (.long v3), .second, d5, .val (.long v6), .second, .val (.int v8), .val (.long v9), .second, d11, .val (.long v12), .second, .val (.int (65536 : Int32))] [(.int (65536 : Int32)), (.int r34)])) (fun t k => ?_) ?_
    · show Steps p.tables e below (T34.setTop (mkF m 143 #[.val (.long v0), .second, d2, .val (.long v3), .second, d5, .val (.long v6), .second, .val (.int v8), .val (.long v9), .second, d11, .val (.long v12), .second, .val (.int (65536 : Int32))] [(.int r34)])) t
      refine XS.iload X34.here hx rfl (hb hby at_143) rfl ?_
      exact k
    by_cases hc145 : r34 = (65536 : Int32)
    · rw [if_pos hc145] at hF
      refine own_Goes.via (B := T34.setTop (mkF m 153 #[.val (.long v0), .second, d2, .val (.long v3), .second, d5, .val (.long v6), .second, .val (.int v8), .val (.long v9), .second, d11, .val (.long v12), .second, .val (.int (65536 : Int32))] [(.int (1 : Int32))])) (fun t k => ?_) ?_
      · show Steps p.tables e below (T34.setTop (mkF m 145 #[.val (.long v0), .second, d2, .val (.long v3), .second, d5, .val (.long v6), .second, .val (.int v8), .val (.long v9), .second, d11, .val (.long v12), .second, .val (.int (65536 : Int32))] [(.int (65536 : Int32)), (.int r34)])) t
        refine XS.icmpNo X34.here hx rfl (hb hby at_145) rfl (teq hc145).2 ?_
        show Steps p.tables e below (T34.setTop (mkF m 148 #[.val (.long v0), .second, d2, .val (.long v3), .second, d5, .val (.long v6), .second, .val (.int v8), .val (.long v9), .second, d11, .val (.long v12), .second, .val (.int (65536 : Int32))] [])) t
        refine XS.iconst X34.here hx rfl (hb hby at_148) ?_
        show Steps p.tables e below (T34.setTop (mkF m 149 #[.val (.long v0), .second, d2, .val (.long v3), .second, d5, .val (.long v6), .second, .val (.int v8), .val (.long v9), .second, d11, .val (.long v12), .second, .val (.int (65536 : Int32))] [(.int (1 : Int32))])) t
        refine XS.goto X34.here hx rfl (pc0 := 149) (pc' := 153) rfl (hb hby at_149) (by decide) (by decide) ?_
        exact k
      obtain rfl : (1 : Int32) = r := Option.some.inj hF
      exact own_retN X34 hx (t := .boolean) hret hlk (by simp) (hb hby at_153) e34 (v := (1 : Int32)) (by decide) ⟨rfl, N34, rfl⟩ (by decide) (by decide)
    · rw [if_neg hc145] at hF
      refine own_Goes.via (B := T34.setTop (mkF m 153 #[.val (.long v0), .second, d2, .val (.long v3), .second, d5, .val (.long v6), .second, .val (.int v8), .val (.long v9), .second, d11, .val (.long v12), .second, .val (.int (65536 : Int32))] [(.int (0 : Int32))])) (fun t k => ?_) ?_
      · show Steps p.tables e below (T34.setTop (mkF m 145 #[.val (.long v0), .second, d2, .val (.long v3), .second, d5, .val (.long v6), .second, .val (.int v8), .val (.long v9), .second, d11, .val (.long v12), .second, .val (.int (65536 : Int32))] [(.int (65536 : Int32)), (.int r34)])) t
        refine XS.icmpYes X34.here hx rfl (pc0 := 145) (pc' := 152) rfl (hb hby at_145) rfl (feq hc145).2 (by decide) (by decide) ?_
        show Steps p.tables e below (T34.setTop (mkF m 152 #[.val (.long v0), .second, d2, .val (.long v3), .second, d5, .val (.long v6), .second, .val (.int v8), .val (.long v9), .second, d11, .val (.long v12), .second, .val (.int (65536 : Int32))] [])) t
        refine XS.iconst X34.here hx rfl (hb hby at_152) ?_
        exact k
      obtain rfl : (0 : Int32) = r := Option.some.inj hF
      exact own_retN X34 hx (t := .boolean) hret hlk (by simp) (hb hby at_153) e34 (v := (0 : Int32)) (by decide) ⟨rfl, N34, rfl⟩ (by decide) (by decide)
  · rw [if_neg hc124] at hF
    refine own_Goes.via (B := T.setTop (mkF m 140 #[.val (.long v0), .second, d2, .val (.long v3), .second, d5, .val (.long v6), .second, .val (.int v8), .val (.long v9), .second, d11, .val (.long v12), .second, .val (.int v8)] [(.long v12), (.long v9)])) (fun t k => ?_) ?_
    · show Steps p.tables e below (T.setTop (mkF m 124 #[.val (.long v0), .second, d2, .val (.long v3), .second, d5, .val (.long v6), .second, .val (.int v8), .val (.long v9), .second, d11, .val (.long v12), .second, d14] [(.int (lcmpW v12 v6))])) t
      refine XS.ifYes X.here hx rfl (pc0 := 124) (pc' := 132) rfl (hb hby at_124) rfl (own_fltL hc124).2 (by decide) (by decide) ?_
      show Steps p.tables e below (T.setTop (mkF m 132 #[.val (.long v0), .second, d2, .val (.long v3), .second, d5, .val (.long v6), .second, .val (.int v8), .val (.long v9), .second, d11, .val (.long v12), .second, d14] [])) t
      refine XS.iload X.here hx rfl (hb hby at_132) rfl ?_
      show Steps p.tables e below (T.setTop (mkF m 134 #[.val (.long v0), .second, d2, .val (.long v3), .second, d5, .val (.long v6), .second, .val (.int v8), .val (.long v9), .second, d11, .val (.long v12), .second, d14] [(.int v8)])) t
      refine XS.istoreS X.here hx rfl (hb hby at_134) rfl rfl o_d14 ?_
      show Steps p.tables e below (T.setTop (mkF m 136 #[.val (.long v0), .second, d2, .val (.long v3), .second, d5, .val (.long v6), .second, .val (.int v8), .val (.long v9), .second, d11, .val (.long v12), .second, .val (.int v8)] [])) t
      refine XS.lload X.here hx rfl (hb hby at_136) rfl ?_
      show Steps p.tables e below (T.setTop (mkF m 138 #[.val (.long v0), .second, d2, .val (.long v3), .second, d5, .val (.long v6), .second, .val (.int v8), .val (.long v9), .second, d11, .val (.long v12), .second, .val (.int v8)] [(.long v9)])) t
      refine XS.lload X.here hx rfl (hb hby at_138) rfl ?_
      exact k
    obtain ⟨r35, hr35, hF⟩ := own_bd_e hF
    obtain ⟨_, _, ⟨T35, L35, k35, n35⟩, -, X35, ⟨Lc35, hQ35, l35, y35, z35⟩, st35⟩ := Jvm.LawKit.callS X hx (y := (⟨"com/example/vaulted_cloud_files/vaultedcloudfiles/crypto/ObjectFormat", "chunkLength", "(JJ)I"⟩ : MethodName)) hown (mvT hZ (w3 hw)) (mvT hZ (w4 hw)) (mvT hZ (w5 hw)) (mvT hZ (w6 hw)) (by decide) (backOf (W := 0) (rm_ObjectFormat_chunkLength l Z a0 hw [] hE n0 z v9 v12 r35 hr35) hZ (w6 hw) (w5 hw) (by decide) (by decide)) (g := (mkF m 140 #[.val (.long v0), .second, d2, .val (.long v3), .second, d5, .val (.long v6), .second, .val (.int v8), .val (.long v9), .second, d11, .val (.long v12), .second, .val (.int v8)] [(.long v12), (.long v9)])) rfl (by rw [hml]; rfl) (argsL := [(.long v9), (.long v12)]) (rest := []) (lenOf pd_1 rfl) rfl (by show 2 * 0 + _ ≤ _; exact Nat.le_of_eq rfl) (hb hby at_140) (fun _ _ => ⟨rfl, eT, (by decide : 0 + 0 ≤ _), (by decide : 0 + 0 ≤ _)⟩)
    dsimp only [Pt.U, Pt.locs, Pt.cells, Pt.slots] at X35 l35 y35 z35 st35 hQ35
    subst l35 y35 z35
    obtain ⟨rfl, N35q, e35⟩ := hQ35
    have N35 := Fr.app N N35q
    refine own_Goes.via st35 ?_
    show own_Goes _ _ _ _ _ _ _ (T35.setTop (mkF m 143 #[.val (.long v0), .second, d2, .val (.long v3), .second, d5, .val (.long v6), .second, .val (.int v8), .val (.long v9), .second, d11, .val (.long v12), .second, .val (.int v8)] [(.int r35)]))
    refine own_Goes.via (B := T35.setTop (mkF m 145 #[.val (.long v0), .second, d2, .val (.long v3), .second, d5, .val (.long v6), .second, .val (.int v8), .val (.long v9), .second, d11, .val (.long v12), .second, .val (.int v8)] [(.int v8), (.int r35)])) (fun t k => ?_) ?_
    · show Steps p.tables e below (T35.setTop (mkF m 143 #[.val (.long v0), .second, d2, .val (.long v3), .second, d5, .val (.long v6), .second, .val (.int v8), .val (.long v9), .second, d11, .val (.long v12), .second, .val (.int v8)] [(.int r35)])) t
      refine XS.iload X35.here hx rfl (hb hby at_143) rfl ?_
      exact k
    by_cases hc145 : r35 = v8
    · rw [if_pos hc145] at hF
      refine own_Goes.via (B := T35.setTop (mkF m 153 #[.val (.long v0), .second, d2, .val (.long v3), .second, d5, .val (.long v6), .second, .val (.int v8), .val (.long v9), .second, d11, .val (.long v12), .second, .val (.int v8)] [(.int (1 : Int32))])) (fun t k => ?_) ?_
      · show Steps p.tables e below (T35.setTop (mkF m 145 #[.val (.long v0), .second, d2, .val (.long v3), .second, d5, .val (.long v6), .second, .val (.int v8), .val (.long v9), .second, d11, .val (.long v12), .second, .val (.int v8)] [(.int v8), (.int r35)])) t
        refine XS.icmpNo X35.here hx rfl (hb hby at_145) rfl (teq hc145).2 ?_
        show Steps p.tables e below (T35.setTop (mkF m 148 #[.val (.long v0), .second, d2, .val (.long v3), .second, d5, .val (.long v6), .second, .val (.int v8), .val (.long v9), .second, d11, .val (.long v12), .second, .val (.int v8)] [])) t
        refine XS.iconst X35.here hx rfl (hb hby at_148) ?_
        show Steps p.tables e below (T35.setTop (mkF m 149 #[.val (.long v0), .second, d2, .val (.long v3), .second, d5, .val (.long v6), .second, .val (.int v8), .val (.long v9), .second, d11, .val (.long v12), .second, .val (.int v8)] [(.int (1 : Int32))])) t
        refine XS.goto X35.here hx rfl (pc0 := 149) (pc' := 153) rfl (hb hby at_149) (by decide) (by decide) ?_
        exact k
      obtain rfl : (1 : Int32) = r := Option.some.inj hF
      exact own_retN X35 hx (t := .boolean) hret hlk (by simp) (hb hby at_153) e35 (v := (1 : Int32)) (by decide) ⟨rfl, N35, rfl⟩ (by decide) (by decide)
    · rw [if_neg hc145] at hF
      refine own_Goes.via (B := T35.setTop (mkF m 153 #[.val (.long v0), .second, d2, .val (.long v3), .second, d5, .val (.long v6), .second, .val (.int v8), .val (.long v9), .second, d11, .val (.long v12), .second, .val (.int v8)] [(.int (0 : Int32))])) (fun t k => ?_) ?_
      · show Steps p.tables e below (T35.setTop (mkF m 145 #[.val (.long v0), .second, d2, .val (.long v3), .second, d5, .val (.long v6), .second, .val (.int v8), .val (.long v9), .second, d11, .val (.long v12), .second, .val (.int v8)] [(.int v8), (.int r35)])) t
        refine XS.icmpYes X35.here hx rfl (pc0 := 145) (pc' := 152) rfl (hb hby at_145) rfl (feq hc145).2 (by decide) (by decide) ?_
        show Steps p.tables e below (T35.setTop (mkF m 152 #[.val (.long v0), .second, d2, .val (.long v3), .second, d5, .val (.long v6), .second, .val (.int v8), .val (.long v9), .second, d11, .val (.long v12), .second, .val (.int v8)] [])) t
        refine XS.iconst X35.here hx rfl (hb hby at_152) ?_
        exact k
      obtain rfl : (0 : Int32) = r := Option.some.inj hF
      exact own_retN X35 hx (t := .boolean) hret hlk (by simp) (hb hby at_153) e35 (v := (0 : Int32)) (by decide) ⟨rfl, N35, rfl⟩ (by decide) (by decide)
set_option maxRecDepth 65536 in
set_option maxHeartbeats 4000000 in
theorem b_law_93 {p : Program} {l : Launch} {e : Env} {s : State} {m : MethodId} {args : Array Value} {below : List Frame} {meth : Method} {c : Code} {Z : State} {a0 : Array Value} {n0 : Nat} {hE : Heap} (cx : Cx_law p s m meth c Z a0) :
    ∀ {T : State} {locs : List Loc} (X : Stand p l e room_1 s m args below meth c T locs 0 0) (eT : T.heap = hE) (N : Fr n0 locs) (z : n0 ≤ hE.size) (v6 : Int64) (v8 : Int32) (v9 : Int64) (v12 : Int64) (v0 : Int64) (d2 : Slot) (v3 : Int64) (d5 : Slot) (d11 : Slot) (d14 : Slot) (o_d2 : One d2) (o_d5 : One d5) (o_d11 : One d11) (o_d14 : One d14) (r : Int32), f_law_93 v6 v8 v9 v12 = some r → own_Goes p e below s (Q_law Z hE n0 r) 0 0 (T.setTop (mkF m 93 #[.val (.long v0), .second, d2, .val (.long v3), .second, d5, .val (.long v6), .second, .val (.int v8), .val (.long v9), .second, d11, .val (.long v12), .second, d14] [])) := by
  have cx' := cx
  obtain ⟨hx, hZ, hw, hby, hml, hown, hret, hlk, hnm⟩ := cx'
  intro T locs X eT N z v6 v8 v9 v12 v0 d2 v3 d5 d11 d14 o_d2 o_d5 o_d11 o_d14 r hF
  unfold f_law_93 at hF
  refine own_Goes.via (B := T.setTop (mkF m 98 #[.val (.long v0), .second, d2, .val (.long v3), .second, d5, .val (.long v6), .second, .val (.int v8), .val (.long v9), .second, d11, .val (.long v12), .second, d14] [(.int (lcmpW v12 v6))])) (fun t k => ?_) ?_
  · show Steps p.tables e below (T.setTop (mkF m 93 #[.val (.long v0), .second, d2, .val (.long v3), .second, d5, .val (.long v6), .second, .val (.int v8), .val (.long v9), .second, d11, .val (.long v12), .second, d14] [])) t
    refine XS.lload X.here hx rfl (hb hby at_93) rfl ?_
    show Steps p.tables e below (T.setTop (mkF m 95 #[.val (.long v0), .second, d2, .val (.long v3), .second, d5, .val (.long v6), .second, .val (.int v8), .val (.long v9), .second, d11, .val (.long v12), .second, d14] [(.long v12)])) t
    refine XS.lload X.here hx rfl (hb hby at_95) rfl ?_
    show Steps p.tables e below (T.setTop (mkF m 97 #[.val (.long v0), .second, d2, .val (.long v3), .second, d5, .val (.long v6), .second, .val (.int v8), .val (.long v9), .second, d11, .val (.long v12), .second, d14] [(.long v6), (.long v12)])) t
    refine XS.lcmp X.here hx rfl (hb hby at_97) rfl ?_
    exact k
  by_cases hc98 : v12 = v6
  · rw [if_pos hc98] at hF
    refine own_Goes.via (B := T.setTop (mkF m 103 #[.val (.long v0), .second, d2, .val (.long v3), .second, d5, .val (.long v6), .second, .val (.int v8), .val (.long v9), .second, d11, .val (.long v12), .second, d14] [(.int v8)])) (fun t k => ?_) ?_
    · show Steps p.tables e below (T.setTop (mkF m 98 #[.val (.long v0), .second, d2, .val (.long v3), .second, d5, .val (.long v6), .second, .val (.int v8), .val (.long v9), .second, d11, .val (.long v12), .second, d14] [(.int (lcmpW v12 v6))])) t
      refine XS.ifNo X.here hx rfl (hb hby at_98) rfl (own_teqL hc98).2 ?_
      show Steps p.tables e below (T.setTop (mkF m 101 #[.val (.long v0), .second, d2, .val (.long v3), .second, d5, .val (.long v6), .second, .val (.int v8), .val (.long v9), .second, d11, .val (.long v12), .second, d14] [])) t
      refine XS.iload X.here hx rfl (hb hby at_101) rfl ?_
      exact k
    by_cases hc103 : v8 = (0 : Int32)
    · rw [if_pos hc103] at hF
      refine own_Goes.via (B := T.setTop (mkF m 110 #[.val (.long v0), .second, d2, .val (.long v3), .second, d5, .val (.long v6), .second, .val (.int v8), .val (.long v9), .second, d11, .val (.long v12), .second, d14] [(.int (lcmpW v6 (0 : Int64)))])) (fun t k => ?_) ?_
      · show Steps p.tables e below (T.setTop (mkF m 103 #[.val (.long v0), .second, d2, .val (.long v3), .second, d5, .val (.long v6), .second, .val (.int v8), .val (.long v9), .second, d11, .val (.long v12), .second, d14] [(.int v8)])) t
        refine XS.ifNo X.here hx rfl (hb hby at_103) rfl ((if0 _ _).trans (teq hc103).2) ?_
        show Steps p.tables e below (T.setTop (mkF m 106 #[.val (.long v0), .second, d2, .val (.long v3), .second, d5, .val (.long v6), .second, .val (.int v8), .val (.long v9), .second, d11, .val (.long v12), .second, d14] [])) t
        refine XS.lload X.here hx rfl (hb hby at_106) rfl ?_
        show Steps p.tables e below (T.setTop (mkF m 108 #[.val (.long v0), .second, d2, .val (.long v3), .second, d5, .val (.long v6), .second, .val (.int v8), .val (.long v9), .second, d11, .val (.long v12), .second, d14] [(.long v6)])) t
        refine XS.lconst X.here hx rfl (hb hby at_108) ?_
        show Steps p.tables e below (T.setTop (mkF m 109 #[.val (.long v0), .second, d2, .val (.long v3), .second, d5, .val (.long v6), .second, .val (.int v8), .val (.long v9), .second, d11, .val (.long v12), .second, d14] [(.long (0 : Int64)), (.long v6)])) t
        refine XS.lcmp X.here hx rfl (hb hby at_109) rfl ?_
        exact k
      by_cases hc110 : (0 : Int64) < v6
      · rw [if_pos hc110] at hF
        refine own_Goes.via (B := T.setTop (mkF m 117 #[.val (.long v0), .second, d2, .val (.long v3), .second, d5, .val (.long v6), .second, .val (.int v8), .val (.long v9), .second, d11, .val (.long v12), .second, d14] [(.long (v6 - (1 : Int64)))])) (fun t k => ?_) ?_
        · show Steps p.tables e below (T.setTop (mkF m 110 #[.val (.long v0), .second, d2, .val (.long v3), .second, d5, .val (.long v6), .second, .val (.int v8), .val (.long v9), .second, d11, .val (.long v12), .second, d14] [(.int (lcmpW v6 (0 : Int64)))])) t
          refine XS.ifNo X.here hx rfl (hb hby at_110) rfl (own_tgtL hc110).2 ?_
          show Steps p.tables e below (T.setTop (mkF m 113 #[.val (.long v0), .second, d2, .val (.long v3), .second, d5, .val (.long v6), .second, .val (.int v8), .val (.long v9), .second, d11, .val (.long v12), .second, d14] [])) t
          refine XS.lload X.here hx rfl (hb hby at_113) rfl ?_
          show Steps p.tables e below (T.setTop (mkF m 115 #[.val (.long v0), .second, d2, .val (.long v3), .second, d5, .val (.long v6), .second, .val (.int v8), .val (.long v9), .second, d11, .val (.long v12), .second, d14] [(.long v6)])) t
          refine XS.lconst X.here hx rfl (hb hby at_115) ?_
          show Steps p.tables e below (T.setTop (mkF m 116 #[.val (.long v0), .second, d2, .val (.long v3), .second, d5, .val (.long v6), .second, .val (.int v8), .val (.long v9), .second, d11, .val (.long v12), .second, d14] [(.long (1 : Int64)), (.long v6)])) t
          refine XS.lsub X.here hx rfl (hb hby at_116) rfl ?_
          exact k
        obtain ⟨x36, hx36, hF⟩ := own_lt_e hF
        rw [← hx36]
        refine own_Goes.via (B := T.setTop (mkF m 119 #[.val (.long v0), .second, d2, .val (.long v3), .second, d5, .val (.long v6), .second, .val (.int v8), .val (.long v9), .second, d11, .val (.long x36), .second, d14] [])) (fun t k => ?_) ?_
        · show Steps p.tables e below (T.setTop (mkF m 117 #[.val (.long v0), .second, d2, .val (.long v3), .second, d5, .val (.long v6), .second, .val (.int v8), .val (.long v9), .second, d11, .val (.long v12), .second, d14] [(.long x36)])) t
          refine XS.lstore X.here hx rfl (hb hby at_117) rfl (l' := #[.val (.long v0), .second, d2, .val (.long v3), .second, d5, .val (.long v6), .second, .val (.int v8), .val (.long v9), .second, d11, .val (.long x36), .second, d14]) rfl ?_
          exact k
        exact b_law_119 cx X eT N z v6 v8 v9 x36 v0 d2 v3 d5 d11 d14 o_d2 o_d5 o_d11 o_d14 _ hF
      · rw [if_neg hc110] at hF
        refine own_Goes.via (B := T.setTop (mkF m 119 #[.val (.long v0), .second, d2, .val (.long v3), .second, d5, .val (.long v6), .second, .val (.int v8), .val (.long v9), .second, d11, .val (.long v12), .second, d14] [])) (fun t k => ?_) ?_
        · show Steps p.tables e below (T.setTop (mkF m 110 #[.val (.long v0), .second, d2, .val (.long v3), .second, d5, .val (.long v6), .second, .val (.int v8), .val (.long v9), .second, d11, .val (.long v12), .second, d14] [(.int (lcmpW v6 (0 : Int64)))])) t
          refine XS.ifYes X.here hx rfl (pc0 := 110) (pc' := 119) rfl (hb hby at_110) rfl (own_fgtL hc110).2 (by decide) (by decide) ?_
          exact k
        exact b_law_119 cx X eT N z v6 v8 v9 v12 v0 d2 v3 d5 d11 d14 o_d2 o_d5 o_d11 o_d14 _ hF
    · rw [if_neg hc103] at hF
      refine own_Goes.via (B := T.setTop (mkF m 119 #[.val (.long v0), .second, d2, .val (.long v3), .second, d5, .val (.long v6), .second, .val (.int v8), .val (.long v9), .second, d11, .val (.long v12), .second, d14] [])) (fun t k => ?_) ?_
      · show Steps p.tables e below (T.setTop (mkF m 103 #[.val (.long v0), .second, d2, .val (.long v3), .second, d5, .val (.long v6), .second, .val (.int v8), .val (.long v9), .second, d11, .val (.long v12), .second, d14] [(.int v8)])) t
        refine XS.ifYes X.here hx rfl (pc0 := 103) (pc' := 119) rfl (hb hby at_103) rfl ((if0 _ _).trans (feq hc103).2) (by decide) (by decide) ?_
        exact k
      exact b_law_119 cx X eT N z v6 v8 v9 v12 v0 d2 v3 d5 d11 d14 o_d2 o_d5 o_d11 o_d14 _ hF
  · rw [if_neg hc98] at hF
    refine own_Goes.via (B := T.setTop (mkF m 119 #[.val (.long v0), .second, d2, .val (.long v3), .second, d5, .val (.long v6), .second, .val (.int v8), .val (.long v9), .second, d11, .val (.long v12), .second, d14] [])) (fun t k => ?_) ?_
    · show Steps p.tables e below (T.setTop (mkF m 98 #[.val (.long v0), .second, d2, .val (.long v3), .second, d5, .val (.long v6), .second, .val (.int v8), .val (.long v9), .second, d11, .val (.long v12), .second, d14] [(.int (lcmpW v12 v6))])) t
      refine XS.ifYes X.here hx rfl (pc0 := 98) (pc' := 119) rfl (hb hby at_98) rfl (own_feqL hc98).2 (by decide) (by decide) ?_
      exact k
    exact b_law_119 cx X eT N z v6 v8 v9 v12 v0 d2 v3 d5 d11 d14 o_d2 o_d5 o_d11 o_d14 _ hF
set_option maxRecDepth 65536 in
set_option maxHeartbeats 4000000 in
theorem b_law {p : Program} {l : Launch} {e : Env} {s : State} {m : MethodId} {args : Array Value} {below : List Frame} {meth : Method} {c : Code} {Z : State} {a0 : Array Value} {n0 : Nat} {hE : Heap} (cx : Cx_law p s m meth c Z a0) :
    ∀ {T : State} {locs : List Loc} (X : Stand p l e room_1 s m args below meth c T locs 0 0) (eT : T.heap = hE) (N : Fr n0 locs) (z : n0 ≤ hE.size) (v0 : Int64) (v2 : Int32) (v3 : Int64) (v5 : Int32) (r : Int32), f_law v0 v2 v3 v5 = some r → own_Goes p e below s (Q_law Z hE n0 r) 0 0 (T.setTop (mkF m 0 #[.val (.long v0), .second, .val (.int v2), .val (.long v3), .second, .val (.int v5), .unset, .unset, .unset, .unset, .unset, .unset, .unset, .unset, .unset] [])) := by
  have cx' := cx
  obtain ⟨hx, hZ, hw, hby, hml, hown, hret, hlk, hnm⟩ := cx'
  intro T locs X eT N z v0 v2 v3 v5 r hF
  unfold f_law at hF
  refine own_Goes.via (B := T.setTop (mkF m 5 #[.val (.long v0), .second, .val (.int v2), .val (.long v3), .second, .val (.int v5), .unset, .unset, .unset, .unset, .unset, .unset, .unset, .unset, .unset] [(.long (v0 &&& (140737488355327 : Int64)))])) (fun t k => ?_) ?_
  · show Steps p.tables e below (T.setTop (mkF m 0 #[.val (.long v0), .second, .val (.int v2), .val (.long v3), .second, .val (.int v5), .unset, .unset, .unset, .unset, .unset, .unset, .unset, .unset, .unset] [])) t
    refine XS.lloadN X.here hx rfl (hb hby at_0) rfl ?_
    show Steps p.tables e below (T.setTop (mkF m 1 #[.val (.long v0), .second, .val (.int v2), .val (.long v3), .second, .val (.int v5), .unset, .unset, .unset, .unset, .unset, .unset, .unset, .unset, .unset] [(.long v0)])) t
    refine X.ldc2Long hx hown (mvT hZ (w0 hw)) (g := (mkF m 1 #[.val (.long v0), .second, .val (.int v2), .val (.long v3), .second, .val (.int v5), .unset, .unset, .unset, .unset, .unset, .unset, .unset, .unset, .unset] [(.long v0)])) rfl (hb hby at_1) _ ?_
    show Steps p.tables e below (T.setTop (mkF m 4 #[.val (.long v0), .second, .val (.int v2), .val (.long v3), .second, .val (.int v5), .unset, .unset, .unset, .unset, .unset, .unset, .unset, .unset, .unset] [(.long (140737488355327 : Int64)), (.long v0)])) t
    refine XS.land X.here hx rfl (hb hby at_4) rfl ?_
    exact k
  obtain ⟨x39, hx39, hF⟩ := own_lt_e hF
  rw [← hx39]
  refine own_Goes.via (B := T.setTop (mkF m 11 #[.val (.long v0), .second, .val (.int v2), .val (.long v3), .second, .val (.int v5), .val (.long x39), .second, .unset, .unset, .unset, .unset, .unset, .unset, .unset] [(.int (v2 &&& (65535 : Int32)))])) (fun t k => ?_) ?_
  · show Steps p.tables e below (T.setTop (mkF m 5 #[.val (.long v0), .second, .val (.int v2), .val (.long v3), .second, .val (.int v5), .unset, .unset, .unset, .unset, .unset, .unset, .unset, .unset, .unset] [(.long x39)])) t
    refine XS.lstore X.here hx rfl (hb hby at_5) rfl (l' := #[.val (.long v0), .second, .val (.int v2), .val (.long v3), .second, .val (.int v5), .val (.long x39), .second, .unset, .unset, .unset, .unset, .unset, .unset, .unset]) rfl ?_
    show Steps p.tables e below (T.setTop (mkF m 7 #[.val (.long v0), .second, .val (.int v2), .val (.long v3), .second, .val (.int v5), .val (.long x39), .second, .unset, .unset, .unset, .unset, .unset, .unset, .unset] [])) t
    refine XS.iloadN X.here hx rfl (hb hby at_7) rfl ?_
    show Steps p.tables e below (T.setTop (mkF m 8 #[.val (.long v0), .second, .val (.int v2), .val (.long v3), .second, .val (.int v5), .val (.long x39), .second, .unset, .unset, .unset, .unset, .unset, .unset, .unset] [(.int v2)])) t
    refine X.ldcInt hx hown (mvT hZ (w1 hw)) (g := (mkF m 8 #[.val (.long v0), .second, .val (.int v2), .val (.long v3), .second, .val (.int v5), .val (.long x39), .second, .unset, .unset, .unset, .unset, .unset, .unset, .unset] [(.int v2)])) rfl (hb hby at_8) _ ?_
    show Steps p.tables e below (T.setTop (mkF m 10 #[.val (.long v0), .second, .val (.int v2), .val (.long v3), .second, .val (.int v5), .val (.long x39), .second, .unset, .unset, .unset, .unset, .unset, .unset, .unset] [(.int (65535 : Int32)), (.int v2)])) t
    refine XS.iand X.here hx rfl (hb hby at_10) rfl ?_
    exact k
  obtain ⟨x40, hx40, hF⟩ := own_lt_e hF
  rw [← hx40]
  refine own_Goes.via (B := T.setTop (mkF m 23 #[.val (.long v0), .second, .val (.int v2), .val (.long v3), .second, .val (.int v5), .val (.long x39), .second, .val (.int x40), .unset, .unset, .unset, .unset, .unset, .unset] [(.long ((x39 * (65536 : Int64)) + (x40.toInt64)))])) (fun t k => ?_) ?_
  · show Steps p.tables e below (T.setTop (mkF m 11 #[.val (.long v0), .second, .val (.int v2), .val (.long v3), .second, .val (.int v5), .val (.long x39), .second, .unset, .unset, .unset, .unset, .unset, .unset, .unset] [(.int x40)])) t
    refine XS.istore X.here hx rfl (hb hby at_11) rfl (l' := #[.val (.long v0), .second, .val (.int v2), .val (.long v3), .second, .val (.int v5), .val (.long x39), .second, .val (.int x40), .unset, .unset, .unset, .unset, .unset, .unset]) rfl ?_
    show Steps p.tables e below (T.setTop (mkF m 13 #[.val (.long v0), .second, .val (.int v2), .val (.long v3), .second, .val (.int v5), .val (.long x39), .second, .val (.int x40), .unset, .unset, .unset, .unset, .unset, .unset] [])) t
    refine XS.lload X.here hx rfl (hb hby at_13) rfl ?_
    show Steps p.tables e below (T.setTop (mkF m 15 #[.val (.long v0), .second, .val (.int v2), .val (.long v3), .second, .val (.int v5), .val (.long x39), .second, .val (.int x40), .unset, .unset, .unset, .unset, .unset, .unset] [(.long x39)])) t
    refine X.ldc2Long hx hown (mvT hZ (w2 hw)) (g := (mkF m 15 #[.val (.long v0), .second, .val (.int v2), .val (.long v3), .second, .val (.int v5), .val (.long x39), .second, .val (.int x40), .unset, .unset, .unset, .unset, .unset, .unset] [(.long x39)])) rfl (hb hby at_15) _ ?_
    show Steps p.tables e below (T.setTop (mkF m 18 #[.val (.long v0), .second, .val (.int v2), .val (.long v3), .second, .val (.int v5), .val (.long x39), .second, .val (.int x40), .unset, .unset, .unset, .unset, .unset, .unset] [(.long (65536 : Int64)), (.long x39)])) t
    refine XS.lmul X.here hx rfl (hb hby at_18) rfl ?_
    show Steps p.tables e below (T.setTop (mkF m 19 #[.val (.long v0), .second, .val (.int v2), .val (.long v3), .second, .val (.int v5), .val (.long x39), .second, .val (.int x40), .unset, .unset, .unset, .unset, .unset, .unset] [(.long (x39 * (65536 : Int64)))])) t
    refine XS.iload X.here hx rfl (hb hby at_19) rfl ?_
    show Steps p.tables e below (T.setTop (mkF m 21 #[.val (.long v0), .second, .val (.int v2), .val (.long v3), .second, .val (.int v5), .val (.long x39), .second, .val (.int x40), .unset, .unset, .unset, .unset, .unset, .unset] [(.int x40), (.long (x39 * (65536 : Int64)))])) t
    refine XS.i2l X.here hx rfl (hb hby at_21) rfl ?_
    show Steps p.tables e below (T.setTop (mkF m 22 #[.val (.long v0), .second, .val (.int v2), .val (.long v3), .second, .val (.int v5), .val (.long x39), .second, .val (.int x40), .unset, .unset, .unset, .unset, .unset, .unset] [(.long (x40.toInt64)), (.long (x39 * (65536 : Int64)))])) t
    refine XS.ladd X.here hx rfl (hb hby at_22) rfl ?_
    exact k
  obtain ⟨x41, hx41, hF⟩ := own_lt_e hF
  rw [← hx41]
  refine own_Goes.via (B := T.setTop (mkF m 29 #[.val (.long v0), .second, .val (.int v2), .val (.long v3), .second, .val (.int v5), .val (.long x39), .second, .val (.int x40), .val (.long x41), .second, .unset, .unset, .unset, .unset] [(.int (v5 &&& (3 : Int32)))])) (fun t k => ?_) ?_
  · show Steps p.tables e below (T.setTop (mkF m 23 #[.val (.long v0), .second, .val (.int v2), .val (.long v3), .second, .val (.int v5), .val (.long x39), .second, .val (.int x40), .unset, .unset, .unset, .unset, .unset, .unset] [(.long x41)])) t
    refine XS.lstore X.here hx rfl (hb hby at_23) rfl (l' := #[.val (.long v0), .second, .val (.int v2), .val (.long v3), .second, .val (.int v5), .val (.long x39), .second, .val (.int x40), .val (.long x41), .second, .unset, .unset, .unset, .unset]) rfl ?_
    show Steps p.tables e below (T.setTop (mkF m 25 #[.val (.long v0), .second, .val (.int v2), .val (.long v3), .second, .val (.int v5), .val (.long x39), .second, .val (.int x40), .val (.long x41), .second, .unset, .unset, .unset, .unset] [])) t
    refine XS.iload X.here hx rfl (hb hby at_25) rfl ?_
    show Steps p.tables e below (T.setTop (mkF m 27 #[.val (.long v0), .second, .val (.int v2), .val (.long v3), .second, .val (.int v5), .val (.long x39), .second, .val (.int x40), .val (.long x41), .second, .unset, .unset, .unset, .unset] [(.int v5)])) t
    refine XS.iconst X.here hx rfl (hb hby at_27) ?_
    show Steps p.tables e below (T.setTop (mkF m 28 #[.val (.long v0), .second, .val (.int v2), .val (.long v3), .second, .val (.int v5), .val (.long x39), .second, .val (.int x40), .val (.long x41), .second, .unset, .unset, .unset, .unset] [(.int (3 : Int32)), (.int v5)])) t
    refine XS.iand X.here hx rfl (hb hby at_28) rfl ?_
    exact k
  obtain ⟨x42, hx42, hF⟩ := own_lt_e hF
  rw [← hx42]
  refine own_Goes.via (B := T.setTop (mkF m 33 #[.val (.long v0), .second, .val (.int v2), .val (.long v3), .second, .val (.int v5), .val (.long x39), .second, .val (.int x40), .val (.long x41), .second, .val (.int x42), .unset, .unset, .unset] [(.int x42)])) (fun t k => ?_) ?_
  · show Steps p.tables e below (T.setTop (mkF m 29 #[.val (.long v0), .second, .val (.int v2), .val (.long v3), .second, .val (.int v5), .val (.long x39), .second, .val (.int x40), .val (.long x41), .second, .unset, .unset, .unset, .unset] [(.int x42)])) t
    refine XS.istore X.here hx rfl (hb hby at_29) rfl (l' := #[.val (.long v0), .second, .val (.int v2), .val (.long v3), .second, .val (.int v5), .val (.long x39), .second, .val (.int x40), .val (.long x41), .second, .val (.int x42), .unset, .unset, .unset]) rfl ?_
    show Steps p.tables e below (T.setTop (mkF m 31 #[.val (.long v0), .second, .val (.int v2), .val (.long v3), .second, .val (.int v5), .val (.long x39), .second, .val (.int x40), .val (.long x41), .second, .val (.int x42), .unset, .unset, .unset] [])) t
    refine XS.iload X.here hx rfl (hb hby at_31) rfl ?_
    exact k
  by_cases hc33 : x42 = (0 : Int32)
  · rw [if_pos hc33] at hF
    refine own_Goes.via (B := T.setTop (mkF m 93 #[.val (.long v0), .second, .val (.int v2), .val (.long v3), .second, .val (.int v5), .val (.long x39), .second, .val (.int x40), .val (.long x41), .second, .val (.int x42), .val (.long x39), .second, .unset] [])) (fun t k => ?_) ?_
    · show Steps p.tables e below (T.setTop (mkF m 33 #[.val (.long v0), .second, .val (.int v2), .val (.long v3), .second, .val (.int v5), .val (.long x39), .second, .val (.int x40), .val (.long x41), .second, .val (.int x42), .unset, .unset, .unset] [(.int x42)])) t
      refine XS.ifNo X.here hx rfl (hb hby at_33) rfl ((if0 _ _).trans (teq hc33).2) ?_
      show Steps p.tables e below (T.setTop (mkF m 36 #[.val (.long v0), .second, .val (.int v2), .val (.long v3), .second, .val (.int v5), .val (.long x39), .second, .val (.int x40), .val (.long x41), .second, .val (.int x42), .unset, .unset, .unset] [])) t
      refine XS.lload X.here hx rfl (hb hby at_36) rfl ?_
      show Steps p.tables e below (T.setTop (mkF m 38 #[.val (.long v0), .second, .val (.int v2), .val (.long v3), .second, .val (.int v5), .val (.long x39), .second, .val (.int x40), .val (.long x41), .second, .val (.int x42), .unset, .unset, .unset] [(.long x39)])) t
      refine XS.lstore X.here hx rfl (hb hby at_38) rfl (l' := #[.val (.long v0), .second, .val (.int v2), .val (.long v3), .second, .val (.int v5), .val (.long x39), .second, .val (.int x40), .val (.long x41), .second, .val (.int x42), .val (.long x39), .second, .unset]) rfl ?_
      show Steps p.tables e below (T.setTop (mkF m 40 #[.val (.long v0), .second, .val (.int v2), .val (.long v3), .second, .val (.int v5), .val (.long x39), .second, .val (.int x40), .val (.long x41), .second, .val (.int x42), .val (.long x39), .second, .unset] [])) t
      refine XS.goto X.here hx rfl (pc0 := 40) (pc' := 93) rfl (hb hby at_40) (by decide) (by decide) ?_
      exact k
    exact b_law_93 cx X eT N z x39 x40 x41 x39 v0 (.val (.int v2)) v3 (.val (.int v5)) (.val (.int x42)) (.unset) (One.val rfl) (One.val rfl) (One.val rfl) One.u _ hF
  · rw [if_neg hc33] at hF
    refine own_Goes.via (B := T.setTop (mkF m 46 #[.val (.long v0), .second, .val (.int v2), .val (.long v3), .second, .val (.int v5), .val (.long x39), .second, .val (.int x40), .val (.long x41), .second, .val (.int x42), .unset, .unset, .unset] [(.int (1 : Int32)), (.int x42)])) (fun t k => ?_) ?_
    · show Steps p.tables e below (T.setTop (mkF m 33 #[.val (.long v0), .second, .val (.int v2), .val (.long v3), .second, .val (.int v5), .val (.long x39), .second, .val (.int x40), .val (.long x41), .second, .val (.int x42), .unset, .unset, .unset] [(.int x42)])) t
      refine XS.ifYes X.here hx rfl (pc0 := 33) (pc' := 43) rfl (hb hby at_33) rfl ((if0 _ _).trans (feq hc33).2) (by decide) (by decide) ?_
      show Steps p.tables e below (T.setTop (mkF m 43 #[.val (.long v0), .second, .val (.int v2), .val (.long v3), .second, .val (.int v5), .val (.long x39), .second, .val (.int x40), .val (.long x41), .second, .val (.int x42), .unset, .unset, .unset] [])) t
      refine XS.iload X.here hx rfl (hb hby at_43) rfl ?_
      show Steps p.tables e below (T.setTop (mkF m 45 #[.val (.long v0), .second, .val (.int v2), .val (.long v3), .second, .val (.int v5), .val (.long x39), .second, .val (.int x40), .val (.long x41), .second, .val (.int x42), .unset, .unset, .unset] [(.int x42)])) t
      refine XS.iconst X.here hx rfl (hb hby at_45) ?_
      exact k
    by_cases hc46 : x42 = (1 : Int32)
    · rw [if_pos hc46] at hF
      refine own_Goes.via (B := T.setTop (mkF m 53 #[.val (.long v0), .second, .val (.int v2), .val (.long v3), .second, .val (.int v5), .val (.long x39), .second, .val (.int x40), .val (.long x41), .second, .val (.int x42), .unset, .unset, .unset] [(.int (lcmpW x39 (0 : Int64)))])) (fun t k => ?_) ?_
      · show Steps p.tables e below (T.setTop (mkF m 46 #[.val (.long v0), .second, .val (.int v2), .val (.long v3), .second, .val (.int v5), .val (.long x39), .second, .val (.int x40), .val (.long x41), .second, .val (.int x42), .unset, .unset, .unset] [(.int (1 : Int32)), (.int x42)])) t
        refine XS.icmpNo X.here hx rfl (hb hby at_46) rfl (teq hc46).2 ?_
        show Steps p.tables e below (T.setTop (mkF m 49 #[.val (.long v0), .second, .val (.int v2), .val (.long v3), .second, .val (.int v5), .val (.long x39), .second, .val (.int x40), .val (.long x41), .second, .val (.int x42), .unset, .unset, .unset] [])) t
        refine XS.lload X.here hx rfl (hb hby at_49) rfl ?_
        show Steps p.tables e below (T.setTop (mkF m 51 #[.val (.long v0), .second, .val (.int v2), .val (.long v3), .second, .val (.int v5), .val (.long x39), .second, .val (.int x40), .val (.long x41), .second, .val (.int x42), .unset, .unset, .unset] [(.long x39)])) t
        refine XS.lconst X.here hx rfl (hb hby at_51) ?_
        show Steps p.tables e below (T.setTop (mkF m 52 #[.val (.long v0), .second, .val (.int v2), .val (.long v3), .second, .val (.int v5), .val (.long x39), .second, .val (.int x40), .val (.long x41), .second, .val (.int x42), .unset, .unset, .unset] [(.long (0 : Int64)), (.long x39)])) t
        refine XS.lcmp X.here hx rfl (hb hby at_52) rfl ?_
        exact k
      by_cases hc53 : (0 : Int64) < x39
      · rw [if_pos hc53] at hF
        refine own_Goes.via (B := T.setTop (mkF m 64 #[.val (.long v0), .second, .val (.int v2), .val (.long v3), .second, .val (.int v5), .val (.long x39), .second, .val (.int x40), .val (.long x41), .second, .val (.int x42), .unset, .unset, .unset] [(.long (x39 - (1 : Int64)))])) (fun t k => ?_) ?_
        · show Steps p.tables e below (T.setTop (mkF m 53 #[.val (.long v0), .second, .val (.int v2), .val (.long v3), .second, .val (.int v5), .val (.long x39), .second, .val (.int x40), .val (.long x41), .second, .val (.int x42), .unset, .unset, .unset] [(.int (lcmpW x39 (0 : Int64)))])) t
          refine XS.ifNo X.here hx rfl (hb hby at_53) rfl (own_tgtL hc53).2 ?_
          show Steps p.tables e below (T.setTop (mkF m 56 #[.val (.long v0), .second, .val (.int v2), .val (.long v3), .second, .val (.int v5), .val (.long x39), .second, .val (.int x40), .val (.long x41), .second, .val (.int x42), .unset, .unset, .unset] [])) t
          refine XS.lload X.here hx rfl (hb hby at_56) rfl ?_
          show Steps p.tables e below (T.setTop (mkF m 58 #[.val (.long v0), .second, .val (.int v2), .val (.long v3), .second, .val (.int v5), .val (.long x39), .second, .val (.int x40), .val (.long x41), .second, .val (.int x42), .unset, .unset, .unset] [(.long x39)])) t
          refine XS.lconst X.here hx rfl (hb hby at_58) ?_
          show Steps p.tables e below (T.setTop (mkF m 59 #[.val (.long v0), .second, .val (.int v2), .val (.long v3), .second, .val (.int v5), .val (.long x39), .second, .val (.int x40), .val (.long x41), .second, .val (.int x42), .unset, .unset, .unset] [(.long (1 : Int64)), (.long x39)])) t
          refine XS.lsub X.here hx rfl (hb hby at_59) rfl ?_
          show Steps p.tables e below (T.setTop (mkF m 60 #[.val (.long v0), .second, .val (.int v2), .val (.long v3), .second, .val (.int v5), .val (.long x39), .second, .val (.int x40), .val (.long x41), .second, .val (.int x42), .unset, .unset, .unset] [(.long (x39 - (1 : Int64)))])) t
          refine XS.goto X.here hx rfl (pc0 := 60) (pc' := 64) rfl (hb hby at_60) (by decide) (by decide) ?_
          exact k
        obtain ⟨x43, hx43, hF⟩ := own_lt_e hF
        rw [← hx43]
        refine own_Goes.via (B := T.setTop (mkF m 93 #[.val (.long v0), .second, .val (.int v2), .val (.long v3), .second, .val (.int v5), .val (.long x39), .second, .val (.int x40), .val (.long x41), .second, .val (.int x42), .val (.long x43), .second, .unset] [])) (fun t k => ?_) ?_
        · show Steps p.tables e below (T.setTop (mkF m 64 #[.val (.long v0), .second, .val (.int v2), .val (.long v3), .second, .val (.int v5), .val (.long x39), .second, .val (.int x40), .val (.long x41), .second, .val (.int x42), .unset, .unset, .unset] [(.long x43)])) t
          refine XS.lstore X.here hx rfl (hb hby at_64) rfl (l' := #[.val (.long v0), .second, .val (.int v2), .val (.long v3), .second, .val (.int v5), .val (.long x39), .second, .val (.int x40), .val (.long x41), .second, .val (.int x42), .val (.long x43), .second, .unset]) rfl ?_
          show Steps p.tables e below (T.setTop (mkF m 66 #[.val (.long v0), .second, .val (.int v2), .val (.long v3), .second, .val (.int v5), .val (.long x39), .second, .val (.int x40), .val (.long x41), .second, .val (.int x42), .val (.long x43), .second, .unset] [])) t
          refine XS.goto X.here hx rfl (pc0 := 66) (pc' := 93) rfl (hb hby at_66) (by decide) (by decide) ?_
          exact k
        exact b_law_93 cx X eT N z x39 x40 x41 x43 v0 (.val (.int v2)) v3 (.val (.int v5)) (.val (.int x42)) (.unset) (One.val rfl) (One.val rfl) (One.val rfl) One.u _ hF
      · rw [if_neg hc53] at hF
        refine own_Goes.via (B := T.setTop (mkF m 93 #[.val (.long v0), .second, .val (.int v2), .val (.long v3), .second, .val (.int v5), .val (.long x39), .second, .val (.int x40), .val (.long x41), .second, .val (.int x42), .val (.long (0 : Int64)), .second, .unset] [])) (fun t k => ?_) ?_
        · show Steps p.tables e below (T.setTop (mkF m 53 #[.val (.long v0), .second, .val (.int v2), .val (.long v3), .second, .val (.int v5), .val (.long x39), .second, .val (.int x40), .val (.long x41), .second, .val (.int x42), .unset, .unset, .unset] [(.int (lcmpW x39 (0 : Int64)))])) t
          refine XS.ifYes X.here hx rfl (pc0 := 53) (pc' := 63) rfl (hb hby at_53) rfl (own_fgtL hc53).2 (by decide) (by decide) ?_
          show Steps p.tables e below (T.setTop (mkF m 63 #[.val (.long v0), .second, .val (.int v2), .val (.long v3), .second, .val (.int v5), .val (.long x39), .second, .val (.int x40), .val (.long x41), .second, .val (.int x42), .unset, .unset, .unset] [])) t
          refine XS.lconst X.here hx rfl (hb hby at_63) ?_
          show Steps p.tables e below (T.setTop (mkF m 64 #[.val (.long v0), .second, .val (.int v2), .val (.long v3), .second, .val (.int v5), .val (.long x39), .second, .val (.int x40), .val (.long x41), .second, .val (.int x42), .unset, .unset, .unset] [(.long (0 : Int64))])) t
          refine XS.lstore X.here hx rfl (hb hby at_64) rfl (l' := #[.val (.long v0), .second, .val (.int v2), .val (.long v3), .second, .val (.int v5), .val (.long x39), .second, .val (.int x40), .val (.long x41), .second, .val (.int x42), .val (.long (0 : Int64)), .second, .unset]) rfl ?_
          show Steps p.tables e below (T.setTop (mkF m 66 #[.val (.long v0), .second, .val (.int v2), .val (.long v3), .second, .val (.int v5), .val (.long x39), .second, .val (.int x40), .val (.long x41), .second, .val (.int x42), .val (.long (0 : Int64)), .second, .unset] [])) t
          refine XS.goto X.here hx rfl (pc0 := 66) (pc' := 93) rfl (hb hby at_66) (by decide) (by decide) ?_
          exact k
        exact b_law_93 cx X eT N z x39 x40 x41 (0 : Int64) v0 (.val (.int v2)) v3 (.val (.int v5)) (.val (.int x42)) (.unset) (One.val rfl) (One.val rfl) (One.val rfl) One.u _ hF
    · rw [if_neg hc46] at hF
      refine own_Goes.via (B := T.setTop (mkF m 72 #[.val (.long v0), .second, .val (.int v2), .val (.long v3), .second, .val (.int v5), .val (.long x39), .second, .val (.int x40), .val (.long x41), .second, .val (.int x42), .unset, .unset, .unset] [(.int (2 : Int32)), (.int x42)])) (fun t k => ?_) ?_
      · show Steps p.tables e below (T.setTop (mkF m 46 #[.val (.long v0), .second, .val (.int v2), .val (.long v3), .second, .val (.int v5), .val (.long x39), .second, .val (.int x40), .val (.long x41), .second, .val (.int x42), .unset, .unset, .unset] [(.int (1 : Int32)), (.int x42)])) t
        refine XS.icmpYes X.here hx rfl (pc0 := 46) (pc' := 69) rfl (hb hby at_46) rfl (feq hc46).2 (by decide) (by decide) ?_
        show Steps p.tables e below (T.setTop (mkF m 69 #[.val (.long v0), .second, .val (.int v2), .val (.long v3), .second, .val (.int v5), .val (.long x39), .second, .val (.int x40), .val (.long x41), .second, .val (.int x42), .unset, .unset, .unset] [])) t
        refine XS.iload X.here hx rfl (hb hby at_69) rfl ?_
        show Steps p.tables e below (T.setTop (mkF m 71 #[.val (.long v0), .second, .val (.int v2), .val (.long v3), .second, .val (.int v5), .val (.long x39), .second, .val (.int x40), .val (.long x41), .second, .val (.int x42), .unset, .unset, .unset] [(.int x42)])) t
        refine XS.iconst X.here hx rfl (hb hby at_71) ?_
        exact k
      by_cases hc72 : x42 = (2 : Int32)
      · rw [if_pos hc72] at hF
        refine own_Goes.via (B := T.setTop (mkF m 84 #[.val (.long v0), .second, .val (.int v2), .val (.long v3), .second, .val (.int v5), .val (.long x39), .second, .val (.int x40), .val (.long x41), .second, .val (.int x42), .unset, .unset, .unset] [(.long (x39 + (1 : Int64))), (.long (v3 &&& (140737488355327 : Int64)))])) (fun t k => ?_) ?_
        · show Steps p.tables e below (T.setTop (mkF m 72 #[.val (.long v0), .second, .val (.int v2), .val (.long v3), .second, .val (.int v5), .val (.long x39), .second, .val (.int x40), .val (.long x41), .second, .val (.int x42), .unset, .unset, .unset] [(.int (2 : Int32)), (.int x42)])) t
          refine XS.icmpNo X.here hx rfl (hb hby at_72) rfl (teq hc72).2 ?_
          show Steps p.tables e below (T.setTop (mkF m 75 #[.val (.long v0), .second, .val (.int v2), .val (.long v3), .second, .val (.int v5), .val (.long x39), .second, .val (.int x40), .val (.long x41), .second, .val (.int x42), .unset, .unset, .unset] [])) t
          refine XS.lloadN X.here hx rfl (hb hby at_75) rfl ?_
          show Steps p.tables e below (T.setTop (mkF m 76 #[.val (.long v0), .second, .val (.int v2), .val (.long v3), .second, .val (.int v5), .val (.long x39), .second, .val (.int x40), .val (.long x41), .second, .val (.int x42), .unset, .unset, .unset] [(.long v3)])) t
          refine X.ldc2Long hx hown (mvT hZ (w0 hw)) (g := (mkF m 76 #[.val (.long v0), .second, .val (.int v2), .val (.long v3), .second, .val (.int v5), .val (.long x39), .second, .val (.int x40), .val (.long x41), .second, .val (.int x42), .unset, .unset, .unset] [(.long v3)])) rfl (hb hby at_76) _ ?_
          show Steps p.tables e below (T.setTop (mkF m 79 #[.val (.long v0), .second, .val (.int v2), .val (.long v3), .second, .val (.int v5), .val (.long x39), .second, .val (.int x40), .val (.long x41), .second, .val (.int x42), .unset, .unset, .unset] [(.long (140737488355327 : Int64)), (.long v3)])) t
          refine XS.land X.here hx rfl (hb hby at_79) rfl ?_
          show Steps p.tables e below (T.setTop (mkF m 80 #[.val (.long v0), .second, .val (.int v2), .val (.long v3), .second, .val (.int v5), .val (.long x39), .second, .val (.int x40), .val (.long x41), .second, .val (.int x42), .unset, .unset, .unset] [(.long (v3 &&& (140737488355327 : Int64)))])) t
          refine XS.lload X.here hx rfl (hb hby at_80) rfl ?_
          show Steps p.tables e below (T.setTop (mkF m 82 #[.val (.long v0), .second, .val (.int v2), .val (.long v3), .second, .val (.int v5), .val (.long x39), .second, .val (.int x40), .val (.long x41), .second, .val (.int x42), .unset, .unset, .unset] [(.long x39), (.long (v3 &&& (140737488355327 : Int64)))])) t
          refine XS.lconst X.here hx rfl (hb hby at_82) ?_
          show Steps p.tables e below (T.setTop (mkF m 83 #[.val (.long v0), .second, .val (.int v2), .val (.long v3), .second, .val (.int v5), .val (.long x39), .second, .val (.int x40), .val (.long x41), .second, .val (.int x42), .unset, .unset, .unset] [(.long (1 : Int64)), (.long x39), (.long (v3 &&& (140737488355327 : Int64)))])) t
          refine XS.ladd X.here hx rfl (hb hby at_83) rfl ?_
          exact k
        obtain ⟨hz84, hF⟩ := own_ck_e hF
        refine own_Goes.via (B := T.setTop (mkF m 85 #[.val (.long v0), .second, .val (.int v2), .val (.long v3), .second, .val (.int v5), .val (.long x39), .second, .val (.int x40), .val (.long x41), .second, .val (.int x42), .unset, .unset, .unset] [(.long ((v3 &&& (140737488355327 : Int64)) % (x39 + (1 : Int64))))])) (fun t k => ?_) ?_
        · show Steps p.tables e below (T.setTop (mkF m 84 #[.val (.long v0), .second, .val (.int v2), .val (.long v3), .second, .val (.int v5), .val (.long x39), .second, .val (.int x40), .val (.long x41), .second, .val (.int x42), .unset, .unset, .unset] [(.long (x39 + (1 : Int64))), (.long (v3 &&& (140737488355327 : Int64)))])) t
          refine own_lrem X hx rfl (hb hby at_84) rfl hz84 ?_
          exact k
        obtain ⟨x44, hx44, hF⟩ := own_lt_e hF
        rw [← hx44]
        refine own_Goes.via (B := T.setTop (mkF m 93 #[.val (.long v0), .second, .val (.int v2), .val (.long v3), .second, .val (.int v5), .val (.long x39), .second, .val (.int x40), .val (.long x41), .second, .val (.int x42), .val (.long x44), .second, .unset] [])) (fun t k => ?_) ?_
        · show Steps p.tables e below (T.setTop (mkF m 85 #[.val (.long v0), .second, .val (.int v2), .val (.long v3), .second, .val (.int v5), .val (.long x39), .second, .val (.int x40), .val (.long x41), .second, .val (.int x42), .unset, .unset, .unset] [(.long x44)])) t
          refine XS.lstore X.here hx rfl (hb hby at_85) rfl (l' := #[.val (.long v0), .second, .val (.int v2), .val (.long v3), .second, .val (.int v5), .val (.long x39), .second, .val (.int x40), .val (.long x41), .second, .val (.int x42), .val (.long x44), .second, .unset]) rfl ?_
          show Steps p.tables e below (T.setTop (mkF m 87 #[.val (.long v0), .second, .val (.int v2), .val (.long v3), .second, .val (.int v5), .val (.long x39), .second, .val (.int x40), .val (.long x41), .second, .val (.int x42), .val (.long x44), .second, .unset] [])) t
          refine XS.goto X.here hx rfl (pc0 := 87) (pc' := 93) rfl (hb hby at_87) (by decide) (by decide) ?_
          exact k
        exact b_law_93 cx X eT N z x39 x40 x41 x44 v0 (.val (.int v2)) v3 (.val (.int v5)) (.val (.int x42)) (.unset) (One.val rfl) (One.val rfl) (One.val rfl) One.u _ hF
      · rw [if_neg hc72] at hF
        refine own_Goes.via (B := T.setTop (mkF m 93 #[.val (.long v0), .second, .val (.int v2), .val (.long v3), .second, .val (.int v5), .val (.long x39), .second, .val (.int x40), .val (.long x41), .second, .val (.int x42), .val (.long (0 : Int64)), .second, .unset] [])) (fun t k => ?_) ?_
        · show Steps p.tables e below (T.setTop (mkF m 72 #[.val (.long v0), .second, .val (.int v2), .val (.long v3), .second, .val (.int v5), .val (.long x39), .second, .val (.int x40), .val (.long x41), .second, .val (.int x42), .unset, .unset, .unset] [(.int (2 : Int32)), (.int x42)])) t
          refine XS.icmpYes X.here hx rfl (pc0 := 72) (pc' := 90) rfl (hb hby at_72) rfl (feq hc72).2 (by decide) (by decide) ?_
          show Steps p.tables e below (T.setTop (mkF m 90 #[.val (.long v0), .second, .val (.int v2), .val (.long v3), .second, .val (.int v5), .val (.long x39), .second, .val (.int x40), .val (.long x41), .second, .val (.int x42), .unset, .unset, .unset] [])) t
          refine XS.lconst X.here hx rfl (hb hby at_90) ?_
          show Steps p.tables e below (T.setTop (mkF m 91 #[.val (.long v0), .second, .val (.int v2), .val (.long v3), .second, .val (.int v5), .val (.long x39), .second, .val (.int x40), .val (.long x41), .second, .val (.int x42), .unset, .unset, .unset] [(.long (0 : Int64))])) t
          refine XS.lstore X.here hx rfl (hb hby at_91) rfl (l' := #[.val (.long v0), .second, .val (.int v2), .val (.long v3), .second, .val (.int v5), .val (.long x39), .second, .val (.int x40), .val (.long x41), .second, .val (.int x42), .val (.long (0 : Int64)), .second, .unset]) rfl ?_
          exact k
        exact b_law_93 cx X eT N z x39 x40 x41 (0 : Int64) v0 (.val (.int v2)) v3 (.val (.int v5)) (.val (.int x42)) (.unset) (One.val rfl) (One.val rfl) (One.val rfl) One.u _ hF
theorem ef_law (m : MethodId) (x0 : Int64) (x1 : Int32) (x2 : Int64) (x3 : Int32) : entryFrame m #[(.long x0), (.int x1), (.long x2), (.int x3)] maxLocals = mkF m 0 #[.val (.long x0), .second, .val (.int x1), .val (.long x2), .second, .val (.int x3), .unset, .unset, .unset, .unset, .unset, .unset, .unset, .unset, .unset] [] := by first | (simp [entryFrame, mkF, argsToLocals, Value.category, maxLocals]; done) | rfl
set_option maxRecDepth 65536 in
set_option maxHeartbeats 4000000 in
theorem rm_law (l : Launch) (Z : State) (a0 : Array Value) (hw : ∀ d ∈ tables_1, d.before a0 Z = true) (ws : List Jvm.Cond) (hE : Heap) (n0 : Nat) (z : n0 ≤ hE.size)  (v0 : Int64) (v2 : Int32) (v3 : Int64) (v5 : Int32) (r : Int32) (hF : (f_law v0 v2 v3 v5) = some r) :
    MetFree l x (head1 (Jvm.Cond.code x code maxLocals ret :: ws) room_1) (fun a U => a = #[(.long v0), (.int v2), (.long v3), (.int v5)] ∧ Z.Warmed39 U.vm ∧ U.heap = hE) (fun _ _ _ _ _ => True) (fun _ U o U' => ∃ v L, o = .returned v ∧ (Q_law Z hE n0 r) v U'.heap L ∧ FrameEnd U o U' L 0 0) := by
  refine MetFree.of_bodySF (plainFor_of_name pn_com_example_vaulted_cloud_files_vaultedcloudfiles_crypto_ObjectFormatChunkLengthPinLaw) hisR ?_
  intro p e s m args below meth c s₁ Bd hml0 hP hK
  obtain ⟨rfl, hZ, hh⟩ := hP
  have X0 : Stand p l e room_1 s m #[(.long v0), (.int v2), (.long v3), (.int v5)] below meth c s₁ [] 0 0 := Stand.of_body Bd
  have e0 : s₁.heap = hE := by rw [← hh, Bd.state]; rfl
  have cx : Cx_law p s m meth c Z a0 := ⟨Bd.exec, hZ, hw, Bd.bytes, hml0, findClass_of_methodNamed Bd.named, Bd.returns, Bd.notSynchronized, (name_of_methodNamed Bd.named Bd.method).1⟩
  show own_Goes p e below s (Q_law Z hE n0 r) 0 0 (s₁.setTop (entryFrame m #[(.long v0), (.int v2), (.long v3), (.int v5)] maxLocals))
  rw [ef_law]
  exact b_law cx X0 e0 (Fr.nil n0) z v0 v2 v3 v5 _ hF
/-! the words of the mirrors -/
theorem own_bs {α β : Type} (x : α) (f : α → Option β) : own_bd (some x) f = f x := by unfold own_bd; exact rfl
theorem own_ls {α β : Type} (x : α) (f : α → Option β) : own_lt x f = f x := by unfold own_lt; exact rfl
theorem own_bn {α : Type} (x : Option α) : own_bd x (fun y => some y) = x := by cases x <;> exact rfl
theorem own_ct {β : Type} {P : Prop} [Decidable P] (x : Option β) (h : P) : own_ck P x = x := by unfold own_ck; exact if_pos h
/-! numbers: ints and longs as integers -/
theorem own_i1 (x : Int32) : -2147483648 ≤ x.toInt := Int32.le_toInt x
theorem own_i2 (x : Int32) : x.toInt < 2147483648 := Int32.toInt_lt x
theorem own_j1 (x : Int64) : -9223372036854775808 ≤ x.toInt := Int64.le_toInt x
theorem own_j2 (x : Int64) : x.toInt < 9223372036854775808 := Int64.toInt_lt x
theorem own_iadd {a b : Int32} (h1 : -2147483648 ≤ a.toInt + b.toInt) (h2 : a.toInt + b.toInt < 2147483648) : (a + b).toInt = a.toInt + b.toInt := by
  rw [Int32.toInt_add]; exact Int.bmod_eq_of_le (by omega) (by omega)
theorem own_isub {a b : Int32} (h1 : -2147483648 ≤ a.toInt - b.toInt) (h2 : a.toInt - b.toInt < 2147483648) : (a - b).toInt = a.toInt - b.toInt := by
  rw [Int32.toInt_sub]; exact Int.bmod_eq_of_le (by omega) (by omega)
theorem own_imul {a b : Int32} (h1 : -2147483648 ≤ a.toInt * b.toInt) (h2 : a.toInt * b.toInt < 2147483648) : (a * b).toInt = a.toInt * b.toInt := by
  rw [Int32.toInt_mul]; exact Int.bmod_eq_of_le (by omega) (by omega)
theorem own_ladd {a b : Int64} (h1 : -9223372036854775808 ≤ a.toInt + b.toInt) (h2 : a.toInt + b.toInt < 9223372036854775808) : (a + b).toInt = a.toInt + b.toInt := by
  rw [Int64.toInt_add]; exact Int.bmod_eq_of_le (by omega) (by omega)
theorem own_lsub {a b : Int64} (h1 : -9223372036854775808 ≤ a.toInt - b.toInt) (h2 : a.toInt - b.toInt < 9223372036854775808) : (a - b).toInt = a.toInt - b.toInt := by
  rw [Int64.toInt_sub]; exact Int.bmod_eq_of_le (by omega) (by omega)
theorem own_lmul {a b : Int64} (h1 : -9223372036854775808 ≤ a.toInt * b.toInt) (h2 : a.toInt * b.toInt < 9223372036854775808) : (a * b).toInt = a.toInt * b.toInt := by
  rw [Int64.toInt_mul]; exact Int.bmod_eq_of_le (by omega) (by omega)
theorem own_imask {x m : Int32} (k : Nat) (hk : k ≤ 31) (hm : m.toBitVec.toNat = 2 ^ k - 1) : (x &&& m).toInt = x.toInt % 2 ^ k := by
  have h1 : (x &&& m).toBitVec.toNat = x.toBitVec.toNat % 2 ^ k := by rw [Int32.toBitVec_and, BitVec.toNat_and, hm, Nat.and_two_pow_sub_one_eq_mod]
  have h3 : x.toBitVec.toNat % 2 ^ k < 2 ^ k := Nat.mod_lt _ (Nat.pow_pos (by decide))
  have h4 : (2 : Nat) ^ k ≤ 2 ^ 31 := Nat.pow_le_pow_right (by decide) hk
  have h2 : (x &&& m).toInt = ((x.toBitVec.toNat % 2 ^ k : Nat) : Int) := by
    show (x &&& m).toBitVec.toInt = _
    rw [BitVec.toInt_eq_toNat_of_lt (by rw [h1]; omega), h1]
  rw [h2]
  have h5 : x.toInt = x.toBitVec.toInt := rfl
  have h6 : ((2 : Int) ^ k) ∣ 4294967296 := by
    have : (4294967296 : Int) = 2 ^ k * 2 ^ (32 - k) := by rw [← Int.pow_add, show k + (32 - k) = 32 by omega]; rfl
    exact ⟨_, this⟩
  rw [h5, BitVec.toInt_eq_toNat_cond]
  split
  · exact Int.natCast_emod _ _
  · rw [Int.natCast_emod, show (((2 ^ 32 : Nat) : Int)) = 4294967296 from rfl, Int.sub_emod, Int.emod_eq_zero_of_dvd h6]; simp
theorem own_lmask {x m : Int64} (k : Nat) (hk : k ≤ 63) (hm : m.toBitVec.toNat = 2 ^ k - 1) : (x &&& m).toInt = x.toInt % 2 ^ k := by
  have h1 : (x &&& m).toBitVec.toNat = x.toBitVec.toNat % 2 ^ k := by rw [Int64.toBitVec_and, BitVec.toNat_and, hm, Nat.and_two_pow_sub_one_eq_mod]
  have h3 : x.toBitVec.toNat % 2 ^ k < 2 ^ k := Nat.mod_lt _ (Nat.pow_pos (by decide))
  have h4 : (2 : Nat) ^ k ≤ 2 ^ 63 := Nat.pow_le_pow_right (by decide) hk
  have h2 : (x &&& m).toInt = ((x.toBitVec.toNat % 2 ^ k : Nat) : Int) := by
    show (x &&& m).toBitVec.toInt = _
    rw [BitVec.toInt_eq_toNat_of_lt (by rw [h1]; omega), h1]
  rw [h2]
  have h5 : x.toInt = x.toBitVec.toInt := rfl
  have h6 : ((2 : Int) ^ k) ∣ 18446744073709551616 := by
    have : (18446744073709551616 : Int) = 2 ^ k * 2 ^ (64 - k) := by rw [← Int.pow_add, show k + (64 - k) = 64 by omega]; rfl
    exact ⟨_, this⟩
  rw [h5, BitVec.toInt_eq_toNat_cond]
  split
  · exact Int.natCast_emod _ _
  · rw [Int.natCast_emod, show (((2 ^ 64 : Nat) : Int)) = 18446744073709551616 from rfl, Int.sub_emod, Int.emod_eq_zero_of_dvd h6]; simp
theorem own_bm32 (x : Int) : x.bmod 4294967296 = (x + 2147483648) % 4294967296 - 2147483648 := by
  unfold Int.bmod; dsimp only; split <;> omega
theorem own_bm64 (x : Int) : x.bmod 18446744073709551616 = (x + 9223372036854775808) % 18446744073709551616 - 9223372036854775808 := by
  unfold Int.bmod; dsimp only; split <;> omega
theorem own_bm8 (x : Int) : x.bmod 256 = (x + 128) % 256 - 128 := by
  unfold Int.bmod; dsimp only; split <;> omega
theorem own_bm16 (x : Int) : x.bmod 65536 = (x + 32768) % 65536 - 32768 := by
  unfold Int.bmod; dsimp only; split <;> omega
theorem own_b8 (x : Int32) : x.toInt8.toInt32.toInt = (x.toInt + 128) % 256 - 128 := by rw [Int8.toInt_toInt32, Int32.toInt_toInt8]; exact own_bm8 _
theorem own_s16 (x : Int32) : x.toInt16.toInt32.toInt = (x.toInt + 32768) % 65536 - 32768 := by rw [Int16.toInt_toInt32, Int32.toInt_toInt16]; exact own_bm16 _
theorem own_l2i (x : Int64) : x.toInt32.toInt = (x.toInt + 2147483648) % 4294967296 - 2147483648 := by rw [Int64.toInt_toInt32]; exact own_bm32 _
theorem own_i2l (x : Int32) : x.toInt64.toInt = x.toInt := Int32.toInt_toInt64 x
theorem own_idiv {a b : Int32} (h1 : 0 ≤ a.toInt) (h2 : 0 < b.toInt) : (a / b).toInt = a.toInt / b.toInt := by
  rw [Int32.toInt_div_of_ne_right a b (fun q => by rw [q] at h2; exact absurd h2 (by decide)), Int.tdiv_eq_ediv_of_nonneg h1]
theorem own_ldiv {a b : Int64} (h1 : 0 ≤ a.toInt) (h2 : 0 < b.toInt) : (a / b).toInt = a.toInt / b.toInt := by
  rw [Int64.toInt_div_of_ne_right a b (fun q => by rw [q] at h2; exact absurd h2 (by decide)), Int.tdiv_eq_ediv_of_nonneg h1]
theorem own_imod {a b : Int32} (h1 : 0 ≤ a.toInt) : (a % b).toInt = a.toInt % b.toInt := by rw [Int32.toInt_mod, Int.tmod_eq_emod_of_nonneg h1]
theorem own_lmod {a b : Int64} (h1 : 0 ≤ a.toInt) : (a % b).toInt = a.toInt % b.toInt := by rw [Int64.toInt_mod, Int.tmod_eq_emod_of_nonneg h1]
theorem own_uI (x : Int32) : (x.toUInt32.toNat : Int) = x.toInt % 4294967296 := by
  have h : x.toInt = x.toBitVec.toInt := rfl
  have q : x.toUInt32.toNat = x.toBitVec.toNat := rfl
  have b := x.toBitVec.isLt
  rw [h, q, BitVec.toInt_eq_toNat_cond]
  split <;> omega
theorem own_uJ (x : Int64) : (x.toUInt64.toNat : Int) = x.toInt % 18446744073709551616 := by
  have h : x.toInt = x.toBitVec.toInt := rfl
  have q : x.toUInt64.toNat = x.toBitVec.toNat := rfl
  have b := x.toBitVec.isLt
  rw [h, q, BitVec.toInt_eq_toNat_cond]
  split <;> omega
theorem own_ofU (u : UInt32) (h : u.toNat < 2147483648) : u.toInt32.toInt = u.toNat := by
  show u.toBitVec.toInt = _
  exact BitVec.toInt_eq_toNat_of_lt (by show 2 * u.toNat < 2 ^ 32; omega)
theorem own_ofUJ (u : UInt64) (h : u.toNat < 9223372036854775808) : u.toInt64.toInt = u.toNat := by
  show u.toBitVec.toInt = _
  exact BitVec.toInt_eq_toNat_of_lt (by show 2 * u.toNat < 2 ^ 64; omega)
/-- Java's >>> on ints by a constant from 1 to 31 -/
theorem own_iushr (x s : Int32) (n : Nat) (h0 : 1 ≤ n) (hn : n < 32) (hs : (s &&& 31).toUInt32.toNat = n) : ((x.toUInt32 >>> (s &&& 31).toUInt32).toInt32).toInt = (x.toInt % 4294967296) / (2 ^ n : Nat) := by
  have e : (x.toUInt32 >>> (s &&& 31).toUInt32).toNat = x.toUInt32.toNat / 2 ^ n := by rw [UInt32.toNat_shiftRight, hs, Nat.mod_eq_of_lt hn, Nat.shiftRight_eq_div_pow]
  have b : x.toUInt32.toNat < 4294967296 := x.toUInt32.toNat_lt
  have c : x.toUInt32.toNat / 2 ^ n ≤ x.toUInt32.toNat / 2 ^ 1 := Nat.div_le_div_left (Nat.pow_le_pow_right (by decide) h0) (by decide)
  rw [own_ofU _ (by rw [e]; omega), e, Int.natCast_ediv, own_uI]
theorem own_lushr (x : Int64) (s : Int32) (n : Nat) (h0 : 1 ≤ n) (hn : n < 64) (hs : (s &&& 0x3f).toInt64.toUInt64.toNat = n) : ((x.toUInt64 >>> (s &&& 0x3f).toInt64.toUInt64).toInt64).toInt = (x.toInt % 18446744073709551616) / (2 ^ n : Nat) := by
  have e : (x.toUInt64 >>> (s &&& 0x3f).toInt64.toUInt64).toNat = x.toUInt64.toNat / 2 ^ n := by rw [UInt64.toNat_shiftRight, hs, Nat.mod_eq_of_lt hn, Nat.shiftRight_eq_div_pow]
  have b : x.toUInt64.toNat < 18446744073709551616 := x.toUInt64.toNat_lt
  have c : x.toUInt64.toNat / 2 ^ n ≤ x.toUInt64.toNat / 2 ^ 1 := Nat.div_le_div_left (Nat.pow_le_pow_right (by decide) h0) (by decide)
  rw [own_ofUJ _ (by rw [e]; omega), e, Int.natCast_ediv, own_uJ]
theorem own_ishl {x s : Int32} (n : Nat) (hs : (s.toBitVec.smod 32).toNat = n) (h0 : 0 ≤ x.toInt) (h1 : x.toInt * (2 ^ n : Nat) < 2147483648) : (x <<< s).toInt = x.toInt * (2 ^ n : Nat) := by
  have h : x.toInt = x.toBitVec.toInt := rfl
  have hx : x.toInt = x.toBitVec.toNat := by
    have b := x.toBitVec.isLt
    rw [h, BitVec.toInt_eq_toNat_cond]; rw [h, BitVec.toInt_eq_toNat_cond] at h0
    split at h0 <;> rename_i q
    · rw [if_pos q]
    · omega
  have e : (x <<< s).toBitVec.toNat = x.toBitVec.toNat * 2 ^ n := by
    rw [Int32.toBitVec_shiftLeft, BitVec.shiftLeft_eq', hs, BitVec.toNat_shiftLeft, Nat.shiftLeft_eq]
    apply Nat.mod_eq_of_lt
    rw [hx] at h1
    omega
  show (x <<< s).toBitVec.toInt = _
  rw [BitVec.toInt_eq_toNat_of_lt (by rw [e]; rw [hx] at h1; omega), e, hx]
  simp
theorem own_lshl {x s : Int64} (n : Nat) (hs : (s.toBitVec.smod 64).toNat = n) (h0 : 0 ≤ x.toInt) (h1 : x.toInt * (2 ^ n : Nat) < 9223372036854775808) : (x <<< s).toInt = x.toInt * (2 ^ n : Nat) := by
  have h : x.toInt = x.toBitVec.toInt := rfl
  have hx : x.toInt = x.toBitVec.toNat := by
    have b := x.toBitVec.isLt
    rw [h, BitVec.toInt_eq_toNat_cond]; rw [h, BitVec.toInt_eq_toNat_cond] at h0
    split at h0 <;> rename_i q
    · rw [if_pos q]
    · omega
  have e : (x <<< s).toBitVec.toNat = x.toBitVec.toNat * 2 ^ n := by
    rw [Int64.toBitVec_shiftLeft, BitVec.shiftLeft_eq', hs, BitVec.toNat_shiftLeft, Nat.shiftLeft_eq]
    apply Nat.mod_eq_of_lt
    rw [hx] at h1
    omega
  show (x <<< s).toBitVec.toInt = _
  rw [BitVec.toInt_eq_toNat_of_lt (by rw [e]; rw [hx] at h1; omega), e, hx]
  simp
theorem own_ishr (x s : Int32) (n : Nat) (hs : (s.toBitVec.smod 32).toNat = n) : (x >>> s).toInt = x.toInt / (2 ^ n : Nat) := by
  show (x >>> s).toBitVec.toInt = _
  rw [Int32.toBitVec_shiftRight, BitVec.sshiftRight', hs, BitVec.toInt_sshiftRight, Int.shiftRight_eq_div_pow]
  rfl
theorem own_lshr (x s : Int64) (n : Nat) (hs : (s.toBitVec.smod 64).toNat = n) : (x >>> s).toInt = x.toInt / (2 ^ n : Nat) := by
  show (x >>> s).toBitVec.toInt = _
  rw [Int64.toBitVec_shiftRight, BitVec.sshiftRight', hs, BitVec.toInt_sshiftRight, Int.shiftRight_eq_div_pow]
  rfl
theorem own_chunk (size idx : Int64) (d : Int) (h : (size - idx * 65536).toInt = d) (hd : 0 ≤ d) (hd2 : d < 9223372036854775808) : ∃ k, f_ObjectFormat_chunkLength size idx = some k ∧ k.toInt = min d 65536 := by
  have lk : (65536 : Int64).toInt = 65536 := rfl
  unfold f_ObjectFormat_chunkLength f_Math_min
  rw [own_ls]
  split
  · rename_i q
    rw [Int64.lt_iff_toInt_lt, h, lk] at q
    rw [own_bs]
    refine ⟨_, rfl, ?_⟩
    rw [own_l2i, h]; omega
  · rename_i q
    rw [Int64.lt_iff_toInt_lt, h, lk] at q
    rw [own_bs]
    refine ⟨_, rfl, ?_⟩
    rw [own_l2i, lk]; omega
/-- the law's end: q, r, size, and an index up to q that isn't q where r = 0 < q -/
theorem own_end (q size idx : Int64) (r : Int32) (hq : 0 ≤ q.toInt) (hq2 : q.toInt < 140737488355328) (hr : 0 ≤ r.toInt) (hr2 : r.toInt < 65536) (hs : size.toInt = q.toInt * 65536 + r.toInt) (hi : 0 ≤ idx.toInt) (hi2 : idx.toInt ≤ q.toInt) : f_law_119 q r size idx = some 1 := by
  have lk : (65536 : Int64).toInt = 65536 := rfl
  have lk' : (65536 : Int32).toInt = 65536 := rfl
  have e1 : (idx * 65536).toInt = idx.toInt * 65536 := by rw [own_lmul (by rw [lk]; omega) (by rw [lk]; omega), lk]
  have e2 : (size - idx * 65536).toInt = q.toInt * 65536 + r.toInt - idx.toInt * 65536 := by rw [own_lsub (by rw [e1, hs]; omega) (by rw [e1, hs]; omega), e1, hs]
  obtain ⟨k, hk, hk2⟩ := own_chunk size idx _ e2 (by omega) (by omega)
  unfold f_law_119
  by_cases h : idx < q
  · rw [if_pos h, hk, own_bs, if_pos]
    rw [Int64.lt_iff_toInt_lt] at h
    rw [← Int32.toInt_inj, hk2, lk']; omega
  · rw [if_neg h, hk, own_bs, if_pos]
    rw [Int64.lt_iff_toInt_lt] at h
    rw [← Int32.toInt_inj, hk2]; omega
theorem own_mid (q size idx : Int64) (r : Int32) (hq : 0 ≤ q.toInt) (hq2 : q.toInt < 140737488355328) (hr : 0 ≤ r.toInt) (hr2 : r.toInt < 65536) (hs : size.toInt = q.toInt * 65536 + r.toInt) (hi : 0 ≤ idx.toInt) (hi2 : idx.toInt ≤ q.toInt) : f_law_93 q r size idx = some 1 := by
  have l0 : (0 : Int64).toInt = 0 := rfl
  have l1 : (1 : Int64).toInt = 1 := rfl
  unfold f_law_93
  split
  · split
    · split
      · rename_i h
        rw [Int64.lt_iff_toInt_lt, l0] at h
        have e : (q - 1).toInt = q.toInt - 1 := by rw [own_lsub (by omega) (by omega), l1]
        rw [own_ls]
        exact own_end q size _ r hq hq2 hr hr2 hs (by omega) (by omega)
      · exact own_end q size _ r hq hq2 hr hr2 hs hi hi2
    · exact own_end q size _ r hq hq2 hr hr2 hs hi hi2
  · exact own_end q size _ r hq hq2 hr hr2 hs hi hi2
theorem own_law (a : Int64) (b : Int32) (c : Int64) (m : Int32) : f_law a b c m = some 1 := by
  have l0 : (0 : Int64).toInt = 0 := rfl
  have l1 : (1 : Int64).toInt = 1 := rfl
  have lk : (65536 : Int64).toInt = 65536 := rfl
  have m1 : (a &&& (140737488355327 : Int64)).toInt = a.toInt % 2 ^ 47 := own_lmask 47 (by decide) (by decide)
  have m2 : (c &&& (140737488355327 : Int64)).toInt = c.toInt % 2 ^ 47 := own_lmask 47 (by decide) (by decide)
  have m3 : (b &&& (65535 : Int32)).toInt = b.toInt % 2 ^ 16 := own_imask 16 (by decide) (by decide)
  unfold f_law
  rw [own_ls, own_ls, own_ls, own_ls]
  generalize a &&& (140737488355327 : Int64) = q at *
  generalize c &&& (140737488355327 : Int64) = cc at *
  generalize b &&& (65535 : Int32) = r at *
  have hq : 0 ≤ q.toInt := by omega
  have hq2 : q.toInt < 140737488355328 := by omega
  have hr : 0 ≤ r.toInt := by omega
  have hr2 : r.toInt < 65536 := by omega
  have e1 : (q * 65536).toInt = q.toInt * 65536 := by rw [own_lmul (by rw [lk]; omega) (by rw [lk]; omega), lk]
  have hs : (q * 65536 + r.toInt64).toInt = q.toInt * 65536 + r.toInt := by rw [own_ladd (by rw [e1, own_i2l]; omega) (by rw [e1, own_i2l]; omega), e1, own_i2l]
  split
  · exact own_mid q _ _ r hq hq2 hr hr2 hs hq (by omega)
  · split
    · split
      · rename_i h
        rw [Int64.lt_iff_toInt_lt, l0] at h
        have e : (q - 1).toInt = q.toInt - 1 := by rw [own_lsub (by omega) (by omega), l1]
        rw [own_ls]
        exact own_mid q _ _ r hq hq2 hr hr2 hs (by omega) (by omega)
      · exact own_mid q _ _ r hq hq2 hr hr2 hs (by decide) (by omega)
    · split
      · have e : (q + 1).toInt = q.toInt + 1 := by rw [own_ladd (by omega) (by omega), l1]
        have e2 : (cc % (q + 1)).toInt = cc.toInt % (q.toInt + 1) := by rw [own_lmod (by omega), e]
        have p1 : 0 ≤ cc.toInt % (q.toInt + 1) := Int.emod_nonneg _ (by omega)
        have p2 : cc.toInt % (q.toInt + 1) < q.toInt + 1 := Int.emod_lt_of_pos _ (by omega)
        rw [own_ct _ (by rw [← Int64.toInt_inj, e, l0]; omega), own_ls]
        exact own_mid q _ _ r hq hq2 hr hr2 hs (by omega) (by omega)
      · exact own_mid q _ _ r hq hq2 hr hr2 hs (by decide) (by omega)

set_option maxRecDepth 65536 in
set_option maxHeartbeats 4000000 in
theorem comes_1 {Post : Tables → Env → Array Value → State → Outcome → State → Prop} (hpost : ∀ tb e args s v u, (limb_1_1.after args s (.returned v) u = true ∧ limb_1_2.after args s (.returned v) u = true ∧ True) → FrameEnd s (.returned v) u (Jvm.fieldLocs frame_1_writes args s ++ Jvm.arrayLocs frame_1_arrays args s ++ Jvm.staticLocs frame_1_statics s) 0 0 → Post tb e args s (.returned v) u) :
    ArmFor flags0 classFile x code maxLocals ret World_1 tables_1 room_1 Calls_1 rest_1 Pre_1 Post := by
  intro l hfl _ _ p e ha hc hk s m args below hf hA hF happ hP
  obtain ⟨hcalls, hrest, hpre⟩ := hP
  obtain ⟨-, -, -, hnamed, -, -, -, hat⟩ := (Spec.applies_iff hf).mp happ
  obtain ⟨hg, hn⟩ := and_e (Cond.before_iff.mp (show (Jvm.Cond.and given_1 narrow_1).before args s = true from hpre))
  obtain ⟨gc, g0⟩ := and_e hg
  obtain ⟨ga0, g1⟩ := and_e g0
  obtain ⟨ga1, g2⟩ := and_e g1
  obtain ⟨ga2, g3⟩ := and_e g2
  have ga3 := g3
  obtain ⟨w0, w1, w2, w3, rfl⟩ : ∃ w0 w1 w2 w3 : Value, args = #[w0, w1, w2, w3] := by
    have hs : args.size = 4 := by simpa [Cond.value, given_1] using gc
    obtain ⟨L⟩ := args
    match L, hs with
    | [w0, w1, w2, w3], _ => exact ⟨w0, w1, w2, w3, rfl⟩
  have hw := fun d (hd : d ∈ tables_1) => atoms_spec (ws := Jvm.Cond.code x code maxLocals ret :: tables_1) hat d (List.mem_cons_of_mem _ hd)
  obtain ⟨i0, ei0⟩ := isL_v ga0
  obtain rfl : w0 = (.long i0) := Option.some.inj ei0
  obtain ⟨i1, ei1⟩ := is_v ga1
  obtain rfl : w1 = (.int i1) := Option.some.inj ei1
  obtain ⟨i2, ei2⟩ := isL_v ga2
  obtain rfl : w2 = (.long i2) := Option.some.inj ei2
  obtain ⟨i3, ei3⟩ := is_v ga3
  obtain rfl : w3 = (.int i3) := Option.some.inj ei3
  obtain ⟨n, o, h1, h2, h3, _, L, rfl, hQ, hq⟩ := rm_law l s _ hw tables_1 s.heap s.heap.size (Nat.le_refl _) i0 i1 i2 i3 1 (own_law i0 i1 i2 i3) p e ha hc hk s m _ below hf ((Spec.applies_iff_loose hf).mp happ).1 ⟨rfl, State.Warmed39.refl s, rfl⟩ trivial
  obtain ⟨rfl, N, -⟩ := hQ
  refine ⟨n, _, h1, h2, h3, hpost _ _ _ _ _ _ ⟨Cond.after_iff.mpr rfl, Cond.after_iff.mpr (eq_i res_at (Term.int_eval (1)) rfl), trivial⟩ ⟨hq.1, hq.2.1, (hq.2.2.sift fun y hy => Or.inr (N y hy)).mono (by decide) (by decide)⟩⟩
theorem main_1_1 : Claimed_1_1 := comes_1 fun _ _ _ _ _ _ h hF => ⟨h.1, hF⟩
theorem main_1_2 : Claimed_1_2 := comes_1 fun _ _ _ _ _ _ h hF => ⟨h.2.1, hF⟩
end Jvm.Pilot.@@N@@
namespace Jvm.Pilot.@@N@@
open Jvm Jvm.ClassFile Sem Op Lib Jvm.Free Jvm.Stand Jvm.Pilot.@@N@@.Jvm.D
/-! MADE BY PROGRAM (witnessworld.py) out of the Statement's table words and the real class files: 10 classes; the members and pool entries that the words name. The judged class is class 1, her method 1. -/
namespace start1
open Jvm.ClassFile
def u (s : String) : CpInfo := .utf8 (stringToUtf16 s)
/-- a pool by its gaps: so many unusable entries, then the entry; so many at the end -/
def gap : Nat → List CpInfo → List CpInfo
  | 0, r => r
  | n + 1, r => .unusable :: gap n r
def poolList (es : List (Nat × CpInfo)) (last : Nat) : List CpInfo := es.foldr (fun e r => gap e.1 (e.2 :: r)) (gap last [])
def pool (es : List (Nat × CpInfo)) (last : Nat) : Array CpInfo := ⟨poolList es last⟩
def fileOf (pool : Array CpInfo) (this : Nat) (attrs : Array Attribute := #[]) (ms : Array MethodInfo := #[]) (fl : Nat := 33) (sup : Nat := 0) (ifs : Array Nat := #[]) (fds : Array FieldInfo := #[]) : ClassFile where
  minorVersion := 0
  majorVersion := 65
  constantPool := pool
  accessFlags := fl
  thisClass := this
  superClass := sup
  interfaces := ifs
  fields := fds
  methods := ms
  attributes := attrs
def plain (name : String) (sup : Option ClassId) : Class where
  name := name
  kind := .ordinary
  loader := none
  accessFlags := 33
  super := sup
  interfaces := #[]
  cf := none
  fields := #[]
  methods := #[]
  instanceTypes := #[]
  staticTypes := #[]
  resolved := #[]
  callSites := []
  init := .initialized
  statics := none
  mirror := none

def pool0 : Array CpInfo := pool [(5, u "<init>"), (0, u "()V"), (1, .class_ 10), (1, u "java/lang/Object")] 113

def k0m0 : Method := { name := "<init>", desc := "()V", sig := { parameters := [], returnType := none }, accessFlags := 1, code := none }
/-- java/lang/Object -/
def k0 : Class := { plain "java/lang/Object" none with
  accessFlags := 33
  interfaces := #[]
  cf := some (fileOf pool0 8 #[] #[{ accessFlags := 1, nameIndex := 5, descriptorIndex := 6, attributes := #[] }] 33 0 #[] #[])
  fields := #[]
  methods := #[k0m0]
  instanceTypes := #[]
  staticTypes := #[]
  resolved := Array.replicate 124 none
  statics := none }

def pool1 : Array CpInfo := pool [(2, .class_ 4), (1, u "java/lang/Object"), (0, u "<init>"), (0, u "()V"), (0, .long 140737488355327), (1, .integer 65535), (0, .long 65536), (1, .integer 65536), (0, .methodref 14 15), (0, .class_ 16), (0, .nameAndType 17 18), (0, u "com/example/vaulted_cloud_files/vaultedcloudfiles/crypto/ObjectFormat"), (0, u "chunkLength"), (0, u "(JJ)I"), (0, .class_ 20), (0, u "com/example/vaulted_cloud_files/vaultedcloudfiles/crypto/ObjectFormatChunkLengthPinLaw"), (2, u "law"), (0, u "(JIJI)Z")] 3

def k1m0 : Method := { name := "<init>", desc := "()V", sig := { parameters := [], returnType := none }, accessFlags := 1, code := none }
def k1c1 : Code := { maxStack := 6, maxLocals := 15, code := code, exceptionTable := #[], attributes := #[] }
def k1m1 : Method := { name := "law", desc := "(JIJI)Z", sig := { parameters := [.long, .int, .long, .int], returnType := some .boolean }, accessFlags := 9, code := some k1c1 }
/-- com/example/vaulted_cloud_files/vaultedcloudfiles/crypto/ObjectFormatChunkLengthPinLaw -/
def k1 : Class := { plain "com/example/vaulted_cloud_files/vaultedcloudfiles/crypto/ObjectFormatChunkLengthPinLaw" (some 0) with
  accessFlags := 49
  interfaces := #[]
  cf := some (fileOf pool1 19 #[] #[{ accessFlags := 1, nameIndex := 5, descriptorIndex := 6, attributes := #[] }, { accessFlags := 9, nameIndex := 23, descriptorIndex := 24, attributes := #[] }] 49 2 #[] #[])
  fields := #[]
  methods := #[k1m0, k1m1]
  instanceTypes := #[]
  staticTypes := #[]
  resolved := Array.replicate 28 none
  statics := none }

def pool2 : Array CpInfo := pool [(3, .class_ 4), (0, u "com/example/vaulted_cloud_files/vaultedcloudfiles/crypto/ObjectFormat"), (3, .class_ 10), (1, u "java/lang/Object"), (0, u "<init>"), (0, u "()V"), (47, u "MAGIC"), (0, u "[B"), (82, u "ZERO_NONCE"), (39, .class_ 186), (1, u "com/example/vaulted_cloud_files/vaultedcloudfiles/crypto/ObjectFormat$Header"), (5, .class_ 194), (1, u "com/example/vaulted_cloud_files/vaultedcloudfiles/crypto/ObjectFormat$Metadata"), (38, .long 65536), (1, .methodref 236 237), (0, .class_ 238), (0, .nameAndType 239 240), (0, u "java/lang/Math"), (0, u "min"), (0, u "(JJ)J"), (118, u "CHUNK_SIZE"), (0, u "I"), (2, u "MAX_NAME_BYTES"), (1, u "VERSION"), (1, u "POLICY_VERSION"), (1, u "MAX_RECIPIENTS"), (1, u "FILE_KEY_LENGTH"), (1, u "ENVELOPE_LENGTH"), (1, u "SIZE_LENGTH"), (1, u "MIN_SEALED_METADATA"), (1, u "MAX_SEALED_METADATA"), (1, u "LABEL"), (0, u "Ljava/lang/String;"), (2, u "MALFORMED_HEADER"), (20, u "chunkLength"), (0, u "(JJ)I")] 30

def k2m0 : Method := { name := "<init>", desc := "()V", sig := { parameters := [], returnType := none }, accessFlags := 2, code := none }
def k2c1 : Code := { maxStack := 8, maxLocals := 4, code := prog_17_method_8_code, exceptionTable := #[], attributes := #[] }
def k2m1 : Method := { name := "chunkLength", desc := "(JJ)I", sig := { parameters := [.long, .long], returnType := some .int }, accessFlags := 8, code := some k2c1 }
/-- com/example/vaulted_cloud_files/vaultedcloudfiles/crypto/ObjectFormat -/
def k2 : Class := { plain "com/example/vaulted_cloud_files/vaultedcloudfiles/crypto/ObjectFormat" (some 0) with
  accessFlags := 49
  interfaces := #[]
  cf := some (fileOf pool2 3 #[.nestMembers #[192, 184]] #[{ accessFlags := 2, nameIndex := 11, descriptorIndex := 12, attributes := #[] }, { accessFlags := 8, nameIndex := 406, descriptorIndex := 407, attributes := #[] }] 49 8 #[] #[{ accessFlags := 25, nameIndex := 359, descriptorIndex := 360, attributes := #[] }, { accessFlags := 25, nameIndex := 363, descriptorIndex := 360, attributes := #[] }, { accessFlags := 26, nameIndex := 60, descriptorIndex := 61, attributes := #[] }, { accessFlags := 26, nameIndex := 365, descriptorIndex := 360, attributes := #[] }, { accessFlags := 26, nameIndex := 367, descriptorIndex := 360, attributes := #[] }, { accessFlags := 26, nameIndex := 369, descriptorIndex := 360, attributes := #[] }, { accessFlags := 26, nameIndex := 371, descriptorIndex := 360, attributes := #[] }, { accessFlags := 26, nameIndex := 373, descriptorIndex := 360, attributes := #[] }, { accessFlags := 26, nameIndex := 375, descriptorIndex := 360, attributes := #[] }, { accessFlags := 26, nameIndex := 377, descriptorIndex := 360, attributes := #[] }, { accessFlags := 26, nameIndex := 379, descriptorIndex := 360, attributes := #[] }, { accessFlags := 26, nameIndex := 144, descriptorIndex := 61, attributes := #[] }, { accessFlags := 26, nameIndex := 381, descriptorIndex := 382, attributes := #[] }, { accessFlags := 26, nameIndex := 385, descriptorIndex := 382, attributes := #[] }])
  fields := #[{ name := "CHUNK_SIZE", type := .int, accessFlags := 25, slot := 0, constantValue := 0 }, { name := "MAX_NAME_BYTES", type := .int, accessFlags := 25, slot := 1, constantValue := 0 }, { name := "MAGIC", type := (.array .byte), accessFlags := 26, slot := 2, constantValue := 0 }, { name := "VERSION", type := .int, accessFlags := 26, slot := 3, constantValue := 0 }, { name := "POLICY_VERSION", type := .int, accessFlags := 26, slot := 4, constantValue := 0 }, { name := "MAX_RECIPIENTS", type := .int, accessFlags := 26, slot := 5, constantValue := 0 }, { name := "FILE_KEY_LENGTH", type := .int, accessFlags := 26, slot := 6, constantValue := 0 }, { name := "ENVELOPE_LENGTH", type := .int, accessFlags := 26, slot := 7, constantValue := 0 }, { name := "SIZE_LENGTH", type := .int, accessFlags := 26, slot := 8, constantValue := 0 }, { name := "MIN_SEALED_METADATA", type := .int, accessFlags := 26, slot := 9, constantValue := 0 }, { name := "MAX_SEALED_METADATA", type := .int, accessFlags := 26, slot := 10, constantValue := 0 }, { name := "ZERO_NONCE", type := (.array .byte), accessFlags := 26, slot := 11, constantValue := 0 }, { name := "LABEL", type := (.object "java/lang/String"), accessFlags := 26, slot := 12, constantValue := 0 }, { name := "MALFORMED_HEADER", type := (.object "java/lang/String"), accessFlags := 26, slot := 13, constantValue := 0 }]
  methods := #[k2m0, k2m1]
  instanceTypes := #[]
  staticTypes := #[.int, .int, (.array .byte), .int, .int, .int, .int, .int, .int, .int, .int, (.array .byte), (.object "java/lang/String"), (.object "java/lang/String")]
  resolved := Array.replicate 438 none
  statics := none }

def pool3 : Array CpInfo := pool [(1, .class_ 2), (0, u "java/lang/Math"), (1, .class_ 6), (1, u "java/lang/Object"), (0, u "<init>"), (0, u "()V"), (89, .class_ 100), (1, u "java/lang/Math$RandomNumberGeneratorHolder"), (20, u "(JJ)J"), (50, u "negativeZeroFloatBits"), (0, u "J"), (2, u "negativeZeroDoubleBits"), (24, u "min"), (43, u "$assertionsDisabled"), (0, u "Z"), (91, u "twoToTheDoubleScaleDown"), (0, u "D"), (4, u "twoToTheDoubleScaleUp"), (9, u "E"), (3, u "PI"), (2, u "TAU"), (2, u "DEGREES_TO_RADIANS"), (0, u "RADIANS_TO_DEGREES")] 94

def k3m0 : Method := { name := "<init>", desc := "()V", sig := { parameters := [], returnType := none }, accessFlags := 2, code := none }
def k3c1 : Code := { maxStack := 4, maxLocals := 4, code := jdk_29_method_70_code, exceptionTable := #[], attributes := #[] }
def k3m1 : Method := { name := "min", desc := "(JJ)J", sig := { parameters := [.long, .long], returnType := some .long }, accessFlags := 9, code := some k3c1 }
/-- java/lang/Math -/
def k3 : Class := { plain "java/lang/Math" (some 0) with
  accessFlags := 49
  interfaces := #[]
  cf := some (fileOf pool3 1 #[.nestMembers #[98]] #[{ accessFlags := 2, nameIndex := 7, descriptorIndex := 8, attributes := #[] }, { accessFlags := 9, nameIndex := 201, descriptorIndex := 121, attributes := #[] }] 49 4 #[] #[{ accessFlags := 25, nameIndex := 354, descriptorIndex := 339, attributes := #[] }, { accessFlags := 25, nameIndex := 358, descriptorIndex := 339, attributes := #[] }, { accessFlags := 25, nameIndex := 361, descriptorIndex := 339, attributes := #[] }, { accessFlags := 26, nameIndex := 364, descriptorIndex := 339, attributes := #[] }, { accessFlags := 26, nameIndex := 365, descriptorIndex := 339, attributes := #[] }, { accessFlags := 26, nameIndex := 172, descriptorIndex := 173, attributes := #[] }, { accessFlags := 26, nameIndex := 176, descriptorIndex := 173, attributes := #[] }, { accessFlags := 8, nameIndex := 344, descriptorIndex := 339, attributes := #[] }, { accessFlags := 8, nameIndex := 338, descriptorIndex := 339, attributes := #[] }, { accessFlags := 4120, nameIndex := 245, descriptorIndex := 246, attributes := #[] }])
  fields := #[{ name := "E", type := .double, accessFlags := 25, slot := 0, constantValue := 0 }, { name := "PI", type := .double, accessFlags := 25, slot := 1, constantValue := 0 }, { name := "TAU", type := .double, accessFlags := 25, slot := 2, constantValue := 0 }, { name := "DEGREES_TO_RADIANS", type := .double, accessFlags := 26, slot := 3, constantValue := 0 }, { name := "RADIANS_TO_DEGREES", type := .double, accessFlags := 26, slot := 4, constantValue := 0 }, { name := "negativeZeroFloatBits", type := .long, accessFlags := 26, slot := 5, constantValue := 0 }, { name := "negativeZeroDoubleBits", type := .long, accessFlags := 26, slot := 6, constantValue := 0 }, { name := "twoToTheDoubleScaleUp", type := .double, accessFlags := 8, slot := 7, constantValue := 0 }, { name := "twoToTheDoubleScaleDown", type := .double, accessFlags := 8, slot := 8, constantValue := 0 }, { name := "$assertionsDisabled", type := .boolean, accessFlags := 4120, slot := 9, constantValue := 0 }]
  methods := #[k3m0, k3m1]
  instanceTypes := #[]
  staticTypes := #[.double, .double, .double, .double, .double, .long, .long, .double, .double, .boolean]
  resolved := Array.replicate 460 none
  statics := none }

def pool4 : Array CpInfo := pool [(1, u "java/lang/Cloneable"), (0, .class_ 1), (0, u "java/lang/Object"), (0, .class_ 3)] 3

/-- java/lang/Cloneable -/
def k4 : Class := { plain "java/lang/Cloneable" (some 0) with
  accessFlags := 1537
  interfaces := #[]
  cf := some (fileOf pool4 2 #[] #[] 1537 4 #[] #[])
  fields := #[]
  methods := #[]
  instanceTypes := #[]
  staticTypes := #[]
  resolved := Array.replicate 8 none
  statics := none }

def pool5 : Array CpInfo := pool [(1, u "java/io/Serializable"), (0, .class_ 1), (0, u "java/lang/Object"), (0, .class_ 3)] 3

/-- java/io/Serializable -/
def k5 : Class := { plain "java/io/Serializable" (some 0) with
  accessFlags := 1537
  interfaces := #[]
  cf := some (fileOf pool5 2 #[] #[] 1537 4 #[] #[])
  fields := #[]
  methods := #[]
  instanceTypes := #[]
  staticTypes := #[]
  resolved := Array.replicate 8 none
  statics := none }

/-- the primitive byte -/
def k6 : Class := { plain "byte" none with kind := .primitive 'B', accessFlags := 0x411 }
/-- [B -/
def k7 : Class := { plain "[B" (some 0) with kind := .array 6 .byte, interfaces := #[4, 5], accessFlags := 1041 }

/-- the primitive int -/
def k8 : Class := { plain "int" none with kind := .primitive 'I', accessFlags := 0x411 }
/-- [I -/
def k9 : Class := { plain "[I" (some 0) with kind := .array 8 .int, interfaces := #[4, 5], accessFlags := 1041 }

def heap : Heap := #[]
def classes : Array Class := #[k0, k1, k2, k3, k4, k5, k6, k7, k8, k9]
def interned : List (Array UInt16 × Addr) := []
def slotsUsed : Nat := 0
def theMethod : MethodId := ⟨1, 1⟩
def args0 : Array Value := #[.long 5, .int 5, .long 5, .int 5]
def aboutOver (below : List Frame) : State where
  vm := { classes := classes, interned := interned.toArray }
  heap := heap
  slotsUsed := slotsUsed
  threads := #[{ frames := .invoking theMethod args0 :: below }]
def below0 : List Frame := [.native { method := ⟨0, 0⟩, args := #[] }]
def about1 : State := aboutOver below0
def p0 : Program := .bare "" "" ""
def e0 : Env := launch0.env 0 0 0
theorem w_frames : about1.frames = Frame.invoking theMethod args0 :: below0 := rfl
set_option maxRecDepth 65536 in
theorem w_args : argsFit about1.vm theMethod args0 = true := by decide +kernel
set_option maxRecDepth 65536 in
theorem w_heap : heapFits about1 = true := by decide +kernel
set_option maxRecDepth 65536 in
theorem w_runnable : about1.curStatus? = some .runnable := by decide +kernel
set_option maxRecDepth 65536 in
theorem w_alone : about1.alone = true := by decide +kernel
set_option maxRecDepth 65536 in
theorem w_named : about1.methodNamed? x = some theMethod := by decide +kernel
set_option maxRecDepth 65536 in
theorem w_hears : about1.hears theMethod below0 = true := by decide +kernel
set_option maxRecDepth 65536 in
theorem w_ripe : about1.ripe theMethod args0 below0 = true := by decide +kernel
theorem w_running : about1.status = .running := rfl
set_option maxRecDepth 65536 in
theorem w_room : about1.hasRoom e0.platform room_1 = true :=
  launch0.hasRoom_least _ room_1 (by decide +kernel) (by decide +kernel) (by decide +kernel) (by decide +kernel) (by decide +kernel) (by decide +kernel)
theorem allAtoms_all (ts : List Jvm.Cond) (a : Array Jvm.Value) (st : Jvm.State) : (allAtoms ts).before a st = ts.all (fun c => c.before a st) := by
  induction ts with
  | nil => rfl
  | cons c t ih =>
    show (Jvm.Cond.and c (allAtoms t)).before a st = _
    rw [Jvm.Cond.before_and, ih, List.all_cons]
def words1 : List Jvm.Cond := Jvm.Cond.code x code maxLocals ret :: tables_1
/-- a 'code' word, met by the world's own term for the bytes: nothing is compared byte by byte -/
theorem code_word {y : MethodName} {bytes : ByteArray} {mx : Nat} {rt : Option FieldType} {a : Array Value} {s : State} {m : MethodId} {meth : Method} {c : Code} (h1 : s.methodNamed? y = some m) (h2 : s.vm.method? m = some meth) (h3 : meth.code = some c) (h4 : c.code = bytes)
    (h5 : (c.maxLocals == mx && c.exceptionTable.isEmpty && decide (c.maxStack ≤ mostOperands) && decide (meth.sig.returnType = rt) && !meth.locks && decide (parseMethodDescriptor y.desc = some meth.sig)) = true) : (Jvm.Cond.code y bytes mx rt).before a s = true := by
  simp only [Bool.and_eq_true, beq_iff_eq, Bool.not_eq_true', decide_eq_true_eq] at h5
  obtain ⟨⟨⟨⟨⟨g1, g2⟩, g3⟩, g4⟩, g5⟩, g6⟩ := h5
  simp [Cond.before, Cond.holds, Cond.value, h1, h2, h3, h4, g1, g2, g3, g4, g5, g6]
def isCode : Jvm.Cond → Bool
  | .code _ _ _ _ => true
  | _ => false
theorem all_split {L : List Jvm.Cond} {P : Jvm.Cond → Bool} (h1 : L.all (fun c => isCode c || P c) = true) (h2 : ∀ c ∈ L.filter isCode, P c = true) : L.all P = true := by
  refine List.all_eq_true.mpr fun c hc => ?_
  have h := List.all_eq_true.mp h1 c hc
  rcases Bool.eq_false_or_eq_true (isCode c) with hi | hi
  · exact h2 c (List.mem_filter.mpr ⟨hc, hi⟩)
  · simpa [hi] using h
set_option maxRecDepth 65536 in
theorem w_c0 : (Jvm.Cond.code x code maxLocals ret).before args0 about1 = true := code_word (m := ⟨1, 1⟩) (meth := k1m1) (c := k1c1) (by decide +kernel) rfl rfl rfl (by decide +kernel)
set_option maxRecDepth 65536 in
theorem w_c1 : (Jvm.Cond.code ({ cls := "com/example/vaulted_cloud_files/vaultedcloudfiles/crypto/ObjectFormat", name := "chunkLength", desc := "(JJ)I" } : Jvm.MethodName) prog_17_method_8_code (4 : Nat) (Option.some Jvm.ClassFile.FieldType.int)).before args0 about1 = true := code_word (m := ⟨2, 1⟩) (meth := k2m1) (c := k2c1) (by decide +kernel) rfl rfl rfl (by decide +kernel)
set_option maxRecDepth 65536 in
theorem w_c2 : (Jvm.Cond.code ({ cls := "java/lang/Math", name := "min", desc := "(JJ)J" } : Jvm.MethodName) jdk_29_method_70_code (4 : Nat) (Option.some Jvm.ClassFile.FieldType.long)).before args0 about1 = true := code_word (m := ⟨3, 1⟩) (meth := k3m1) (c := k3c1) (by decide +kernel) rfl rfl rfl (by decide +kernel)
def codes1 : List Jvm.Cond := [Jvm.Cond.code x code maxLocals ret, Jvm.Cond.code ({ cls := "com/example/vaulted_cloud_files/vaultedcloudfiles/crypto/ObjectFormat", name := "chunkLength", desc := "(JJ)I" } : Jvm.MethodName) prog_17_method_8_code (4 : Nat) (Option.some Jvm.ClassFile.FieldType.int), Jvm.Cond.code ({ cls := "java/lang/Math", name := "min", desc := "(JJ)J" } : Jvm.MethodName) jdk_29_method_70_code (4 : Nat) (Option.some Jvm.ClassFile.FieldType.long)]
set_option maxRecDepth 65536 in
theorem codes_eq : words1.filter isCode = codes1 := rfl
theorem w_codes : ∀ c ∈ words1.filter isCode, c.before args0 about1 = true := by
  rw [codes_eq]
  intro c hc
  simp only [codes1, List.mem_cons, List.not_mem_nil, or_false] at hc
  rcases hc with rfl | rfl | rfl
  · exact w_c0
  · exact w_c1
  · exact w_c2
set_option maxRecDepth 65536 in
theorem w_t1 : words1.all (fun c => isCode c || c.before args0 about1) = true := by decide +kernel
theorem w_tables : (allAtoms (Jvm.Cond.code x code maxLocals ret :: tables_1)).before args0 about1 = true := by
  rw [allAtoms_all]
  show words1.all (fun c => c.before args0 about1) = true
  refine all_split ?_ w_codes
  rw [w_t1]
set_option maxRecDepth 65536 in
theorem w_case : (Jvm.Cond.and given_1 narrow_1).before args0 about1 = true := by decide +kernel
theorem w_applies : (headSpec (Jvm.Cond.code x code maxLocals ret :: tables_1) room_1).applies x e0.platform about1 = true :=
  (Spec.applies_iff w_frames).mpr ⟨w_running, w_runnable, w_alone, w_named, w_hears, w_ripe, w_room, w_tables⟩
theorem atStart : AtStart classFile x code maxLocals ret World_1 tables_1 room_1 Calls_1 rest_1 Pre_1 launch0 p0 e0 about1 theMethod args0 below0 :=
  ⟨lists_1, trivial, launch0.admits_env _ _ _, launch0.least_env, fairChoices_fair.cas, fairChoices_fair.clock, w_frames, w_args, w_heap, w_applies, trivial, trivial, w_case⟩
end start1
theorem witness_1 : WitnessClaimed_1 := ⟨start1.p0, start1.e0, start1.about1, start1.theMethod, start1.args0, start1.below0, start1.atStart⟩
end Jvm.Pilot.@@N@@
