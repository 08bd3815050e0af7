import JvmDerived
import JvmDerived.Pilot.@@N@@Statement
import JvmDerived.Pilot.@@N@@Code
set_option linter.unusedVariables false
set_option linter.unusedSimpArgs false
namespace Jvm.Pilot.@@N@@
open Jvm Jvm.ClassFile Sem Op Lib Jvm.Free Jvm.Stand Jvm.LawKit Jvm.RoadKit Bundle Jvm.Pilot.@@N@@.Jvm.D
/-! 1. the words of the mirrors: a named value, a check, a call -/
def own_lt {α β : Type} (x : α) (f : α → Option β) : Option β := f x
def own_ck {β : Type} (P : Prop) [Decidable P] (x : Option β) : Option β := if P then x else none
def own_bd {α β : Type} (x : Option α) (f : α → Option β) : Option β := x.bind f
theorem own_lt_e {α β : Type} {x : α} {f : α → Option β} {r : β} (h : own_lt x f = some r) : ∃ v, v = x ∧ f v = some r := ⟨x, rfl, h⟩
theorem own_ck_e {β : Type} {P : Prop} [Decidable P] {x : Option β} {r : β} (h : own_ck P x = some r) : P ∧ x = some r := by
  unfold own_ck at h
  by_cases q : P
  · rw [if_pos q] at h; exact ⟨q, h⟩
  · rw [if_neg q] at h; cases h
theorem own_bd_e {α β : Type} {x : Option α} {f : α → Option β} {r : β} (h : own_bd x f = some r) : ∃ v, x = some v ∧ f v = some r := by
  unfold own_bd at h
  cases x with
  | none => cases h
  | some v => exact ⟨v, rfl, h⟩
abbrev own_inb {α : Type} (bs : List α) (j : Int32) : Prop := ¬ j < 0 ∧ j.toNatClampNeg < bs.length
def own_rd {α : Type} [OfNat α 0] (bs : List α) (j : Int32) : α := bs.getD j.toNatClampNeg 0
def own_wr {α : Type} (bs : List α) (j : Int32) (v : α) : List α := bs.set j.toNatClampNeg v
def own_sz {α : Type} (bs : List α) : Int32 := bs.length.toInt32
def own_cp (bs ds : List Int32) (sp dp nn : Int32) : List Int32 := ds.take dp.toNatClampNeg ++ (List.range nn.toNatClampNeg).map (fun i => bs.getD (sp.toNatClampNeg + i) 0) ++ ds.drop (dp.toNatClampNeg + nn.toNatClampNeg)
abbrev own_cpok (bs ds : List Int32) (sp dp nn : Int32) : Prop := ¬ sp < 0 ∧ ¬ dp < 0 ∧ ¬ nn < 0 ∧ sp.toNatClampNeg + nn.toNatClampNeg ≤ bs.length ∧ dp.toNatClampNeg + nn.toNatClampNeg ≤ ds.length
/-! 2. a run that comes to an end as Q says -/
def own_Goes (p : Program) (e : Env) (below : List Frame) (s : State) (Q : Option Value → Heap → List Loc → Prop) (ce sl : Nat) (A : State) : Prop :=
  ∃ s₂ o, Steps p.tables e below A s₂ ∧ s₂.status = .running ∧ Ended s₂ below o ∧ ∃ v L, o = .returned v ∧ Q v s₂.heap L ∧ FrameEnd s o s₂ L ce sl
section Own
variable {p : Program} {l : Launch} {e : Env} {R : Room} {s : State} {m : MethodId} {args : Array Value} {below : List Frame} {meth : Method} {c : Code} {T : State} {locs : List Loc} {cells slots : Nat} {Z : State} {h h' : Heap} {Q : Option Value → Heap → List Loc → Prop} {ce sl : Nat}
theorem own_Goes.via {A B : State} (q : ∀ t, Steps p.tables e below B t → Steps p.tables e below A t) (g : own_Goes p e below s Q ce sl B) : own_Goes p e below s Q ce sl A := by
  obtain ⟨s₂, o, h1, r⟩ := g
  exact ⟨s₂, o, q _ h1, r⟩
theorem own_Goes.tr {A B : State} (q : Steps p.tables e below A B) (g : own_Goes p e below s Q ce sl B) : own_Goes p e below s Q ce sl A := g.via fun _ k => q.trans k
theorem own_retV (X : Stand p l e R s m args below meth c T locs cells slots) (hx : p.tables.exec = Jvm.exec) {pc : Nat} {Ls : Array Slot} (hret : meth.sig.returnType = none) (hlk : meth.locks = false) (hd : decode c.code pc = .ok (.return_, 1)) (eT : T.heap = h) (hQ : Q none h locs) (hc : cells ≤ ce) (hs : slots ≤ sl) :
    own_Goes p e below s Q ce sl (T.setTop (mkF m pc Ls [])) := by
  obtain ⟨fs, hr, hrun, hended, hW, hsame⟩ := X.leave (v := none) (fun _ => rfl) hlk
  refine ⟨_, _, ?_, hrun, hended, _, _, rfl, ?_, ⟨_, rfl⟩, hW, hsame.mono hc hs⟩
  · exact X.returnOut hx hret hd hr
  · show Q none T.heap locs
    rw [eT]; exact hQ
theorem own_retI (X : Stand p l e R s m args below meth c T locs cells slots) (hx : p.tables.exec = Jvm.exec) {pc : Nat} {Ls : Array Slot} {z : Int32} {rest : List Value} (hret : meth.sig.returnType = some .int) (hlk : meth.locks = false) (hd : decode c.code pc = .ok (.ireturn, 1)) (eT : T.heap = h) (hQ : Q (some (.int z)) h locs) (hc : cells ≤ ce) (hs : slots ≤ sl) :
    own_Goes p e below s Q ce sl (T.setTop (mkF m pc Ls (.int z :: rest))) := by
  obtain ⟨fs, hr, hrun, hended, hW, hsame⟩ := X.leave (v := some (.int z)) (fun h => by rw [hret] at h; cases h) hlk
  refine ⟨_, _, ?_, hrun, hended, _, _, rfl, ?_, ⟨_, rfl⟩, hW, hsame.mono hc hs⟩
  · exact retOut X hx hret rfl (Or.inl ⟨rfl, Or.inl rfl, z, rfl⟩) hd hr
  · show Q _ T.heap locs
    rw [eT]; exact hQ
theorem own_retJ (X : Stand p l e R s m args below meth c T locs cells slots) (hx : p.tables.exec = Jvm.exec) {pc : Nat} {Ls : Array Slot} {z : Int64} {rest : List Value} (hret : meth.sig.returnType = some .long) (hlk : meth.locks = false) (hd : decode c.code pc = .ok (.lreturn, 1)) (eT : T.heap = h) (hQ : Q (some (.long z)) h locs) (hc : cells ≤ ce) (hs : slots ≤ sl) :
    own_Goes p e below s Q ce sl (T.setTop (mkF m pc Ls (.long z :: rest))) := by
  obtain ⟨fs, hr, hrun, hended, hW, hsame⟩ := X.leave (v := some (.long z)) (fun h => by rw [hret] at h; cases h) hlk
  refine ⟨_, _, ?_, hrun, hended, _, _, rfl, ?_, ⟨_, rfl⟩, hW, hsame.mono hc hs⟩
  · exact retOut X hx hret rfl (Or.inr (Or.inl ⟨rfl, rfl, z, rfl⟩)) hd hr
  · show Q _ T.heap locs
    rw [eT]; exact hQ
theorem own_retR (X : Stand p l e R s m args below meth c T locs cells slots) (hx : p.tables.exec = Jvm.exec) {pc : Nat} {Ls : Array Slot} {t : FieldType} {w : Value} {rest : List Value} (hret : meth.sig.returnType = some t) (hlk : meth.locks = false) (hd : decode c.code pc = .ok (.areturn, 1)) (ht : t.isReference = true) (eT : T.heap = h) (hw : w.isRef = true) (hQ : Q (some w) h locs) (hc : cells ≤ ce) (hs : slots ≤ sl) :
    own_Goes p e below s Q ce sl (T.setTop (mkF m pc Ls (w :: rest))) := by
  obtain ⟨fs, hr, hrun, hended, hW, hsame⟩ := X.leave (v := some w) (fun h => by rw [hret] at h; cases h) hlk
  refine ⟨_, _, ?_, hrun, hended, _, _, rfl, ?_, ⟨_, rfl⟩, hW, hsame.mono hc hs⟩
  · exact retOut X hx hret (by cases t <;> first | (cases ht; done) | rfl) (Or.inr (Or.inr (Or.inr (Or.inr ⟨rfl, ht, hw⟩)))) hd hr
  · show Q _ T.heap locs
    rw [eT]; exact hQ
theorem own_retN (X : Stand p l e R s m args below meth c T locs cells slots) (hx : p.tables.exec = Jvm.exec) {pc : Nat} {Ls : Array Slot} {z v : Int32} {t : FieldType} {rest : List Value} (hret : meth.sig.returnType = some t) (hlk : meth.locks = false) (ht : t = .boolean ∨ t = .byte ∨ t = .char ∨ t = .short) (hd : decode c.code pc = .ok (.ireturn, 1)) (eT : T.heap = h) (hv : nar t z = v) (hQ : Q (some (.int v)) h locs) (hc : cells ≤ ce) (hs : slots ≤ sl) :
    own_Goes p e below s Q ce sl (T.setTop (mkF m pc Ls (.int z :: rest))) := by
  subst hv
  obtain ⟨fs, hr, hrun, hended, hW, hsame⟩ := X.leave (v := some (.int (nar t z))) (fun h => by rw [hret] at h; cases h) hlk
  refine ⟨_, _, ?_, hrun, hended, _, _, rfl, ?_, ⟨_, rfl⟩, hW, hsame.mono hc hs⟩
  · exact retN X hx hret ht hd hr
  · show Q _ T.heap locs
    rw [eT]; exact hQ
/-! 3. single steps -/
theorem own_irem {g : JFrame} {target : State} (X : Stand p l e R s m args below meth c T locs cells slots) (hx : p.tables.exec = Jvm.exec) (hg : g.method = m) {x y : Int32} {rest : List Value} (hd : decode c.code g.pc = .ok (.irem, 1)) (hs : g.stack = .int y :: .int x :: rest) (hy : y ≠ 0)
    (hr : Steps p.tables e below (T.setTop { g with pc := g.pc + 1, stack := .int (x % y) :: rest }) target) : Steps p.tables e below (T.setTop g) target := iremM X hx hg hd hs hy hr
theorem own_lrem {g : JFrame} {target : State} (X : Stand p l e R s m args below meth c T locs cells slots) (hx : p.tables.exec = Jvm.exec) (hg : g.method = m) {x y : Int64} {rest : List Value} (hd : decode c.code g.pc = .ok (.lrem, 1)) (hs : g.stack = .long y :: .long x :: rest) (hy : y ≠ 0)
    (hr : Steps p.tables e below (T.setTop { g with pc := g.pc + 1, stack := .long (x % y) :: rest }) target) : Steps p.tables e below (T.setTop g) target :=
  XS.lrem X.here hx hg hd hs hy (by rw [lrem_mod]; exact hr)
theorem own_tltL {x y : Int64} (q : x < y) : ifCond.holds .lt (lcmpW x y) = true ∧ ifCond.holds .ge (lcmpW x y) = false := by
  rw [if0, if0]; exact ⟨(tlt ((lw_lt x y).mpr q)).1, (tlt ((lw_lt x y).mpr q)).2.1⟩
theorem own_fltL {x y : Int64} (q : ¬ x < y) : ifCond.holds .lt (lcmpW x y) = false ∧ ifCond.holds .ge (lcmpW x y) = true := by
  rw [if0, if0]; exact ⟨(flt fun z => q ((lw_lt x y).mp z)).1, (flt fun z => q ((lw_lt x y).mp z)).2.1⟩
theorem own_tgtL {x y : Int64} (q : y < x) : ifCond.holds .gt (lcmpW x y) = true ∧ ifCond.holds .le (lcmpW x y) = false := by
  rw [if0, if0]; exact ⟨(tlt ((lw_gt x y).mpr q)).2.2.1, (tlt ((lw_gt x y).mpr q)).2.2.2⟩
theorem own_fgtL {x y : Int64} (q : ¬ y < x) : ifCond.holds .gt (lcmpW x y) = false ∧ ifCond.holds .le (lcmpW x y) = true := by
  rw [if0, if0]; exact ⟨(flt fun z => q ((lw_gt x y).mp z)).2.2.1, (flt fun z => q ((lw_gt x y).mp z)).2.2.2⟩
theorem own_teqL {x y : Int64} (q : x = y) : ifCond.holds .eq (lcmpW x y) = true ∧ ifCond.holds .ne (lcmpW x y) = false := by
  rw [if0, if0]; exact ⟨(teq ((lw_eq x y).mpr q)).1, (teq ((lw_eq x y).mpr q)).2⟩
theorem own_feqL {x y : Int64} (q : ¬ x = y) : ifCond.holds .eq (lcmpW x y) = false ∧ ifCond.holds .ne (lcmpW x y) = true := by
  rw [if0, if0]; exact ⟨(feq fun z => q ((lw_eq x y).mp z)).1, (feq fun z => q ((lw_eq x y).mp z)).2⟩
theorem own_st1 {L : Array Slot} {i : Nat} {v : Value} {o : Slot} {L' : Array Slot} (hold : L[i]? = some o) (ho : One o) (hv : v.category = 1) (hL : L.setIfInBounds i (.val v) = L' := by rfl) : storeLocals L i v = some L' := hL ▸ XS.store1 hold ho hv
theorem own_privSel {s : State} {args : Array Value} {y : MethodName} {n : Nat} (wi : (Cond.instantiable y.cls n).before args s = true) (hp : s.PrivateAt y) (hinst : (Cond.instanceMethod y).before args s = true) (hy : y.cls ≠ "java/lang/invoke/MethodHandle" ∧ y.cls ≠ "java/lang/invoke/VarHandle") : (Cond.selects y.cls y y).before args s = true := by
  obtain ⟨c, k, h1, h2, -, h3, -⟩ := Cond.instantiable_spec wi
  exact selects_self_of_private h1 h2 (Bool.or_eq_false_iff.mp h3).1 hp hinst hy
theorem own_st2 {L L' : Array Slot} {i : Nat} {x : Int64} {o1 o2 : Slot} (h1 : L[i]? = some o1) (h2 : L[i + 1]? = some o2) (q1 : One o1) (q2 : One o2) (hL : (L.setIfInBounds i (.val (.long x))).setIfInBounds (i + 1) .second = L' := by rfl) : storeLocals L i (.long x) = some L' := by
  subst hL
  obtain ⟨b1, g1⟩ := Array.getElem?_eq_some_iff.mp h1
  obtain ⟨b2, g2⟩ := Array.getElem?_eq_some_iff.mp h2
  have hc : (Value.long x).category = 2 := rfl
  rcases q1 with rfl | ⟨w, rfl, hw⟩ <;> rcases q2 with rfl | ⟨w', rfl, hw'⟩ <;> simp [storeLocals, storeSelf, setAt, hc, *]
/-! 4. arrays: what lies in them, as a list -/
def own_Ar (Z : State) (h : Heap) (a : Addr) (ty : FieldType) (vs : List Value) : Prop := ∃ c : Cell, Arr Z h a c ty ∧ c.slots.toList = vs ∧ vs.length < 2 ^ 31 ∧ ∀ v ∈ vs, fits ty v = true
variable {a b : Addr} {ty : FieldType} {vs : List Value}
theorem own_Ar.lt (F : own_Ar Z h a ty vs) : a < h.size := by obtain ⟨c, A, -⟩ := F; exact A.lt
theorem own_Ar.ext (F : own_Ar Z h a ty vs) (E : Ext h h') : own_Ar Z h' a ty vs := by obtain ⟨c, A, r⟩ := F; exact ⟨c, A.ext E, r⟩
theorem own_Ar.other {k : Nat} {v : Value} (F : own_Ar Z h b ty vs) (W : Wr h h' a k v) (q : b ≠ a) : own_Ar Z h' b ty vs := by obtain ⟨c, A, r⟩ := F; exact ⟨c, A.other W q, r⟩
theorem own_Ar.keep {ws : List Addr} (F : own_Ar Z h a ty vs) (K : Keep h h' ws) (q : a ∉ ws) : own_Ar Z h' a ty vs := by obtain ⟨c, A, r⟩ := F; exact ⟨c, ⟨K.2.1 a c A.1 q, A.2⟩, r⟩
theorem own_Ar.size {c : Cell} (q : c.slots.toList = vs) : c.slots.size = vs.length := by rw [← q]; simp
theorem own_in {c : Cell} {j : Int32} (q : c.slots.toList = vs) (hj : own_inb vs j) : ¬ (j < 0 ∨ c.slots.size ≤ j.toNatClampNeg) := by
  rw [own_Ar.size q]
  rintro (r | r)
  · exact hj.1 r
  · exact absurd hj.2 (Nat.not_lt.mpr r)
theorem own_get {c : Cell} {i : Nat} (q : c.slots.toList = vs) (d : Value) (hi : i < vs.length) : c.slots[i]? = some (vs.getD i d) := by
  have e : c.slots = vs.toArray := by rw [← q]
  rw [e]
  simp [List.getD, hi]
theorem own_set {c : Cell} {i : Nat} {v : Value} (q : c.slots.toList = vs) : (c.setSlot i v).slots.toList = vs.set i v := by
  have e : c.slots = vs.toArray := by rw [← q]
  simp [Cell.setSlot, e]
theorem own_fits {i : Nat} {v : Value} (q : ∀ v ∈ vs, fits ty v = true) (hv : fits ty v = true) : ∀ u ∈ vs.set i v, fits ty u = true := fun u hu => by
  rcases List.mem_or_eq_of_mem_set hu with r | r
  · exact q u r
  · rw [r]; exact hv
theorem own_mapGet {bs : List Int32} {i : Nat} (hi : i < bs.length) : (bs.map Value.int).getD i (.int 0) = .int (bs.getD i 0) := by simp [List.getD, hi]
theorem own_mapGetJ {bs : List Int64} {i : Nat} (hi : i < bs.length) : (bs.map Value.long).getD i (.long 0) = .long (bs.getD i 0) := by simp [List.getD, hi]
theorem own_mapSet {bs : List Int32} {i : Nat} {v : Int32} : (bs.map Value.int).set i (.int v) = (bs.set i v).map Value.int := by simp
theorem own_mapSetJ {bs : List Int64} {i : Nat} {v : Int64} : (bs.map Value.long).set i (.long v) = (bs.set i v).map Value.long := by simp
theorem own_inbM {α : Type} {f : α → Value} {bs : List α} {j : Int32} (q : own_inb bs j) : own_inb (bs.map f) j := ⟨q.1, by rw [List.length_map]; exact q.2⟩
theorem own_wrk {α : Type} {bs : List α} {j : Int32} {v : α} (k : Nat) (hk : j.toNatClampNeg = k) : own_wr bs j v = bs.set k v := by rw [own_wr, hk]
theorem own_rdk {α : Type} [OfNat α 0] {bs : List α} {j : Int32} (k : Nat) (hk : j.toNatClampNeg = k) : own_rd bs j = bs.getD k 0 := by rw [own_rd, hk]
theorem own_inbk {α : Type} {bs : List α} {j : Int32} (k n : Nat) (h0 : ¬ j < 0) (hk : j.toNatClampNeg = k) (hl : bs.length = n) (hkn : k < n) : own_inb bs j := ⟨h0, by rw [hk, hl]; exact hkn⟩
theorem own_len {α : Type} {f : α → Value} {bs : List α} (X : Stand p l e R s m args below meth c T locs cells slots) (hx : p.tables.exec = Jvm.exec) (hZ : Z.Warmed39 s.vm) (eT : T.heap = h) (A : own_Ar Z h a ty (bs.map f)) {g : JFrame} (hg : g.method = m) {rest : List Value} (hs : g.stack = .ref a :: rest) (hd : decode c.code g.pc = .ok (.arraylength, 1)) {target : State}
    (hr : Steps p.tables e below (T.setTop { g with pc := g.pc + 1, stack := .int (own_sz bs) :: rest }) target) : Steps p.tables e below (T.setTop g) target := by
  obtain ⟨cl, A, q, -⟩ := A
  refine X.arraylength hx (by rw [eT]; exact A.1) (State.isArrayOf_alike hZ.alike A.2.1) hg hs hd _ ?_
  rw [own_Ar.size q, List.length_map]; exact hr
theorem own_ldI {bs : List Int32} {j v : Int32} (X : Stand p l e R s m args below meth c T locs cells slots) (hx : p.tables.exec = Jvm.exec) (hZ : Z.Warmed39 s.vm) (eT : T.heap = h) (A : own_Ar Z h a .int (bs.map Value.int)) (hj : own_inb bs j) (hv : own_rd bs j = v) {g : JFrame} (hg : g.method = m) {rest : List Value} (hs : g.stack = .int j :: .ref a :: rest) (hd : decode c.code g.pc = .ok (.iaload, 1)) {target : State}
    (hr : Steps p.tables e below (T.setTop { g with pc := g.pc + 1, stack := .int v :: rest }) target) : Steps p.tables e below (T.setTop g) target := by
  subst hv
  obtain ⟨cl, A, q, -⟩ := A
  exact X.iaload hx (by rw [eT]; exact A.1) (State.isArrayOf_alike hZ.alike A.2.1) A.2.2 (own_in q (own_inbM hj)) ((own_get q (.int 0) (own_inbM hj).2).trans (congrArg some (own_mapGet hj.2))) hg hs hd _ hr
theorem own_ldB {bs : List Int32} {j v : Int32} (X : Stand p l e R s m args below meth c T locs cells slots) (hx : p.tables.exec = Jvm.exec) (hZ : Z.Warmed39 s.vm) (eT : T.heap = h) (A : own_Ar Z h a .byte (bs.map Value.int)) (hj : own_inb bs j) (hv : own_rd bs j = v) {g : JFrame} (hg : g.method = m) {rest : List Value} (hs : g.stack = .int j :: .ref a :: rest) (hd : decode c.code g.pc = .ok (.baload, 1)) {target : State}
    (hr : Steps p.tables e below (T.setTop { g with pc := g.pc + 1, stack := .int v :: rest }) target) : Steps p.tables e below (T.setTop g) target := by
  subst hv
  obtain ⟨cl, A, q, -⟩ := A
  exact X.baloadBytes hx (by rw [eT]; exact A.1) (State.isArrayOf_alike hZ.alike A.2.1) A.2.2 (own_in q (own_inbM hj)) ((own_get q (.int 0) (own_inbM hj).2).trans (congrArg some (own_mapGet hj.2))) hg hs hd _ hr
theorem own_ldZ {bs : List Int32} {j v : Int32} (X : Stand p l e R s m args below meth c T locs cells slots) (hx : p.tables.exec = Jvm.exec) (hZ : Z.Warmed39 s.vm) (eT : T.heap = h) (A : own_Ar Z h a .boolean (bs.map Value.int)) (hj : own_inb bs j) (hv : own_rd bs j = v) {g : JFrame} (hg : g.method = m) {rest : List Value} (hs : g.stack = .int j :: .ref a :: rest) (hd : decode c.code g.pc = .ok (.baload, 1)) {target : State}
    (hr : Steps p.tables e below (T.setTop { g with pc := g.pc + 1, stack := .int v :: rest }) target) : Steps p.tables e below (T.setTop g) target := by
  subst hv
  obtain ⟨cl, A, q, -⟩ := A
  exact X.baloadBooleans hx (by rw [eT]; exact A.1) (State.isArrayOf_alike hZ.alike A.2.1) A.2.2 (own_in q (own_inbM hj)) ((own_get q (.int 0) (own_inbM hj).2).trans (congrArg some (own_mapGet hj.2))) hg hs hd _ hr
theorem own_ldJ {bs : List Int64} {j : Int32} {v : Int64} (X : Stand p l e R s m args below meth c T locs cells slots) (hx : p.tables.exec = Jvm.exec) (hZ : Z.Warmed39 s.vm) (eT : T.heap = h) (A : own_Ar Z h a .long (bs.map Value.long)) (hj : own_inb bs j) (hv : own_rd bs j = v) {g : JFrame} (hg : g.method = m) {rest : List Value} (hs : g.stack = .int j :: .ref a :: rest) (hd : decode c.code g.pc = .ok (.laload, 1)) {target : State}
    (hr : Steps p.tables e below (T.setTop { g with pc := g.pc + 1, stack := .long v :: rest }) target) : Steps p.tables e below (T.setTop g) target := by
  subst hv
  obtain ⟨cl, A, q, -⟩ := A
  exact X.laload hx (by rw [eT]; exact A.1) (State.isArrayOf_alike hZ.alike A.2.1) A.2.2 (own_in q (own_inbM hj)) ((own_get q (.long 0) (own_inbM hj).2).trans (congrArg some (own_mapGetJ hj.2))) hg hs hd _ hr
theorem own_stI {bs : List Int32} {j x : Int32} (X : Stand p l e R s m args below meth c T locs cells slots) (hx : p.tables.exec = Jvm.exec) (hZ : Z.Warmed39 s.vm) (eT : T.heap = h) (A : own_Ar Z h a .int (bs.map Value.int)) (hj : own_inb bs j) {g : JFrame} (hg : g.method = m) {rest : List Value} (hs : g.stack = .int x :: .int j :: .ref a :: rest) (hd : decode c.code g.pc = .ok (.iastore, 1)) :
    ∃ T' h', Stand p l e R s m args below meth c T' (locs ++ [⟨a, j.toNatClampNeg⟩]) cells slots ∧ T'.heap = h' ∧ Wr h h' a j.toNatClampNeg (.int x) ∧ own_Ar Z h' a .int ((own_wr bs j x).map Value.int) ∧ ∀ target, Steps p.tables e below (T'.setTop { g with pc := g.pc + 1, stack := rest }) target → Steps p.tables e below (T.setTop g) target := by
  obtain ⟨cl, A, q, r, ft⟩ := A
  obtain ⟨T', h', X', e', W, st⟩ := stI X hx hZ eT A (own_in q (own_inbM hj)) hg hs hd
  exact ⟨T', h', X', e', W, ⟨_, A.same W, (own_set q).trans own_mapSet, by simpa [own_wr] using r, own_mapSet ▸ own_fits ft rfl⟩, st⟩
theorem own_stB {bs : List Int32} {j x : Int32} (X : Stand p l e R s m args below meth c T locs cells slots) (hx : p.tables.exec = Jvm.exec) (hZ : Z.Warmed39 s.vm) (eT : T.heap = h) (A : own_Ar Z h a .byte (bs.map Value.int)) (hj : own_inb bs j) {g : JFrame} (hg : g.method = m) {rest : List Value} (hs : g.stack = .int x :: .int j :: .ref a :: rest) (hd : decode c.code g.pc = .ok (.bastore, 1)) :
    ∃ T' h', Stand p l e R s m args below meth c T' (locs ++ [⟨a, j.toNatClampNeg⟩]) cells slots ∧ T'.heap = h' ∧ Wr h h' a j.toNatClampNeg (.int x.toInt8.toInt32) ∧ own_Ar Z h' a .byte ((own_wr bs j x.toInt8.toInt32).map Value.int) ∧ ∀ target, Steps p.tables e below (T'.setTop { g with pc := g.pc + 1, stack := rest }) target → Steps p.tables e below (T.setTop g) target := by
  obtain ⟨cl, A, q, r, ft⟩ := A
  obtain ⟨T', h', X', e', W, st⟩ := stB X hx hZ eT A (own_in q (own_inbM hj)) hg hs hd
  exact ⟨T', h', X', e', W, ⟨_, A.same W, (own_set q).trans own_mapSet, by simpa [own_wr] using r, own_mapSet ▸ own_fits ft (fits_nar_byte _)⟩, st⟩
theorem own_stZ {bs : List Int32} {j x : Int32} (X : Stand p l e R s m args below meth c T locs cells slots) (hx : p.tables.exec = Jvm.exec) (hZ : Z.Warmed39 s.vm) (eT : T.heap = h) (A : own_Ar Z h a .boolean (bs.map Value.int)) (hj : own_inb bs j) {g : JFrame} (hg : g.method = m) {rest : List Value} (hs : g.stack = .int x :: .int j :: .ref a :: rest) (hd : decode c.code g.pc = .ok (.bastore, 1)) :
    ∃ T' h', Stand p l e R s m args below meth c T' (locs ++ [⟨a, j.toNatClampNeg⟩]) cells slots ∧ T'.heap = h' ∧ Wr h h' a j.toNatClampNeg (.int (x &&& 1)) ∧ own_Ar Z h' a .boolean ((own_wr bs j (x &&& 1)).map Value.int) ∧ ∀ target, Steps p.tables e below (T'.setTop { g with pc := g.pc + 1, stack := rest }) target → Steps p.tables e below (T.setTop g) target := by
  obtain ⟨cl, A, q, r, ft⟩ := A
  obtain ⟨T', h', X', e', W, st⟩ := stZ X hx hZ eT A (own_in q (own_inbM hj)) hg hs hd
  exact ⟨T', h', X', e', W, ⟨_, A.same W, (own_set q).trans own_mapSet, by simpa [own_wr] using r, own_mapSet ▸ own_fits ft (fits_nar_bool _)⟩, st⟩
theorem own_stJ {bs : List Int64} {j : Int32} {x : Int64} (X : Stand p l e R s m args below meth c T locs cells slots) (hx : p.tables.exec = Jvm.exec) (hZ : Z.Warmed39 s.vm) (eT : T.heap = h) (A : own_Ar Z h a .long (bs.map Value.long)) (hj : own_inb bs j) {g : JFrame} (hg : g.method = m) {rest : List Value} (hs : g.stack = .long x :: .int j :: .ref a :: rest) (hd : decode c.code g.pc = .ok (.lastore, 1)) :
    ∃ T' h', Stand p l e R s m args below meth c T' (locs ++ [⟨a, j.toNatClampNeg⟩]) cells slots ∧ T'.heap = h' ∧ Wr h h' a j.toNatClampNeg (.long x) ∧ own_Ar Z h' a .long ((own_wr bs j x).map Value.long) ∧ ∀ target, Steps p.tables e below (T'.setTop { g with pc := g.pc + 1, stack := rest }) target → Steps p.tables e below (T.setTop g) target := by
  obtain ⟨cl, A, q, r, ft⟩ := A
  obtain ⟨T', h', X', e', W, st⟩ := stJ X hx hZ eT A (own_in q (own_inbM hj)) hg hs hd
  exact ⟨T', h', X', e', W, ⟨_, A.same W, (own_set q).trans own_mapSetJ, by simpa [own_wr] using r, own_mapSetJ ▸ own_fits ft rfl⟩, st⟩
theorem own_newI {k : ClassId} {n : Int32} {kk : Nat} (A : Arr Z h a (newA k ty n) ty) (q : ¬ n < 0) (hd : defaultValue ty = .int 0) (hk : n.toNatClampNeg = kk) : own_Ar Z h a ty ((List.replicate kk (0 : Int32)).map Value.int) := hk ▸
  ⟨_, A, by simp [newA, hd], by rw [List.length_map, List.length_replicate]; exact (back32 q).2, fun v hv => by
    rw [List.map_replicate] at hv
    rw [(List.mem_replicate.mp hv).2, ← hd]; cases ty <;> rfl⟩
theorem own_newJ {k : ClassId} {n : Int32} {kk : Nat} (A : Arr Z h a (newA k ty n) ty) (q : ¬ n < 0) (hd : defaultValue ty = .long 0) (hk : n.toNatClampNeg = kk) : own_Ar Z h a ty ((List.replicate kk (0 : Int64)).map Value.long) := hk ▸
  ⟨_, A, by simp [newA, hd], by rw [List.length_map, List.length_replicate]; exact (back32 q).2, fun v hv => by
    rw [List.map_replicate] at hv
    rw [(List.mem_replicate.mp hv).2, ← hd]; cases ty <;> rfl⟩
/-- the JDK's static COMPACT_STRINGS, which isn't false -/
def own_CS (Z : State) : Prop := ∃ w : Int32, Sta Z Z.heap "java/lang/String" "COMPACT_STRINGS" "Z" (.int w) ∧ ¬ w = 0
/-! 5. System.arraycopy of bytes -/
theorem own_lenI {n : Nat} (q : n < 2 ^ 31) : (Int32.ofNat n).toNatClampNeg = n ∧ ¬ Int32.ofNat n < 0 := by
  have e : (Int32.ofNat n).toInt = n := Int32.toInt_ofNat_of_lt q
  refine ⟨by rw [Int32.toNatClampNeg, e]; omega, ?_⟩
  rw [Int32.lt_iff_toInt_lt, e]
  have z : (0 : Int32).toInt = 0 := rfl
  omega
theorem own_arv {bs : List Int32} (A : own_Ar Z h a ty (bs.map Value.int)) : ∃ k, Arv Z h a k ty (Int32.ofNat bs.length) (bs.map Value.int) (.int 0) := by
  obtain ⟨c, A, q, r, ft⟩ := A
  have hl := own_lenI (n := bs.length) (by simpa using r)
  have sz : c.slots.size = bs.length := by rw [own_Ar.size q, List.length_map]
  refine ⟨c.cls, c, A, rfl, by rw [sz, hl.1], hl.2, fun i hi => own_get q _ (by rw [← own_Ar.size q]; exact hi), fun i hi => ?_⟩
  have hi' : i < (bs.map Value.int).length := by rw [← own_Ar.size q]; exact hi
  have e : (bs.map Value.int).getD i (.int 0) = (bs.map Value.int)[i] := by simp only [List.getD_eq_getElem?_getD, List.getElem?_eq_getElem hi', Option.getD_some]
  rw [e]
  exact ft _ (List.getElem_mem hi')
theorem own_varr {k : ClassId} {n : Int32} {bs : List Int32} (A : Arv Z h a k ty n (bs.map Value.int) (.int 0)) (hn : n.toNatClampNeg = bs.length) : own_Ar Z h a ty (bs.map Value.int) := by
  obtain ⟨c, A, -, S, q, H, G⟩ := A
  have sz : c.slots.size = (bs.map Value.int).length := by rw [S, hn, List.length_map]
  have lt : bs.length < 2 ^ 31 := by rw [← hn]; exact (back32 q).2
  have e : c.slots.toList = bs.map Value.int := by
    apply List.ext_getElem?
    intro i
    by_cases hi : i < c.slots.size
    · have := H i hi
      rw [Array.getElem?_toList, this, List.getElem?_eq_getElem (by rw [← sz]; exact hi)]
      congr 1
      simp only [List.getD_eq_getElem?_getD, List.getElem?_eq_getElem (show i < (bs.map Value.int).length by rw [← sz]; exact hi), Option.getD_some]
    · rw [Array.getElem?_toList, Array.getElem?_eq_none (by omega), List.getElem?_eq_none (by omega)]
  refine ⟨c, A, e, by rw [List.length_map]; exact lt, fun v hv => ?_⟩
  obtain ⟨i, hi, rfl⟩ := List.getElem_of_mem hv
  have := G i (by rw [sz]; exact hi)
  rw [List.getD_eq_getElem?_getD, List.getElem?_eq_getElem hi, Option.getD_some] at this
  exact this
theorem own_cpy {a0 : Array Value} {own : String} {index : Nat} {bs ds : List Int32} {sp dp nn : Int32} {n0 : Nat} (X : Stand p l e R s m args below meth c T locs cells slots) (hx : p.tables.exec = Jvm.exec) (hZ : Z.Warmed39 s.vm) (hown : s.vm.findClass own = some m.cls)
    (w1 : (Cond.methodLink own index Jvm.Stand.acN).before a0 Z = true) (w2 : (Cond.native Jvm.Stand.acN).before a0 Z = true) (w3 : (Cond.static Jvm.Stand.acN).before a0 Z = true) (w4 : (Cond.initialized "java/lang/System").before a0 Z = true) (eT : T.heap = h)
    (A : own_Ar Z h a .byte (bs.map Value.int)) (B : own_Ar Z h b .byte (ds.map Value.int)) (ok : own_cpok bs ds sp dp nn) (N : Fr n0 locs) (ge : n0 ≤ b)
    {g : JFrame} (hg : g.method = m) (hsize : g.locals.size = c.maxLocals) {rest : List Value} (hs : g.stack = .int nn :: .int dp :: .ref b :: .int sp :: .ref a :: rest) (hd : decode c.code g.pc = .ok (.invokestatic index, 3))
    (hf : 1 ≤ R.frames) {W : Nat} (hW : 2 * g.monitorRoom + (rest.map fun v => v.category).sum ≤ W) (hlo : W + (nativeFrameWords "java/lang/System" "arraycopy" 5 + 11) ≤ R.locals) :
    ∃ T' h' L, Stand p l e R s m args below meth c T' L cells slots ∧ T'.heap = h' ∧ Fr n0 L ∧ Keep h h' [b] ∧ own_Ar Z h' b .byte ((own_cp bs ds sp dp nn).map Value.int) ∧
      ∀ target, Steps p.tables e below (T'.setTop { g with pc := g.pc + 3, stack := rest }) target → Steps p.tables e below (T.setTop g) target := by
  have lb : bs.length < 2 ^ 31 := by obtain ⟨c, -, -, r, -⟩ := A; simpa using r
  have ld : ds.length < 2 ^ 31 := by obtain ⟨c, -, -, r, -⟩ := B; simpa using r
  obtain ⟨k, A⟩ := own_arv A
  obtain ⟨k', B⟩ := own_arv B
  obtain ⟨h1, h2, h3, h4, h5⟩ := ok
  obtain ⟨T', h', L, X', e', F, K, V, st⟩ := cpA X hx hZ hown w1 w2 w3 w4 eT A B (Or.inl ⟨rfl, rfl⟩) h1 h2 h3 (by rw [(own_lenI lb).1]; exact h4) (by rw [(own_lenI ld).1]; exact h5) rfl (by rw [List.length_map]; exact h5) N ge hg hsize hs hd hf hW hlo
  have eq : (ds.map Value.int).take dp.toNatClampNeg ++ ((List.range nn.toNatClampNeg).map fun i => (bs.map Value.int).getD (sp.toNatClampNeg + i) (.int 0)) ++ (ds.map Value.int).drop (dp.toNatClampNeg + nn.toNatClampNeg) = (own_cp bs ds sp dp nn).map Value.int := by
    rw [own_cp, List.map_append, List.map_append, List.map_take, List.map_drop, List.map_map]
    congr 2
    apply List.map_congr_left
    intro i hi
    exact own_mapGet (by have := List.mem_range.mp hi; omega)
  rw [eq] at V
  refine ⟨T', h', L, X', e', F, K, own_varr V ?_, st⟩
  rw [(own_lenI ld).1, own_cp]
  simp only [List.length_append, List.length_take, List.length_map, List.length_range, List.length_drop]
  omega
end Own
theorem w0 {a0 : Array Value} {Z : State} (hw : ∀ d ∈ tables_1, d.before a0 Z = true) : ((Jvm.Cond.methodLink "com/example/no_wait_scheduler/nowaitscheduler/verify/SummaryPassesPinLaw" (7 : Nat) ({ cls := "com/example/no_wait_scheduler/nowaitscheduler/verify/SummaryPassesPinLaw", name := "count", desc := "(IIJ)J" } : Jvm.MethodName))).before a0 Z = true := hw _ (List.mem_of_getElem? (i := 0) rfl)
theorem w1 {a0 : Array Value} {Z : State} (hw : ∀ d ∈ tables_1, d.before a0 Z = true) : ((Jvm.Cond.static ({ cls := "com/example/no_wait_scheduler/nowaitscheduler/verify/SummaryPassesPinLaw", name := "count", desc := "(IIJ)J" } : Jvm.MethodName))).before a0 Z = true := hw _ (List.mem_of_getElem? (i := 1) rfl)
theorem w2 {a0 : Array Value} {Z : State} (hw : ∀ d ∈ tables_1, d.before a0 Z = true) : ((Jvm.Cond.initialized "com/example/no_wait_scheduler/nowaitscheduler/verify/SummaryPassesPinLaw")).before a0 Z = true := hw _ (List.mem_of_getElem? (i := 2) rfl)
theorem w3 {a0 : Array Value} {Z : State} (hw : ∀ d ∈ tables_1, d.before a0 Z = true) : ((Jvm.Cond.code ({ cls := "com/example/no_wait_scheduler/nowaitscheduler/verify/SummaryPassesPinLaw", name := "count", desc := "(IIJ)J" } : Jvm.MethodName) method_2_code (4 : Nat) (Option.some Jvm.ClassFile.FieldType.long))).before a0 Z = true := hw _ (List.mem_of_getElem? (i := 3) rfl)
theorem w4 {a0 : Array Value} {Z : State} (hw : ∀ d ∈ tables_1, d.before a0 Z = true) : ((Jvm.Cond.classLink "com/example/no_wait_scheduler/nowaitscheduler/verify/SummaryPassesPinLaw" (19 : Nat) "com/example/no_wait_scheduler/nowaitscheduler/verify/Summary")).before a0 Z = true := hw _ (List.mem_of_getElem? (i := 4) rfl)
theorem w5 {a0 : Array Value} {Z : State} (hw : ∀ d ∈ tables_1, d.before a0 Z = true) : ((Jvm.Cond.instantiable "com/example/no_wait_scheduler/nowaitscheduler/verify/Summary" (10 : Nat))).before a0 Z = true := hw _ (List.mem_of_getElem? (i := 5) rfl)
theorem w6 {a0 : Array Value} {Z : State} (hw : ∀ d ∈ tables_1, d.before a0 Z = true) : ((Jvm.Cond.initialized "com/example/no_wait_scheduler/nowaitscheduler/verify/Summary")).before a0 Z = true := hw _ (List.mem_of_getElem? (i := 6) rfl)
theorem w7 {a0 : Array Value} {Z : State} (hw : ∀ d ∈ tables_1, d.before a0 Z = true) : ((Jvm.Cond.methodLink "com/example/no_wait_scheduler/nowaitscheduler/verify/SummaryPassesPinLaw" (21 : Nat) ({ cls := "com/example/no_wait_scheduler/nowaitscheduler/verify/Summary", name := "<init>", desc := "(JZJJJJJJJLjava/lang/String;)V" } : Jvm.MethodName))).before a0 Z = true := hw _ (List.mem_of_getElem? (i := 7) rfl)
theorem w8 {a0 : Array Value} {Z : State} (hw : ∀ d ∈ tables_1, d.before a0 Z = true) : ((Jvm.Cond.instanceMethod ({ cls := "com/example/no_wait_scheduler/nowaitscheduler/verify/Summary", name := "<init>", desc := "(JZJJJJJJJLjava/lang/String;)V" } : Jvm.MethodName))).before a0 Z = true := hw _ (List.mem_of_getElem? (i := 8) rfl)
theorem w9 {a0 : Array Value} {Z : State} (hw : ∀ d ∈ tables_1, d.before a0 Z = true) : ((Jvm.Cond.code ({ cls := "com/example/no_wait_scheduler/nowaitscheduler/verify/Summary", name := "<init>", desc := "(JZJJJJJJJLjava/lang/String;)V" } : Jvm.MethodName) prog_51_method_1_code (19 : Nat) (Option.none : Option Jvm.ClassFile.FieldType))).before a0 Z = true := hw _ (List.mem_of_getElem? (i := 9) rfl)
theorem w10 {a0 : Array Value} {Z : State} (hw : ∀ d ∈ tables_1, d.before a0 Z = true) : ((Jvm.Cond.methodLink "com/example/no_wait_scheduler/nowaitscheduler/verify/Summary" (1 : Nat) ({ cls := "java/lang/Object", name := "<init>", desc := "()V" } : Jvm.MethodName))).before a0 Z = true := hw _ (List.mem_of_getElem? (i := 10) rfl)
theorem w11 {a0 : Array Value} {Z : State} (hw : ∀ d ∈ tables_1, d.before a0 Z = true) : ((Jvm.Cond.instanceMethod ({ cls := "java/lang/Object", name := "<init>", desc := "()V" } : Jvm.MethodName))).before a0 Z = true := hw _ (List.mem_of_getElem? (i := 11) rfl)
theorem w12 {a0 : Array Value} {Z : State} (hw : ∀ d ∈ tables_1, d.before a0 Z = true) : ((Jvm.Cond.code ({ cls := "java/lang/Object", name := "<init>", desc := "()V" } : Jvm.MethodName) object_method_1_code (1 : Nat) (Option.none : Option Jvm.ClassFile.FieldType))).before a0 Z = true := hw _ (List.mem_of_getElem? (i := 12) rfl)
theorem w13 {a0 : Array Value} {Z : State} (hw : ∀ d ∈ tables_1, d.before a0 Z = true) : ((Jvm.Cond.fieldLink "com/example/no_wait_scheduler/nowaitscheduler/verify/Summary" (7 : Nat) "com/example/no_wait_scheduler/nowaitscheduler/verify/Summary" "frames" "J")).before a0 Z = true := hw _ (List.mem_of_getElem? (i := 13) rfl)
theorem w14 {a0 : Array Value} {Z : State} (hw : ∀ d ∈ tables_1, d.before a0 Z = true) : ((Jvm.Cond.laysFinal "com/example/no_wait_scheduler/nowaitscheduler/verify/Summary" "com/example/no_wait_scheduler/nowaitscheduler/verify/Summary" "frames" "J")).before a0 Z = true := hw _ (List.mem_of_getElem? (i := 14) rfl)
theorem w15 {a0 : Array Value} {Z : State} (hw : ∀ d ∈ tables_1, d.before a0 Z = true) : ((Jvm.Cond.fieldLink "com/example/no_wait_scheduler/nowaitscheduler/verify/Summary" (13 : Nat) "com/example/no_wait_scheduler/nowaitscheduler/verify/Summary" "fixedPlacement" "Z")).before a0 Z = true := hw _ (List.mem_of_getElem? (i := 15) rfl)
theorem w16 {a0 : Array Value} {Z : State} (hw : ∀ d ∈ tables_1, d.before a0 Z = true) : ((Jvm.Cond.laysFinal "com/example/no_wait_scheduler/nowaitscheduler/verify/Summary" "com/example/no_wait_scheduler/nowaitscheduler/verify/Summary" "fixedPlacement" "Z")).before a0 Z = true := hw _ (List.mem_of_getElem? (i := 16) rfl)
theorem w17 {a0 : Array Value} {Z : State} (hw : ∀ d ∈ tables_1, d.before a0 Z = true) : ((Jvm.Cond.fieldLink "com/example/no_wait_scheduler/nowaitscheduler/verify/Summary" (17 : Nat) "com/example/no_wait_scheduler/nowaitscheduler/verify/Summary" "conflicts" "J")).before a0 Z = true := hw _ (List.mem_of_getElem? (i := 17) rfl)
theorem w18 {a0 : Array Value} {Z : State} (hw : ∀ d ∈ tables_1, d.before a0 Z = true) : ((Jvm.Cond.laysFinal "com/example/no_wait_scheduler/nowaitscheduler/verify/Summary" "com/example/no_wait_scheduler/nowaitscheduler/verify/Summary" "conflicts" "J")).before a0 Z = true := hw _ (List.mem_of_getElem? (i := 18) rfl)
theorem w19 {a0 : Array Value} {Z : State} (hw : ∀ d ∈ tables_1, d.before a0 Z = true) : ((Jvm.Cond.fieldLink "com/example/no_wait_scheduler/nowaitscheduler/verify/Summary" (20 : Nat) "com/example/no_wait_scheduler/nowaitscheduler/verify/Summary" "early" "J")).before a0 Z = true := hw _ (List.mem_of_getElem? (i := 19) rfl)
theorem w20 {a0 : Array Value} {Z : State} (hw : ∀ d ∈ tables_1, d.before a0 Z = true) : ((Jvm.Cond.laysFinal "com/example/no_wait_scheduler/nowaitscheduler/verify/Summary" "com/example/no_wait_scheduler/nowaitscheduler/verify/Summary" "early" "J")).before a0 Z = true := hw _ (List.mem_of_getElem? (i := 20) rfl)
theorem w21 {a0 : Array Value} {Z : State} (hw : ∀ d ∈ tables_1, d.before a0 Z = true) : ((Jvm.Cond.fieldLink "com/example/no_wait_scheduler/nowaitscheduler/verify/Summary" (23 : Nat) "com/example/no_wait_scheduler/nowaitscheduler/verify/Summary" "order" "J")).before a0 Z = true := hw _ (List.mem_of_getElem? (i := 21) rfl)
theorem w22 {a0 : Array Value} {Z : State} (hw : ∀ d ∈ tables_1, d.before a0 Z = true) : ((Jvm.Cond.laysFinal "com/example/no_wait_scheduler/nowaitscheduler/verify/Summary" "com/example/no_wait_scheduler/nowaitscheduler/verify/Summary" "order" "J")).before a0 Z = true := hw _ (List.mem_of_getElem? (i := 22) rfl)
theorem w23 {a0 : Array Value} {Z : State} (hw : ∀ d ∈ tables_1, d.before a0 Z = true) : ((Jvm.Cond.fieldLink "com/example/no_wait_scheduler/nowaitscheduler/verify/Summary" (26 : Nat) "com/example/no_wait_scheduler/nowaitscheduler/verify/Summary" "window" "J")).before a0 Z = true := hw _ (List.mem_of_getElem? (i := 23) rfl)
theorem w24 {a0 : Array Value} {Z : State} (hw : ∀ d ∈ tables_1, d.before a0 Z = true) : ((Jvm.Cond.laysFinal "com/example/no_wait_scheduler/nowaitscheduler/verify/Summary" "com/example/no_wait_scheduler/nowaitscheduler/verify/Summary" "window" "J")).before a0 Z = true := hw _ (List.mem_of_getElem? (i := 24) rfl)
theorem w25 {a0 : Array Value} {Z : State} (hw : ∀ d ∈ tables_1, d.before a0 Z = true) : ((Jvm.Cond.fieldLink "com/example/no_wait_scheduler/nowaitscheduler/verify/Summary" (29 : Nat) "com/example/no_wait_scheduler/nowaitscheduler/verify/Summary" "missing" "J")).before a0 Z = true := hw _ (List.mem_of_getElem? (i := 25) rfl)
theorem w26 {a0 : Array Value} {Z : State} (hw : ∀ d ∈ tables_1, d.before a0 Z = true) : ((Jvm.Cond.laysFinal "com/example/no_wait_scheduler/nowaitscheduler/verify/Summary" "com/example/no_wait_scheduler/nowaitscheduler/verify/Summary" "missing" "J")).before a0 Z = true := hw _ (List.mem_of_getElem? (i := 26) rfl)
theorem w27 {a0 : Array Value} {Z : State} (hw : ∀ d ∈ tables_1, d.before a0 Z = true) : ((Jvm.Cond.fieldLink "com/example/no_wait_scheduler/nowaitscheduler/verify/Summary" (32 : Nat) "com/example/no_wait_scheduler/nowaitscheduler/verify/Summary" "waitingNs" "J")).before a0 Z = true := hw _ (List.mem_of_getElem? (i := 27) rfl)
theorem w28 {a0 : Array Value} {Z : State} (hw : ∀ d ∈ tables_1, d.before a0 Z = true) : ((Jvm.Cond.laysFinal "com/example/no_wait_scheduler/nowaitscheduler/verify/Summary" "com/example/no_wait_scheduler/nowaitscheduler/verify/Summary" "waitingNs" "J")).before a0 Z = true := hw _ (List.mem_of_getElem? (i := 28) rfl)
theorem w29 {a0 : Array Value} {Z : State} (hw : ∀ d ∈ tables_1, d.before a0 Z = true) : ((Jvm.Cond.fieldLink "com/example/no_wait_scheduler/nowaitscheduler/verify/Summary" (35 : Nat) "com/example/no_wait_scheduler/nowaitscheduler/verify/Summary" "flowspanNs" "J")).before a0 Z = true := hw _ (List.mem_of_getElem? (i := 29) rfl)
theorem w30 {a0 : Array Value} {Z : State} (hw : ∀ d ∈ tables_1, d.before a0 Z = true) : ((Jvm.Cond.laysFinal "com/example/no_wait_scheduler/nowaitscheduler/verify/Summary" "com/example/no_wait_scheduler/nowaitscheduler/verify/Summary" "flowspanNs" "J")).before a0 Z = true := hw _ (List.mem_of_getElem? (i := 30) rfl)
theorem w31 {a0 : Array Value} {Z : State} (hw : ∀ d ∈ tables_1, d.before a0 Z = true) : ((Jvm.Cond.fieldLink "com/example/no_wait_scheduler/nowaitscheduler/verify/Summary" (38 : Nat) "com/example/no_wait_scheduler/nowaitscheduler/verify/Summary" "firstFinding" "Ljava/lang/String;")).before a0 Z = true := hw _ (List.mem_of_getElem? (i := 31) rfl)
theorem w32 {a0 : Array Value} {Z : State} (hw : ∀ d ∈ tables_1, d.before a0 Z = true) : ((Jvm.Cond.laysFinal "com/example/no_wait_scheduler/nowaitscheduler/verify/Summary" "com/example/no_wait_scheduler/nowaitscheduler/verify/Summary" "firstFinding" "Ljava/lang/String;")).before a0 Z = true := hw _ (List.mem_of_getElem? (i := 32) rfl)
theorem w33 {a0 : Array Value} {Z : State} (hw : ∀ d ∈ tables_1, d.before a0 Z = true) : ((Jvm.Cond.methodLink "com/example/no_wait_scheduler/nowaitscheduler/verify/SummaryPassesPinLaw" (24 : Nat) ({ cls := "com/example/no_wait_scheduler/nowaitscheduler/verify/Summary", name := "passes", desc := "()Z" } : Jvm.MethodName))).before a0 Z = true := hw _ (List.mem_of_getElem? (i := 33) rfl)
theorem w34 {a0 : Array Value} {Z : State} (hw : ∀ d ∈ tables_1, d.before a0 Z = true) : ((Jvm.Cond.declares ({ cls := "com/example/no_wait_scheduler/nowaitscheduler/verify/Summary", name := "passes", desc := "()Z" } : Jvm.MethodName))).before a0 Z = true := hw _ (List.mem_of_getElem? (i := 34) rfl)
theorem w35 {a0 : Array Value} {Z : State} (hw : ∀ d ∈ tables_1, d.before a0 Z = true) : ((Jvm.Cond.instanceMethod ({ cls := "com/example/no_wait_scheduler/nowaitscheduler/verify/Summary", name := "passes", desc := "()Z" } : Jvm.MethodName))).before a0 Z = true := hw _ (List.mem_of_getElem? (i := 35) rfl)
theorem w36 {a0 : Array Value} {Z : State} (hw : ∀ d ∈ tables_1, d.before a0 Z = true) : ((Jvm.Cond.selects "com/example/no_wait_scheduler/nowaitscheduler/verify/Summary" ({ cls := "com/example/no_wait_scheduler/nowaitscheduler/verify/Summary", name := "passes", desc := "()Z" } : Jvm.MethodName) ({ cls := "com/example/no_wait_scheduler/nowaitscheduler/verify/Summary", name := "passes", desc := "()Z" } : Jvm.MethodName))).before a0 Z = true := hw _ (List.mem_of_getElem? (i := 36) rfl)
theorem w37 {a0 : Array Value} {Z : State} (hw : ∀ d ∈ tables_1, d.before a0 Z = true) : ((Jvm.Cond.code ({ cls := "com/example/no_wait_scheduler/nowaitscheduler/verify/Summary", name := "passes", desc := "()Z" } : Jvm.MethodName) prog_51_method_2_code (1 : Nat) (Option.some Jvm.ClassFile.FieldType.boolean))).before a0 Z = true := hw _ (List.mem_of_getElem? (i := 37) rfl)
theorem w38 {a0 : Array Value} {Z : State} (hw : ∀ d ∈ tables_1, d.before a0 Z = true) : ((Jvm.Cond.methodLink "com/example/no_wait_scheduler/nowaitscheduler/verify/SummaryPassesPinLaw" (28 : Nat) ({ cls := "com/example/no_wait_scheduler/nowaitscheduler/verify/Summary", name := "findings", desc := "()J" } : Jvm.MethodName))).before a0 Z = true := hw _ (List.mem_of_getElem? (i := 38) rfl)
theorem w39 {a0 : Array Value} {Z : State} (hw : ∀ d ∈ tables_1, d.before a0 Z = true) : ((Jvm.Cond.declares ({ cls := "com/example/no_wait_scheduler/nowaitscheduler/verify/Summary", name := "findings", desc := "()J" } : Jvm.MethodName))).before a0 Z = true := hw _ (List.mem_of_getElem? (i := 39) rfl)
theorem w40 {a0 : Array Value} {Z : State} (hw : ∀ d ∈ tables_1, d.before a0 Z = true) : ((Jvm.Cond.instanceMethod ({ cls := "com/example/no_wait_scheduler/nowaitscheduler/verify/Summary", name := "findings", desc := "()J" } : Jvm.MethodName))).before a0 Z = true := hw _ (List.mem_of_getElem? (i := 40) rfl)
theorem w41 {a0 : Array Value} {Z : State} (hw : ∀ d ∈ tables_1, d.before a0 Z = true) : ((Jvm.Cond.selects "com/example/no_wait_scheduler/nowaitscheduler/verify/Summary" ({ cls := "com/example/no_wait_scheduler/nowaitscheduler/verify/Summary", name := "findings", desc := "()J" } : Jvm.MethodName) ({ cls := "com/example/no_wait_scheduler/nowaitscheduler/verify/Summary", name := "findings", desc := "()J" } : Jvm.MethodName))).before a0 Z = true := hw _ (List.mem_of_getElem? (i := 41) rfl)
theorem w42 {a0 : Array Value} {Z : State} (hw : ∀ d ∈ tables_1, d.before a0 Z = true) : ((Jvm.Cond.code ({ cls := "com/example/no_wait_scheduler/nowaitscheduler/verify/Summary", name := "findings", desc := "()J" } : Jvm.MethodName) prog_51_method_3_code (1 : Nat) (Option.some Jvm.ClassFile.FieldType.long))).before a0 Z = true := hw _ (List.mem_of_getElem? (i := 42) rfl)
theorem w43 {a0 : Array Value} {Z : State} (hw : ∀ d ∈ tables_1, d.before a0 Z = true) : ((Jvm.Cond.methodLink "com/example/no_wait_scheduler/nowaitscheduler/verify/SummaryPassesPinLaw" (13 : Nat) ({ cls := "java/lang/String", name := "valueOf", desc := "(C)Ljava/lang/String;" } : Jvm.MethodName))).before a0 Z = true := hw _ (List.mem_of_getElem? (i := 43) rfl)
theorem w44 {a0 : Array Value} {Z : State} (hw : ∀ d ∈ tables_1, d.before a0 Z = true) : ((Jvm.Cond.static ({ cls := "java/lang/String", name := "valueOf", desc := "(C)Ljava/lang/String;" } : Jvm.MethodName))).before a0 Z = true := hw _ (List.mem_of_getElem? (i := 44) rfl)
theorem w45 {a0 : Array Value} {Z : State} (hw : ∀ d ∈ tables_1, d.before a0 Z = true) : ((Jvm.Cond.initialized "java/lang/String")).before a0 Z = true := hw _ (List.mem_of_getElem? (i := 45) rfl)
theorem w46 {a0 : Array Value} {Z : State} (hw : ∀ d ∈ tables_1, d.before a0 Z = true) : ((Jvm.Cond.code ({ cls := "java/lang/String", name := "valueOf", desc := "(C)Ljava/lang/String;" } : Jvm.MethodName) jdk_42_method_139_code (1 : Nat) (Option.some (Jvm.ClassFile.FieldType.object "java/lang/String")))).before a0 Z = true := hw _ (List.mem_of_getElem? (i := 46) rfl)
theorem w47 {a0 : Array Value} {Z : State} (hw : ∀ d ∈ tables_1, d.before a0 Z = true) : ((Jvm.Cond.fieldLink "java/lang/String" (38 : Nat) "java/lang/String" "COMPACT_STRINGS" "Z")).before a0 Z = true := hw _ (List.mem_of_getElem? (i := 47) rfl)
theorem w48 {a0 : Array Value} {Z : State} (hw : ∀ d ∈ tables_1, d.before a0 Z = true) : ((Jvm.Cond.methodLink "java/lang/String" (1015 : Nat) ({ cls := "java/lang/StringLatin1", name := "canEncode", desc := "(C)Z" } : Jvm.MethodName))).before a0 Z = true := hw _ (List.mem_of_getElem? (i := 48) rfl)
theorem w49 {a0 : Array Value} {Z : State} (hw : ∀ d ∈ tables_1, d.before a0 Z = true) : ((Jvm.Cond.static ({ cls := "java/lang/StringLatin1", name := "canEncode", desc := "(C)Z" } : Jvm.MethodName))).before a0 Z = true := hw _ (List.mem_of_getElem? (i := 49) rfl)
theorem w50 {a0 : Array Value} {Z : State} (hw : ∀ d ∈ tables_1, d.before a0 Z = true) : ((Jvm.Cond.initialized "java/lang/StringLatin1")).before a0 Z = true := hw _ (List.mem_of_getElem? (i := 50) rfl)
theorem w51 {a0 : Array Value} {Z : State} (hw : ∀ d ∈ tables_1, d.before a0 Z = true) : ((Jvm.Cond.code ({ cls := "java/lang/StringLatin1", name := "canEncode", desc := "(C)Z" } : Jvm.MethodName) jdk_43_method_3_code (1 : Nat) (Option.some Jvm.ClassFile.FieldType.boolean))).before a0 Z = true := hw _ (List.mem_of_getElem? (i := 51) rfl)
theorem w52 {a0 : Array Value} {Z : State} (hw : ∀ d ∈ tables_1, d.before a0 Z = true) : ((Jvm.Cond.classLink "java/lang/String" (10 : Nat) "java/lang/String")).before a0 Z = true := hw _ (List.mem_of_getElem? (i := 52) rfl)
theorem w53 {a0 : Array Value} {Z : State} (hw : ∀ d ∈ tables_1, d.before a0 Z = true) : ((Jvm.Cond.instantiable "java/lang/String" (4 : Nat))).before a0 Z = true := hw _ (List.mem_of_getElem? (i := 53) rfl)
theorem w54 {a0 : Array Value} {Z : State} (hw : ∀ d ∈ tables_1, d.before a0 Z = true) : ((Jvm.Cond.methodLink "java/lang/String" (1018 : Nat) ({ cls := "java/lang/StringLatin1", name := "toBytes", desc := "(C)[B" } : Jvm.MethodName))).before a0 Z = true := hw _ (List.mem_of_getElem? (i := 54) rfl)
theorem w55 {a0 : Array Value} {Z : State} (hw : ∀ d ∈ tables_1, d.before a0 Z = true) : ((Jvm.Cond.static ({ cls := "java/lang/StringLatin1", name := "toBytes", desc := "(C)[B" } : Jvm.MethodName))).before a0 Z = true := hw _ (List.mem_of_getElem? (i := 55) rfl)
theorem w56 {a0 : Array Value} {Z : State} (hw : ∀ d ∈ tables_1, d.before a0 Z = true) : ((Jvm.Cond.code ({ cls := "java/lang/StringLatin1", name := "toBytes", desc := "(C)[B" } : Jvm.MethodName) jdk_43_method_46_code (1 : Nat) (Option.some (Jvm.ClassFile.FieldType.array Jvm.ClassFile.FieldType.byte)))).before a0 Z = true := hw _ (List.mem_of_getElem? (i := 56) rfl)
theorem w57 {a0 : Array Value} {Z : State} (hw : ∀ d ∈ tables_1, d.before a0 Z = true) : ((Jvm.Cond.arrayClass Jvm.ClassFile.FieldType.byte)).before a0 Z = true := hw _ (List.mem_of_getElem? (i := 57) rfl)
theorem w58 {a0 : Array Value} {Z : State} (hw : ∀ d ∈ tables_1, d.before a0 Z = true) : ((Jvm.Cond.methodLink "java/lang/String" (209 : Nat) ({ cls := "java/lang/String", name := "<init>", desc := "([BB)V" } : Jvm.MethodName))).before a0 Z = true := hw _ (List.mem_of_getElem? (i := 58) rfl)
theorem w59 {a0 : Array Value} {Z : State} (hw : ∀ d ∈ tables_1, d.before a0 Z = true) : ((Jvm.Cond.instanceMethod ({ cls := "java/lang/String", name := "<init>", desc := "([BB)V" } : Jvm.MethodName))).before a0 Z = true := hw _ (List.mem_of_getElem? (i := 59) rfl)
theorem w61 {a0 : Array Value} {Z : State} (hw : ∀ d ∈ tables_1, d.before a0 Z = true) : ((Jvm.Cond.code ({ cls := "java/lang/String", name := "<init>", desc := "([BB)V" } : Jvm.MethodName) jdk_42_method_151_code (3 : Nat) (Option.none : Option Jvm.ClassFile.FieldType))).before a0 Z = true := hw _ (List.mem_of_getElem? (i := 61) rfl)
theorem w62 {a0 : Array Value} {Z : State} (hw : ∀ d ∈ tables_1, d.before a0 Z = true) : ((Jvm.Cond.methodLink "java/lang/String" (1 : Nat) ({ cls := "java/lang/Object", name := "<init>", desc := "()V" } : Jvm.MethodName))).before a0 Z = true := hw _ (List.mem_of_getElem? (i := 62) rfl)
theorem w63 {a0 : Array Value} {Z : State} (hw : ∀ d ∈ tables_1, d.before a0 Z = true) : ((Jvm.Cond.fieldLink "java/lang/String" (9 : Nat) "java/lang/String" "value" "[B")).before a0 Z = true := hw _ (List.mem_of_getElem? (i := 63) rfl)
theorem w64 {a0 : Array Value} {Z : State} (hw : ∀ d ∈ tables_1, d.before a0 Z = true) : ((Jvm.Cond.laysFinal "java/lang/String" "java/lang/String" "value" "[B")).before a0 Z = true := hw _ (List.mem_of_getElem? (i := 64) rfl)
theorem w65 {a0 : Array Value} {Z : State} (hw : ∀ d ∈ tables_1, d.before a0 Z = true) : ((Jvm.Cond.fieldLink "java/lang/String" (15 : Nat) "java/lang/String" "coder" "B")).before a0 Z = true := hw _ (List.mem_of_getElem? (i := 65) rfl)
theorem w66 {a0 : Array Value} {Z : State} (hw : ∀ d ∈ tables_1, d.before a0 Z = true) : ((Jvm.Cond.laysFinal "java/lang/String" "java/lang/String" "coder" "B")).before a0 Z = true := hw _ (List.mem_of_getElem? (i := 66) rfl)
theorem pn_com_example_no_wait_scheduler_nowaitscheduler_verify_SummaryPassesPinLaw : plainName "com/example/no_wait_scheduler/nowaitscheduler/verify/SummaryPassesPinLaw" = true := by first | (simp [plainName, overriddenIn]; done) | decide +kernel
theorem pn_com_example_no_wait_scheduler_nowaitscheduler_verify_Summary : plainName "com/example/no_wait_scheduler/nowaitscheduler/verify/Summary" = true := by first | (simp [plainName, overriddenIn]; done) | decide +kernel
theorem pn_java_lang_StringLatin1 : plainName "java/lang/StringLatin1" = true := by first | (simp [plainName, overriddenIn]; done) | decide +kernel
theorem pn_java_lang_String : plainName "java/lang/String" = true := by first | (simp [plainName, overriddenIn]; done) | decide +kernel
theorem pd_0 : parseMethodDescriptor "(IIJ)J" = some ⟨[.int, .int, .long], some .long⟩ := by decide +kernel
theorem pd_1 : parseMethodDescriptor "(JZJJJJJJJLjava/lang/String;)V" = some ⟨[.long, .boolean, .long, .long, .long, .long, .long, .long, .long, (.object "java/lang/String")], none⟩ := by decide +kernel
theorem pd_2 : parseMethodDescriptor "()Z" = some ⟨[], some .boolean⟩ := by decide +kernel
theorem pd_3 : parseMethodDescriptor "()J" = some ⟨[], some .long⟩ := by decide +kernel
theorem pd_4 : parseMethodDescriptor "(C)Z" = some ⟨[.char], some .boolean⟩ := by decide +kernel
theorem pd_5 : parseMethodDescriptor "(C)[B" = some ⟨[.char], some (.array .byte)⟩ := by decide +kernel
theorem pd_6 : parseMethodDescriptor "([BB)V" = some ⟨[(.array .byte), .byte], none⟩ := by decide +kernel
theorem pd_7 : parseMethodDescriptor "(C)Ljava/lang/String;" = some ⟨[.char], some (.object "java/lang/String")⟩ := by decide +kernel
theorem dSummaryPassesPinLaw_count_0 : decode method_2_code 0 = .ok (.iload_n 0, 1) := by decide +kernel
theorem dSummaryPassesPinLaw_count_1 : decode method_2_code 1 = .ok (.iload_n 1, 1) := by decide +kernel
theorem dSummaryPassesPinLaw_count_2 : decode method_2_code 2 = .ok (.iushr, 1) := by decide +kernel
theorem dSummaryPassesPinLaw_count_3 : decode method_2_code 3 = .ok (.iconst 1, 1) := by decide +kernel
theorem dSummaryPassesPinLaw_count_4 : decode method_2_code 4 = .ok (.iand, 1) := by decide +kernel
theorem dSummaryPassesPinLaw_count_5 : decode method_2_code 5 = .ok (.ifCond .ne 5, 3) := by decide +kernel
theorem dSummaryPassesPinLaw_count_8 : decode method_2_code 8 = .ok (.lconst 0, 1) := by decide +kernel
theorem dSummaryPassesPinLaw_count_9 : decode method_2_code 9 = .ok (.lreturn, 1) := by decide +kernel
theorem dSummaryPassesPinLaw_count_10 : decode method_2_code 10 = .ok (.lload_n 2, 1) := by decide +kernel
theorem dSummaryPassesPinLaw_count_11 : decode method_2_code 11 = .ok (.iconst 4, 1) := by decide +kernel
theorem dSummaryPassesPinLaw_count_12 : decode method_2_code 12 = .ok (.lushr, 1) := by decide +kernel
theorem dSummaryPassesPinLaw_count_13 : decode method_2_code 13 = .ok (.lconst 1, 1) := by decide +kernel
theorem dSummaryPassesPinLaw_count_14 : decode method_2_code 14 = .ok (.ladd, 1) := by decide +kernel
theorem dSummaryPassesPinLaw_count_15 : decode method_2_code 15 = .ok (.lreturn, 1) := by decide +kernel
theorem dSummary_mk_0 : decode prog_51_method_1_code 0 = .ok (.aload_n 0, 1) := by decide +kernel
theorem dSummary_mk_1 : decode prog_51_method_1_code 1 = .ok (.invokespecial 1, 3) := by decide +kernel
theorem dSummary_mk_4 : decode prog_51_method_1_code 4 = .ok (.aload_n 0, 1) := by decide +kernel
theorem dSummary_mk_5 : decode prog_51_method_1_code 5 = .ok (.lload_n 1, 1) := by decide +kernel
theorem dSummary_mk_6 : decode prog_51_method_1_code 6 = .ok (.putfield 7, 3) := by decide +kernel
theorem dSummary_mk_9 : decode prog_51_method_1_code 9 = .ok (.aload_n 0, 1) := by decide +kernel
theorem dSummary_mk_10 : decode prog_51_method_1_code 10 = .ok (.iload_n 3, 1) := by decide +kernel
theorem dSummary_mk_11 : decode prog_51_method_1_code 11 = .ok (.putfield 13, 3) := by decide +kernel
theorem dSummary_mk_14 : decode prog_51_method_1_code 14 = .ok (.aload_n 0, 1) := by decide +kernel
theorem dSummary_mk_15 : decode prog_51_method_1_code 15 = .ok (.lload 4, 2) := by decide +kernel
theorem dSummary_mk_17 : decode prog_51_method_1_code 17 = .ok (.putfield 17, 3) := by decide +kernel
theorem dSummary_mk_20 : decode prog_51_method_1_code 20 = .ok (.aload_n 0, 1) := by decide +kernel
theorem dSummary_mk_21 : decode prog_51_method_1_code 21 = .ok (.lload 6, 2) := by decide +kernel
theorem dSummary_mk_23 : decode prog_51_method_1_code 23 = .ok (.putfield 20, 3) := by decide +kernel
theorem dSummary_mk_26 : decode prog_51_method_1_code 26 = .ok (.aload_n 0, 1) := by decide +kernel
theorem dSummary_mk_27 : decode prog_51_method_1_code 27 = .ok (.lload 8, 2) := by decide +kernel
theorem dSummary_mk_29 : decode prog_51_method_1_code 29 = .ok (.putfield 23, 3) := by decide +kernel
theorem dSummary_mk_32 : decode prog_51_method_1_code 32 = .ok (.aload_n 0, 1) := by decide +kernel
theorem dSummary_mk_33 : decode prog_51_method_1_code 33 = .ok (.lload 10, 2) := by decide +kernel
theorem dSummary_mk_35 : decode prog_51_method_1_code 35 = .ok (.putfield 26, 3) := by decide +kernel
theorem dSummary_mk_38 : decode prog_51_method_1_code 38 = .ok (.aload_n 0, 1) := by decide +kernel
theorem dSummary_mk_39 : decode prog_51_method_1_code 39 = .ok (.lload 12, 2) := by decide +kernel
theorem dSummary_mk_41 : decode prog_51_method_1_code 41 = .ok (.putfield 29, 3) := by decide +kernel
theorem dSummary_mk_44 : decode prog_51_method_1_code 44 = .ok (.aload_n 0, 1) := by decide +kernel
theorem dSummary_mk_45 : decode prog_51_method_1_code 45 = .ok (.lload 14, 2) := by decide +kernel
theorem dSummary_mk_47 : decode prog_51_method_1_code 47 = .ok (.putfield 32, 3) := by decide +kernel
theorem dSummary_mk_50 : decode prog_51_method_1_code 50 = .ok (.aload_n 0, 1) := by decide +kernel
theorem dSummary_mk_51 : decode prog_51_method_1_code 51 = .ok (.lload 16, 2) := by decide +kernel
theorem dSummary_mk_53 : decode prog_51_method_1_code 53 = .ok (.putfield 35, 3) := by decide +kernel
theorem dSummary_mk_56 : decode prog_51_method_1_code 56 = .ok (.aload_n 0, 1) := by decide +kernel
theorem dSummary_mk_57 : decode prog_51_method_1_code 57 = .ok (.aload 18, 2) := by decide +kernel
theorem dSummary_mk_59 : decode prog_51_method_1_code 59 = .ok (.putfield 38, 3) := by decide +kernel
theorem dSummary_mk_62 : decode prog_51_method_1_code 62 = .ok (.return_, 1) := by decide +kernel
theorem dSummary_passes_0 : decode prog_51_method_2_code 0 = .ok (.aload_n 0, 1) := by decide +kernel
theorem dSummary_passes_1 : decode prog_51_method_2_code 1 = .ok (.getfield 17, 3) := by decide +kernel
theorem dSummary_passes_4 : decode prog_51_method_2_code 4 = .ok (.lconst 0, 1) := by decide +kernel
theorem dSummary_passes_5 : decode prog_51_method_2_code 5 = .ok (.lcmp, 1) := by decide +kernel
theorem dSummary_passes_6 : decode prog_51_method_2_code 6 = .ok (.ifCond .ne 43, 3) := by decide +kernel
theorem dSummary_passes_9 : decode prog_51_method_2_code 9 = .ok (.aload_n 0, 1) := by decide +kernel
theorem dSummary_passes_10 : decode prog_51_method_2_code 10 = .ok (.getfield 20, 3) := by decide +kernel
theorem dSummary_passes_13 : decode prog_51_method_2_code 13 = .ok (.lconst 0, 1) := by decide +kernel
theorem dSummary_passes_14 : decode prog_51_method_2_code 14 = .ok (.lcmp, 1) := by decide +kernel
theorem dSummary_passes_15 : decode prog_51_method_2_code 15 = .ok (.ifCond .ne 34, 3) := by decide +kernel
theorem dSummary_passes_18 : decode prog_51_method_2_code 18 = .ok (.aload_n 0, 1) := by decide +kernel
theorem dSummary_passes_19 : decode prog_51_method_2_code 19 = .ok (.getfield 23, 3) := by decide +kernel
theorem dSummary_passes_22 : decode prog_51_method_2_code 22 = .ok (.lconst 0, 1) := by decide +kernel
theorem dSummary_passes_23 : decode prog_51_method_2_code 23 = .ok (.lcmp, 1) := by decide +kernel
theorem dSummary_passes_24 : decode prog_51_method_2_code 24 = .ok (.ifCond .ne 25, 3) := by decide +kernel
theorem dSummary_passes_27 : decode prog_51_method_2_code 27 = .ok (.aload_n 0, 1) := by decide +kernel
theorem dSummary_passes_28 : decode prog_51_method_2_code 28 = .ok (.getfield 26, 3) := by decide +kernel
theorem dSummary_passes_31 : decode prog_51_method_2_code 31 = .ok (.lconst 0, 1) := by decide +kernel
theorem dSummary_passes_32 : decode prog_51_method_2_code 32 = .ok (.lcmp, 1) := by decide +kernel
theorem dSummary_passes_33 : decode prog_51_method_2_code 33 = .ok (.ifCond .ne 16, 3) := by decide +kernel
theorem dSummary_passes_36 : decode prog_51_method_2_code 36 = .ok (.aload_n 0, 1) := by decide +kernel
theorem dSummary_passes_37 : decode prog_51_method_2_code 37 = .ok (.getfield 29, 3) := by decide +kernel
theorem dSummary_passes_40 : decode prog_51_method_2_code 40 = .ok (.lconst 0, 1) := by decide +kernel
theorem dSummary_passes_41 : decode prog_51_method_2_code 41 = .ok (.lcmp, 1) := by decide +kernel
theorem dSummary_passes_42 : decode prog_51_method_2_code 42 = .ok (.ifCond .ne 7, 3) := by decide +kernel
theorem dSummary_passes_45 : decode prog_51_method_2_code 45 = .ok (.iconst 1, 1) := by decide +kernel
theorem dSummary_passes_46 : decode prog_51_method_2_code 46 = .ok (.goto 4, 3) := by decide +kernel
theorem dSummary_passes_49 : decode prog_51_method_2_code 49 = .ok (.iconst 0, 1) := by decide +kernel
theorem dSummary_passes_50 : decode prog_51_method_2_code 50 = .ok (.ireturn, 1) := by decide +kernel
theorem dSummary_findings_0 : decode prog_51_method_3_code 0 = .ok (.aload_n 0, 1) := by decide +kernel
theorem dSummary_findings_1 : decode prog_51_method_3_code 1 = .ok (.getfield 17, 3) := by decide +kernel
theorem dSummary_findings_4 : decode prog_51_method_3_code 4 = .ok (.aload_n 0, 1) := by decide +kernel
theorem dSummary_findings_5 : decode prog_51_method_3_code 5 = .ok (.getfield 20, 3) := by decide +kernel
theorem dSummary_findings_8 : decode prog_51_method_3_code 8 = .ok (.ladd, 1) := by decide +kernel
theorem dSummary_findings_9 : decode prog_51_method_3_code 9 = .ok (.aload_n 0, 1) := by decide +kernel
theorem dSummary_findings_10 : decode prog_51_method_3_code 10 = .ok (.getfield 23, 3) := by decide +kernel
theorem dSummary_findings_13 : decode prog_51_method_3_code 13 = .ok (.ladd, 1) := by decide +kernel
theorem dSummary_findings_14 : decode prog_51_method_3_code 14 = .ok (.aload_n 0, 1) := by decide +kernel
theorem dSummary_findings_15 : decode prog_51_method_3_code 15 = .ok (.getfield 26, 3) := by decide +kernel
theorem dSummary_findings_18 : decode prog_51_method_3_code 18 = .ok (.ladd, 1) := by decide +kernel
theorem dSummary_findings_19 : decode prog_51_method_3_code 19 = .ok (.aload_n 0, 1) := by decide +kernel
theorem dSummary_findings_20 : decode prog_51_method_3_code 20 = .ok (.getfield 29, 3) := by decide +kernel
theorem dSummary_findings_23 : decode prog_51_method_3_code 23 = .ok (.ladd, 1) := by decide +kernel
theorem dSummary_findings_24 : decode prog_51_method_3_code 24 = .ok (.lreturn, 1) := by decide +kernel
theorem dString_valueOf_0 : decode jdk_42_method_139_code 0 = .ok (.getstatic 38, 3) := by decide +kernel
theorem dString_valueOf_3 : decode jdk_42_method_139_code 3 = .ok (.ifCond .eq 23, 3) := by decide +kernel
theorem dString_valueOf_6 : decode jdk_42_method_139_code 6 = .ok (.iload_n 0, 1) := by decide +kernel
theorem dString_valueOf_7 : decode jdk_42_method_139_code 7 = .ok (.invokestatic 1015, 3) := by decide +kernel
theorem dString_valueOf_10 : decode jdk_42_method_139_code 10 = .ok (.ifCond .eq 16, 3) := by decide +kernel
theorem dString_valueOf_13 : decode jdk_42_method_139_code 13 = .ok (.new 10, 3) := by decide +kernel
theorem dString_valueOf_16 : decode jdk_42_method_139_code 16 = .ok (.dup, 1) := by decide +kernel
theorem dString_valueOf_17 : decode jdk_42_method_139_code 17 = .ok (.iload_n 0, 1) := by decide +kernel
theorem dString_valueOf_18 : decode jdk_42_method_139_code 18 = .ok (.invokestatic 1018, 3) := by decide +kernel
theorem dString_valueOf_21 : decode jdk_42_method_139_code 21 = .ok (.iconst 0, 1) := by decide +kernel
theorem dString_valueOf_22 : decode jdk_42_method_139_code 22 = .ok (.invokespecial 209, 3) := by decide +kernel
theorem dString_valueOf_25 : decode jdk_42_method_139_code 25 = .ok (.areturn, 1) := by decide +kernel
theorem dString_valueOf_26 : decode jdk_42_method_139_code 26 = .ok (.new 10, 3) := by decide +kernel
theorem dString_valueOf_29 : decode jdk_42_method_139_code 29 = .ok (.dup, 1) := by decide +kernel
theorem dString_valueOf_30 : decode jdk_42_method_139_code 30 = .ok (.iload_n 0, 1) := by decide +kernel
theorem dString_valueOf_31 : decode jdk_42_method_139_code 31 = .ok (.invokestatic 1021, 3) := by decide +kernel
theorem dStringLatin1_canEncode_0 : decode jdk_43_method_3_code 0 = .ok (.iload_n 0, 1) := by decide +kernel
theorem dStringLatin1_canEncode_1 : decode jdk_43_method_3_code 1 = .ok (.sipush 255, 3) := by decide +kernel
theorem dStringLatin1_canEncode_4 : decode jdk_43_method_3_code 4 = .ok (.if_icmp .gt 7, 3) := by decide +kernel
theorem dStringLatin1_canEncode_7 : decode jdk_43_method_3_code 7 = .ok (.iconst 1, 1) := by decide +kernel
theorem dStringLatin1_canEncode_8 : decode jdk_43_method_3_code 8 = .ok (.goto 4, 3) := by decide +kernel
theorem dStringLatin1_canEncode_11 : decode jdk_43_method_3_code 11 = .ok (.iconst 0, 1) := by decide +kernel
theorem dStringLatin1_canEncode_12 : decode jdk_43_method_3_code 12 = .ok (.ireturn, 1) := by decide +kernel
theorem dStringLatin1_toBytes_0 : decode jdk_43_method_46_code 0 = .ok (.iconst 1, 1) := by decide +kernel
theorem dStringLatin1_toBytes_1 : decode jdk_43_method_46_code 1 = .ok (.newarray .byte, 2) := by decide +kernel
theorem dStringLatin1_toBytes_3 : decode jdk_43_method_46_code 3 = .ok (.dup, 1) := by decide +kernel
theorem dStringLatin1_toBytes_4 : decode jdk_43_method_46_code 4 = .ok (.iconst 0, 1) := by decide +kernel
theorem dStringLatin1_toBytes_5 : decode jdk_43_method_46_code 5 = .ok (.iload_n 0, 1) := by decide +kernel
theorem dStringLatin1_toBytes_6 : decode jdk_43_method_46_code 6 = .ok (.i2b, 1) := by decide +kernel
theorem dStringLatin1_toBytes_7 : decode jdk_43_method_46_code 7 = .ok (.bastore, 1) := by decide +kernel
theorem dStringLatin1_toBytes_8 : decode jdk_43_method_46_code 8 = .ok (.areturn, 1) := by decide +kernel
theorem dString_mk_0 : decode jdk_42_method_151_code 0 = .ok (.aload_n 0, 1) := by decide +kernel
theorem dString_mk_1 : decode jdk_42_method_151_code 1 = .ok (.invokespecial 1, 3) := by decide +kernel
theorem dString_mk_4 : decode jdk_42_method_151_code 4 = .ok (.aload_n 0, 1) := by decide +kernel
theorem dString_mk_5 : decode jdk_42_method_151_code 5 = .ok (.aload_n 1, 1) := by decide +kernel
theorem dString_mk_6 : decode jdk_42_method_151_code 6 = .ok (.putfield 9, 3) := by decide +kernel
theorem dString_mk_9 : decode jdk_42_method_151_code 9 = .ok (.aload_n 0, 1) := by decide +kernel
theorem dString_mk_10 : decode jdk_42_method_151_code 10 = .ok (.iload_n 2, 1) := by decide +kernel
theorem dString_mk_11 : decode jdk_42_method_151_code 11 = .ok (.putfield 15, 3) := by decide +kernel
theorem dString_mk_14 : decode jdk_42_method_151_code 14 = .ok (.return_, 1) := by decide +kernel
/-! com/example/no_wait_scheduler/nowaitscheduler/verify/SummaryPassesPinLaw.count:(IIJ)J -/
def f_SummaryPassesPinLaw_count (v0 : Int32) (v1 : Int32) (v2 : Int64) : Option (Int64) :=
  if (((v0.toUInt32 >>> (v1 &&& 31).toUInt32).toInt32) &&& (1 : Int32)) = (0 : Int32) then
    some (0 : Int64)
  else
    some (((v2.toUInt64 >>> ((4 : Int32) &&& 0x3f).toInt64.toUInt64).toInt64) + (1 : Int64))
def Q_SummaryPassesPinLaw_count (Z : State) (hE : Heap) (n0 : Nat)  (r : Int64) (v : Option Value) (h : Heap) (L : List Loc) : Prop := v = some (.long r) ∧ Fr n0 L ∧ h = hE
def Cx_SummaryPassesPinLaw_count (p : Program) (s : State) (m : MethodId) (meth : Method) (c : Code) (Z : State) (a0 : Array Value) : Prop := p.tables.exec = Jvm.exec ∧ Z.Warmed39 s.vm ∧ (∀ d ∈ tables_1, d.before a0 Z = true) ∧ c.code = method_2_code ∧ c.maxLocals = 4 ∧ s.vm.findClass "com/example/no_wait_scheduler/nowaitscheduler/verify/SummaryPassesPinLaw" = some m.cls ∧ meth.sig.returnType = some .long ∧ meth.locks = false ∧ meth.name = "count" ∧ own_CS Z
set_option maxRecDepth 65536 in
set_option maxHeartbeats 4000000 in
theorem b_SummaryPassesPinLaw_count {p : Program} {l : Launch} {e : Env} {s : State} {m : MethodId} {args : Array Value} {below : List Frame} {meth : Method} {c : Code} {Z : State} {a0 : Array Value} {n0 : Nat} {hE : Heap} (cx : Cx_SummaryPassesPinLaw_count p s m meth c Z a0) :
    ∀ {T : State} {locs : List Loc} (X : Stand p l e ({ frames := 0, cells := 0, slots := 0, locals := 0 } : Room) s m args below meth c T locs 0 0) (eT : T.heap = hE) (N : Fr n0 locs) (z : n0 ≤ hE.size) (O : Old Z n0 hE) (v0 : Int32) (v1 : Int32) (v2 : Int64) (r : Int64), f_SummaryPassesPinLaw_count v0 v1 v2 = some r → own_Goes p e below s (Q_SummaryPassesPinLaw_count Z hE n0 r) 0 0 (T.setTop (mkF m 0 #[.val (.int v0), .val (.int v1), .val (.long v2), .second] [])) := by
  have cx' := cx
  obtain ⟨hx, hZ, hw, hby, hml, hown, hret, hlk, hnm, hcs⟩ := cx'
  intro T locs X eT N z O v0 v1 v2 r hF
  unfold f_SummaryPassesPinLaw_count at hF
  refine own_Goes.via (B := T.setTop (mkF m 5 #[.val (.int v0), .val (.int v1), .val (.long v2), .second] [(.int (((v0.toUInt32 >>> (v1 &&& 31).toUInt32).toInt32) &&& (1 : Int32)))])) (fun t k => ?_) ?_
  · show Steps p.tables e below (T.setTop (mkF m 0 #[.val (.int v0), .val (.int v1), .val (.long v2), .second] [])) t
    refine XS.iloadN X.here hx rfl (hb hby dSummaryPassesPinLaw_count_0) rfl ?_
    show Steps p.tables e below (T.setTop (mkF m 1 #[.val (.int v0), .val (.int v1), .val (.long v2), .second] [(.int v0)])) t
    refine XS.iloadN X.here hx rfl (hb hby dSummaryPassesPinLaw_count_1) rfl ?_
    show Steps p.tables e below (T.setTop (mkF m 2 #[.val (.int v0), .val (.int v1), .val (.long v2), .second] [(.int v1), (.int v0)])) t
    refine XS.iushr X.here hx rfl (hb hby dSummaryPassesPinLaw_count_2) rfl ?_
    show Steps p.tables e below (T.setTop (mkF m 3 #[.val (.int v0), .val (.int v1), .val (.long v2), .second] [(.int ((v0.toUInt32 >>> (v1 &&& 31).toUInt32).toInt32))])) t
    refine XS.iconst X.here hx rfl (hb hby dSummaryPassesPinLaw_count_3) ?_
    show Steps p.tables e below (T.setTop (mkF m 4 #[.val (.int v0), .val (.int v1), .val (.long v2), .second] [(.int (1 : Int32)), (.int ((v0.toUInt32 >>> (v1 &&& 31).toUInt32).toInt32))])) t
    refine XS.iand X.here hx rfl (hb hby dSummaryPassesPinLaw_count_4) rfl ?_
    exact k
  by_cases hc5 : (((v0.toUInt32 >>> (v1 &&& 31).toUInt32).toInt32) &&& (1 : Int32)) = (0 : Int32)
  · rw [if_pos hc5] at hF
    refine own_Goes.via (B := T.setTop (mkF m 9 #[.val (.int v0), .val (.int v1), .val (.long v2), .second] [(.long (0 : Int64))])) (fun t k => ?_) ?_
    · show Steps p.tables e below (T.setTop (mkF m 5 #[.val (.int v0), .val (.int v1), .val (.long v2), .second] [(.int (((v0.toUInt32 >>> (v1 &&& 31).toUInt32).toInt32) &&& (1 : Int32)))])) t
      refine XS.ifNo X.here hx rfl (hb hby dSummaryPassesPinLaw_count_5) rfl ((if0 _ _).trans (teq hc5).2) ?_
      show Steps p.tables e below (T.setTop (mkF m 8 #[.val (.int v0), .val (.int v1), .val (.long v2), .second] [])) t
      refine XS.lconst X.here hx rfl (hb hby dSummaryPassesPinLaw_count_8) ?_
      exact k
    obtain rfl : (0 : Int64) = r := Option.some.inj hF
    exact own_retJ X hx hret hlk (hb hby dSummaryPassesPinLaw_count_9) eT ⟨rfl, N, rfl⟩ (by decide) (by decide)
  · rw [if_neg hc5] at hF
    refine own_Goes.via (B := T.setTop (mkF m 15 #[.val (.int v0), .val (.int v1), .val (.long v2), .second] [(.long (((v2.toUInt64 >>> ((4 : Int32) &&& 0x3f).toInt64.toUInt64).toInt64) + (1 : Int64)))])) (fun t k => ?_) ?_
    · show Steps p.tables e below (T.setTop (mkF m 5 #[.val (.int v0), .val (.int v1), .val (.long v2), .second] [(.int (((v0.toUInt32 >>> (v1 &&& 31).toUInt32).toInt32) &&& (1 : Int32)))])) t
      refine XS.ifYes X.here hx rfl (pc0 := 5) (pc' := 10) rfl (hb hby dSummaryPassesPinLaw_count_5) rfl ((if0 _ _).trans (feq hc5).2) (by decide) (by decide) ?_
      show Steps p.tables e below (T.setTop (mkF m 10 #[.val (.int v0), .val (.int v1), .val (.long v2), .second] [])) t
      refine XS.lloadN X.here hx rfl (hb hby dSummaryPassesPinLaw_count_10) rfl ?_
      show Steps p.tables e below (T.setTop (mkF m 11 #[.val (.int v0), .val (.int v1), .val (.long v2), .second] [(.long v2)])) t
      refine XS.iconst X.here hx rfl (hb hby dSummaryPassesPinLaw_count_11) ?_
      show Steps p.tables e below (T.setTop (mkF m 12 #[.val (.int v0), .val (.int v1), .val (.long v2), .second] [(.int (4 : Int32)), (.long v2)])) t
      refine XS.lushr X.here hx rfl (hb hby dSummaryPassesPinLaw_count_12) rfl ?_
      show Steps p.tables e below (T.setTop (mkF m 13 #[.val (.int v0), .val (.int v1), .val (.long v2), .second] [(.long ((v2.toUInt64 >>> ((4 : Int32) &&& 0x3f).toInt64.toUInt64).toInt64))])) t
      refine XS.lconst X.here hx rfl (hb hby dSummaryPassesPinLaw_count_13) ?_
      show Steps p.tables e below (T.setTop (mkF m 14 #[.val (.int v0), .val (.int v1), .val (.long v2), .second] [(.long (1 : Int64)), (.long ((v2.toUInt64 >>> ((4 : Int32) &&& 0x3f).toInt64.toUInt64).toInt64))])) t
      refine XS.ladd X.here hx rfl (hb hby dSummaryPassesPinLaw_count_14) rfl ?_
      exact k
    obtain rfl : (((v2.toUInt64 >>> ((4 : Int32) &&& 0x3f).toInt64.toUInt64).toInt64) + (1 : Int64)) = r := Option.some.inj hF
    exact own_retJ X hx hret hlk (hb hby dSummaryPassesPinLaw_count_15) eT ⟨rfl, N, rfl⟩ (by decide) (by decide)
theorem ef_SummaryPassesPinLaw_count (m : MethodId) (x0 : Int32) (x1 : Int32) (x2 : Int64) : entryFrame m #[(.int x0), (.int x1), (.long x2)] 4 = mkF m 0 #[.val (.int x0), .val (.int x1), .val (.long x2), .second] [] := by first | (simp [entryFrame, mkF, argsToLocals, Value.category]; done) | rfl
set_option maxRecDepth 65536 in
set_option maxHeartbeats 4000000 in
theorem rm_SummaryPassesPinLaw_count (l : Launch) (Z : State) (a0 : Array Value) (hw : ∀ d ∈ tables_1, d.before a0 Z = true) (ws : List Jvm.Cond) (hE : Heap) (n0 : Nat) (z : n0 ≤ hE.size) (cs : own_CS Z) (O : Old Z n0 hE)  (v0 : Int32) (v1 : Int32) (v2 : Int64) (r : Int64) (hF : (f_SummaryPassesPinLaw_count v0 v1 v2) = some r) :
    MetFree l (⟨"com/example/no_wait_scheduler/nowaitscheduler/verify/SummaryPassesPinLaw", "count", "(IIJ)J"⟩ : MethodName) (head1 (Jvm.Cond.code (⟨"com/example/no_wait_scheduler/nowaitscheduler/verify/SummaryPassesPinLaw", "count", "(IIJ)J"⟩ : MethodName) method_2_code 4 (some .long) :: ws) ({ frames := 0, cells := 0, slots := 0, locals := 0 } : Room)) (fun a U => a = #[(.int v0), (.int v1), (.long v2)] ∧ Z.Warmed39 U.vm ∧ U.heap = hE) (fun _ _ _ _ _ => True) (fun _ U o U' => ∃ v L, o = .returned v ∧ (Q_SummaryPassesPinLaw_count Z hE n0 r) v U'.heap L ∧ FrameEnd U o U' L ({ frames := 0, cells := 0, slots := 0, locals := 0 } : Room).cells ({ frames := 0, cells := 0, slots := 0, locals := 0 } : Room).slots) := by
  refine MetFree.of_bodySF (plainFor_of_name pn_com_example_no_wait_scheduler_nowaitscheduler_verify_SummaryPassesPinLaw) hisR ?_
  intro p e s m args below meth c s₁ Bd hml0 hP hK
  obtain ⟨rfl, hZ, hh⟩ := hP
  have X0 : Stand p l e ({ frames := 0, cells := 0, slots := 0, locals := 0 } : Room) s m #[(.int v0), (.int v1), (.long v2)] below meth c s₁ [] 0 0 := Stand.of_body Bd
  have e0 : s₁.heap = hE := by rw [← hh, Bd.state]; rfl
  have cx : Cx_SummaryPassesPinLaw_count p s m meth c Z a0 := ⟨Bd.exec, hZ, hw, Bd.bytes, hml0, findClass_of_methodNamed Bd.named, Bd.returns, Bd.notSynchronized, (name_of_methodNamed Bd.named Bd.method).1, cs⟩
  show own_Goes p e below s (Q_SummaryPassesPinLaw_count Z hE n0 r) ({ frames := 0, cells := 0, slots := 0, locals := 0 } : Room).cells ({ frames := 0, cells := 0, slots := 0, locals := 0 } : Room).slots (s₁.setTop (entryFrame m #[(.int v0), (.int v1), (.long v2)] 4))
  rw [ef_SummaryPassesPinLaw_count]
  exact b_SummaryPassesPinLaw_count cx X0 e0 (Fr.nil n0) z O v0 v1 v2 _ hF
/-! com/example/no_wait_scheduler/nowaitscheduler/verify/Summary.<init>:(JZJJJJJJJLjava/lang/String;)V -/
def f_Summary_mk (v1 : Int64) (v3 : Int32) (v4 : Int64) (v6 : Int64) (v8 : Int64) (v10 : Int64) (v12 : Int64) (v14 : Int64) (v16 : Int64) (f_a1_conflicts : Int64) (f_a1_early : Int64) (f_a1_fixedPlacement : Int32) (f_a1_flowspanNs : Int64) (f_a1_frames : Int64) (f_a1_missing : Int64) (f_a1_order : Int64) (f_a1_waitingNs : Int64) (f_a1_window : Int64) : Option (Int64 × Int64 × Int32 × Int64 × Int64 × Int64 × Int64 × Int64 × Int64) :=
  some (v4, v6, (v3 &&& 1), v16, v1, v12, v8, v14, v10)
def Q_Summary_mk (Z : State) (hE : Heap) (n0 : Nat) (a1 : Addr) (r : Int64 × Int64 × Int32 × Int64 × Int64 × Int64 × Int64 × Int64 × Int64) (v : Option Value) (h : Heap) (L : List Loc) : Prop := v = none ∧ Fr n0 L ∧ Keep hE h [a1] ∧ Exa Z h a1 "com/example/no_wait_scheduler/nowaitscheduler/verify/Summary" ∧ Fld Z h a1 "com/example/no_wait_scheduler/nowaitscheduler/verify/Summary" "conflicts" "J" (.long r.1) ∧ Fld Z h a1 "com/example/no_wait_scheduler/nowaitscheduler/verify/Summary" "early" "J" (.long r.2.1) ∧ Fld Z h a1 "com/example/no_wait_scheduler/nowaitscheduler/verify/Summary" "firstFinding" "Ljava/lang/String;" .null ∧ Fld Z h a1 "com/example/no_wait_scheduler/nowaitscheduler/verify/Summary" "fixedPlacement" "Z" (.int r.2.2.1) ∧ Fld Z h a1 "com/example/no_wait_scheduler/nowaitscheduler/verify/Summary" "flowspanNs" "J" (.long r.2.2.2.1) ∧ Fld Z h a1 "com/example/no_wait_scheduler/nowaitscheduler/verify/Summary" "frames" "J" (.long r.2.2.2.2.1) ∧ Fld Z h a1 "com/example/no_wait_scheduler/nowaitscheduler/verify/Summary" "missing" "J" (.long r.2.2.2.2.2.1) ∧ Fld Z h a1 "com/example/no_wait_scheduler/nowaitscheduler/verify/Summary" "order" "J" (.long r.2.2.2.2.2.2.1) ∧ Fld Z h a1 "com/example/no_wait_scheduler/nowaitscheduler/verify/Summary" "waitingNs" "J" (.long r.2.2.2.2.2.2.2.1) ∧ Fld Z h a1 "com/example/no_wait_scheduler/nowaitscheduler/verify/Summary" "window" "J" (.long r.2.2.2.2.2.2.2.2)
def Cx_Summary_mk (p : Program) (s : State) (m : MethodId) (meth : Method) (c : Code) (Z : State) (a0 : Array Value) : Prop := p.tables.exec = Jvm.exec ∧ Z.Warmed39 s.vm ∧ (∀ d ∈ tables_1, d.before a0 Z = true) ∧ c.code = prog_51_method_1_code ∧ c.maxLocals = 19 ∧ s.vm.findClass "com/example/no_wait_scheduler/nowaitscheduler/verify/Summary" = some m.cls ∧ meth.sig.returnType = none ∧ meth.locks = false ∧ meth.name = "<init>" ∧ own_CS Z
set_option maxRecDepth 65536 in
set_option maxHeartbeats 4000000 in
theorem b_Summary_mk {p : Program} {l : Launch} {e : Env} {s : State} {m : MethodId} {args : Array Value} {below : List Frame} {meth : Method} {c : Code} {Z : State} {a0 : Array Value} {n0 : Nat} {hE : Heap} (cx : Cx_Summary_mk p s m meth c Z a0) (a1 : Addr) :
    ∀ {T : State} {locs : List Loc} {h : Heap} (X : Stand p l e ({ frames := 1, cells := 0, slots := 0, locals := 12 } : Room) s m args below meth c T locs 0 0) (eT : T.heap = h) (N : Fr n0 locs) (K : Keep hE h [a1]) (z : n0 ≤ h.size) (O : Old Z n0 h) (v1 : Int64) (v3 : Int32) (v4 : Int64) (v6 : Int64) (v8 : Int64) (v10 : Int64) (v12 : Int64) (v14 : Int64) (v16 : Int64) (f_a1_conflicts : Int64) (f_a1_early : Int64) (f_a1_fixedPlacement : Int32) (f_a1_flowspanNs : Int64) (f_a1_frames : Int64) (f_a1_missing : Int64) (f_a1_order : Int64) (f_a1_waitingNs : Int64) (f_a1_window : Int64) (E_a1 : Exa Z h a1 "com/example/no_wait_scheduler/nowaitscheduler/verify/Summary") (F_a1_conflicts : Fld Z h a1 "com/example/no_wait_scheduler/nowaitscheduler/verify/Summary" "conflicts" "J" (.long f_a1_conflicts)) (F_a1_early : Fld Z h a1 "com/example/no_wait_scheduler/nowaitscheduler/verify/Summary" "early" "J" (.long f_a1_early)) (F_a1_firstFinding : Fld Z h a1 "com/example/no_wait_scheduler/nowaitscheduler/verify/Summary" "firstFinding" "Ljava/lang/String;" .null) (F_a1_fixedPlacement : Fld Z h a1 "com/example/no_wait_scheduler/nowaitscheduler/verify/Summary" "fixedPlacement" "Z" (.int f_a1_fixedPlacement)) (F_a1_flowspanNs : Fld Z h a1 "com/example/no_wait_scheduler/nowaitscheduler/verify/Summary" "flowspanNs" "J" (.long f_a1_flowspanNs)) (F_a1_frames : Fld Z h a1 "com/example/no_wait_scheduler/nowaitscheduler/verify/Summary" "frames" "J" (.long f_a1_frames)) (F_a1_missing : Fld Z h a1 "com/example/no_wait_scheduler/nowaitscheduler/verify/Summary" "missing" "J" (.long f_a1_missing)) (F_a1_order : Fld Z h a1 "com/example/no_wait_scheduler/nowaitscheduler/verify/Summary" "order" "J" (.long f_a1_order)) (F_a1_waitingNs : Fld Z h a1 "com/example/no_wait_scheduler/nowaitscheduler/verify/Summary" "waitingNs" "J" (.long f_a1_waitingNs)) (F_a1_window : Fld Z h a1 "com/example/no_wait_scheduler/nowaitscheduler/verify/Summary" "window" "J" (.long f_a1_window)) (g_a1 : n0 ≤ a1) (r : Int64 × Int64 × Int32 × Int64 × Int64 × Int64 × Int64 × Int64 × Int64), f_Summary_mk v1 v3 v4 v6 v8 v10 v12 v14 v16 f_a1_conflicts f_a1_early f_a1_fixedPlacement f_a1_flowspanNs f_a1_frames f_a1_missing f_a1_order f_a1_waitingNs f_a1_window = some r → own_Goes p e below s (Q_Summary_mk Z hE n0 a1 r) 0 0 (T.setTop (mkF m 0 #[.val (.ref a1), .val (.long v1), .second, .val (.int v3), .val (.long v4), .second, .val (.long v6), .second, .val (.long v8), .second, .val (.long v10), .second, .val (.long v12), .second, .val (.long v14), .second, .val (.long v16), .second, .val .null] [])) := by
  have cx' := cx
  obtain ⟨hx, hZ, hw, hby, hml, hown, hret, hlk, hnm, hcs⟩ := cx'
  intro T locs h X eT N K z O v1 v3 v4 v6 v8 v10 v12 v14 v16 f_a1_conflicts f_a1_early f_a1_fixedPlacement f_a1_flowspanNs f_a1_frames f_a1_missing f_a1_order f_a1_waitingNs f_a1_window E_a1 F_a1_conflicts F_a1_early F_a1_firstFinding F_a1_fixedPlacement F_a1_flowspanNs F_a1_frames F_a1_missing F_a1_order F_a1_waitingNs F_a1_window g_a1 r hF
  unfold f_Summary_mk at hF
  refine own_Goes.via (B := T.setTop (mkF m 1 #[.val (.ref a1), .val (.long v1), .second, .val (.int v3), .val (.long v4), .second, .val (.long v6), .second, .val (.long v8), .second, .val (.long v10), .second, .val (.long v12), .second, .val (.long v14), .second, .val (.long v16), .second, .val .null] [(.ref a1)])) (fun t k => ?_) ?_
  · show Steps p.tables e below (T.setTop (mkF m 0 #[.val (.ref a1), .val (.long v1), .second, .val (.int v3), .val (.long v4), .second, .val (.long v6), .second, .val (.long v8), .second, .val (.long v10), .second, .val (.long v12), .second, .val (.long v14), .second, .val (.long v16), .second, .val .null] [])) t
    refine XS.aloadN X.here hx rfl (hb hby dSummary_mk_0) rfl rfl ?_
    exact k
  obtain ⟨T42, X42, e42, st42⟩ := initO X hx hZ hown (w10 hw) (w11 hw) (w12 hw) eT (g := (mkF m 1 #[.val (.ref a1), .val (.long v1), .second, .val (.int v3), .val (.long v4), .second, .val (.long v6), .second, .val (.long v8), .second, .val (.long v10), .second, .val (.long v12), .second, .val (.long v14), .second, .val (.long v16), .second, .val .null] [(.ref a1)])) rfl (by rw [hml]; rfl) rfl (hb hby dSummary_mk_1) (by decide) (W := 0) (by show 2 * 0 + _ ≤ _; exact Nat.le_of_eq rfl) (by decide)
  refine own_Goes.via st42 ?_
  show own_Goes _ _ _ _ _ _ _ (T42.setTop (mkF m 4 #[.val (.ref a1), .val (.long v1), .second, .val (.int v3), .val (.long v4), .second, .val (.long v6), .second, .val (.long v8), .second, .val (.long v10), .second, .val (.long v12), .second, .val (.long v14), .second, .val (.long v16), .second, .val .null] []))
  refine own_Goes.via (B := T42.setTop (mkF m 6 #[.val (.ref a1), .val (.long v1), .second, .val (.int v3), .val (.long v4), .second, .val (.long v6), .second, .val (.long v8), .second, .val (.long v10), .second, .val (.long v12), .second, .val (.long v14), .second, .val (.long v16), .second, .val .null] [(.long v1), (.ref a1)])) (fun t k => ?_) ?_
  · show Steps p.tables e below (T42.setTop (mkF m 4 #[.val (.ref a1), .val (.long v1), .second, .val (.int v3), .val (.long v4), .second, .val (.long v6), .second, .val (.long v8), .second, .val (.long v10), .second, .val (.long v12), .second, .val (.long v14), .second, .val (.long v16), .second, .val .null] [])) t
    refine XS.aloadN X42.here hx rfl (hb hby dSummary_mk_4) rfl rfl ?_
    show Steps p.tables e below (T42.setTop (mkF m 5 #[.val (.ref a1), .val (.long v1), .second, .val (.int v3), .val (.long v4), .second, .val (.long v6), .second, .val (.long v8), .second, .val (.long v10), .second, .val (.long v12), .second, .val (.long v14), .second, .val (.long v16), .second, .val .null] [(.ref a1)])) t
    refine XS.lloadN X42.here hx rfl (hb hby dSummary_mk_5) rfl ?_
    exact k
  obtain ⟨T43, h43, X43, e43, W43, st43⟩ := putF X42 hx hZ hown (host := "") (Or.inl (w13 hw)) Via.refl e42 F_a1_frames E_a1 (Or.inr ⟨(w14 hw), rfl, hnm⟩) (w5 hw) (ty := .long) (by decide) rfl rfl (g := (mkF m 6 #[.val (.ref a1), .val (.long v1), .second, .val (.int v3), .val (.long v4), .second, .val (.long v6), .second, .val (.long v8), .second, .val (.long v10), .second, .val (.long v12), .second, .val (.long v14), .second, .val (.long v16), .second, .val .null] [(.long v1), (.ref a1)])) rfl rfl (hb hby dSummary_mk_6)
  refine own_Goes.via st43 ?_
  have E43_a1 := E_a1.wr W43
  have F43_a1_conflicts := F_a1_conflicts.other W43 (Or.inr (slot_ne (Or.inr (w18 hw)) (Or.inr (w14 hw)) (by decide) (t := .long) (t' := .long) (by decide) (by decide)))
  have F43_a1_early := F_a1_early.other W43 (Or.inr (slot_ne (Or.inr (w20 hw)) (Or.inr (w14 hw)) (by decide) (t := .long) (t' := .long) (by decide) (by decide)))
  have F43_a1_firstFinding := F_a1_firstFinding.other W43 (Or.inr (slot_ne (Or.inr (w32 hw)) (Or.inr (w14 hw)) (by decide) (t := (.object "java/lang/String")) (t' := .long) (by decide) (by decide)))
  have F43_a1_fixedPlacement := F_a1_fixedPlacement.other W43 (Or.inr (slot_ne (Or.inr (w16 hw)) (Or.inr (w14 hw)) (by decide) (t := .boolean) (t' := .long) (by decide) (by decide)))
  have F43_a1_flowspanNs := F_a1_flowspanNs.other W43 (Or.inr (slot_ne (Or.inr (w30 hw)) (Or.inr (w14 hw)) (by decide) (t := .long) (t' := .long) (by decide) (by decide)))
  have F43_a1_missing := F_a1_missing.other W43 (Or.inr (slot_ne (Or.inr (w26 hw)) (Or.inr (w14 hw)) (by decide) (t := .long) (t' := .long) (by decide) (by decide)))
  have F43_a1_order := F_a1_order.other W43 (Or.inr (slot_ne (Or.inr (w22 hw)) (Or.inr (w14 hw)) (by decide) (t := .long) (t' := .long) (by decide) (by decide)))
  have F43_a1_waitingNs := F_a1_waitingNs.other W43 (Or.inr (slot_ne (Or.inr (w28 hw)) (Or.inr (w14 hw)) (by decide) (t := .long) (t' := .long) (by decide) (by decide)))
  have F43_a1_window := F_a1_window.other W43 (Or.inr (slot_ne (Or.inr (w24 hw)) (Or.inr (w14 hw)) (by decide) (t := .long) (t' := .long) (by decide) (by decide)))
  have F43_a1_frames := F_a1_frames.same W43
  have z43 := Nat.le_trans z (Keep.of_wr W43).1
  have K43_ := K.wr W43 (Or.inl (List.mem_of_getElem? (i := 0) rfl))
  have O43 := O.wr W43 g_a1
  have N43 := Fr.snoc X43 N g_a1
  show own_Goes _ _ _ _ _ _ _ (T43.setTop (mkF m 9 #[.val (.ref a1), .val (.long v1), .second, .val (.int v3), .val (.long v4), .second, .val (.long v6), .second, .val (.long v8), .second, .val (.long v10), .second, .val (.long v12), .second, .val (.long v14), .second, .val (.long v16), .second, .val .null] []))
  refine own_Goes.via (B := T43.setTop (mkF m 11 #[.val (.ref a1), .val (.long v1), .second, .val (.int v3), .val (.long v4), .second, .val (.long v6), .second, .val (.long v8), .second, .val (.long v10), .second, .val (.long v12), .second, .val (.long v14), .second, .val (.long v16), .second, .val .null] [(.int v3), (.ref a1)])) (fun t k => ?_) ?_
  · show Steps p.tables e below (T43.setTop (mkF m 9 #[.val (.ref a1), .val (.long v1), .second, .val (.int v3), .val (.long v4), .second, .val (.long v6), .second, .val (.long v8), .second, .val (.long v10), .second, .val (.long v12), .second, .val (.long v14), .second, .val (.long v16), .second, .val .null] [])) t
    refine XS.aloadN X43.here hx rfl (hb hby dSummary_mk_9) rfl rfl ?_
    show Steps p.tables e below (T43.setTop (mkF m 10 #[.val (.ref a1), .val (.long v1), .second, .val (.int v3), .val (.long v4), .second, .val (.long v6), .second, .val (.long v8), .second, .val (.long v10), .second, .val (.long v12), .second, .val (.long v14), .second, .val (.long v16), .second, .val .null] [(.ref a1)])) t
    refine XS.iloadN X43.here hx rfl (hb hby dSummary_mk_10) rfl ?_
    exact k
  obtain ⟨T44, h44, X44, e44, W44, st44⟩ := putFN X43 hx hZ hown (w15 hw) Via.refl e43 F43_a1_fixedPlacement E43_a1 (Or.inr ⟨(w16 hw), rfl, hnm⟩) (w5 hw) (ty := .boolean) (v' := (.int (v3 &&& 1))) (by decide) rfl (fits_nar_bool _) (g := (mkF m 11 #[.val (.ref a1), .val (.long v1), .second, .val (.int v3), .val (.long v4), .second, .val (.long v6), .second, .val (.long v8), .second, .val (.long v10), .second, .val (.long v12), .second, .val (.long v14), .second, .val (.long v16), .second, .val .null] [(.int v3), (.ref a1)])) rfl rfl (hb hby dSummary_mk_11)
  refine own_Goes.via st44 ?_
  have E44_a1 := E43_a1.wr W44
  have F44_a1_conflicts := F43_a1_conflicts.other W44 (Or.inr (slot_ne (Or.inr (w18 hw)) (Or.inr (w16 hw)) (by decide) (t := .long) (t' := .boolean) (by decide) (by decide)))
  have F44_a1_early := F43_a1_early.other W44 (Or.inr (slot_ne (Or.inr (w20 hw)) (Or.inr (w16 hw)) (by decide) (t := .long) (t' := .boolean) (by decide) (by decide)))
  have F44_a1_firstFinding := F43_a1_firstFinding.other W44 (Or.inr (slot_ne (Or.inr (w32 hw)) (Or.inr (w16 hw)) (by decide) (t := (.object "java/lang/String")) (t' := .boolean) (by decide) (by decide)))
  have F44_a1_flowspanNs := F43_a1_flowspanNs.other W44 (Or.inr (slot_ne (Or.inr (w30 hw)) (Or.inr (w16 hw)) (by decide) (t := .long) (t' := .boolean) (by decide) (by decide)))
  have F44_a1_frames := F43_a1_frames.other W44 (Or.inr (slot_ne (Or.inr (w14 hw)) (Or.inr (w16 hw)) (by decide) (t := .long) (t' := .boolean) (by decide) (by decide)))
  have F44_a1_missing := F43_a1_missing.other W44 (Or.inr (slot_ne (Or.inr (w26 hw)) (Or.inr (w16 hw)) (by decide) (t := .long) (t' := .boolean) (by decide) (by decide)))
  have F44_a1_order := F43_a1_order.other W44 (Or.inr (slot_ne (Or.inr (w22 hw)) (Or.inr (w16 hw)) (by decide) (t := .long) (t' := .boolean) (by decide) (by decide)))
  have F44_a1_waitingNs := F43_a1_waitingNs.other W44 (Or.inr (slot_ne (Or.inr (w28 hw)) (Or.inr (w16 hw)) (by decide) (t := .long) (t' := .boolean) (by decide) (by decide)))
  have F44_a1_window := F43_a1_window.other W44 (Or.inr (slot_ne (Or.inr (w24 hw)) (Or.inr (w16 hw)) (by decide) (t := .long) (t' := .boolean) (by decide) (by decide)))
  have F44_a1_fixedPlacement := F43_a1_fixedPlacement.same W44
  have z44 := Nat.le_trans z43 (Keep.of_wr W44).1
  have K44_ := K43_.wr W44 (Or.inl (List.mem_of_getElem? (i := 0) rfl))
  have O44 := O43.wr W44 g_a1
  have N44 := Fr.snoc X44 N43 g_a1
  show own_Goes _ _ _ _ _ _ _ (T44.setTop (mkF m 14 #[.val (.ref a1), .val (.long v1), .second, .val (.int v3), .val (.long v4), .second, .val (.long v6), .second, .val (.long v8), .second, .val (.long v10), .second, .val (.long v12), .second, .val (.long v14), .second, .val (.long v16), .second, .val .null] []))
  refine own_Goes.via (B := T44.setTop (mkF m 17 #[.val (.ref a1), .val (.long v1), .second, .val (.int v3), .val (.long v4), .second, .val (.long v6), .second, .val (.long v8), .second, .val (.long v10), .second, .val (.long v12), .second, .val (.long v14), .second, .val (.long v16), .second, .val .null] [(.long v4), (.ref a1)])) (fun t k => ?_) ?_
  · show Steps p.tables e below (T44.setTop (mkF m 14 #[.val (.ref a1), .val (.long v1), .second, .val (.int v3), .val (.long v4), .second, .val (.long v6), .second, .val (.long v8), .second, .val (.long v10), .second, .val (.long v12), .second, .val (.long v14), .second, .val (.long v16), .second, .val .null] [])) t
    refine XS.aloadN X44.here hx rfl (hb hby dSummary_mk_14) rfl rfl ?_
    show Steps p.tables e below (T44.setTop (mkF m 15 #[.val (.ref a1), .val (.long v1), .second, .val (.int v3), .val (.long v4), .second, .val (.long v6), .second, .val (.long v8), .second, .val (.long v10), .second, .val (.long v12), .second, .val (.long v14), .second, .val (.long v16), .second, .val .null] [(.ref a1)])) t
    refine XS.lload X44.here hx rfl (hb hby dSummary_mk_15) rfl ?_
    exact k
  obtain ⟨T45, h45, X45, e45, W45, st45⟩ := putF X44 hx hZ hown (host := "") (Or.inl (w17 hw)) Via.refl e44 F44_a1_conflicts E44_a1 (Or.inr ⟨(w18 hw), rfl, hnm⟩) (w5 hw) (ty := .long) (by decide) rfl rfl (g := (mkF m 17 #[.val (.ref a1), .val (.long v1), .second, .val (.int v3), .val (.long v4), .second, .val (.long v6), .second, .val (.long v8), .second, .val (.long v10), .second, .val (.long v12), .second, .val (.long v14), .second, .val (.long v16), .second, .val .null] [(.long v4), (.ref a1)])) rfl rfl (hb hby dSummary_mk_17)
  refine own_Goes.via st45 ?_
  have E45_a1 := E44_a1.wr W45
  have F45_a1_early := F44_a1_early.other W45 (Or.inr (slot_ne (Or.inr (w20 hw)) (Or.inr (w18 hw)) (by decide) (t := .long) (t' := .long) (by decide) (by decide)))
  have F45_a1_firstFinding := F44_a1_firstFinding.other W45 (Or.inr (slot_ne (Or.inr (w32 hw)) (Or.inr (w18 hw)) (by decide) (t := (.object "java/lang/String")) (t' := .long) (by decide) (by decide)))
  have F45_a1_fixedPlacement := F44_a1_fixedPlacement.other W45 (Or.inr (slot_ne (Or.inr (w16 hw)) (Or.inr (w18 hw)) (by decide) (t := .boolean) (t' := .long) (by decide) (by decide)))
  have F45_a1_flowspanNs := F44_a1_flowspanNs.other W45 (Or.inr (slot_ne (Or.inr (w30 hw)) (Or.inr (w18 hw)) (by decide) (t := .long) (t' := .long) (by decide) (by decide)))
  have F45_a1_frames := F44_a1_frames.other W45 (Or.inr (slot_ne (Or.inr (w14 hw)) (Or.inr (w18 hw)) (by decide) (t := .long) (t' := .long) (by decide) (by decide)))
  have F45_a1_missing := F44_a1_missing.other W45 (Or.inr (slot_ne (Or.inr (w26 hw)) (Or.inr (w18 hw)) (by decide) (t := .long) (t' := .long) (by decide) (by decide)))
  have F45_a1_order := F44_a1_order.other W45 (Or.inr (slot_ne (Or.inr (w22 hw)) (Or.inr (w18 hw)) (by decide) (t := .long) (t' := .long) (by decide) (by decide)))
  have F45_a1_waitingNs := F44_a1_waitingNs.other W45 (Or.inr (slot_ne (Or.inr (w28 hw)) (Or.inr (w18 hw)) (by decide) (t := .long) (t' := .long) (by decide) (by decide)))
  have F45_a1_window := F44_a1_window.other W45 (Or.inr (slot_ne (Or.inr (w24 hw)) (Or.inr (w18 hw)) (by decide) (t := .long) (t' := .long) (by decide) (by decide)))
  have F45_a1_conflicts := F44_a1_conflicts.same W45
  have z45 := Nat.le_trans z44 (Keep.of_wr W45).1
  have K45_ := K44_.wr W45 (Or.inl (List.mem_of_getElem? (i := 0) rfl))
  have O45 := O44.wr W45 g_a1
  have N45 := Fr.snoc X45 N44 g_a1
  show own_Goes _ _ _ _ _ _ _ (T45.setTop (mkF m 20 #[.val (.ref a1), .val (.long v1), .second, .val (.int v3), .val (.long v4), .second, .val (.long v6), .second, .val (.long v8), .second, .val (.long v10), .second, .val (.long v12), .second, .val (.long v14), .second, .val (.long v16), .second, .val .null] []))
  refine own_Goes.via (B := T45.setTop (mkF m 23 #[.val (.ref a1), .val (.long v1), .second, .val (.int v3), .val (.long v4), .second, .val (.long v6), .second, .val (.long v8), .second, .val (.long v10), .second, .val (.long v12), .second, .val (.long v14), .second, .val (.long v16), .second, .val .null] [(.long v6), (.ref a1)])) (fun t k => ?_) ?_
  · show Steps p.tables e below (T45.setTop (mkF m 20 #[.val (.ref a1), .val (.long v1), .second, .val (.int v3), .val (.long v4), .second, .val (.long v6), .second, .val (.long v8), .second, .val (.long v10), .second, .val (.long v12), .second, .val (.long v14), .second, .val (.long v16), .second, .val .null] [])) t
    refine XS.aloadN X45.here hx rfl (hb hby dSummary_mk_20) rfl rfl ?_
    show Steps p.tables e below (T45.setTop (mkF m 21 #[.val (.ref a1), .val (.long v1), .second, .val (.int v3), .val (.long v4), .second, .val (.long v6), .second, .val (.long v8), .second, .val (.long v10), .second, .val (.long v12), .second, .val (.long v14), .second, .val (.long v16), .second, .val .null] [(.ref a1)])) t
    refine XS.lload X45.here hx rfl (hb hby dSummary_mk_21) rfl ?_
    exact k
  obtain ⟨T46, h46, X46, e46, W46, st46⟩ := putF X45 hx hZ hown (host := "") (Or.inl (w19 hw)) Via.refl e45 F45_a1_early E45_a1 (Or.inr ⟨(w20 hw), rfl, hnm⟩) (w5 hw) (ty := .long) (by decide) rfl rfl (g := (mkF m 23 #[.val (.ref a1), .val (.long v1), .second, .val (.int v3), .val (.long v4), .second, .val (.long v6), .second, .val (.long v8), .second, .val (.long v10), .second, .val (.long v12), .second, .val (.long v14), .second, .val (.long v16), .second, .val .null] [(.long v6), (.ref a1)])) rfl rfl (hb hby dSummary_mk_23)
  refine own_Goes.via st46 ?_
  have E46_a1 := E45_a1.wr W46
  have F46_a1_conflicts := F45_a1_conflicts.other W46 (Or.inr (slot_ne (Or.inr (w18 hw)) (Or.inr (w20 hw)) (by decide) (t := .long) (t' := .long) (by decide) (by decide)))
  have F46_a1_firstFinding := F45_a1_firstFinding.other W46 (Or.inr (slot_ne (Or.inr (w32 hw)) (Or.inr (w20 hw)) (by decide) (t := (.object "java/lang/String")) (t' := .long) (by decide) (by decide)))
  have F46_a1_fixedPlacement := F45_a1_fixedPlacement.other W46 (Or.inr (slot_ne (Or.inr (w16 hw)) (Or.inr (w20 hw)) (by decide) (t := .boolean) (t' := .long) (by decide) (by decide)))
  have F46_a1_flowspanNs := F45_a1_flowspanNs.other W46 (Or.inr (slot_ne (Or.inr (w30 hw)) (Or.inr (w20 hw)) (by decide) (t := .long) (t' := .long) (by decide) (by decide)))
  have F46_a1_frames := F45_a1_frames.other W46 (Or.inr (slot_ne (Or.inr (w14 hw)) (Or.inr (w20 hw)) (by decide) (t := .long) (t' := .long) (by decide) (by decide)))
  have F46_a1_missing := F45_a1_missing.other W46 (Or.inr (slot_ne (Or.inr (w26 hw)) (Or.inr (w20 hw)) (by decide) (t := .long) (t' := .long) (by decide) (by decide)))
  have F46_a1_order := F45_a1_order.other W46 (Or.inr (slot_ne (Or.inr (w22 hw)) (Or.inr (w20 hw)) (by decide) (t := .long) (t' := .long) (by decide) (by decide)))
  have F46_a1_waitingNs := F45_a1_waitingNs.other W46 (Or.inr (slot_ne (Or.inr (w28 hw)) (Or.inr (w20 hw)) (by decide) (t := .long) (t' := .long) (by decide) (by decide)))
  have F46_a1_window := F45_a1_window.other W46 (Or.inr (slot_ne (Or.inr (w24 hw)) (Or.inr (w20 hw)) (by decide) (t := .long) (t' := .long) (by decide) (by decide)))
  have F46_a1_early := F45_a1_early.same W46
  have z46 := Nat.le_trans z45 (Keep.of_wr W46).1
  have K46_ := K45_.wr W46 (Or.inl (List.mem_of_getElem? (i := 0) rfl))
  have O46 := O45.wr W46 g_a1
  have N46 := Fr.snoc X46 N45 g_a1
  show own_Goes _ _ _ _ _ _ _ (T46.setTop (mkF m 26 #[.val (.ref a1), .val (.long v1), .second, .val (.int v3), .val (.long v4), .second, .val (.long v6), .second, .val (.long v8), .second, .val (.long v10), .second, .val (.long v12), .second, .val (.long v14), .second, .val (.long v16), .second, .val .null] []))
  refine own_Goes.via (B := T46.setTop (mkF m 29 #[.val (.ref a1), .val (.long v1), .second, .val (.int v3), .val (.long v4), .second, .val (.long v6), .second, .val (.long v8), .second, .val (.long v10), .second, .val (.long v12), .second, .val (.long v14), .second, .val (.long v16), .second, .val .null] [(.long v8), (.ref a1)])) (fun t k => ?_) ?_
  · show Steps p.tables e below (T46.setTop (mkF m 26 #[.val (.ref a1), .val (.long v1), .second, .val (.int v3), .val (.long v4), .second, .val (.long v6), .second, .val (.long v8), .second, .val (.long v10), .second, .val (.long v12), .second, .val (.long v14), .second, .val (.long v16), .second, .val .null] [])) t
    refine XS.aloadN X46.here hx rfl (hb hby dSummary_mk_26) rfl rfl ?_
    show Steps p.tables e below (T46.setTop (mkF m 27 #[.val (.ref a1), .val (.long v1), .second, .val (.int v3), .val (.long v4), .second, .val (.long v6), .second, .val (.long v8), .second, .val (.long v10), .second, .val (.long v12), .second, .val (.long v14), .second, .val (.long v16), .second, .val .null] [(.ref a1)])) t
    refine XS.lload X46.here hx rfl (hb hby dSummary_mk_27) rfl ?_
    exact k
  obtain ⟨T47, h47, X47, e47, W47, st47⟩ := putF X46 hx hZ hown (host := "") (Or.inl (w21 hw)) Via.refl e46 F46_a1_order E46_a1 (Or.inr ⟨(w22 hw), rfl, hnm⟩) (w5 hw) (ty := .long) (by decide) rfl rfl (g := (mkF m 29 #[.val (.ref a1), .val (.long v1), .second, .val (.int v3), .val (.long v4), .second, .val (.long v6), .second, .val (.long v8), .second, .val (.long v10), .second, .val (.long v12), .second, .val (.long v14), .second, .val (.long v16), .second, .val .null] [(.long v8), (.ref a1)])) rfl rfl (hb hby dSummary_mk_29)
  refine own_Goes.via st47 ?_
  have E47_a1 := E46_a1.wr W47
  have F47_a1_conflicts := F46_a1_conflicts.other W47 (Or.inr (slot_ne (Or.inr (w18 hw)) (Or.inr (w22 hw)) (by decide) (t := .long) (t' := .long) (by decide) (by decide)))
  have F47_a1_early := F46_a1_early.other W47 (Or.inr (slot_ne (Or.inr (w20 hw)) (Or.inr (w22 hw)) (by decide) (t := .long) (t' := .long) (by decide) (by decide)))
  have F47_a1_firstFinding := F46_a1_firstFinding.other W47 (Or.inr (slot_ne (Or.inr (w32 hw)) (Or.inr (w22 hw)) (by decide) (t := (.object "java/lang/String")) (t' := .long) (by decide) (by decide)))
  have F47_a1_fixedPlacement := F46_a1_fixedPlacement.other W47 (Or.inr (slot_ne (Or.inr (w16 hw)) (Or.inr (w22 hw)) (by decide) (t := .boolean) (t' := .long) (by decide) (by decide)))
  have F47_a1_flowspanNs := F46_a1_flowspanNs.other W47 (Or.inr (slot_ne (Or.inr (w30 hw)) (Or.inr (w22 hw)) (by decide) (t := .long) (t' := .long) (by decide) (by decide)))
  have F47_a1_frames := F46_a1_frames.other W47 (Or.inr (slot_ne (Or.inr (w14 hw)) (Or.inr (w22 hw)) (by decide) (t := .long) (t' := .long) (by decide) (by decide)))
  have F47_a1_missing := F46_a1_missing.other W47 (Or.inr (slot_ne (Or.inr (w26 hw)) (Or.inr (w22 hw)) (by decide) (t := .long) (t' := .long) (by decide) (by decide)))
  have F47_a1_waitingNs := F46_a1_waitingNs.other W47 (Or.inr (slot_ne (Or.inr (w28 hw)) (Or.inr (w22 hw)) (by decide) (t := .long) (t' := .long) (by decide) (by decide)))
  have F47_a1_window := F46_a1_window.other W47 (Or.inr (slot_ne (Or.inr (w24 hw)) (Or.inr (w22 hw)) (by decide) (t := .long) (t' := .long) (by decide) (by decide)))
  have F47_a1_order := F46_a1_order.same W47
  have z47 := Nat.le_trans z46 (Keep.of_wr W47).1
  have K47_ := K46_.wr W47 (Or.inl (List.mem_of_getElem? (i := 0) rfl))
  have O47 := O46.wr W47 g_a1
  have N47 := Fr.snoc X47 N46 g_a1
  show own_Goes _ _ _ _ _ _ _ (T47.setTop (mkF m 32 #[.val (.ref a1), .val (.long v1), .second, .val (.int v3), .val (.long v4), .second, .val (.long v6), .second, .val (.long v8), .second, .val (.long v10), .second, .val (.long v12), .second, .val (.long v14), .second, .val (.long v16), .second, .val .null] []))
  refine own_Goes.via (B := T47.setTop (mkF m 35 #[.val (.ref a1), .val (.long v1), .second, .val (.int v3), .val (.long v4), .second, .val (.long v6), .second, .val (.long v8), .second, .val (.long v10), .second, .val (.long v12), .second, .val (.long v14), .second, .val (.long v16), .second, .val .null] [(.long v10), (.ref a1)])) (fun t k => ?_) ?_
  · show Steps p.tables e below (T47.setTop (mkF m 32 #[.val (.ref a1), .val (.long v1), .second, .val (.int v3), .val (.long v4), .second, .val (.long v6), .second, .val (.long v8), .second, .val (.long v10), .second, .val (.long v12), .second, .val (.long v14), .second, .val (.long v16), .second, .val .null] [])) t
    refine XS.aloadN X47.here hx rfl (hb hby dSummary_mk_32) rfl rfl ?_
    show Steps p.tables e below (T47.setTop (mkF m 33 #[.val (.ref a1), .val (.long v1), .second, .val (.int v3), .val (.long v4), .second, .val (.long v6), .second, .val (.long v8), .second, .val (.long v10), .second, .val (.long v12), .second, .val (.long v14), .second, .val (.long v16), .second, .val .null] [(.ref a1)])) t
    refine XS.lload X47.here hx rfl (hb hby dSummary_mk_33) rfl ?_
    exact k
  obtain ⟨T48, h48, X48, e48, W48, st48⟩ := putF X47 hx hZ hown (host := "") (Or.inl (w23 hw)) Via.refl e47 F47_a1_window E47_a1 (Or.inr ⟨(w24 hw), rfl, hnm⟩) (w5 hw) (ty := .long) (by decide) rfl rfl (g := (mkF m 35 #[.val (.ref a1), .val (.long v1), .second, .val (.int v3), .val (.long v4), .second, .val (.long v6), .second, .val (.long v8), .second, .val (.long v10), .second, .val (.long v12), .second, .val (.long v14), .second, .val (.long v16), .second, .val .null] [(.long v10), (.ref a1)])) rfl rfl (hb hby dSummary_mk_35)
  refine own_Goes.via st48 ?_
  have E48_a1 := E47_a1.wr W48
  have F48_a1_conflicts := F47_a1_conflicts.other W48 (Or.inr (slot_ne (Or.inr (w18 hw)) (Or.inr (w24 hw)) (by decide) (t := .long) (t' := .long) (by decide) (by decide)))
  have F48_a1_early := F47_a1_early.other W48 (Or.inr (slot_ne (Or.inr (w20 hw)) (Or.inr (w24 hw)) (by decide) (t := .long) (t' := .long) (by decide) (by decide)))
  have F48_a1_firstFinding := F47_a1_firstFinding.other W48 (Or.inr (slot_ne (Or.inr (w32 hw)) (Or.inr (w24 hw)) (by decide) (t := (.object "java/lang/String")) (t' := .long) (by decide) (by decide)))
  have F48_a1_fixedPlacement := F47_a1_fixedPlacement.other W48 (Or.inr (slot_ne (Or.inr (w16 hw)) (Or.inr (w24 hw)) (by decide) (t := .boolean) (t' := .long) (by decide) (by decide)))
  have F48_a1_flowspanNs := F47_a1_flowspanNs.other W48 (Or.inr (slot_ne (Or.inr (w30 hw)) (Or.inr (w24 hw)) (by decide) (t := .long) (t' := .long) (by decide) (by decide)))
  have F48_a1_frames := F47_a1_frames.other W48 (Or.inr (slot_ne (Or.inr (w14 hw)) (Or.inr (w24 hw)) (by decide) (t := .long) (t' := .long) (by decide) (by decide)))
  have F48_a1_missing := F47_a1_missing.other W48 (Or.inr (slot_ne (Or.inr (w26 hw)) (Or.inr (w24 hw)) (by decide) (t := .long) (t' := .long) (by decide) (by decide)))
  have F48_a1_order := F47_a1_order.other W48 (Or.inr (slot_ne (Or.inr (w22 hw)) (Or.inr (w24 hw)) (by decide) (t := .long) (t' := .long) (by decide) (by decide)))
  have F48_a1_waitingNs := F47_a1_waitingNs.other W48 (Or.inr (slot_ne (Or.inr (w28 hw)) (Or.inr (w24 hw)) (by decide) (t := .long) (t' := .long) (by decide) (by decide)))
  have F48_a1_window := F47_a1_window.same W48
  have z48 := Nat.le_trans z47 (Keep.of_wr W48).1
  have K48_ := K47_.wr W48 (Or.inl (List.mem_of_getElem? (i := 0) rfl))
  have O48 := O47.wr W48 g_a1
  have N48 := Fr.snoc X48 N47 g_a1
  show own_Goes _ _ _ _ _ _ _ (T48.setTop (mkF m 38 #[.val (.ref a1), .val (.long v1), .second, .val (.int v3), .val (.long v4), .second, .val (.long v6), .second, .val (.long v8), .second, .val (.long v10), .second, .val (.long v12), .second, .val (.long v14), .second, .val (.long v16), .second, .val .null] []))
  refine own_Goes.via (B := T48.setTop (mkF m 41 #[.val (.ref a1), .val (.long v1), .second, .val (.int v3), .val (.long v4), .second, .val (.long v6), .second, .val (.long v8), .second, .val (.long v10), .second, .val (.long v12), .second, .val (.long v14), .second, .val (.long v16), .second, .val .null] [(.long v12), (.ref a1)])) (fun t k => ?_) ?_
  · show Steps p.tables e below (T48.setTop (mkF m 38 #[.val (.ref a1), .val (.long v1), .second, .val (.int v3), .val (.long v4), .second, .val (.long v6), .second, .val (.long v8), .second, .val (.long v10), .second, .val (.long v12), .second, .val (.long v14), .second, .val (.long v16), .second, .val .null] [])) t
    refine XS.aloadN X48.here hx rfl (hb hby dSummary_mk_38) rfl rfl ?_
    show Steps p.tables e below (T48.setTop (mkF m 39 #[.val (.ref a1), .val (.long v1), .second, .val (.int v3), .val (.long v4), .second, .val (.long v6), .second, .val (.long v8), .second, .val (.long v10), .second, .val (.long v12), .second, .val (.long v14), .second, .val (.long v16), .second, .val .null] [(.ref a1)])) t
    refine XS.lload X48.here hx rfl (hb hby dSummary_mk_39) rfl ?_
    exact k
  obtain ⟨T49, h49, X49, e49, W49, st49⟩ := putF X48 hx hZ hown (host := "") (Or.inl (w25 hw)) Via.refl e48 F48_a1_missing E48_a1 (Or.inr ⟨(w26 hw), rfl, hnm⟩) (w5 hw) (ty := .long) (by decide) rfl rfl (g := (mkF m 41 #[.val (.ref a1), .val (.long v1), .second, .val (.int v3), .val (.long v4), .second, .val (.long v6), .second, .val (.long v8), .second, .val (.long v10), .second, .val (.long v12), .second, .val (.long v14), .second, .val (.long v16), .second, .val .null] [(.long v12), (.ref a1)])) rfl rfl (hb hby dSummary_mk_41)
  refine own_Goes.via st49 ?_
  have E49_a1 := E48_a1.wr W49
  have F49_a1_conflicts := F48_a1_conflicts.other W49 (Or.inr (slot_ne (Or.inr (w18 hw)) (Or.inr (w26 hw)) (by decide) (t := .long) (t' := .long) (by decide) (by decide)))
  have F49_a1_early := F48_a1_early.other W49 (Or.inr (slot_ne (Or.inr (w20 hw)) (Or.inr (w26 hw)) (by decide) (t := .long) (t' := .long) (by decide) (by decide)))
  have F49_a1_firstFinding := F48_a1_firstFinding.other W49 (Or.inr (slot_ne (Or.inr (w32 hw)) (Or.inr (w26 hw)) (by decide) (t := (.object "java/lang/String")) (t' := .long) (by decide) (by decide)))
  have F49_a1_fixedPlacement := F48_a1_fixedPlacement.other W49 (Or.inr (slot_ne (Or.inr (w16 hw)) (Or.inr (w26 hw)) (by decide) (t := .boolean) (t' := .long) (by decide) (by decide)))
  have F49_a1_flowspanNs := F48_a1_flowspanNs.other W49 (Or.inr (slot_ne (Or.inr (w30 hw)) (Or.inr (w26 hw)) (by decide) (t := .long) (t' := .long) (by decide) (by decide)))
  have F49_a1_frames := F48_a1_frames.other W49 (Or.inr (slot_ne (Or.inr (w14 hw)) (Or.inr (w26 hw)) (by decide) (t := .long) (t' := .long) (by decide) (by decide)))
  have F49_a1_order := F48_a1_order.other W49 (Or.inr (slot_ne (Or.inr (w22 hw)) (Or.inr (w26 hw)) (by decide) (t := .long) (t' := .long) (by decide) (by decide)))
  have F49_a1_waitingNs := F48_a1_waitingNs.other W49 (Or.inr (slot_ne (Or.inr (w28 hw)) (Or.inr (w26 hw)) (by decide) (t := .long) (t' := .long) (by decide) (by decide)))
  have F49_a1_window := F48_a1_window.other W49 (Or.inr (slot_ne (Or.inr (w24 hw)) (Or.inr (w26 hw)) (by decide) (t := .long) (t' := .long) (by decide) (by decide)))
  have F49_a1_missing := F48_a1_missing.same W49
  have z49 := Nat.le_trans z48 (Keep.of_wr W49).1
  have K49_ := K48_.wr W49 (Or.inl (List.mem_of_getElem? (i := 0) rfl))
  have O49 := O48.wr W49 g_a1
  have N49 := Fr.snoc X49 N48 g_a1
  show own_Goes _ _ _ _ _ _ _ (T49.setTop (mkF m 44 #[.val (.ref a1), .val (.long v1), .second, .val (.int v3), .val (.long v4), .second, .val (.long v6), .second, .val (.long v8), .second, .val (.long v10), .second, .val (.long v12), .second, .val (.long v14), .second, .val (.long v16), .second, .val .null] []))
  refine own_Goes.via (B := T49.setTop (mkF m 47 #[.val (.ref a1), .val (.long v1), .second, .val (.int v3), .val (.long v4), .second, .val (.long v6), .second, .val (.long v8), .second, .val (.long v10), .second, .val (.long v12), .second, .val (.long v14), .second, .val (.long v16), .second, .val .null] [(.long v14), (.ref a1)])) (fun t k => ?_) ?_
  · show Steps p.tables e below (T49.setTop (mkF m 44 #[.val (.ref a1), .val (.long v1), .second, .val (.int v3), .val (.long v4), .second, .val (.long v6), .second, .val (.long v8), .second, .val (.long v10), .second, .val (.long v12), .second, .val (.long v14), .second, .val (.long v16), .second, .val .null] [])) t
    refine XS.aloadN X49.here hx rfl (hb hby dSummary_mk_44) rfl rfl ?_
    show Steps p.tables e below (T49.setTop (mkF m 45 #[.val (.ref a1), .val (.long v1), .second, .val (.int v3), .val (.long v4), .second, .val (.long v6), .second, .val (.long v8), .second, .val (.long v10), .second, .val (.long v12), .second, .val (.long v14), .second, .val (.long v16), .second, .val .null] [(.ref a1)])) t
    refine XS.lload X49.here hx rfl (hb hby dSummary_mk_45) rfl ?_
    exact k
  obtain ⟨T50, h50, X50, e50, W50, st50⟩ := putF X49 hx hZ hown (host := "") (Or.inl (w27 hw)) Via.refl e49 F49_a1_waitingNs E49_a1 (Or.inr ⟨(w28 hw), rfl, hnm⟩) (w5 hw) (ty := .long) (by decide) rfl rfl (g := (mkF m 47 #[.val (.ref a1), .val (.long v1), .second, .val (.int v3), .val (.long v4), .second, .val (.long v6), .second, .val (.long v8), .second, .val (.long v10), .second, .val (.long v12), .second, .val (.long v14), .second, .val (.long v16), .second, .val .null] [(.long v14), (.ref a1)])) rfl rfl (hb hby dSummary_mk_47)
  refine own_Goes.via st50 ?_
  have E50_a1 := E49_a1.wr W50
  have F50_a1_conflicts := F49_a1_conflicts.other W50 (Or.inr (slot_ne (Or.inr (w18 hw)) (Or.inr (w28 hw)) (by decide) (t := .long) (t' := .long) (by decide) (by decide)))
  have F50_a1_early := F49_a1_early.other W50 (Or.inr (slot_ne (Or.inr (w20 hw)) (Or.inr (w28 hw)) (by decide) (t := .long) (t' := .long) (by decide) (by decide)))
  have F50_a1_firstFinding := F49_a1_firstFinding.other W50 (Or.inr (slot_ne (Or.inr (w32 hw)) (Or.inr (w28 hw)) (by decide) (t := (.object "java/lang/String")) (t' := .long) (by decide) (by decide)))
  have F50_a1_fixedPlacement := F49_a1_fixedPlacement.other W50 (Or.inr (slot_ne (Or.inr (w16 hw)) (Or.inr (w28 hw)) (by decide) (t := .boolean) (t' := .long) (by decide) (by decide)))
  have F50_a1_flowspanNs := F49_a1_flowspanNs.other W50 (Or.inr (slot_ne (Or.inr (w30 hw)) (Or.inr (w28 hw)) (by decide) (t := .long) (t' := .long) (by decide) (by decide)))
  have F50_a1_frames := F49_a1_frames.other W50 (Or.inr (slot_ne (Or.inr (w14 hw)) (Or.inr (w28 hw)) (by decide) (t := .long) (t' := .long) (by decide) (by decide)))
  have F50_a1_missing := F49_a1_missing.other W50 (Or.inr (slot_ne (Or.inr (w26 hw)) (Or.inr (w28 hw)) (by decide) (t := .long) (t' := .long) (by decide) (by decide)))
  have F50_a1_order := F49_a1_order.other W50 (Or.inr (slot_ne (Or.inr (w22 hw)) (Or.inr (w28 hw)) (by decide) (t := .long) (t' := .long) (by decide) (by decide)))
  have F50_a1_window := F49_a1_window.other W50 (Or.inr (slot_ne (Or.inr (w24 hw)) (Or.inr (w28 hw)) (by decide) (t := .long) (t' := .long) (by decide) (by decide)))
  have F50_a1_waitingNs := F49_a1_waitingNs.same W50
  have z50 := Nat.le_trans z49 (Keep.of_wr W50).1
  have K50_ := K49_.wr W50 (Or.inl (List.mem_of_getElem? (i := 0) rfl))
  have O50 := O49.wr W50 g_a1
  have N50 := Fr.snoc X50 N49 g_a1
  show own_Goes _ _ _ _ _ _ _ (T50.setTop (mkF m 50 #[.val (.ref a1), .val (.long v1), .second, .val (.int v3), .val (.long v4), .second, .val (.long v6), .second, .val (.long v8), .second, .val (.long v10), .second, .val (.long v12), .second, .val (.long v14), .second, .val (.long v16), .second, .val .null] []))
  refine own_Goes.via (B := T50.setTop (mkF m 53 #[.val (.ref a1), .val (.long v1), .second, .val (.int v3), .val (.long v4), .second, .val (.long v6), .second, .val (.long v8), .second, .val (.long v10), .second, .val (.long v12), .second, .val (.long v14), .second, .val (.long v16), .second, .val .null] [(.long v16), (.ref a1)])) (fun t k => ?_) ?_
  · show Steps p.tables e below (T50.setTop (mkF m 50 #[.val (.ref a1), .val (.long v1), .second, .val (.int v3), .val (.long v4), .second, .val (.long v6), .second, .val (.long v8), .second, .val (.long v10), .second, .val (.long v12), .second, .val (.long v14), .second, .val (.long v16), .second, .val .null] [])) t
    refine XS.aloadN X50.here hx rfl (hb hby dSummary_mk_50) rfl rfl ?_
    show Steps p.tables e below (T50.setTop (mkF m 51 #[.val (.ref a1), .val (.long v1), .second, .val (.int v3), .val (.long v4), .second, .val (.long v6), .second, .val (.long v8), .second, .val (.long v10), .second, .val (.long v12), .second, .val (.long v14), .second, .val (.long v16), .second, .val .null] [(.ref a1)])) t
    refine XS.lload X50.here hx rfl (hb hby dSummary_mk_51) rfl ?_
    exact k
  obtain ⟨T51, h51, X51, e51, W51, st51⟩ := putF X50 hx hZ hown (host := "") (Or.inl (w29 hw)) Via.refl e50 F50_a1_flowspanNs E50_a1 (Or.inr ⟨(w30 hw), rfl, hnm⟩) (w5 hw) (ty := .long) (by decide) rfl rfl (g := (mkF m 53 #[.val (.ref a1), .val (.long v1), .second, .val (.int v3), .val (.long v4), .second, .val (.long v6), .second, .val (.long v8), .second, .val (.long v10), .second, .val (.long v12), .second, .val (.long v14), .second, .val (.long v16), .second, .val .null] [(.long v16), (.ref a1)])) rfl rfl (hb hby dSummary_mk_53)
  refine own_Goes.via st51 ?_
  have E51_a1 := E50_a1.wr W51
  have F51_a1_conflicts := F50_a1_conflicts.other W51 (Or.inr (slot_ne (Or.inr (w18 hw)) (Or.inr (w30 hw)) (by decide) (t := .long) (t' := .long) (by decide) (by decide)))
  have F51_a1_early := F50_a1_early.other W51 (Or.inr (slot_ne (Or.inr (w20 hw)) (Or.inr (w30 hw)) (by decide) (t := .long) (t' := .long) (by decide) (by decide)))
  have F51_a1_firstFinding := F50_a1_firstFinding.other W51 (Or.inr (slot_ne (Or.inr (w32 hw)) (Or.inr (w30 hw)) (by decide) (t := (.object "java/lang/String")) (t' := .long) (by decide) (by decide)))
  have F51_a1_fixedPlacement := F50_a1_fixedPlacement.other W51 (Or.inr (slot_ne (Or.inr (w16 hw)) (Or.inr (w30 hw)) (by decide) (t := .boolean) (t' := .long) (by decide) (by decide)))
  have F51_a1_frames := F50_a1_frames.other W51 (Or.inr (slot_ne (Or.inr (w14 hw)) (Or.inr (w30 hw)) (by decide) (t := .long) (t' := .long) (by decide) (by decide)))
  have F51_a1_missing := F50_a1_missing.other W51 (Or.inr (slot_ne (Or.inr (w26 hw)) (Or.inr (w30 hw)) (by decide) (t := .long) (t' := .long) (by decide) (by decide)))
  have F51_a1_order := F50_a1_order.other W51 (Or.inr (slot_ne (Or.inr (w22 hw)) (Or.inr (w30 hw)) (by decide) (t := .long) (t' := .long) (by decide) (by decide)))
  have F51_a1_waitingNs := F50_a1_waitingNs.other W51 (Or.inr (slot_ne (Or.inr (w28 hw)) (Or.inr (w30 hw)) (by decide) (t := .long) (t' := .long) (by decide) (by decide)))
  have F51_a1_window := F50_a1_window.other W51 (Or.inr (slot_ne (Or.inr (w24 hw)) (Or.inr (w30 hw)) (by decide) (t := .long) (t' := .long) (by decide) (by decide)))
  have F51_a1_flowspanNs := F50_a1_flowspanNs.same W51
  have z51 := Nat.le_trans z50 (Keep.of_wr W51).1
  have K51_ := K50_.wr W51 (Or.inl (List.mem_of_getElem? (i := 0) rfl))
  have O51 := O50.wr W51 g_a1
  have N51 := Fr.snoc X51 N50 g_a1
  show own_Goes _ _ _ _ _ _ _ (T51.setTop (mkF m 56 #[.val (.ref a1), .val (.long v1), .second, .val (.int v3), .val (.long v4), .second, .val (.long v6), .second, .val (.long v8), .second, .val (.long v10), .second, .val (.long v12), .second, .val (.long v14), .second, .val (.long v16), .second, .val .null] []))
  refine own_Goes.via (B := T51.setTop (mkF m 59 #[.val (.ref a1), .val (.long v1), .second, .val (.int v3), .val (.long v4), .second, .val (.long v6), .second, .val (.long v8), .second, .val (.long v10), .second, .val (.long v12), .second, .val (.long v14), .second, .val (.long v16), .second, .val .null] [.null, (.ref a1)])) (fun t k => ?_) ?_
  · show Steps p.tables e below (T51.setTop (mkF m 56 #[.val (.ref a1), .val (.long v1), .second, .val (.int v3), .val (.long v4), .second, .val (.long v6), .second, .val (.long v8), .second, .val (.long v10), .second, .val (.long v12), .second, .val (.long v14), .second, .val (.long v16), .second, .val .null] [])) t
    refine XS.aloadN X51.here hx rfl (hb hby dSummary_mk_56) rfl rfl ?_
    show Steps p.tables e below (T51.setTop (mkF m 57 #[.val (.ref a1), .val (.long v1), .second, .val (.int v3), .val (.long v4), .second, .val (.long v6), .second, .val (.long v8), .second, .val (.long v10), .second, .val (.long v12), .second, .val (.long v14), .second, .val (.long v16), .second, .val .null] [(.ref a1)])) t
    refine XS.aload X51.here hx rfl (hb hby dSummary_mk_57) rfl rfl ?_
    exact k
  obtain ⟨T52, h52, X52, e52, W52, st52⟩ := putF X51 hx hZ hown (host := "") (Or.inl (w31 hw)) Via.refl e51 F51_a1_firstFinding E51_a1 (Or.inr ⟨(w32 hw), rfl, hnm⟩) (w5 hw) (ty := (.object "java/lang/String")) (by decide) rfl rfl (g := (mkF m 59 #[.val (.ref a1), .val (.long v1), .second, .val (.int v3), .val (.long v4), .second, .val (.long v6), .second, .val (.long v8), .second, .val (.long v10), .second, .val (.long v12), .second, .val (.long v14), .second, .val (.long v16), .second, .val .null] [.null, (.ref a1)])) rfl rfl (hb hby dSummary_mk_59)
  refine own_Goes.via st52 ?_
  have E52_a1 := E51_a1.wr W52
  have F52_a1_conflicts := F51_a1_conflicts.other W52 (Or.inr (slot_ne (Or.inr (w18 hw)) (Or.inr (w32 hw)) (by decide) (t := .long) (t' := (.object "java/lang/String")) (by decide) (by decide)))
  have F52_a1_early := F51_a1_early.other W52 (Or.inr (slot_ne (Or.inr (w20 hw)) (Or.inr (w32 hw)) (by decide) (t := .long) (t' := (.object "java/lang/String")) (by decide) (by decide)))
  have F52_a1_fixedPlacement := F51_a1_fixedPlacement.other W52 (Or.inr (slot_ne (Or.inr (w16 hw)) (Or.inr (w32 hw)) (by decide) (t := .boolean) (t' := (.object "java/lang/String")) (by decide) (by decide)))
  have F52_a1_flowspanNs := F51_a1_flowspanNs.other W52 (Or.inr (slot_ne (Or.inr (w30 hw)) (Or.inr (w32 hw)) (by decide) (t := .long) (t' := (.object "java/lang/String")) (by decide) (by decide)))
  have F52_a1_frames := F51_a1_frames.other W52 (Or.inr (slot_ne (Or.inr (w14 hw)) (Or.inr (w32 hw)) (by decide) (t := .long) (t' := (.object "java/lang/String")) (by decide) (by decide)))
  have F52_a1_missing := F51_a1_missing.other W52 (Or.inr (slot_ne (Or.inr (w26 hw)) (Or.inr (w32 hw)) (by decide) (t := .long) (t' := (.object "java/lang/String")) (by decide) (by decide)))
  have F52_a1_order := F51_a1_order.other W52 (Or.inr (slot_ne (Or.inr (w22 hw)) (Or.inr (w32 hw)) (by decide) (t := .long) (t' := (.object "java/lang/String")) (by decide) (by decide)))
  have F52_a1_waitingNs := F51_a1_waitingNs.other W52 (Or.inr (slot_ne (Or.inr (w28 hw)) (Or.inr (w32 hw)) (by decide) (t := .long) (t' := (.object "java/lang/String")) (by decide) (by decide)))
  have F52_a1_window := F51_a1_window.other W52 (Or.inr (slot_ne (Or.inr (w24 hw)) (Or.inr (w32 hw)) (by decide) (t := .long) (t' := (.object "java/lang/String")) (by decide) (by decide)))
  have F52_a1_firstFinding := F51_a1_firstFinding.same W52
  have z52 := Nat.le_trans z51 (Keep.of_wr W52).1
  have K52_ := K51_.wr W52 (Or.inl (List.mem_of_getElem? (i := 0) rfl))
  have O52 := O51.wr W52 g_a1
  have N52 := Fr.snoc X52 N51 g_a1
  show own_Goes _ _ _ _ _ _ _ (T52.setTop (mkF m 62 #[.val (.ref a1), .val (.long v1), .second, .val (.int v3), .val (.long v4), .second, .val (.long v6), .second, .val (.long v8), .second, .val (.long v10), .second, .val (.long v12), .second, .val (.long v14), .second, .val (.long v16), .second, .val .null] []))
  obtain rfl : (v4, v6, (v3 &&& 1), v16, v1, v12, v8, v14, v10) = r := Option.some.inj hF
  exact own_retV X52 hx hret hlk (hb hby dSummary_mk_62) e52 ⟨rfl, N52, K52_, E52_a1, F52_a1_conflicts, F52_a1_early, F52_a1_firstFinding, F52_a1_fixedPlacement, F52_a1_flowspanNs, F52_a1_frames, F52_a1_missing, F52_a1_order, F52_a1_waitingNs, F52_a1_window⟩ (by decide) (by decide)
theorem ef_Summary_mk (m : MethodId) (x0 : Addr) (x1 : Int64) (x2 : Int32) (x3 : Int64) (x4 : Int64) (x5 : Int64) (x6 : Int64) (x7 : Int64) (x8 : Int64) (x9 : Int64) : entryFrame m #[(.ref x0), (.long x1), (.int x2), (.long x3), (.long x4), (.long x5), (.long x6), (.long x7), (.long x8), (.long x9), .null] 19 = mkF m 0 #[.val (.ref x0), .val (.long x1), .second, .val (.int x2), .val (.long x3), .second, .val (.long x4), .second, .val (.long x5), .second, .val (.long x6), .second, .val (.long x7), .second, .val (.long x8), .second, .val (.long x9), .second, .val .null] [] := by first | (simp [entryFrame, mkF, argsToLocals, Value.category]; done) | rfl
set_option maxRecDepth 65536 in
set_option maxHeartbeats 4000000 in
theorem rm_Summary_mk (l : Launch) (Z : State) (a0 : Array Value) (hw : ∀ d ∈ tables_1, d.before a0 Z = true) (ws : List Jvm.Cond) (hE : Heap) (n0 : Nat) (z : n0 ≤ hE.size) (cs : own_CS Z) (O : Old Z n0 hE) (a1 : Addr) (v1 : Int64) (v3 : Int32) (v4 : Int64) (v6 : Int64) (v8 : Int64) (v10 : Int64) (v12 : Int64) (v14 : Int64) (v16 : Int64) (f_a1_conflicts : Int64) (f_a1_early : Int64) (f_a1_fixedPlacement : Int32) (f_a1_flowspanNs : Int64) (f_a1_frames : Int64) (f_a1_missing : Int64) (f_a1_order : Int64) (f_a1_waitingNs : Int64) (f_a1_window : Int64) (E_a1 : Exa Z hE a1 "com/example/no_wait_scheduler/nowaitscheduler/verify/Summary") (F_a1_conflicts : Fld Z hE a1 "com/example/no_wait_scheduler/nowaitscheduler/verify/Summary" "conflicts" "J" (.long f_a1_conflicts)) (F_a1_early : Fld Z hE a1 "com/example/no_wait_scheduler/nowaitscheduler/verify/Summary" "early" "J" (.long f_a1_early)) (F_a1_firstFinding : Fld Z hE a1 "com/example/no_wait_scheduler/nowaitscheduler/verify/Summary" "firstFinding" "Ljava/lang/String;" .null) (F_a1_fixedPlacement : Fld Z hE a1 "com/example/no_wait_scheduler/nowaitscheduler/verify/Summary" "fixedPlacement" "Z" (.int f_a1_fixedPlacement)) (F_a1_flowspanNs : Fld Z hE a1 "com/example/no_wait_scheduler/nowaitscheduler/verify/Summary" "flowspanNs" "J" (.long f_a1_flowspanNs)) (F_a1_frames : Fld Z hE a1 "com/example/no_wait_scheduler/nowaitscheduler/verify/Summary" "frames" "J" (.long f_a1_frames)) (F_a1_missing : Fld Z hE a1 "com/example/no_wait_scheduler/nowaitscheduler/verify/Summary" "missing" "J" (.long f_a1_missing)) (F_a1_order : Fld Z hE a1 "com/example/no_wait_scheduler/nowaitscheduler/verify/Summary" "order" "J" (.long f_a1_order)) (F_a1_waitingNs : Fld Z hE a1 "com/example/no_wait_scheduler/nowaitscheduler/verify/Summary" "waitingNs" "J" (.long f_a1_waitingNs)) (F_a1_window : Fld Z hE a1 "com/example/no_wait_scheduler/nowaitscheduler/verify/Summary" "window" "J" (.long f_a1_window)) (g_a1 : n0 ≤ a1) (r : Int64 × Int64 × Int32 × Int64 × Int64 × Int64 × Int64 × Int64 × Int64) (hF : (f_Summary_mk v1 v3 v4 v6 v8 v10 v12 v14 v16 f_a1_conflicts f_a1_early f_a1_fixedPlacement f_a1_flowspanNs f_a1_frames f_a1_missing f_a1_order f_a1_waitingNs f_a1_window) = some r) :
    MetFree l (⟨"com/example/no_wait_scheduler/nowaitscheduler/verify/Summary", "<init>", "(JZJJJJJJJLjava/lang/String;)V"⟩ : MethodName) (head1 (Jvm.Cond.code (⟨"com/example/no_wait_scheduler/nowaitscheduler/verify/Summary", "<init>", "(JZJJJJJJJLjava/lang/String;)V"⟩ : MethodName) prog_51_method_1_code 19 none :: ws) ({ frames := 1, cells := 0, slots := 0, locals := 12 } : Room)) (fun a U => a = #[(.ref a1), (.long v1), (.int v3), (.long v4), (.long v6), (.long v8), (.long v10), (.long v12), (.long v14), (.long v16), .null] ∧ Z.Warmed39 U.vm ∧ U.heap = hE) (fun _ _ _ _ _ => True) (fun _ U o U' => ∃ v L, o = .returned v ∧ (Q_Summary_mk Z hE n0 a1 r) v U'.heap L ∧ FrameEnd U o U' L ({ frames := 1, cells := 0, slots := 0, locals := 12 } : Room).cells ({ frames := 1, cells := 0, slots := 0, locals := 12 } : Room).slots) := by
  refine MetFree.of_bodySF (plainFor_of_name pn_com_example_no_wait_scheduler_nowaitscheduler_verify_Summary) hisR ?_
  intro p e s m args below meth c s₁ Bd hml0 hP hK
  obtain ⟨rfl, hZ, hh⟩ := hP
  have X0 : Stand p l e ({ frames := 1, cells := 0, slots := 0, locals := 12 } : Room) s m #[(.ref a1), (.long v1), (.int v3), (.long v4), (.long v6), (.long v8), (.long v10), (.long v12), (.long v14), (.long v16), .null] below meth c s₁ [] 0 0 := Stand.of_body Bd
  have e0 : s₁.heap = hE := by rw [← hh, Bd.state]; rfl
  have cx : Cx_Summary_mk p s m meth c Z a0 := ⟨Bd.exec, hZ, hw, Bd.bytes, hml0, findClass_of_methodNamed Bd.named, Bd.returns, Bd.notSynchronized, (name_of_methodNamed Bd.named Bd.method).1, cs⟩
  show own_Goes p e below s (Q_Summary_mk Z hE n0 a1 r) ({ frames := 1, cells := 0, slots := 0, locals := 12 } : Room).cells ({ frames := 1, cells := 0, slots := 0, locals := 12 } : Room).slots (s₁.setTop (entryFrame m #[(.ref a1), (.long v1), (.int v3), (.long v4), (.long v6), (.long v8), (.long v10), (.long v12), (.long v14), (.long v16), .null] 19))
  rw [ef_Summary_mk]
  exact b_Summary_mk cx a1 X0 e0 (Fr.nil n0) (Keep.refl _ _) z O v1 v3 v4 v6 v8 v10 v12 v14 v16 f_a1_conflicts f_a1_early f_a1_fixedPlacement f_a1_flowspanNs f_a1_frames f_a1_missing f_a1_order f_a1_waitingNs f_a1_window E_a1 F_a1_conflicts F_a1_early F_a1_firstFinding F_a1_fixedPlacement F_a1_flowspanNs F_a1_frames F_a1_missing F_a1_order F_a1_waitingNs F_a1_window g_a1 _ hF
/-! com/example/no_wait_scheduler/nowaitscheduler/verify/Summary.passes:()Z -/
def f_Summary_passes (f_a1_conflicts : Int64) (f_a1_early : Int64) (f_a1_fixedPlacement : Int32) (f_a1_flowspanNs : Int64) (f_a1_frames : Int64) (f_a1_missing : Int64) (f_a1_order : Int64) (f_a1_waitingNs : Int64) (f_a1_window : Int64) : Option (Int32) :=
  if f_a1_conflicts = (0 : Int64) then
    if f_a1_early = (0 : Int64) then
      if f_a1_order = (0 : Int64) then
        if f_a1_window = (0 : Int64) then
          if f_a1_missing = (0 : Int64) then
            some (1 : Int32)
          else
            some (0 : Int32)
        else
          some (0 : Int32)
      else
        some (0 : Int32)
    else
      some (0 : Int32)
  else
    some (0 : Int32)
def Q_Summary_passes (Z : State) (hE : Heap) (n0 : Nat) (a1 : Addr) (r : Int32) (v : Option Value) (h : Heap) (L : List Loc) : Prop := v = some (.int r) ∧ Fr n0 L ∧ h = hE
def Cx_Summary_passes (p : Program) (s : State) (m : MethodId) (meth : Method) (c : Code) (Z : State) (a0 : Array Value) : Prop := p.tables.exec = Jvm.exec ∧ Z.Warmed39 s.vm ∧ (∀ d ∈ tables_1, d.before a0 Z = true) ∧ c.code = prog_51_method_2_code ∧ c.maxLocals = 1 ∧ s.vm.findClass "com/example/no_wait_scheduler/nowaitscheduler/verify/Summary" = some m.cls ∧ meth.sig.returnType = some .boolean ∧ meth.locks = false ∧ meth.name = "passes" ∧ own_CS Z
set_option maxRecDepth 65536 in
set_option maxHeartbeats 4000000 in
theorem b_Summary_passes {p : Program} {l : Launch} {e : Env} {s : State} {m : MethodId} {args : Array Value} {below : List Frame} {meth : Method} {c : Code} {Z : State} {a0 : Array Value} {n0 : Nat} {hE : Heap} (cx : Cx_Summary_passes p s m meth c Z a0) (a1 : Addr) :
    ∀ {T : State} {locs : List Loc} (X : Stand p l e ({ frames := 0, cells := 0, slots := 0, locals := 0 } : Room) s m args below meth c T locs 0 0) (eT : T.heap = hE) (N : Fr n0 locs) (z : n0 ≤ hE.size) (O : Old Z n0 hE) (f_a1_conflicts : Int64) (f_a1_early : Int64) (f_a1_fixedPlacement : Int32) (f_a1_flowspanNs : Int64) (f_a1_frames : Int64) (f_a1_missing : Int64) (f_a1_order : Int64) (f_a1_waitingNs : Int64) (f_a1_window : Int64) (E_a1 : Exa Z hE a1 "com/example/no_wait_scheduler/nowaitscheduler/verify/Summary") (F_a1_conflicts : Fld Z hE a1 "com/example/no_wait_scheduler/nowaitscheduler/verify/Summary" "conflicts" "J" (.long f_a1_conflicts)) (F_a1_early : Fld Z hE a1 "com/example/no_wait_scheduler/nowaitscheduler/verify/Summary" "early" "J" (.long f_a1_early)) (F_a1_firstFinding : Fld Z hE a1 "com/example/no_wait_scheduler/nowaitscheduler/verify/Summary" "firstFinding" "Ljava/lang/String;" .null) (F_a1_fixedPlacement : Fld Z hE a1 "com/example/no_wait_scheduler/nowaitscheduler/verify/Summary" "fixedPlacement" "Z" (.int f_a1_fixedPlacement)) (F_a1_flowspanNs : Fld Z hE a1 "com/example/no_wait_scheduler/nowaitscheduler/verify/Summary" "flowspanNs" "J" (.long f_a1_flowspanNs)) (F_a1_frames : Fld Z hE a1 "com/example/no_wait_scheduler/nowaitscheduler/verify/Summary" "frames" "J" (.long f_a1_frames)) (F_a1_missing : Fld Z hE a1 "com/example/no_wait_scheduler/nowaitscheduler/verify/Summary" "missing" "J" (.long f_a1_missing)) (F_a1_order : Fld Z hE a1 "com/example/no_wait_scheduler/nowaitscheduler/verify/Summary" "order" "J" (.long f_a1_order)) (F_a1_waitingNs : Fld Z hE a1 "com/example/no_wait_scheduler/nowaitscheduler/verify/Summary" "waitingNs" "J" (.long f_a1_waitingNs)) (F_a1_window : Fld Z hE a1 "com/example/no_wait_scheduler/nowaitscheduler/verify/Summary" "window" "J" (.long f_a1_window)) (g_a1 : n0 ≤ a1) (r : Int32), f_Summary_passes f_a1_conflicts f_a1_early f_a1_fixedPlacement f_a1_flowspanNs f_a1_frames f_a1_missing f_a1_order f_a1_waitingNs f_a1_window = some r → own_Goes p e below s (Q_Summary_passes Z hE n0 a1 r) 0 0 (T.setTop (mkF m 0 #[.val (.ref a1)] [])) := by
  have cx' := cx
  obtain ⟨hx, hZ, hw, hby, hml, hown, hret, hlk, hnm, hcs⟩ := cx'
  intro T locs X eT N z O f_a1_conflicts f_a1_early f_a1_fixedPlacement f_a1_flowspanNs f_a1_frames f_a1_missing f_a1_order f_a1_waitingNs f_a1_window E_a1 F_a1_conflicts F_a1_early F_a1_firstFinding F_a1_fixedPlacement F_a1_flowspanNs F_a1_frames F_a1_missing F_a1_order F_a1_waitingNs F_a1_window g_a1 r hF
  unfold f_Summary_passes at hF
  refine own_Goes.via (B := T.setTop (mkF m 1 #[.val (.ref a1)] [(.ref a1)])) (fun t k => ?_) ?_
  · show Steps p.tables e below (T.setTop (mkF m 0 #[.val (.ref a1)] [])) t
    refine XS.aloadN X.here hx rfl (hb hby dSummary_passes_0) rfl rfl ?_
    exact k
  obtain ⟨T69, X69, e69, st69⟩ := getF X hx hZ hown (host := "") (Or.inl (w17 hw)) Via.refl eT F_a1_conflicts (g := (mkF m 1 #[.val (.ref a1)] [(.ref a1)])) rfl rfl (hb hby dSummary_passes_1)
  refine own_Goes.via st69 ?_
  show own_Goes _ _ _ _ _ _ _ (T69.setTop (mkF m 4 #[.val (.ref a1)] [(.long f_a1_conflicts)]))
  refine own_Goes.via (B := T69.setTop (mkF m 6 #[.val (.ref a1)] [(.int (lcmpW f_a1_conflicts (0 : Int64)))])) (fun t k => ?_) ?_
  · show Steps p.tables e below (T69.setTop (mkF m 4 #[.val (.ref a1)] [(.long f_a1_conflicts)])) t
    refine XS.lconst X69.here hx rfl (hb hby dSummary_passes_4) ?_
    show Steps p.tables e below (T69.setTop (mkF m 5 #[.val (.ref a1)] [(.long (0 : Int64)), (.long f_a1_conflicts)])) t
    refine XS.lcmp X69.here hx rfl (hb hby dSummary_passes_5) rfl ?_
    exact k
  by_cases hc6 : f_a1_conflicts = (0 : Int64)
  · rw [if_pos hc6] at hF
    refine own_Goes.via (B := T69.setTop (mkF m 10 #[.val (.ref a1)] [(.ref a1)])) (fun t k => ?_) ?_
    · show Steps p.tables e below (T69.setTop (mkF m 6 #[.val (.ref a1)] [(.int (lcmpW f_a1_conflicts (0 : Int64)))])) t
      refine XS.ifNo X69.here hx rfl (hb hby dSummary_passes_6) rfl (own_teqL hc6).2 ?_
      show Steps p.tables e below (T69.setTop (mkF m 9 #[.val (.ref a1)] [])) t
      refine XS.aloadN X69.here hx rfl (hb hby dSummary_passes_9) rfl rfl ?_
      exact k
    obtain ⟨T70, X70, e70, st70⟩ := getF X69 hx hZ hown (host := "") (Or.inl (w19 hw)) Via.refl e69 F_a1_early (g := (mkF m 10 #[.val (.ref a1)] [(.ref a1)])) rfl rfl (hb hby dSummary_passes_10)
    refine own_Goes.via st70 ?_
    show own_Goes _ _ _ _ _ _ _ (T70.setTop (mkF m 13 #[.val (.ref a1)] [(.long f_a1_early)]))
    refine own_Goes.via (B := T70.setTop (mkF m 15 #[.val (.ref a1)] [(.int (lcmpW f_a1_early (0 : Int64)))])) (fun t k => ?_) ?_
    · show Steps p.tables e below (T70.setTop (mkF m 13 #[.val (.ref a1)] [(.long f_a1_early)])) t
      refine XS.lconst X70.here hx rfl (hb hby dSummary_passes_13) ?_
      show Steps p.tables e below (T70.setTop (mkF m 14 #[.val (.ref a1)] [(.long (0 : Int64)), (.long f_a1_early)])) t
      refine XS.lcmp X70.here hx rfl (hb hby dSummary_passes_14) rfl ?_
      exact k
    by_cases hc15 : f_a1_early = (0 : Int64)
    · rw [if_pos hc15] at hF
      refine own_Goes.via (B := T70.setTop (mkF m 19 #[.val (.ref a1)] [(.ref a1)])) (fun t k => ?_) ?_
      · show Steps p.tables e below (T70.setTop (mkF m 15 #[.val (.ref a1)] [(.int (lcmpW f_a1_early (0 : Int64)))])) t
        refine XS.ifNo X70.here hx rfl (hb hby dSummary_passes_15) rfl (own_teqL hc15).2 ?_
        show Steps p.tables e below (T70.setTop (mkF m 18 #[.val (.ref a1)] [])) t
        refine XS.aloadN X70.here hx rfl (hb hby dSummary_passes_18) rfl rfl ?_
        exact k
      obtain ⟨T71, X71, e71, st71⟩ := getF X70 hx hZ hown (host := "") (Or.inl (w21 hw)) Via.refl e70 F_a1_order (g := (mkF m 19 #[.val (.ref a1)] [(.ref a1)])) rfl rfl (hb hby dSummary_passes_19)
      refine own_Goes.via st71 ?_
      show own_Goes _ _ _ _ _ _ _ (T71.setTop (mkF m 22 #[.val (.ref a1)] [(.long f_a1_order)]))
      refine own_Goes.via (B := T71.setTop (mkF m 24 #[.val (.ref a1)] [(.int (lcmpW f_a1_order (0 : Int64)))])) (fun t k => ?_) ?_
      · show Steps p.tables e below (T71.setTop (mkF m 22 #[.val (.ref a1)] [(.long f_a1_order)])) t
        refine XS.lconst X71.here hx rfl (hb hby dSummary_passes_22) ?_
        show Steps p.tables e below (T71.setTop (mkF m 23 #[.val (.ref a1)] [(.long (0 : Int64)), (.long f_a1_order)])) t
        refine XS.lcmp X71.here hx rfl (hb hby dSummary_passes_23) rfl ?_
        exact k
      by_cases hc24 : f_a1_order = (0 : Int64)
      · rw [if_pos hc24] at hF
        refine own_Goes.via (B := T71.setTop (mkF m 28 #[.val (.ref a1)] [(.ref a1)])) (fun t k => ?_) ?_
        · show Steps p.tables e below (T71.setTop (mkF m 24 #[.val (.ref a1)] [(.int (lcmpW f_a1_order (0 : Int64)))])) t
          refine XS.ifNo X71.here hx rfl (hb hby dSummary_passes_24) rfl (own_teqL hc24).2 ?_
          show Steps p.tables e below (T71.setTop (mkF m 27 #[.val (.ref a1)] [])) t
          refine XS.aloadN X71.here hx rfl (hb hby dSummary_passes_27) rfl rfl ?_
          exact k
        obtain ⟨T72, X72, e72, st72⟩ := getF X71 hx hZ hown (host := "") (Or.inl (w23 hw)) Via.refl e71 F_a1_window (g := (mkF m 28 #[.val (.ref a1)] [(.ref a1)])) rfl rfl (hb hby dSummary_passes_28)
        refine own_Goes.via st72 ?_
        show own_Goes _ _ _ _ _ _ _ (T72.setTop (mkF m 31 #[.val (.ref a1)] [(.long f_a1_window)]))
        refine own_Goes.via (B := T72.setTop (mkF m 33 #[.val (.ref a1)] [(.int (lcmpW f_a1_window (0 : Int64)))])) (fun t k => ?_) ?_
        · show Steps p.tables e below (T72.setTop (mkF m 31 #[.val (.ref a1)] [(.long f_a1_window)])) t
          refine XS.lconst X72.here hx rfl (hb hby dSummary_passes_31) ?_
          show Steps p.tables e below (T72.setTop (mkF m 32 #[.val (.ref a1)] [(.long (0 : Int64)), (.long f_a1_window)])) t
          refine XS.lcmp X72.here hx rfl (hb hby dSummary_passes_32) rfl ?_
          exact k
        by_cases hc33 : f_a1_window = (0 : Int64)
        · rw [if_pos hc33] at hF
          refine own_Goes.via (B := T72.setTop (mkF m 37 #[.val (.ref a1)] [(.ref a1)])) (fun t k => ?_) ?_
          · show Steps p.tables e below (T72.setTop (mkF m 33 #[.val (.ref a1)] [(.int (lcmpW f_a1_window (0 : Int64)))])) t
            refine XS.ifNo X72.here hx rfl (hb hby dSummary_passes_33) rfl (own_teqL hc33).2 ?_
            show Steps p.tables e below (T72.setTop (mkF m 36 #[.val (.ref a1)] [])) t
            refine XS.aloadN X72.here hx rfl (hb hby dSummary_passes_36) rfl rfl ?_
            exact k
          obtain ⟨T73, X73, e73, st73⟩ := getF X72 hx hZ hown (host := "") (Or.inl (w25 hw)) Via.refl e72 F_a1_missing (g := (mkF m 37 #[.val (.ref a1)] [(.ref a1)])) rfl rfl (hb hby dSummary_passes_37)
          refine own_Goes.via st73 ?_
          show own_Goes _ _ _ _ _ _ _ (T73.setTop (mkF m 40 #[.val (.ref a1)] [(.long f_a1_missing)]))
          refine own_Goes.via (B := T73.setTop (mkF m 42 #[.val (.ref a1)] [(.int (lcmpW f_a1_missing (0 : Int64)))])) (fun t k => ?_) ?_
          · show Steps p.tables e below (T73.setTop (mkF m 40 #[.val (.ref a1)] [(.long f_a1_missing)])) t
            refine XS.lconst X73.here hx rfl (hb hby dSummary_passes_40) ?_
            show Steps p.tables e below (T73.setTop (mkF m 41 #[.val (.ref a1)] [(.long (0 : Int64)), (.long f_a1_missing)])) t
            refine XS.lcmp X73.here hx rfl (hb hby dSummary_passes_41) rfl ?_
            exact k
          by_cases hc42 : f_a1_missing = (0 : Int64)
          · rw [if_pos hc42] at hF
            refine own_Goes.via (B := T73.setTop (mkF m 50 #[.val (.ref a1)] [(.int (1 : Int32))])) (fun t k => ?_) ?_
            · show Steps p.tables e below (T73.setTop (mkF m 42 #[.val (.ref a1)] [(.int (lcmpW f_a1_missing (0 : Int64)))])) t
              refine XS.ifNo X73.here hx rfl (hb hby dSummary_passes_42) rfl (own_teqL hc42).2 ?_
              show Steps p.tables e below (T73.setTop (mkF m 45 #[.val (.ref a1)] [])) t
              refine XS.iconst X73.here hx rfl (hb hby dSummary_passes_45) ?_
              show Steps p.tables e below (T73.setTop (mkF m 46 #[.val (.ref a1)] [(.int (1 : Int32))])) t
              refine XS.goto X73.here hx rfl (pc0 := 46) (pc' := 50) rfl (hb hby dSummary_passes_46) (by decide) (by decide) ?_
              exact k
            obtain rfl : (1 : Int32) = r := Option.some.inj hF
            exact own_retN X73 hx (t := .boolean) hret hlk (by simp) (hb hby dSummary_passes_50) e73 (v := (1 : Int32)) (by decide) ⟨rfl, N, rfl⟩ (by decide) (by decide)
          · rw [if_neg hc42] at hF
            refine own_Goes.via (B := T73.setTop (mkF m 50 #[.val (.ref a1)] [(.int (0 : Int32))])) (fun t k => ?_) ?_
            · show Steps p.tables e below (T73.setTop (mkF m 42 #[.val (.ref a1)] [(.int (lcmpW f_a1_missing (0 : Int64)))])) t
              refine XS.ifYes X73.here hx rfl (pc0 := 42) (pc' := 49) rfl (hb hby dSummary_passes_42) rfl (own_feqL hc42).2 (by decide) (by decide) ?_
              show Steps p.tables e below (T73.setTop (mkF m 49 #[.val (.ref a1)] [])) t
              refine XS.iconst X73.here hx rfl (hb hby dSummary_passes_49) ?_
              exact k
            obtain rfl : (0 : Int32) = r := Option.some.inj hF
            exact own_retN X73 hx (t := .boolean) hret hlk (by simp) (hb hby dSummary_passes_50) e73 (v := (0 : Int32)) (by decide) ⟨rfl, N, rfl⟩ (by decide) (by decide)
        · rw [if_neg hc33] at hF
          refine own_Goes.via (B := T72.setTop (mkF m 50 #[.val (.ref a1)] [(.int (0 : Int32))])) (fun t k => ?_) ?_
          · show Steps p.tables e below (T72.setTop (mkF m 33 #[.val (.ref a1)] [(.int (lcmpW f_a1_window (0 : Int64)))])) t
            refine XS.ifYes X72.here hx rfl (pc0 := 33) (pc' := 49) rfl (hb hby dSummary_passes_33) rfl (own_feqL hc33).2 (by decide) (by decide) ?_
            show Steps p.tables e below (T72.setTop (mkF m 49 #[.val (.ref a1)] [])) t
            refine XS.iconst X72.here hx rfl (hb hby dSummary_passes_49) ?_
            exact k
          obtain rfl : (0 : Int32) = r := Option.some.inj hF
          exact own_retN X72 hx (t := .boolean) hret hlk (by simp) (hb hby dSummary_passes_50) e72 (v := (0 : Int32)) (by decide) ⟨rfl, N, rfl⟩ (by decide) (by decide)
      · rw [if_neg hc24] at hF
        refine own_Goes.via (B := T71.setTop (mkF m 50 #[.val (.ref a1)] [(.int (0 : Int32))])) (fun t k => ?_) ?_
        · show Steps p.tables e below (T71.setTop (mkF m 24 #[.val (.ref a1)] [(.int (lcmpW f_a1_order (0 : Int64)))])) t
          refine XS.ifYes X71.here hx rfl (pc0 := 24) (pc' := 49) rfl (hb hby dSummary_passes_24) rfl (own_feqL hc24).2 (by decide) (by decide) ?_
          show Steps p.tables e below (T71.setTop (mkF m 49 #[.val (.ref a1)] [])) t
          refine XS.iconst X71.here hx rfl (hb hby dSummary_passes_49) ?_
          exact k
        obtain rfl : (0 : Int32) = r := Option.some.inj hF
        exact own_retN X71 hx (t := .boolean) hret hlk (by simp) (hb hby dSummary_passes_50) e71 (v := (0 : Int32)) (by decide) ⟨rfl, N, rfl⟩ (by decide) (by decide)
    · rw [if_neg hc15] at hF
      refine own_Goes.via (B := T70.setTop (mkF m 50 #[.val (.ref a1)] [(.int (0 : Int32))])) (fun t k => ?_) ?_
      · show Steps p.tables e below (T70.setTop (mkF m 15 #[.val (.ref a1)] [(.int (lcmpW f_a1_early (0 : Int64)))])) t
        refine XS.ifYes X70.here hx rfl (pc0 := 15) (pc' := 49) rfl (hb hby dSummary_passes_15) rfl (own_feqL hc15).2 (by decide) (by decide) ?_
        show Steps p.tables e below (T70.setTop (mkF m 49 #[.val (.ref a1)] [])) t
        refine XS.iconst X70.here hx rfl (hb hby dSummary_passes_49) ?_
        exact k
      obtain rfl : (0 : Int32) = r := Option.some.inj hF
      exact own_retN X70 hx (t := .boolean) hret hlk (by simp) (hb hby dSummary_passes_50) e70 (v := (0 : Int32)) (by decide) ⟨rfl, N, rfl⟩ (by decide) (by decide)
  · rw [if_neg hc6] at hF
    refine own_Goes.via (B := T69.setTop (mkF m 50 #[.val (.ref a1)] [(.int (0 : Int32))])) (fun t k => ?_) ?_
    · show Steps p.tables e below (T69.setTop (mkF m 6 #[.val (.ref a1)] [(.int (lcmpW f_a1_conflicts (0 : Int64)))])) t
      refine XS.ifYes X69.here hx rfl (pc0 := 6) (pc' := 49) rfl (hb hby dSummary_passes_6) rfl (own_feqL hc6).2 (by decide) (by decide) ?_
      show Steps p.tables e below (T69.setTop (mkF m 49 #[.val (.ref a1)] [])) t
      refine XS.iconst X69.here hx rfl (hb hby dSummary_passes_49) ?_
      exact k
    obtain rfl : (0 : Int32) = r := Option.some.inj hF
    exact own_retN X69 hx (t := .boolean) hret hlk (by simp) (hb hby dSummary_passes_50) e69 (v := (0 : Int32)) (by decide) ⟨rfl, N, rfl⟩ (by decide) (by decide)
theorem ef_Summary_passes (m : MethodId) (x0 : Addr) : entryFrame m #[(.ref x0)] 1 = mkF m 0 #[.val (.ref x0)] [] := by first | (simp [entryFrame, mkF, argsToLocals, Value.category]; done) | rfl
set_option maxRecDepth 65536 in
set_option maxHeartbeats 4000000 in
theorem rm_Summary_passes (l : Launch) (Z : State) (a0 : Array Value) (hw : ∀ d ∈ tables_1, d.before a0 Z = true) (ws : List Jvm.Cond) (hE : Heap) (n0 : Nat) (z : n0 ≤ hE.size) (cs : own_CS Z) (O : Old Z n0 hE) (a1 : Addr) (f_a1_conflicts : Int64) (f_a1_early : Int64) (f_a1_fixedPlacement : Int32) (f_a1_flowspanNs : Int64) (f_a1_frames : Int64) (f_a1_missing : Int64) (f_a1_order : Int64) (f_a1_waitingNs : Int64) (f_a1_window : Int64) (E_a1 : Exa Z hE a1 "com/example/no_wait_scheduler/nowaitscheduler/verify/Summary") (F_a1_conflicts : Fld Z hE a1 "com/example/no_wait_scheduler/nowaitscheduler/verify/Summary" "conflicts" "J" (.long f_a1_conflicts)) (F_a1_early : Fld Z hE a1 "com/example/no_wait_scheduler/nowaitscheduler/verify/Summary" "early" "J" (.long f_a1_early)) (F_a1_firstFinding : Fld Z hE a1 "com/example/no_wait_scheduler/nowaitscheduler/verify/Summary" "firstFinding" "Ljava/lang/String;" .null) (F_a1_fixedPlacement : Fld Z hE a1 "com/example/no_wait_scheduler/nowaitscheduler/verify/Summary" "fixedPlacement" "Z" (.int f_a1_fixedPlacement)) (F_a1_flowspanNs : Fld Z hE a1 "com/example/no_wait_scheduler/nowaitscheduler/verify/Summary" "flowspanNs" "J" (.long f_a1_flowspanNs)) (F_a1_frames : Fld Z hE a1 "com/example/no_wait_scheduler/nowaitscheduler/verify/Summary" "frames" "J" (.long f_a1_frames)) (F_a1_missing : Fld Z hE a1 "com/example/no_wait_scheduler/nowaitscheduler/verify/Summary" "missing" "J" (.long f_a1_missing)) (F_a1_order : Fld Z hE a1 "com/example/no_wait_scheduler/nowaitscheduler/verify/Summary" "order" "J" (.long f_a1_order)) (F_a1_waitingNs : Fld Z hE a1 "com/example/no_wait_scheduler/nowaitscheduler/verify/Summary" "waitingNs" "J" (.long f_a1_waitingNs)) (F_a1_window : Fld Z hE a1 "com/example/no_wait_scheduler/nowaitscheduler/verify/Summary" "window" "J" (.long f_a1_window)) (g_a1 : n0 ≤ a1) (r : Int32) (hF : (f_Summary_passes f_a1_conflicts f_a1_early f_a1_fixedPlacement f_a1_flowspanNs f_a1_frames f_a1_missing f_a1_order f_a1_waitingNs f_a1_window) = some r) :
    MetFree l (⟨"com/example/no_wait_scheduler/nowaitscheduler/verify/Summary", "passes", "()Z"⟩ : MethodName) (head1 (Jvm.Cond.code (⟨"com/example/no_wait_scheduler/nowaitscheduler/verify/Summary", "passes", "()Z"⟩ : MethodName) prog_51_method_2_code 1 (some .boolean) :: ws) ({ frames := 0, cells := 0, slots := 0, locals := 0 } : Room)) (fun a U => a = #[(.ref a1)] ∧ Z.Warmed39 U.vm ∧ U.heap = hE) (fun _ _ _ _ _ => True) (fun _ U o U' => ∃ v L, o = .returned v ∧ (Q_Summary_passes Z hE n0 a1 r) v U'.heap L ∧ FrameEnd U o U' L ({ frames := 0, cells := 0, slots := 0, locals := 0 } : Room).cells ({ frames := 0, cells := 0, slots := 0, locals := 0 } : Room).slots) := by
  refine MetFree.of_bodySF (plainFor_of_name pn_com_example_no_wait_scheduler_nowaitscheduler_verify_Summary) hisR ?_
  intro p e s m args below meth c s₁ Bd hml0 hP hK
  obtain ⟨rfl, hZ, hh⟩ := hP
  have X0 : Stand p l e ({ frames := 0, cells := 0, slots := 0, locals := 0 } : Room) s m #[(.ref a1)] below meth c s₁ [] 0 0 := Stand.of_body Bd
  have e0 : s₁.heap = hE := by rw [← hh, Bd.state]; rfl
  have cx : Cx_Summary_passes p s m meth c Z a0 := ⟨Bd.exec, hZ, hw, Bd.bytes, hml0, findClass_of_methodNamed Bd.named, Bd.returns, Bd.notSynchronized, (name_of_methodNamed Bd.named Bd.method).1, cs⟩
  show own_Goes p e below s (Q_Summary_passes Z hE n0 a1 r) ({ frames := 0, cells := 0, slots := 0, locals := 0 } : Room).cells ({ frames := 0, cells := 0, slots := 0, locals := 0 } : Room).slots (s₁.setTop (entryFrame m #[(.ref a1)] 1))
  rw [ef_Summary_passes]
  exact b_Summary_passes cx a1 X0 e0 (Fr.nil n0) z O f_a1_conflicts f_a1_early f_a1_fixedPlacement f_a1_flowspanNs f_a1_frames f_a1_missing f_a1_order f_a1_waitingNs f_a1_window E_a1 F_a1_conflicts F_a1_early F_a1_firstFinding F_a1_fixedPlacement F_a1_flowspanNs F_a1_frames F_a1_missing F_a1_order F_a1_waitingNs F_a1_window g_a1 _ hF
/-! com/example/no_wait_scheduler/nowaitscheduler/verify/Summary.findings:()J -/
def f_Summary_findings (f_a1_conflicts : Int64) (f_a1_early : Int64) (f_a1_fixedPlacement : Int32) (f_a1_flowspanNs : Int64) (f_a1_frames : Int64) (f_a1_missing : Int64) (f_a1_order : Int64) (f_a1_waitingNs : Int64) (f_a1_window : Int64) : Option (Int64) :=
  some ((((f_a1_conflicts + f_a1_early) + f_a1_order) + f_a1_window) + f_a1_missing)
def Q_Summary_findings (Z : State) (hE : Heap) (n0 : Nat) (a1 : Addr) (r : Int64) (v : Option Value) (h : Heap) (L : List Loc) : Prop := v = some (.long r) ∧ Fr n0 L ∧ h = hE
def Cx_Summary_findings (p : Program) (s : State) (m : MethodId) (meth : Method) (c : Code) (Z : State) (a0 : Array Value) : Prop := p.tables.exec = Jvm.exec ∧ Z.Warmed39 s.vm ∧ (∀ d ∈ tables_1, d.before a0 Z = true) ∧ c.code = prog_51_method_3_code ∧ c.maxLocals = 1 ∧ s.vm.findClass "com/example/no_wait_scheduler/nowaitscheduler/verify/Summary" = some m.cls ∧ meth.sig.returnType = some .long ∧ meth.locks = false ∧ meth.name = "findings" ∧ own_CS Z
set_option maxRecDepth 65536 in
set_option maxHeartbeats 4000000 in
theorem b_Summary_findings {p : Program} {l : Launch} {e : Env} {s : State} {m : MethodId} {args : Array Value} {below : List Frame} {meth : Method} {c : Code} {Z : State} {a0 : Array Value} {n0 : Nat} {hE : Heap} (cx : Cx_Summary_findings p s m meth c Z a0) (a1 : Addr) :
    ∀ {T : State} {locs : List Loc} (X : Stand p l e ({ frames := 0, cells := 0, slots := 0, locals := 0 } : Room) s m args below meth c T locs 0 0) (eT : T.heap = hE) (N : Fr n0 locs) (z : n0 ≤ hE.size) (O : Old Z n0 hE) (f_a1_conflicts : Int64) (f_a1_early : Int64) (f_a1_fixedPlacement : Int32) (f_a1_flowspanNs : Int64) (f_a1_frames : Int64) (f_a1_missing : Int64) (f_a1_order : Int64) (f_a1_waitingNs : Int64) (f_a1_window : Int64) (E_a1 : Exa Z hE a1 "com/example/no_wait_scheduler/nowaitscheduler/verify/Summary") (F_a1_conflicts : Fld Z hE a1 "com/example/no_wait_scheduler/nowaitscheduler/verify/Summary" "conflicts" "J" (.long f_a1_conflicts)) (F_a1_early : Fld Z hE a1 "com/example/no_wait_scheduler/nowaitscheduler/verify/Summary" "early" "J" (.long f_a1_early)) (F_a1_firstFinding : Fld Z hE a1 "com/example/no_wait_scheduler/nowaitscheduler/verify/Summary" "firstFinding" "Ljava/lang/String;" .null) (F_a1_fixedPlacement : Fld Z hE a1 "com/example/no_wait_scheduler/nowaitscheduler/verify/Summary" "fixedPlacement" "Z" (.int f_a1_fixedPlacement)) (F_a1_flowspanNs : Fld Z hE a1 "com/example/no_wait_scheduler/nowaitscheduler/verify/Summary" "flowspanNs" "J" (.long f_a1_flowspanNs)) (F_a1_frames : Fld Z hE a1 "com/example/no_wait_scheduler/nowaitscheduler/verify/Summary" "frames" "J" (.long f_a1_frames)) (F_a1_missing : Fld Z hE a1 "com/example/no_wait_scheduler/nowaitscheduler/verify/Summary" "missing" "J" (.long f_a1_missing)) (F_a1_order : Fld Z hE a1 "com/example/no_wait_scheduler/nowaitscheduler/verify/Summary" "order" "J" (.long f_a1_order)) (F_a1_waitingNs : Fld Z hE a1 "com/example/no_wait_scheduler/nowaitscheduler/verify/Summary" "waitingNs" "J" (.long f_a1_waitingNs)) (F_a1_window : Fld Z hE a1 "com/example/no_wait_scheduler/nowaitscheduler/verify/Summary" "window" "J" (.long f_a1_window)) (g_a1 : n0 ≤ a1) (r : Int64), f_Summary_findings f_a1_conflicts f_a1_early f_a1_fixedPlacement f_a1_flowspanNs f_a1_frames f_a1_missing f_a1_order f_a1_waitingNs f_a1_window = some r → own_Goes p e below s (Q_Summary_findings Z hE n0 a1 r) 0 0 (T.setTop (mkF m 0 #[.val (.ref a1)] [])) := by
  have cx' := cx
  obtain ⟨hx, hZ, hw, hby, hml, hown, hret, hlk, hnm, hcs⟩ := cx'
  intro T locs X eT N z O f_a1_conflicts f_a1_early f_a1_fixedPlacement f_a1_flowspanNs f_a1_frames f_a1_missing f_a1_order f_a1_waitingNs f_a1_window E_a1 F_a1_conflicts F_a1_early F_a1_firstFinding F_a1_fixedPlacement F_a1_flowspanNs F_a1_frames F_a1_missing F_a1_order F_a1_waitingNs F_a1_window g_a1 r hF
  unfold f_Summary_findings at hF
  refine own_Goes.via (B := T.setTop (mkF m 1 #[.val (.ref a1)] [(.ref a1)])) (fun t k => ?_) ?_
  · show Steps p.tables e below (T.setTop (mkF m 0 #[.val (.ref a1)] [])) t
    refine XS.aloadN X.here hx rfl (hb hby dSummary_findings_0) rfl rfl ?_
    exact k
  obtain ⟨T90, X90, e90, st90⟩ := getF X hx hZ hown (host := "") (Or.inl (w17 hw)) Via.refl eT F_a1_conflicts (g := (mkF m 1 #[.val (.ref a1)] [(.ref a1)])) rfl rfl (hb hby dSummary_findings_1)
  refine own_Goes.via st90 ?_
  show own_Goes _ _ _ _ _ _ _ (T90.setTop (mkF m 4 #[.val (.ref a1)] [(.long f_a1_conflicts)]))
  refine own_Goes.via (B := T90.setTop (mkF m 5 #[.val (.ref a1)] [(.ref a1), (.long f_a1_conflicts)])) (fun t k => ?_) ?_
  · show Steps p.tables e below (T90.setTop (mkF m 4 #[.val (.ref a1)] [(.long f_a1_conflicts)])) t
    refine XS.aloadN X90.here hx rfl (hb hby dSummary_findings_4) rfl rfl ?_
    exact k
  obtain ⟨T91, X91, e91, st91⟩ := getF X90 hx hZ hown (host := "") (Or.inl (w19 hw)) Via.refl e90 F_a1_early (g := (mkF m 5 #[.val (.ref a1)] [(.ref a1), (.long f_a1_conflicts)])) rfl rfl (hb hby dSummary_findings_5)
  refine own_Goes.via st91 ?_
  show own_Goes _ _ _ _ _ _ _ (T91.setTop (mkF m 8 #[.val (.ref a1)] [(.long f_a1_early), (.long f_a1_conflicts)]))
  refine own_Goes.via (B := T91.setTop (mkF m 10 #[.val (.ref a1)] [(.ref a1), (.long (f_a1_conflicts + f_a1_early))])) (fun t k => ?_) ?_
  · show Steps p.tables e below (T91.setTop (mkF m 8 #[.val (.ref a1)] [(.long f_a1_early), (.long f_a1_conflicts)])) t
    refine XS.ladd X91.here hx rfl (hb hby dSummary_findings_8) rfl ?_
    show Steps p.tables e below (T91.setTop (mkF m 9 #[.val (.ref a1)] [(.long (f_a1_conflicts + f_a1_early))])) t
    refine XS.aloadN X91.here hx rfl (hb hby dSummary_findings_9) rfl rfl ?_
    exact k
  obtain ⟨T92, X92, e92, st92⟩ := getF X91 hx hZ hown (host := "") (Or.inl (w21 hw)) Via.refl e91 F_a1_order (g := (mkF m 10 #[.val (.ref a1)] [(.ref a1), (.long (f_a1_conflicts + f_a1_early))])) rfl rfl (hb hby dSummary_findings_10)
  refine own_Goes.via st92 ?_
  show own_Goes _ _ _ _ _ _ _ (T92.setTop (mkF m 13 #[.val (.ref a1)] [(.long f_a1_order), (.long (f_a1_conflicts + f_a1_early))]))
  refine own_Goes.via (B := T92.setTop (mkF m 15 #[.val (.ref a1)] [(.ref a1), (.long ((f_a1_conflicts + f_a1_early) + f_a1_order))])) (fun t k => ?_) ?_
  · show Steps p.tables e below (T92.setTop (mkF m 13 #[.val (.ref a1)] [(.long f_a1_order), (.long (f_a1_conflicts + f_a1_early))])) t
    refine XS.ladd X92.here hx rfl (hb hby dSummary_findings_13) rfl ?_
    show Steps p.tables e below (T92.setTop (mkF m 14 #[.val (.ref a1)] [(.long ((f_a1_conflicts + f_a1_early) + f_a1_order))])) t
    refine XS.aloadN X92.here hx rfl (hb hby dSummary_findings_14) rfl rfl ?_
    exact k
  obtain ⟨T93, X93, e93, st93⟩ := getF X92 hx hZ hown (host := "") (Or.inl (w23 hw)) Via.refl e92 F_a1_window (g := (mkF m 15 #[.val (.ref a1)] [(.ref a1), (.long ((f_a1_conflicts + f_a1_early) + f_a1_order))])) rfl rfl (hb hby dSummary_findings_15)
  refine own_Goes.via st93 ?_
  show own_Goes _ _ _ _ _ _ _ (T93.setTop (mkF m 18 #[.val (.ref a1)] [(.long f_a1_window), (.long ((f_a1_conflicts + f_a1_early) + f_a1_order))]))
  refine own_Goes.via (B := T93.setTop (mkF m 20 #[.val (.ref a1)] [(.ref a1), (.long (((f_a1_conflicts + f_a1_early) + f_a1_order) + f_a1_window))])) (fun t k => ?_) ?_
  · show Steps p.tables e below (T93.setTop (mkF m 18 #[.val (.ref a1)] [(.long f_a1_window), (.long ((f_a1_conflicts + f_a1_early) + f_a1_order))])) t
    refine XS.ladd X93.here hx rfl (hb hby dSummary_findings_18) rfl ?_
    show Steps p.tables e below (T93.setTop (mkF m 19 #[.val (.ref a1)] [(.long (((f_a1_conflicts + f_a1_early) + f_a1_order) + f_a1_window))])) t
    refine XS.aloadN X93.here hx rfl (hb hby dSummary_findings_19) rfl rfl ?_
    exact k
  obtain ⟨T94, X94, e94, st94⟩ := getF X93 hx hZ hown (host := "") (Or.inl (w25 hw)) Via.refl e93 F_a1_missing (g := (mkF m 20 #[.val (.ref a1)] [(.ref a1), (.long (((f_a1_conflicts + f_a1_early) + f_a1_order) + f_a1_window))])) rfl rfl (hb hby dSummary_findings_20)
  refine own_Goes.via st94 ?_
  show own_Goes _ _ _ _ _ _ _ (T94.setTop (mkF m 23 #[.val (.ref a1)] [(.long f_a1_missing), (.long (((f_a1_conflicts + f_a1_early) + f_a1_order) + f_a1_window))]))
  refine own_Goes.via (B := T94.setTop (mkF m 24 #[.val (.ref a1)] [(.long ((((f_a1_conflicts + f_a1_early) + f_a1_order) + f_a1_window) + f_a1_missing))])) (fun t k => ?_) ?_
  · show Steps p.tables e below (T94.setTop (mkF m 23 #[.val (.ref a1)] [(.long f_a1_missing), (.long (((f_a1_conflicts + f_a1_early) + f_a1_order) + f_a1_window))])) t
    refine XS.ladd X94.here hx rfl (hb hby dSummary_findings_23) rfl ?_
    exact k
  obtain rfl : ((((f_a1_conflicts + f_a1_early) + f_a1_order) + f_a1_window) + f_a1_missing) = r := Option.some.inj hF
  exact own_retJ X94 hx hret hlk (hb hby dSummary_findings_24) e94 ⟨rfl, N, rfl⟩ (by decide) (by decide)
theorem ef_Summary_findings (m : MethodId) (x0 : Addr) : entryFrame m #[(.ref x0)] 1 = mkF m 0 #[.val (.ref x0)] [] := by first | (simp [entryFrame, mkF, argsToLocals, Value.category]; done) | rfl
set_option maxRecDepth 65536 in
set_option maxHeartbeats 4000000 in
theorem rm_Summary_findings (l : Launch) (Z : State) (a0 : Array Value) (hw : ∀ d ∈ tables_1, d.before a0 Z = true) (ws : List Jvm.Cond) (hE : Heap) (n0 : Nat) (z : n0 ≤ hE.size) (cs : own_CS Z) (O : Old Z n0 hE) (a1 : Addr) (f_a1_conflicts : Int64) (f_a1_early : Int64) (f_a1_fixedPlacement : Int32) (f_a1_flowspanNs : Int64) (f_a1_frames : Int64) (f_a1_missing : Int64) (f_a1_order : Int64) (f_a1_waitingNs : Int64) (f_a1_window : Int64) (E_a1 : Exa Z hE a1 "com/example/no_wait_scheduler/nowaitscheduler/verify/Summary") (F_a1_conflicts : Fld Z hE a1 "com/example/no_wait_scheduler/nowaitscheduler/verify/Summary" "conflicts" "J" (.long f_a1_conflicts)) (F_a1_early : Fld Z hE a1 "com/example/no_wait_scheduler/nowaitscheduler/verify/Summary" "early" "J" (.long f_a1_early)) (F_a1_firstFinding : Fld Z hE a1 "com/example/no_wait_scheduler/nowaitscheduler/verify/Summary" "firstFinding" "Ljava/lang/String;" .null) (F_a1_fixedPlacement : Fld Z hE a1 "com/example/no_wait_scheduler/nowaitscheduler/verify/Summary" "fixedPlacement" "Z" (.int f_a1_fixedPlacement)) (F_a1_flowspanNs : Fld Z hE a1 "com/example/no_wait_scheduler/nowaitscheduler/verify/Summary" "flowspanNs" "J" (.long f_a1_flowspanNs)) (F_a1_frames : Fld Z hE a1 "com/example/no_wait_scheduler/nowaitscheduler/verify/Summary" "frames" "J" (.long f_a1_frames)) (F_a1_missing : Fld Z hE a1 "com/example/no_wait_scheduler/nowaitscheduler/verify/Summary" "missing" "J" (.long f_a1_missing)) (F_a1_order : Fld Z hE a1 "com/example/no_wait_scheduler/nowaitscheduler/verify/Summary" "order" "J" (.long f_a1_order)) (F_a1_waitingNs : Fld Z hE a1 "com/example/no_wait_scheduler/nowaitscheduler/verify/Summary" "waitingNs" "J" (.long f_a1_waitingNs)) (F_a1_window : Fld Z hE a1 "com/example/no_wait_scheduler/nowaitscheduler/verify/Summary" "window" "J" (.long f_a1_window)) (g_a1 : n0 ≤ a1) (r : Int64) (hF : (f_Summary_findings f_a1_conflicts f_a1_early f_a1_fixedPlacement f_a1_flowspanNs f_a1_frames f_a1_missing f_a1_order f_a1_waitingNs f_a1_window) = some r) :
    MetFree l (⟨"com/example/no_wait_scheduler/nowaitscheduler/verify/Summary", "findings", "()J"⟩ : MethodName) (head1 (Jvm.Cond.code (⟨"com/example/no_wait_scheduler/nowaitscheduler/verify/Summary", "findings", "()J"⟩ : MethodName) prog_51_method_3_code 1 (some .long) :: ws) ({ frames := 0, cells := 0, slots := 0, locals := 0 } : Room)) (fun a U => a = #[(.ref a1)] ∧ Z.Warmed39 U.vm ∧ U.heap = hE) (fun _ _ _ _ _ => True) (fun _ U o U' => ∃ v L, o = .returned v ∧ (Q_Summary_findings Z hE n0 a1 r) v U'.heap L ∧ FrameEnd U o U' L ({ frames := 0, cells := 0, slots := 0, locals := 0 } : Room).cells ({ frames := 0, cells := 0, slots := 0, locals := 0 } : Room).slots) := by
  refine MetFree.of_bodySF (plainFor_of_name pn_com_example_no_wait_scheduler_nowaitscheduler_verify_Summary) hisR ?_
  intro p e s m args below meth c s₁ Bd hml0 hP hK
  obtain ⟨rfl, hZ, hh⟩ := hP
  have X0 : Stand p l e ({ frames := 0, cells := 0, slots := 0, locals := 0 } : Room) s m #[(.ref a1)] below meth c s₁ [] 0 0 := Stand.of_body Bd
  have e0 : s₁.heap = hE := by rw [← hh, Bd.state]; rfl
  have cx : Cx_Summary_findings p s m meth c Z a0 := ⟨Bd.exec, hZ, hw, Bd.bytes, hml0, findClass_of_methodNamed Bd.named, Bd.returns, Bd.notSynchronized, (name_of_methodNamed Bd.named Bd.method).1, cs⟩
  show own_Goes p e below s (Q_Summary_findings Z hE n0 a1 r) ({ frames := 0, cells := 0, slots := 0, locals := 0 } : Room).cells ({ frames := 0, cells := 0, slots := 0, locals := 0 } : Room).slots (s₁.setTop (entryFrame m #[(.ref a1)] 1))
  rw [ef_Summary_findings]
  exact b_Summary_findings cx a1 X0 e0 (Fr.nil n0) z O f_a1_conflicts f_a1_early f_a1_fixedPlacement f_a1_flowspanNs f_a1_frames f_a1_missing f_a1_order f_a1_waitingNs f_a1_window E_a1 F_a1_conflicts F_a1_early F_a1_firstFinding F_a1_fixedPlacement F_a1_flowspanNs F_a1_frames F_a1_missing F_a1_order F_a1_waitingNs F_a1_window g_a1 _ hF
/-! java/lang/StringLatin1.canEncode:(C)Z -/
def f_StringLatin1_canEncode (v0 : Int32) : Option (Int32) :=
  if (255 : Int32) < v0 then
    some (0 : Int32)
  else
    some (1 : Int32)
def Q_StringLatin1_canEncode (Z : State) (hE : Heap) (n0 : Nat)  (r : Int32) (v : Option Value) (h : Heap) (L : List Loc) : Prop := v = some (.int r) ∧ Fr n0 L ∧ h = hE
def Cx_StringLatin1_canEncode (p : Program) (s : State) (m : MethodId) (meth : Method) (c : Code) (Z : State) (a0 : Array Value) : Prop := p.tables.exec = Jvm.exec ∧ Z.Warmed39 s.vm ∧ (∀ d ∈ tables_1, d.before a0 Z = true) ∧ c.code = jdk_43_method_3_code ∧ c.maxLocals = 1 ∧ s.vm.findClass "java/lang/StringLatin1" = some m.cls ∧ meth.sig.returnType = some .boolean ∧ meth.locks = false ∧ meth.name = "canEncode" ∧ own_CS Z
set_option maxRecDepth 65536 in
set_option maxHeartbeats 4000000 in
theorem b_StringLatin1_canEncode {p : Program} {l : Launch} {e : Env} {s : State} {m : MethodId} {args : Array Value} {below : List Frame} {meth : Method} {c : Code} {Z : State} {a0 : Array Value} {n0 : Nat} {hE : Heap} (cx : Cx_StringLatin1_canEncode p s m meth c Z a0) :
    ∀ {T : State} {locs : List Loc} (X : Stand p l e ({ frames := 0, cells := 0, slots := 0, locals := 0 } : Room) s m args below meth c T locs 0 0) (eT : T.heap = hE) (N : Fr n0 locs) (z : n0 ≤ hE.size) (O : Old Z n0 hE) (v0 : Int32) (r : Int32), f_StringLatin1_canEncode v0 = some r → own_Goes p e below s (Q_StringLatin1_canEncode Z hE n0 r) 0 0 (T.setTop (mkF m 0 #[.val (.int v0)] [])) := by
  have cx' := cx
  obtain ⟨hx, hZ, hw, hby, hml, hown, hret, hlk, hnm, hcs⟩ := cx'
  intro T locs X eT N z O v0 r hF
  unfold f_StringLatin1_canEncode at hF
  refine own_Goes.via (B := T.setTop (mkF m 4 #[.val (.int v0)] [(.int (255 : Int32)), (.int v0)])) (fun t k => ?_) ?_
  · show Steps p.tables e below (T.setTop (mkF m 0 #[.val (.int v0)] [])) t
    refine XS.iloadN X.here hx rfl (hb hby dStringLatin1_canEncode_0) rfl ?_
    show Steps p.tables e below (T.setTop (mkF m 1 #[.val (.int v0)] [(.int v0)])) t
    refine XS.sipush X.here hx rfl (hb hby dStringLatin1_canEncode_1) ?_
    exact k
  by_cases hc4 : (255 : Int32) < v0
  · rw [if_pos hc4] at hF
    refine own_Goes.via (B := T.setTop (mkF m 12 #[.val (.int v0)] [(.int (0 : Int32))])) (fun t k => ?_) ?_
    · show Steps p.tables e below (T.setTop (mkF m 4 #[.val (.int v0)] [(.int (255 : Int32)), (.int v0)])) t
      refine XS.icmpYes X.here hx rfl (pc0 := 4) (pc' := 11) rfl (hb hby dStringLatin1_canEncode_4) rfl (tlt hc4).2.2.1 (by decide) (by decide) ?_
      show Steps p.tables e below (T.setTop (mkF m 11 #[.val (.int v0)] [])) t
      refine XS.iconst X.here hx rfl (hb hby dStringLatin1_canEncode_11) ?_
      exact k
    obtain rfl : (0 : Int32) = r := Option.some.inj hF
    exact own_retN X hx (t := .boolean) hret hlk (by simp) (hb hby dStringLatin1_canEncode_12) eT (v := (0 : Int32)) (by decide) ⟨rfl, N, rfl⟩ (by decide) (by decide)
  · rw [if_neg hc4] at hF
    refine own_Goes.via (B := T.setTop (mkF m 12 #[.val (.int v0)] [(.int (1 : Int32))])) (fun t k => ?_) ?_
    · show Steps p.tables e below (T.setTop (mkF m 4 #[.val (.int v0)] [(.int (255 : Int32)), (.int v0)])) t
      refine XS.icmpNo X.here hx rfl (hb hby dStringLatin1_canEncode_4) rfl (flt hc4).2.2.1 ?_
      show Steps p.tables e below (T.setTop (mkF m 7 #[.val (.int v0)] [])) t
      refine XS.iconst X.here hx rfl (hb hby dStringLatin1_canEncode_7) ?_
      show Steps p.tables e below (T.setTop (mkF m 8 #[.val (.int v0)] [(.int (1 : Int32))])) t
      refine XS.goto X.here hx rfl (pc0 := 8) (pc' := 12) rfl (hb hby dStringLatin1_canEncode_8) (by decide) (by decide) ?_
      exact k
    obtain rfl : (1 : Int32) = r := Option.some.inj hF
    exact own_retN X hx (t := .boolean) hret hlk (by simp) (hb hby dStringLatin1_canEncode_12) eT (v := (1 : Int32)) (by decide) ⟨rfl, N, rfl⟩ (by decide) (by decide)
theorem ef_StringLatin1_canEncode (m : MethodId) (x0 : Int32) : entryFrame m #[(.int x0)] 1 = mkF m 0 #[.val (.int x0)] [] := by first | (simp [entryFrame, mkF, argsToLocals, Value.category]; done) | rfl
set_option maxRecDepth 65536 in
set_option maxHeartbeats 4000000 in
theorem rm_StringLatin1_canEncode (l : Launch) (Z : State) (a0 : Array Value) (hw : ∀ d ∈ tables_1, d.before a0 Z = true) (ws : List Jvm.Cond) (hE : Heap) (n0 : Nat) (z : n0 ≤ hE.size) (cs : own_CS Z) (O : Old Z n0 hE)  (v0 : Int32) (r : Int32) (hF : (f_StringLatin1_canEncode v0) = some r) :
    MetFree l (⟨"java/lang/StringLatin1", "canEncode", "(C)Z"⟩ : MethodName) (head1 (Jvm.Cond.code (⟨"java/lang/StringLatin1", "canEncode", "(C)Z"⟩ : MethodName) jdk_43_method_3_code 1 (some .boolean) :: ws) ({ frames := 0, cells := 0, slots := 0, locals := 0 } : Room)) (fun a U => a = #[(.int v0)] ∧ Z.Warmed39 U.vm ∧ U.heap = hE) (fun _ _ _ _ _ => True) (fun _ U o U' => ∃ v L, o = .returned v ∧ (Q_StringLatin1_canEncode Z hE n0 r) v U'.heap L ∧ FrameEnd U o U' L ({ frames := 0, cells := 0, slots := 0, locals := 0 } : Room).cells ({ frames := 0, cells := 0, slots := 0, locals := 0 } : Room).slots) := by
  refine MetFree.of_bodySF (plainFor_of_name pn_java_lang_StringLatin1) hisR ?_
  intro p e s m args below meth c s₁ Bd hml0 hP hK
  obtain ⟨rfl, hZ, hh⟩ := hP
  have X0 : Stand p l e ({ frames := 0, cells := 0, slots := 0, locals := 0 } : Room) s m #[(.int v0)] below meth c s₁ [] 0 0 := Stand.of_body Bd
  have e0 : s₁.heap = hE := by rw [← hh, Bd.state]; rfl
  have cx : Cx_StringLatin1_canEncode p s m meth c Z a0 := ⟨Bd.exec, hZ, hw, Bd.bytes, hml0, findClass_of_methodNamed Bd.named, Bd.returns, Bd.notSynchronized, (name_of_methodNamed Bd.named Bd.method).1, cs⟩
  show own_Goes p e below s (Q_StringLatin1_canEncode Z hE n0 r) ({ frames := 0, cells := 0, slots := 0, locals := 0 } : Room).cells ({ frames := 0, cells := 0, slots := 0, locals := 0 } : Room).slots (s₁.setTop (entryFrame m #[(.int v0)] 1))
  rw [ef_StringLatin1_canEncode]
  exact b_StringLatin1_canEncode cx X0 e0 (Fr.nil n0) z O v0 _ hF
/-! java/lang/StringLatin1.toBytes:(C)[B -/
def f_StringLatin1_toBytes (v0 : Int32) : Option ((List Int32)) :=
  own_lt (v0.toInt8.toInt32) fun x117 =>
  some ([(x117.toInt8.toInt32)] : List Int32)
def Q_StringLatin1_toBytes (Z : State) (hE : Heap) (n0 : Nat)  (r : (List Int32)) (v : Option Value) (h : Heap) (L : List Loc) : Prop := ∃ b1 : Addr, v = some (.ref b1) ∧ Fr n0 L ∧ Keep hE h [] ∧ n0 ≤ b1 ∧ hE.size ≤ b1 ∧ own_Ar Z h b1 .byte (r.map Value.int)
def Cx_StringLatin1_toBytes (p : Program) (s : State) (m : MethodId) (meth : Method) (c : Code) (Z : State) (a0 : Array Value) : Prop := p.tables.exec = Jvm.exec ∧ Z.Warmed39 s.vm ∧ (∀ d ∈ tables_1, d.before a0 Z = true) ∧ c.code = jdk_43_method_46_code ∧ c.maxLocals = 1 ∧ s.vm.findClass "java/lang/StringLatin1" = some m.cls ∧ meth.sig.returnType = some (.array .byte) ∧ meth.locks = false ∧ meth.name = "toBytes" ∧ own_CS Z
set_option maxRecDepth 65536 in
set_option maxHeartbeats 4000000 in
theorem b_StringLatin1_toBytes {p : Program} {l : Launch} {e : Env} {s : State} {m : MethodId} {args : Array Value} {below : List Frame} {meth : Method} {c : Code} {Z : State} {a0 : Array Value} {n0 : Nat} {hE : Heap} (cx : Cx_StringLatin1_toBytes p s m meth c Z a0) :
    ∀ {T : State} {locs : List Loc} {h : Heap} (X : Stand p l e ({ frames := 0, cells := 1, slots := 1, locals := 0 } : Room) s m args below meth c T locs 0 0) (eT : T.heap = h) (N : Fr n0 locs) (K : Keep hE h []) (z : n0 ≤ h.size) (O : Old Z n0 h) (v0 : Int32) (r : (List Int32)), f_StringLatin1_toBytes v0 = some r → own_Goes p e below s (Q_StringLatin1_toBytes Z hE n0 r) 1 1 (T.setTop (mkF m 0 #[.val (.int v0)] [])) := by
  have cx' := cx
  obtain ⟨hx, hZ, hw, hby, hml, hown, hret, hlk, hnm, hcs⟩ := cx'
  intro T locs h X eT N K z O v0 r hF
  unfold f_StringLatin1_toBytes at hF
  refine own_Goes.via (B := T.setTop (mkF m 1 #[.val (.int v0)] [(.int (1 : Int32))])) (fun t k => ?_) ?_
  · show Steps p.tables e below (T.setTop (mkF m 0 #[.val (.int v0)] [])) t
    refine XS.iconst X.here hx rfl (hb hby dStringLatin1_toBytes_0) ?_
    exact k
  obtain ⟨T116, h116, k116, X116, e116, E116, A116, st116⟩ := newP X hx hZ (aty := .byte) (w57 hw) eT (g := (mkF m 1 #[.val (.int v0)] [(.int (1 : Int32))])) rfl (hb hby dStringLatin1_toBytes_1) rfl (by decide) (cap := 1) (by decide) (by decide) (by decide) (by decide)
  obtain ⟨c116, q116⟩ : ∃ z, z = h.size := ⟨_, rfl⟩
  rw [← q116] at A116 st116
  have A116_c116 : own_Ar Z h116 c116 .byte (([(0 : Int32)] : List Int32).map Value.int) := own_newI A116 (by decide) rfl (kk := 1) (by decide)
  have g116_c116 : n0 ≤ c116 := Nat.le_trans z (Nat.le_of_eq q116.symm)
  have nE116_c116 : hE.size ≤ c116 := Nat.le_trans K.1 (Nat.le_of_eq q116.symm)
  have z116 := Nat.le_trans z E116.1
  have K116_ := K.ext E116
  have O116 := O.ext E116
  refine own_Goes.via st116 ?_
  show own_Goes _ _ _ _ _ _ _ (T116.setTop (mkF m 3 #[.val (.int v0)] [(.ref c116)]))
  refine own_Goes.via (B := T116.setTop (mkF m 7 #[.val (.int v0)] [(.int (v0.toInt8.toInt32)), (.int (0 : Int32)), (.ref c116), (.ref c116)])) (fun t k => ?_) ?_
  · show Steps p.tables e below (T116.setTop (mkF m 3 #[.val (.int v0)] [(.ref c116)])) t
    refine XS.dup X116.here hx rfl (hb hby dStringLatin1_toBytes_3) rfl rfl ?_
    show Steps p.tables e below (T116.setTop (mkF m 4 #[.val (.int v0)] [(.ref c116), (.ref c116)])) t
    refine XS.iconst X116.here hx rfl (hb hby dStringLatin1_toBytes_4) ?_
    show Steps p.tables e below (T116.setTop (mkF m 5 #[.val (.int v0)] [(.int (0 : Int32)), (.ref c116), (.ref c116)])) t
    refine XS.iloadN X116.here hx rfl (hb hby dStringLatin1_toBytes_5) rfl ?_
    show Steps p.tables e below (T116.setTop (mkF m 6 #[.val (.int v0)] [(.int v0), (.int (0 : Int32)), (.ref c116), (.ref c116)])) t
    refine XS.i2b X116.here hx rfl (hb hby dStringLatin1_toBytes_6) rfl ?_
    exact k
  obtain ⟨x117, hx117, hF⟩ := own_lt_e hF
  rw [← hx117]
  obtain ⟨T118, h118, X118, e118, W118, A118_c116, st118⟩ := own_stB X116 hx hZ e116 A116_c116 (own_inbk 0 1 (by decide) (by decide) rfl (by decide)) (g := (mkF m 7 #[.val (.int v0)] [(.int x117), (.int (0 : Int32)), (.ref c116), (.ref c116)])) rfl rfl (hb hby dStringLatin1_toBytes_7)
  refine own_Goes.via st118 ?_
  have z118 := Nat.le_trans z116 (Keep.of_wr W118).1
  have K118_ := K116_.wr W118 (Or.inr nE116_c116)
  have O118 := O116.wr W118 g116_c116
  have N118 := Fr.snoc X118 N g116_c116
  rw [own_wrk 0 (by decide)] at A118_c116
  have A118_c116 : own_Ar Z h118 c116 .byte (([(x117.toInt8.toInt32)] : List Int32).map Value.int) := A118_c116
  show own_Goes _ _ _ _ _ _ _ (T118.setTop (mkF m 8 #[.val (.int v0)] [(.ref c116)]))
  obtain rfl : ([(x117.toInt8.toInt32)] : List Int32) = r := Option.some.inj hF
  exact own_retR X118 hx hret hlk (hb hby dStringLatin1_toBytes_8) rfl e118 rfl ⟨c116, rfl, N118, K118_, g116_c116, nE116_c116, A118_c116⟩ (by decide) (by decide)
theorem ef_StringLatin1_toBytes (m : MethodId) (x0 : Int32) : entryFrame m #[(.int x0)] 1 = mkF m 0 #[.val (.int x0)] [] := by first | (simp [entryFrame, mkF, argsToLocals, Value.category]; done) | rfl
set_option maxRecDepth 65536 in
set_option maxHeartbeats 4000000 in
theorem rm_StringLatin1_toBytes (l : Launch) (Z : State) (a0 : Array Value) (hw : ∀ d ∈ tables_1, d.before a0 Z = true) (ws : List Jvm.Cond) (hE : Heap) (n0 : Nat) (z : n0 ≤ hE.size) (cs : own_CS Z) (O : Old Z n0 hE)  (v0 : Int32) (r : (List Int32)) (hF : (f_StringLatin1_toBytes v0) = some r) :
    MetFree l (⟨"java/lang/StringLatin1", "toBytes", "(C)[B"⟩ : MethodName) (head1 (Jvm.Cond.code (⟨"java/lang/StringLatin1", "toBytes", "(C)[B"⟩ : MethodName) jdk_43_method_46_code 1 (some (.array .byte)) :: ws) ({ frames := 0, cells := 1, slots := 1, locals := 0 } : Room)) (fun a U => a = #[(.int v0)] ∧ Z.Warmed39 U.vm ∧ U.heap = hE) (fun _ _ _ _ _ => True) (fun _ U o U' => ∃ v L, o = .returned v ∧ (Q_StringLatin1_toBytes Z hE n0 r) v U'.heap L ∧ FrameEnd U o U' L ({ frames := 0, cells := 1, slots := 1, locals := 0 } : Room).cells ({ frames := 0, cells := 1, slots := 1, locals := 0 } : Room).slots) := by
  refine MetFree.of_bodySF (plainFor_of_name pn_java_lang_StringLatin1) hisR ?_
  intro p e s m args below meth c s₁ Bd hml0 hP hK
  obtain ⟨rfl, hZ, hh⟩ := hP
  have X0 : Stand p l e ({ frames := 0, cells := 1, slots := 1, locals := 0 } : Room) s m #[(.int v0)] below meth c s₁ [] 0 0 := Stand.of_body Bd
  have e0 : s₁.heap = hE := by rw [← hh, Bd.state]; rfl
  have cx : Cx_StringLatin1_toBytes p s m meth c Z a0 := ⟨Bd.exec, hZ, hw, Bd.bytes, hml0, findClass_of_methodNamed Bd.named, Bd.returns, Bd.notSynchronized, (name_of_methodNamed Bd.named Bd.method).1, cs⟩
  show own_Goes p e below s (Q_StringLatin1_toBytes Z hE n0 r) ({ frames := 0, cells := 1, slots := 1, locals := 0 } : Room).cells ({ frames := 0, cells := 1, slots := 1, locals := 0 } : Room).slots (s₁.setTop (entryFrame m #[(.int v0)] 1))
  rw [ef_StringLatin1_toBytes]
  exact b_StringLatin1_toBytes cx X0 e0 (Fr.nil n0) (Keep.refl _ _) z O v0 _ hF
/-! java/lang/String.<init>:([BB)V -/
def f_String_mk (v2 : Int32) (f_a1_coder : Int32) (bs_a2 : List Int32) : Option (Int32) :=
  some (v2.toInt8.toInt32)
def Q_String_mk (Z : State) (hE : Heap) (n0 : Nat) (a1 : Addr) (a2 : Addr) (r : Int32) (v : Option Value) (h : Heap) (L : List Loc) : Prop := v = none ∧ Fr n0 L ∧ Keep hE h [a1] ∧ Exa Z h a1 "java/lang/String" ∧ Fld Z h a1 "java/lang/String" "coder" "B" (.int r) ∧ Fld Z h a1 "java/lang/String" "value" "[B" (.ref a2)
def Cx_String_mk (p : Program) (s : State) (m : MethodId) (meth : Method) (c : Code) (Z : State) (a0 : Array Value) : Prop := p.tables.exec = Jvm.exec ∧ Z.Warmed39 s.vm ∧ (∀ d ∈ tables_1, d.before a0 Z = true) ∧ c.code = jdk_42_method_151_code ∧ c.maxLocals = 3 ∧ s.vm.findClass "java/lang/String" = some m.cls ∧ meth.sig.returnType = none ∧ meth.locks = false ∧ meth.name = "<init>" ∧ own_CS Z
set_option maxRecDepth 65536 in
set_option maxHeartbeats 4000000 in
theorem b_String_mk {p : Program} {l : Launch} {e : Env} {s : State} {m : MethodId} {args : Array Value} {below : List Frame} {meth : Method} {c : Code} {Z : State} {a0 : Array Value} {n0 : Nat} {hE : Heap} (cx : Cx_String_mk p s m meth c Z a0) (a1 : Addr) (a2 : Addr) :
    ∀ {T : State} {locs : List Loc} {h : Heap} (X : Stand p l e ({ frames := 1, cells := 0, slots := 0, locals := 12 } : Room) s m args below meth c T locs 0 0) (eT : T.heap = h) (N : Fr n0 locs) (K : Keep hE h [a1]) (z : n0 ≤ h.size) (O : Old Z n0 h) (v2 : Int32) (f_a1_coder : Int32) (bs_a2 : List Int32) (E_a1 : Exa Z h a1 "java/lang/String") (F_a1_coder : Fld Z h a1 "java/lang/String" "coder" "B" (.int f_a1_coder)) (F_a1_value : Fld Z h a1 "java/lang/String" "value" "[B" .null) (g_a1 : n0 ≤ a1) (A_a2 : own_Ar Z h a2 .byte (bs_a2.map Value.int)) (g_a2 : n0 ≤ a2) (ne_a1_a2 : a1 ≠ a2) (r : Int32), f_String_mk v2 f_a1_coder bs_a2 = some r → own_Goes p e below s (Q_String_mk Z hE n0 a1 a2 r) 0 0 (T.setTop (mkF m 0 #[.val (.ref a1), .val (.ref a2), .val (.int v2)] [])) := by
  have cx' := cx
  obtain ⟨hx, hZ, hw, hby, hml, hown, hret, hlk, hnm, hcs⟩ := cx'
  intro T locs h X eT N K z O v2 f_a1_coder bs_a2 E_a1 F_a1_coder F_a1_value g_a1 A_a2 g_a2 ne_a1_a2 r hF
  unfold f_String_mk at hF
  refine own_Goes.via (B := T.setTop (mkF m 1 #[.val (.ref a1), .val (.ref a2), .val (.int v2)] [(.ref a1)])) (fun t k => ?_) ?_
  · show Steps p.tables e below (T.setTop (mkF m 0 #[.val (.ref a1), .val (.ref a2), .val (.int v2)] [])) t
    refine XS.aloadN X.here hx rfl (hb hby dString_mk_0) rfl rfl ?_
    exact k
  obtain ⟨T129, X129, e129, st129⟩ := initO X hx hZ hown (w62 hw) (w11 hw) (w12 hw) eT (g := (mkF m 1 #[.val (.ref a1), .val (.ref a2), .val (.int v2)] [(.ref a1)])) rfl (by rw [hml]; rfl) rfl (hb hby dString_mk_1) (by decide) (W := 0) (by show 2 * 0 + _ ≤ _; exact Nat.le_of_eq rfl) (by decide)
  refine own_Goes.via st129 ?_
  show own_Goes _ _ _ _ _ _ _ (T129.setTop (mkF m 4 #[.val (.ref a1), .val (.ref a2), .val (.int v2)] []))
  refine own_Goes.via (B := T129.setTop (mkF m 6 #[.val (.ref a1), .val (.ref a2), .val (.int v2)] [(.ref a2), (.ref a1)])) (fun t k => ?_) ?_
  · show Steps p.tables e below (T129.setTop (mkF m 4 #[.val (.ref a1), .val (.ref a2), .val (.int v2)] [])) t
    refine XS.aloadN X129.here hx rfl (hb hby dString_mk_4) rfl rfl ?_
    show Steps p.tables e below (T129.setTop (mkF m 5 #[.val (.ref a1), .val (.ref a2), .val (.int v2)] [(.ref a1)])) t
    refine XS.aloadN X129.here hx rfl (hb hby dString_mk_5) rfl rfl ?_
    exact k
  obtain ⟨T130, h130, X130, e130, W130, st130⟩ := putF X129 hx hZ hown (host := "") (Or.inl (w63 hw)) Via.refl e129 F_a1_value E_a1 (Or.inr ⟨(w64 hw), rfl, hnm⟩) (w53 hw) (ty := (.array .byte)) (by decide) rfl rfl (g := (mkF m 6 #[.val (.ref a1), .val (.ref a2), .val (.int v2)] [(.ref a2), (.ref a1)])) rfl rfl (hb hby dString_mk_6)
  refine own_Goes.via st130 ?_
  have E130_a1 := E_a1.wr W130
  have F130_a1_coder := F_a1_coder.other W130 (Or.inr (slot_ne (Or.inr (w66 hw)) (Or.inr (w64 hw)) (by decide) (t := .byte) (t' := (.array .byte)) (by decide) (by decide)))
  have A130_a2 := A_a2.other W130 (Ne.symm ne_a1_a2)
  have F130_a1_value := F_a1_value.same W130
  have z130 := Nat.le_trans z (Keep.of_wr W130).1
  have K130_ := K.wr W130 (Or.inl (List.mem_of_getElem? (i := 0) rfl))
  have O130 := O.wr W130 g_a1
  have N130 := Fr.snoc X130 N g_a1
  show own_Goes _ _ _ _ _ _ _ (T130.setTop (mkF m 9 #[.val (.ref a1), .val (.ref a2), .val (.int v2)] []))
  refine own_Goes.via (B := T130.setTop (mkF m 11 #[.val (.ref a1), .val (.ref a2), .val (.int v2)] [(.int v2), (.ref a1)])) (fun t k => ?_) ?_
  · show Steps p.tables e below (T130.setTop (mkF m 9 #[.val (.ref a1), .val (.ref a2), .val (.int v2)] [])) t
    refine XS.aloadN X130.here hx rfl (hb hby dString_mk_9) rfl rfl ?_
    show Steps p.tables e below (T130.setTop (mkF m 10 #[.val (.ref a1), .val (.ref a2), .val (.int v2)] [(.ref a1)])) t
    refine XS.iloadN X130.here hx rfl (hb hby dString_mk_10) rfl ?_
    exact k
  obtain ⟨T131, h131, X131, e131, W131, st131⟩ := putFN X130 hx hZ hown (w65 hw) Via.refl e130 F130_a1_coder E130_a1 (Or.inr ⟨(w66 hw), rfl, hnm⟩) (w53 hw) (ty := .byte) (v' := (.int (v2.toInt8.toInt32))) (by decide) rfl (fits_nar_byte _) (g := (mkF m 11 #[.val (.ref a1), .val (.ref a2), .val (.int v2)] [(.int v2), (.ref a1)])) rfl rfl (hb hby dString_mk_11)
  refine own_Goes.via st131 ?_
  have E131_a1 := E130_a1.wr W131
  have F131_a1_value := F130_a1_value.other W131 (Or.inr (slot_ne (Or.inr (w64 hw)) (Or.inr (w66 hw)) (by decide) (t := (.array .byte)) (t' := .byte) (by decide) (by decide)))
  have A131_a2 := A130_a2.other W131 (Ne.symm ne_a1_a2)
  have F131_a1_coder := F130_a1_coder.same W131
  have z131 := Nat.le_trans z130 (Keep.of_wr W131).1
  have K131_ := K130_.wr W131 (Or.inl (List.mem_of_getElem? (i := 0) rfl))
  have O131 := O130.wr W131 g_a1
  have N131 := Fr.snoc X131 N130 g_a1
  show own_Goes _ _ _ _ _ _ _ (T131.setTop (mkF m 14 #[.val (.ref a1), .val (.ref a2), .val (.int v2)] []))
  obtain rfl : (v2.toInt8.toInt32) = r := Option.some.inj hF
  exact own_retV X131 hx hret hlk (hb hby dString_mk_14) e131 ⟨rfl, N131, K131_, E131_a1, F131_a1_coder, F131_a1_value⟩ (by decide) (by decide)
theorem ef_String_mk (m : MethodId) (x0 : Addr) (x1 : Addr) (x2 : Int32) : entryFrame m #[(.ref x0), (.ref x1), (.int x2)] 3 = mkF m 0 #[.val (.ref x0), .val (.ref x1), .val (.int x2)] [] := by first | (simp [entryFrame, mkF, argsToLocals, Value.category]; done) | rfl
set_option maxRecDepth 65536 in
set_option maxHeartbeats 4000000 in
theorem rm_String_mk (l : Launch) (Z : State) (a0 : Array Value) (hw : ∀ d ∈ tables_1, d.before a0 Z = true) (ws : List Jvm.Cond) (hE : Heap) (n0 : Nat) (z : n0 ≤ hE.size) (cs : own_CS Z) (O : Old Z n0 hE) (a1 : Addr) (a2 : Addr) (v2 : Int32) (f_a1_coder : Int32) (bs_a2 : List Int32) (E_a1 : Exa Z hE a1 "java/lang/String") (F_a1_coder : Fld Z hE a1 "java/lang/String" "coder" "B" (.int f_a1_coder)) (F_a1_value : Fld Z hE a1 "java/lang/String" "value" "[B" .null) (g_a1 : n0 ≤ a1) (A_a2 : own_Ar Z hE a2 .byte (bs_a2.map Value.int)) (g_a2 : n0 ≤ a2) (ne_a1_a2 : a1 ≠ a2) (r : Int32) (hF : (f_String_mk v2 f_a1_coder bs_a2) = some r) :
    MetFree l (⟨"java/lang/String", "<init>", "([BB)V"⟩ : MethodName) (head1 (Jvm.Cond.code (⟨"java/lang/String", "<init>", "([BB)V"⟩ : MethodName) jdk_42_method_151_code 3 none :: ws) ({ frames := 1, cells := 0, slots := 0, locals := 12 } : Room)) (fun a U => a = #[(.ref a1), (.ref a2), (.int v2)] ∧ Z.Warmed39 U.vm ∧ U.heap = hE) (fun _ _ _ _ _ => True) (fun _ U o U' => ∃ v L, o = .returned v ∧ (Q_String_mk Z hE n0 a1 a2 r) v U'.heap L ∧ FrameEnd U o U' L ({ frames := 1, cells := 0, slots := 0, locals := 12 } : Room).cells ({ frames := 1, cells := 0, slots := 0, locals := 12 } : Room).slots) := by
  refine MetFree.of_bodySF (plainFor_of_name pn_java_lang_String) hisR ?_
  intro p e s m args below meth c s₁ Bd hml0 hP hK
  obtain ⟨rfl, hZ, hh⟩ := hP
  have X0 : Stand p l e ({ frames := 1, cells := 0, slots := 0, locals := 12 } : Room) s m #[(.ref a1), (.ref a2), (.int v2)] below meth c s₁ [] 0 0 := Stand.of_body Bd
  have e0 : s₁.heap = hE := by rw [← hh, Bd.state]; rfl
  have cx : Cx_String_mk p s m meth c Z a0 := ⟨Bd.exec, hZ, hw, Bd.bytes, hml0, findClass_of_methodNamed Bd.named, Bd.returns, Bd.notSynchronized, (name_of_methodNamed Bd.named Bd.method).1, cs⟩
  show own_Goes p e below s (Q_String_mk Z hE n0 a1 a2 r) ({ frames := 1, cells := 0, slots := 0, locals := 12 } : Room).cells ({ frames := 1, cells := 0, slots := 0, locals := 12 } : Room).slots (s₁.setTop (entryFrame m #[(.ref a1), (.ref a2), (.int v2)] 3))
  rw [ef_String_mk]
  exact b_String_mk cx a1 a2 X0 e0 (Fr.nil n0) (Keep.refl _ _) z O v2 f_a1_coder bs_a2 E_a1 F_a1_coder F_a1_value g_a1 A_a2 g_a2 ne_a1_a2 _ hF
/-! java/lang/String.valueOf:(C)Ljava/lang/String; -/
def f_String_valueOf (v0 : Int32) : Option (Int32 × (List Int32)) :=
  own_bd (f_StringLatin1_canEncode v0) fun r146 =>
  if r146 = (0 : Int32) then
    none
  else
    own_bd (f_StringLatin1_toBytes v0) fun r149 =>
    own_bd (f_String_mk (0 : Int32) (0 : Int32) r149) fun r150 =>
    some (r150, r149)
def Q_String_valueOf (Z : State) (hE : Heap) (n0 : Nat)  (r : Int32 × (List Int32)) (v : Option Value) (h : Heap) (L : List Loc) : Prop := ∃ b1 : Addr, ∃ b2 : Addr, v = some (.ref b1) ∧ Fr n0 L ∧ Keep hE h [] ∧ n0 ≤ b1 ∧ hE.size ≤ b1 ∧ Exa Z h b1 "java/lang/String" ∧ Fld Z h b1 "java/lang/String" "coder" "B" (.int r.1) ∧ Fld Z h b1 "java/lang/String" "value" "[B" (.ref b2) ∧ n0 ≤ b2 ∧ hE.size ≤ b2 ∧ own_Ar Z h b2 .byte (r.2.map Value.int) ∧ b2 ≠ b1
def Cx_String_valueOf (p : Program) (s : State) (m : MethodId) (meth : Method) (c : Code) (Z : State) (a0 : Array Value) : Prop := p.tables.exec = Jvm.exec ∧ Z.Warmed39 s.vm ∧ (∀ d ∈ tables_1, d.before a0 Z = true) ∧ c.code = jdk_42_method_139_code ∧ c.maxLocals = 1 ∧ s.vm.findClass "java/lang/String" = some m.cls ∧ meth.sig.returnType = some (.object "java/lang/String") ∧ meth.locks = false ∧ meth.name = "valueOf" ∧ own_CS Z
set_option maxRecDepth 65536 in
set_option maxHeartbeats 4000000 in
theorem b_String_valueOf {p : Program} {l : Launch} {e : Env} {s : State} {m : MethodId} {args : Array Value} {below : List Frame} {meth : Method} {c : Code} {Z : State} {a0 : Array Value} {n0 : Nat} {hE : Heap} (cx : Cx_String_valueOf p s m meth c Z a0) :
    ∀ {T : State} {locs : List Loc} {h : Heap} (X : Stand p l e ({ frames := 2, cells := 2, slots := 5, locals := 27 } : Room) s m args below meth c T locs 0 0) (eT : T.heap = h) (N : Fr n0 locs) (K : Keep hE h []) (z : n0 ≤ h.size) (O : Old Z n0 h) (v0 : Int32) (r : Int32 × (List Int32)), f_String_valueOf v0 = some r → own_Goes p e below s (Q_String_valueOf Z hE n0 r) 2 5 (T.setTop (mkF m 0 #[.val (.int v0)] [])) := by
  have cx' := cx
  obtain ⟨hx, hZ, hw, hby, hml, hown, hret, hlk, hnm, hcs⟩ := cx'
  intro T locs h X eT N K z O v0 r hF
  unfold f_String_valueOf at hF
  obtain ⟨w145, S145, nz145⟩ := hcs
  obtain ⟨T145, X145, e145, st145⟩ := getS2 X hx hZ hown (host := "") (Or.inl (w47 hw)) Via.refl eT (Sta.ext O.2 S145) (g := (mkF m 0 #[.val (.int v0)] [])) rfl (hb hby dString_valueOf_0)
  have hcs : own_CS Z := ⟨w145, S145, nz145⟩
  refine own_Goes.via st145 ?_
  show own_Goes _ _ _ _ _ _ _ (T145.setTop (mkF m 3 #[.val (.int v0)] [(.int w145)]))
  refine own_Goes.via (B := T145.setTop (mkF m 7 #[.val (.int v0)] [(.int v0)])) (fun t k => ?_) ?_
  · show Steps p.tables e below (T145.setTop (mkF m 3 #[.val (.int v0)] [(.int w145)])) t
    refine XS.ifNo X145.here hx rfl (hb hby dString_valueOf_3) rfl ((if0 _ _).trans (feq nz145).1) ?_
    show Steps p.tables e below (T145.setTop (mkF m 6 #[.val (.int v0)] [])) t
    refine XS.iloadN X145.here hx rfl (hb hby dString_valueOf_6) rfl ?_
    exact k
  obtain ⟨r146, hr146, hF⟩ := own_bd_e hF
  obtain ⟨_, _, ⟨T146, L146, k146, n146⟩, -, X146, ⟨Lc146, hQ146, l146, y146, z146⟩, st146⟩ := Jvm.LawKit.callS X145 hx (y := (⟨"java/lang/StringLatin1", "canEncode", "(C)Z"⟩ : MethodName)) hown (mvT hZ (w48 hw)) (mvT hZ (w49 hw)) (mvT hZ (w50 hw)) (mvT hZ (w51 hw)) (by decide) (backOf (W := 0) (rm_StringLatin1_canEncode l Z a0 hw [] h n0 z hcs O v0 r146 hr146) hZ (w51 hw) (w50 hw) (by decide) (by decide)) (g := (mkF m 7 #[.val (.int v0)] [(.int v0)])) rfl (by rw [hml]; rfl) (argsL := [(.int v0)]) (rest := []) (lenOf pd_4 rfl) rfl (by show 2 * 0 + _ ≤ _; exact Nat.le_of_eq rfl) (hb hby dString_valueOf_7) (fun _ _ => ⟨rfl, e145, (by decide : 0 + 0 ≤ _), (by decide : 0 + 0 ≤ _)⟩)
  dsimp only [Pt.U, Pt.locs, Pt.cells, Pt.slots] at X146 l146 y146 z146 st146 hQ146
  subst l146 y146 z146
  obtain ⟨rfl, N146q, e146⟩ := hQ146
  have N146 := Fr.app N N146q
  refine own_Goes.via st146 ?_
  show own_Goes _ _ _ _ _ _ _ (T146.setTop (mkF m 10 #[.val (.int v0)] [(.int r146)]))
  by_cases hc10 : r146 = (0 : Int32)
  · rw [if_pos hc10] at hF
    refine own_Goes.via (B := T146.setTop (mkF m 26 #[.val (.int v0)] [])) (fun t k => ?_) ?_
    · show Steps p.tables e below (T146.setTop (mkF m 10 #[.val (.int v0)] [(.int r146)])) t
      refine XS.ifYes X146.here hx rfl (pc0 := 10) (pc' := 26) rfl (hb hby dString_valueOf_10) rfl ((if0 _ _).trans (teq hc10).1) (by decide) (by decide) ?_
      exact k
    obtain ⟨T147, h147, X147, e147, E147, A147, D147, -, st147⟩ := newO X146 hx hZ hown (w52 hw) (w53 hw) (w45 hw) e146 (g := (mkF m 26 #[.val (.int v0)] [])) rfl (hb hby dString_valueOf_26) (by decide) (by decide)
    obtain ⟨c147, q147⟩ : ∃ z, z = h.size := ⟨_, rfl⟩
    rw [← q147] at A147 D147 st147
    have F147_c147_value : Fld Z h147 c147 "java/lang/String" "value" "[B" .null := D147 (Or.inr (w64 hw)) (ty := (.array .byte)) (by decide)
    have F147_c147_coder : Fld Z h147 c147 "java/lang/String" "coder" "B" (.int (0 : Int32)) := D147 (Or.inr (w66 hw)) (ty := .byte) (by decide)
    have g147_c147 : n0 ≤ c147 := Nat.le_trans z (Nat.le_of_eq q147.symm)
    have nE147_c147 : hE.size ≤ c147 := Nat.le_trans K.1 (Nat.le_of_eq q147.symm)
    have z147 := Nat.le_trans z E147.1
    have K147_ := K.ext E147
    have O147 := O.ext E147
    refine own_Goes.via st147 ?_
    show own_Goes _ _ _ _ _ _ _ (T147.setTop (mkF m 29 #[.val (.int v0)] [(.ref c147)]))
    refine own_Goes.via (B := T147.setTop (mkF m 31 #[.val (.int v0)] [(.int v0), (.ref c147), (.ref c147)])) (fun t k => ?_) ?_
    · show Steps p.tables e below (T147.setTop (mkF m 29 #[.val (.int v0)] [(.ref c147)])) t
      refine XS.dup X147.here hx rfl (hb hby dString_valueOf_29) rfl rfl ?_
      show Steps p.tables e below (T147.setTop (mkF m 30 #[.val (.int v0)] [(.ref c147), (.ref c147)])) t
      refine XS.iloadN X147.here hx rfl (hb hby dString_valueOf_30) rfl ?_
      exact k
    cases hF      -- no link word at 31
  · rw [if_neg hc10] at hF
    refine own_Goes.via (B := T146.setTop (mkF m 13 #[.val (.int v0)] [])) (fun t k => ?_) ?_
    · show Steps p.tables e below (T146.setTop (mkF m 10 #[.val (.int v0)] [(.int r146)])) t
      refine XS.ifNo X146.here hx rfl (hb hby dString_valueOf_10) rfl ((if0 _ _).trans (feq hc10).1) ?_
      exact k
    obtain ⟨T148, h148, X148, e148, E148, A148, D148, -, st148⟩ := newO X146 hx hZ hown (w52 hw) (w53 hw) (w45 hw) e146 (g := (mkF m 13 #[.val (.int v0)] [])) rfl (hb hby dString_valueOf_13) (by decide) (by decide)
    obtain ⟨c148, q148⟩ : ∃ z, z = h.size := ⟨_, rfl⟩
    rw [← q148] at A148 D148 st148
    have F148_c148_value : Fld Z h148 c148 "java/lang/String" "value" "[B" .null := D148 (Or.inr (w64 hw)) (ty := (.array .byte)) (by decide)
    have F148_c148_coder : Fld Z h148 c148 "java/lang/String" "coder" "B" (.int (0 : Int32)) := D148 (Or.inr (w66 hw)) (ty := .byte) (by decide)
    have g148_c148 : n0 ≤ c148 := Nat.le_trans z (Nat.le_of_eq q148.symm)
    have nE148_c148 : hE.size ≤ c148 := Nat.le_trans K.1 (Nat.le_of_eq q148.symm)
    have z148 := Nat.le_trans z E148.1
    have K148_ := K.ext E148
    have O148 := O.ext E148
    refine own_Goes.via st148 ?_
    show own_Goes _ _ _ _ _ _ _ (T148.setTop (mkF m 16 #[.val (.int v0)] [(.ref c148)]))
    refine own_Goes.via (B := T148.setTop (mkF m 18 #[.val (.int v0)] [(.int v0), (.ref c148), (.ref c148)])) (fun t k => ?_) ?_
    · show Steps p.tables e below (T148.setTop (mkF m 16 #[.val (.int v0)] [(.ref c148)])) t
      refine XS.dup X148.here hx rfl (hb hby dString_valueOf_16) rfl rfl ?_
      show Steps p.tables e below (T148.setTop (mkF m 17 #[.val (.int v0)] [(.ref c148), (.ref c148)])) t
      refine XS.iloadN X148.here hx rfl (hb hby dString_valueOf_17) rfl ?_
      exact k
    obtain ⟨r149, hr149, hF⟩ := own_bd_e hF
    obtain ⟨_, _, ⟨T149, L149, k149, n149⟩, -, X149, ⟨Lc149, hQ149, l149, y149, z149⟩, st149⟩ := Jvm.LawKit.callS X148 hx (y := (⟨"java/lang/StringLatin1", "toBytes", "(C)[B"⟩ : MethodName)) hown (mvT hZ (w54 hw)) (mvT hZ (w55 hw)) (mvT hZ (w50 hw)) (mvT hZ (w56 hw)) (by decide) (backOf (W := 2) (rm_StringLatin1_toBytes l Z a0 hw [] h148 n0 z148 hcs O148 v0 r149 hr149) hZ (w56 hw) (w50 hw) (by decide) (by decide)) (g := (mkF m 18 #[.val (.int v0)] [(.int v0), (.ref c148), (.ref c148)])) rfl (by rw [hml]; rfl) (argsL := [(.int v0)]) (rest := [(.ref c148), (.ref c148)]) (lenOf pd_5 rfl) rfl (by show 2 * 0 + _ ≤ _; exact Nat.le_of_eq rfl) (hb hby dString_valueOf_18) (fun _ _ => ⟨rfl, e148, (by decide : 1 + 1 ≤ _), (by decide : 4 + 1 ≤ _)⟩)
    dsimp only [Pt.U, Pt.locs, Pt.cells, Pt.slots] at X149 l149 y149 z149 st149 hQ149
    subst l149 y149 z149
    obtain ⟨c149_0, rfl, N149q, K149, g149_c149_0, s149_c149_0, A149_c149_0⟩ := hQ149
    have N149 := Fr.app N146 N149q
    have ne_c148_c149_0 : c148 ≠ c149_0 := Nat.ne_of_lt (Nat.lt_of_lt_of_le A148.lt s149_c149_0)
    have F149_c148_value := F148_c148_value.keep K149 nin0
    have F149_c148_coder := F148_c148_coder.keep K149 nin0
    have E149_c148 := A148.keep K149
    have nE149_c149_0 : hE.size ≤ c149_0 := Nat.le_trans K148_.1 s149_c149_0
    have O149 := O148.keep K149 all0
    have K149_ := K148_.trans K149 all0
    have z149_ := Nat.le_trans z148 K149.1
    refine own_Goes.via st149 ?_
    show own_Goes _ _ _ _ _ _ _ (T149.setTop (mkF m 21 #[.val (.int v0)] [(.ref c149_0), (.ref c148), (.ref c148)]))
    refine own_Goes.via (B := T149.setTop (mkF m 22 #[.val (.int v0)] [(.int (0 : Int32)), (.ref c149_0), (.ref c148), (.ref c148)])) (fun t k => ?_) ?_
    · show Steps p.tables e below (T149.setTop (mkF m 21 #[.val (.int v0)] [(.ref c149_0), (.ref c148), (.ref c148)])) t
      refine XS.iconst X149.here hx rfl (hb hby dString_valueOf_21) ?_
      exact k
    obtain ⟨r150, hr150, hF⟩ := own_bd_e hF
    obtain ⟨_, _, ⟨T150, L150, k150, n150⟩, -, X150, ⟨Lc150, hQ150, l150, y150, z150⟩, st150⟩ := X149.specialBack hx (y := (⟨"java/lang/String", "<init>", "([BB)V"⟩ : MethodName)) rfl hown (mvT hZ (w58 hw)) (mvT hZ (w59 hw)) (mvT hZ (w61 hw)) (by decide) (backOf (W := 1) (rm_String_mk l Z a0 hw [] T149.heap n0 z149_ hcs O149 c148 c149_0 (0 : Int32) (0 : Int32) r149 E149_c148 F149_c148_coder F149_c148_value g148_c148 A149_c149_0 g149_c149_0 ne_c148_c149_0 r150 hr150) hZ (w61 hw) (w45 hw) (by decide) (by decide)) (g := (mkF m 22 #[.val (.int v0)] [(.int (0 : Int32)), (.ref c149_0), (.ref c148), (.ref c148)])) rfl (by rw [hml]; rfl) (Steps.refl _) (a := c148) (argsL := [(.ref c149_0), (.int (0 : Int32))]) (rest := [(.ref c148)]) (lenOf pd_6 rfl) rfl (by show 2 * 0 + _ ≤ _; exact Nat.le_of_eq rfl) (hb hby dString_valueOf_22) (fun _ _ => ⟨rfl, rfl, (by decide : 2 + 0 ≤ _), (by decide : 5 + 0 ≤ _)⟩)
    dsimp only [Pt.U, Pt.locs, Pt.cells, Pt.slots] at X150 l150 y150 z150 st150 hQ150
    subst l150 y150 z150
    obtain ⟨rfl, N150q, K150, E150_c148, F150_c148_coder, F150_c148_value⟩ := hQ150
    have N150 := Fr.app N149 N150q
    have A150_c149_0 := A149_c149_0.keep K150 (ninS (Ne.symm ne_c148_c149_0) nin0)
    have O150 := O149.keep K150 (allS g148_c148 all0)
    have K150_ := K149_.trans K150 (allS (Or.inr nE148_c148) all0)
    have z150_ := Nat.le_trans z149_ K150.1
    refine own_Goes.tr st150 ?_
    show own_Goes _ _ _ _ _ _ _ (T150.setTop (mkF m 25 #[.val (.int v0)] [(.ref c148)]))
    obtain rfl : (r150, r149) = r := Option.some.inj hF
    exact own_retR X150 hx hret hlk (hb hby dString_valueOf_25) rfl rfl rfl ⟨c148, c149_0, rfl, N150, K150_, g148_c148, nE148_c148, E150_c148, F150_c148_coder, F150_c148_value, g149_c149_0, nE149_c149_0, A150_c149_0, (Ne.symm ne_c148_c149_0)⟩ (by decide) (by decide)
theorem ef_String_valueOf (m : MethodId) (x0 : Int32) : entryFrame m #[(.int x0)] 1 = mkF m 0 #[.val (.int x0)] [] := by first | (simp [entryFrame, mkF, argsToLocals, Value.category]; done) | rfl
set_option maxRecDepth 65536 in
set_option maxHeartbeats 4000000 in
theorem rm_String_valueOf (l : Launch) (Z : State) (a0 : Array Value) (hw : ∀ d ∈ tables_1, d.before a0 Z = true) (ws : List Jvm.Cond) (hE : Heap) (n0 : Nat) (z : n0 ≤ hE.size) (cs : own_CS Z) (O : Old Z n0 hE)  (v0 : Int32) (r : Int32 × (List Int32)) (hF : (f_String_valueOf v0) = some r) :
    MetFree l (⟨"java/lang/String", "valueOf", "(C)Ljava/lang/String;"⟩ : MethodName) (head1 (Jvm.Cond.code (⟨"java/lang/String", "valueOf", "(C)Ljava/lang/String;"⟩ : MethodName) jdk_42_method_139_code 1 (some (.object "java/lang/String")) :: ws) ({ frames := 2, cells := 2, slots := 5, locals := 27 } : Room)) (fun a U => a = #[(.int v0)] ∧ Z.Warmed39 U.vm ∧ U.heap = hE) (fun _ _ _ _ _ => True) (fun _ U o U' => ∃ v L, o = .returned v ∧ (Q_String_valueOf Z hE n0 r) v U'.heap L ∧ FrameEnd U o U' L ({ frames := 2, cells := 2, slots := 5, locals := 27 } : Room).cells ({ frames := 2, cells := 2, slots := 5, locals := 27 } : Room).slots) := by
  refine MetFree.of_bodySF (plainFor_of_name pn_java_lang_String) hisR ?_
  intro p e s m args below meth c s₁ Bd hml0 hP hK
  obtain ⟨rfl, hZ, hh⟩ := hP
  have X0 : Stand p l e ({ frames := 2, cells := 2, slots := 5, locals := 27 } : Room) s m #[(.int v0)] below meth c s₁ [] 0 0 := Stand.of_body Bd
  have e0 : s₁.heap = hE := by rw [← hh, Bd.state]; rfl
  have cx : Cx_String_valueOf p s m meth c Z a0 := ⟨Bd.exec, hZ, hw, Bd.bytes, hml0, findClass_of_methodNamed Bd.named, Bd.returns, Bd.notSynchronized, (name_of_methodNamed Bd.named Bd.method).1, cs⟩
  show own_Goes p e below s (Q_String_valueOf Z hE n0 r) ({ frames := 2, cells := 2, slots := 5, locals := 27 } : Room).cells ({ frames := 2, cells := 2, slots := 5, locals := 27 } : Room).slots (s₁.setTop (entryFrame m #[(.int v0)] 1))
  rw [ef_String_valueOf]
  exact b_String_valueOf cx X0 e0 (Fr.nil n0) (Keep.refl _ _) z O v0 _ hF
/-! com/example/no_wait_scheduler/nowaitscheduler/verify/Summary.<init>:(JZJJJJJJJLjava/lang/String;)V -/
def f_Summary_mk_i2 (v1 : Int64) (v3 : Int32) (v4 : Int64) (v6 : Int64) (v8 : Int64) (v10 : Int64) (v12 : Int64) (v14 : Int64) (v16 : Int64) (f_a1_conflicts : Int64) (f_a1_early : Int64) (f_a1_fixedPlacement : Int32) (f_a1_flowspanNs : Int64) (f_a1_frames : Int64) (f_a1_missing : Int64) (f_a1_order : Int64) (f_a1_waitingNs : Int64) (f_a1_window : Int64) (f_a2_coder : Int32) (bs_a3 : List Int32) : Option (Int64 × Int64 × Int32 × Int64 × Int64 × Int64 × Int64 × Int64 × Int64) :=
  some (v4, v6, (v3 &&& 1), v16, v1, v12, v8, v14, v10)
def Q_Summary_mk_i2 (Z : State) (hE : Heap) (n0 : Nat) (a1 : Addr) (a2 : Addr) (a3 : Addr) (r : Int64 × Int64 × Int32 × Int64 × Int64 × Int64 × Int64 × Int64 × Int64) (v : Option Value) (h : Heap) (L : List Loc) : Prop := v = none ∧ Fr n0 L ∧ Keep hE h [a1] ∧ Exa Z h a1 "com/example/no_wait_scheduler/nowaitscheduler/verify/Summary" ∧ Fld Z h a1 "com/example/no_wait_scheduler/nowaitscheduler/verify/Summary" "conflicts" "J" (.long r.1) ∧ Fld Z h a1 "com/example/no_wait_scheduler/nowaitscheduler/verify/Summary" "early" "J" (.long r.2.1) ∧ Fld Z h a1 "com/example/no_wait_scheduler/nowaitscheduler/verify/Summary" "firstFinding" "Ljava/lang/String;" (.ref a2) ∧ Fld Z h a1 "com/example/no_wait_scheduler/nowaitscheduler/verify/Summary" "fixedPlacement" "Z" (.int r.2.2.1) ∧ Fld Z h a1 "com/example/no_wait_scheduler/nowaitscheduler/verify/Summary" "flowspanNs" "J" (.long r.2.2.2.1) ∧ Fld Z h a1 "com/example/no_wait_scheduler/nowaitscheduler/verify/Summary" "frames" "J" (.long r.2.2.2.2.1) ∧ Fld Z h a1 "com/example/no_wait_scheduler/nowaitscheduler/verify/Summary" "missing" "J" (.long r.2.2.2.2.2.1) ∧ Fld Z h a1 "com/example/no_wait_scheduler/nowaitscheduler/verify/Summary" "order" "J" (.long r.2.2.2.2.2.2.1) ∧ Fld Z h a1 "com/example/no_wait_scheduler/nowaitscheduler/verify/Summary" "waitingNs" "J" (.long r.2.2.2.2.2.2.2.1) ∧ Fld Z h a1 "com/example/no_wait_scheduler/nowaitscheduler/verify/Summary" "window" "J" (.long r.2.2.2.2.2.2.2.2)
def Cx_Summary_mk_i2 (p : Program) (s : State) (m : MethodId) (meth : Method) (c : Code) (Z : State) (a0 : Array Value) : Prop := p.tables.exec = Jvm.exec ∧ Z.Warmed39 s.vm ∧ (∀ d ∈ tables_1, d.before a0 Z = true) ∧ c.code = prog_51_method_1_code ∧ c.maxLocals = 19 ∧ s.vm.findClass "com/example/no_wait_scheduler/nowaitscheduler/verify/Summary" = some m.cls ∧ meth.sig.returnType = none ∧ meth.locks = false ∧ meth.name = "<init>" ∧ own_CS Z
set_option maxRecDepth 65536 in
set_option maxHeartbeats 4000000 in
theorem b_Summary_mk_i2 {p : Program} {l : Launch} {e : Env} {s : State} {m : MethodId} {args : Array Value} {below : List Frame} {meth : Method} {c : Code} {Z : State} {a0 : Array Value} {n0 : Nat} {hE : Heap} (cx : Cx_Summary_mk_i2 p s m meth c Z a0) (a1 : Addr) (a2 : Addr) (a3 : Addr) :
    ∀ {T : State} {locs : List Loc} {h : Heap} (X : Stand p l e ({ frames := 1, cells := 0, slots := 0, locals := 12 } : Room) s m args below meth c T locs 0 0) (eT : T.heap = h) (N : Fr n0 locs) (K : Keep hE h [a1]) (z : n0 ≤ h.size) (O : Old Z n0 h) (v1 : Int64) (v3 : Int32) (v4 : Int64) (v6 : Int64) (v8 : Int64) (v10 : Int64) (v12 : Int64) (v14 : Int64) (v16 : Int64) (f_a1_conflicts : Int64) (f_a1_early : Int64) (f_a1_fixedPlacement : Int32) (f_a1_flowspanNs : Int64) (f_a1_frames : Int64) (f_a1_missing : Int64) (f_a1_order : Int64) (f_a1_waitingNs : Int64) (f_a1_window : Int64) (f_a2_coder : Int32) (bs_a3 : List Int32) (E_a1 : Exa Z h a1 "com/example/no_wait_scheduler/nowaitscheduler/verify/Summary") (F_a1_conflicts : Fld Z h a1 "com/example/no_wait_scheduler/nowaitscheduler/verify/Summary" "conflicts" "J" (.long f_a1_conflicts)) (F_a1_early : Fld Z h a1 "com/example/no_wait_scheduler/nowaitscheduler/verify/Summary" "early" "J" (.long f_a1_early)) (F_a1_firstFinding : Fld Z h a1 "com/example/no_wait_scheduler/nowaitscheduler/verify/Summary" "firstFinding" "Ljava/lang/String;" .null) (F_a1_fixedPlacement : Fld Z h a1 "com/example/no_wait_scheduler/nowaitscheduler/verify/Summary" "fixedPlacement" "Z" (.int f_a1_fixedPlacement)) (F_a1_flowspanNs : Fld Z h a1 "com/example/no_wait_scheduler/nowaitscheduler/verify/Summary" "flowspanNs" "J" (.long f_a1_flowspanNs)) (F_a1_frames : Fld Z h a1 "com/example/no_wait_scheduler/nowaitscheduler/verify/Summary" "frames" "J" (.long f_a1_frames)) (F_a1_missing : Fld Z h a1 "com/example/no_wait_scheduler/nowaitscheduler/verify/Summary" "missing" "J" (.long f_a1_missing)) (F_a1_order : Fld Z h a1 "com/example/no_wait_scheduler/nowaitscheduler/verify/Summary" "order" "J" (.long f_a1_order)) (F_a1_waitingNs : Fld Z h a1 "com/example/no_wait_scheduler/nowaitscheduler/verify/Summary" "waitingNs" "J" (.long f_a1_waitingNs)) (F_a1_window : Fld Z h a1 "com/example/no_wait_scheduler/nowaitscheduler/verify/Summary" "window" "J" (.long f_a1_window)) (g_a1 : n0 ≤ a1) (E_a2 : Exa Z h a2 "java/lang/String") (F_a2_coder : Fld Z h a2 "java/lang/String" "coder" "B" (.int f_a2_coder)) (F_a2_value : Fld Z h a2 "java/lang/String" "value" "[B" (.ref a3)) (g_a2 : n0 ≤ a2) (A_a3 : own_Ar Z h a3 .byte (bs_a3.map Value.int)) (g_a3 : n0 ≤ a3) (ne_a1_a2 : a1 ≠ a2) (ne_a1_a3 : a1 ≠ a3) (ne_a2_a3 : a2 ≠ a3) (r : Int64 × Int64 × Int32 × Int64 × Int64 × Int64 × Int64 × Int64 × Int64), f_Summary_mk_i2 v1 v3 v4 v6 v8 v10 v12 v14 v16 f_a1_conflicts f_a1_early f_a1_fixedPlacement f_a1_flowspanNs f_a1_frames f_a1_missing f_a1_order f_a1_waitingNs f_a1_window f_a2_coder bs_a3 = some r → own_Goes p e below s (Q_Summary_mk_i2 Z hE n0 a1 a2 a3 r) 0 0 (T.setTop (mkF m 0 #[.val (.ref a1), .val (.long v1), .second, .val (.int v3), .val (.long v4), .second, .val (.long v6), .second, .val (.long v8), .second, .val (.long v10), .second, .val (.long v12), .second, .val (.long v14), .second, .val (.long v16), .second, .val (.ref a2)] [])) := by
  have cx' := cx
  obtain ⟨hx, hZ, hw, hby, hml, hown, hret, hlk, hnm, hcs⟩ := cx'
  intro T locs h X eT N K z O v1 v3 v4 v6 v8 v10 v12 v14 v16 f_a1_conflicts f_a1_early f_a1_fixedPlacement f_a1_flowspanNs f_a1_frames f_a1_missing f_a1_order f_a1_waitingNs f_a1_window f_a2_coder bs_a3 E_a1 F_a1_conflicts F_a1_early F_a1_firstFinding F_a1_fixedPlacement F_a1_flowspanNs F_a1_frames F_a1_missing F_a1_order F_a1_waitingNs F_a1_window g_a1 E_a2 F_a2_coder F_a2_value g_a2 A_a3 g_a3 ne_a1_a2 ne_a1_a3 ne_a2_a3 r hF
  unfold f_Summary_mk_i2 at hF
  refine own_Goes.via (B := T.setTop (mkF m 1 #[.val (.ref a1), .val (.long v1), .second, .val (.int v3), .val (.long v4), .second, .val (.long v6), .second, .val (.long v8), .second, .val (.long v10), .second, .val (.long v12), .second, .val (.long v14), .second, .val (.long v16), .second, .val (.ref a2)] [(.ref a1)])) (fun t k => ?_) ?_
  · show Steps p.tables e below (T.setTop (mkF m 0 #[.val (.ref a1), .val (.long v1), .second, .val (.int v3), .val (.long v4), .second, .val (.long v6), .second, .val (.long v8), .second, .val (.long v10), .second, .val (.long v12), .second, .val (.long v14), .second, .val (.long v16), .second, .val (.ref a2)] [])) t
    refine XS.aloadN X.here hx rfl (hb hby dSummary_mk_0) rfl rfl ?_
    exact k
  obtain ⟨T188, X188, e188, st188⟩ := initO X hx hZ hown (w10 hw) (w11 hw) (w12 hw) eT (g := (mkF m 1 #[.val (.ref a1), .val (.long v1), .second, .val (.int v3), .val (.long v4), .second, .val (.long v6), .second, .val (.long v8), .second, .val (.long v10), .second, .val (.long v12), .second, .val (.long v14), .second, .val (.long v16), .second, .val (.ref a2)] [(.ref a1)])) rfl (by rw [hml]; rfl) rfl (hb hby dSummary_mk_1) (by decide) (W := 0) (by show 2 * 0 + _ ≤ _; exact Nat.le_of_eq rfl) (by decide)
  refine own_Goes.via st188 ?_
  show own_Goes _ _ _ _ _ _ _ (T188.setTop (mkF m 4 #[.val (.ref a1), .val (.long v1), .second, .val (.int v3), .val (.long v4), .second, .val (.long v6), .second, .val (.long v8), .second, .val (.long v10), .second, .val (.long v12), .second, .val (.long v14), .second, .val (.long v16), .second, .val (.ref a2)] []))
  refine own_Goes.via (B := T188.setTop (mkF m 6 #[.val (.ref a1), .val (.long v1), .second, .val (.int v3), .val (.long v4), .second, .val (.long v6), .second, .val (.long v8), .second, .val (.long v10), .second, .val (.long v12), .second, .val (.long v14), .second, .val (.long v16), .second, .val (.ref a2)] [(.long v1), (.ref a1)])) (fun t k => ?_) ?_
  · show Steps p.tables e below (T188.setTop (mkF m 4 #[.val (.ref a1), .val (.long v1), .second, .val (.int v3), .val (.long v4), .second, .val (.long v6), .second, .val (.long v8), .second, .val (.long v10), .second, .val (.long v12), .second, .val (.long v14), .second, .val (.long v16), .second, .val (.ref a2)] [])) t
    refine XS.aloadN X188.here hx rfl (hb hby dSummary_mk_4) rfl rfl ?_
    show Steps p.tables e below (T188.setTop (mkF m 5 #[.val (.ref a1), .val (.long v1), .second, .val (.int v3), .val (.long v4), .second, .val (.long v6), .second, .val (.long v8), .second, .val (.long v10), .second, .val (.long v12), .second, .val (.long v14), .second, .val (.long v16), .second, .val (.ref a2)] [(.ref a1)])) t
    refine XS.lloadN X188.here hx rfl (hb hby dSummary_mk_5) rfl ?_
    exact k
  obtain ⟨T189, h189, X189, e189, W189, st189⟩ := putF X188 hx hZ hown (host := "") (Or.inl (w13 hw)) Via.refl e188 F_a1_frames E_a1 (Or.inr ⟨(w14 hw), rfl, hnm⟩) (w5 hw) (ty := .long) (by decide) rfl rfl (g := (mkF m 6 #[.val (.ref a1), .val (.long v1), .second, .val (.int v3), .val (.long v4), .second, .val (.long v6), .second, .val (.long v8), .second, .val (.long v10), .second, .val (.long v12), .second, .val (.long v14), .second, .val (.long v16), .second, .val (.ref a2)] [(.long v1), (.ref a1)])) rfl rfl (hb hby dSummary_mk_6)
  refine own_Goes.via st189 ?_
  have E189_a1 := E_a1.wr W189
  have F189_a1_conflicts := F_a1_conflicts.other W189 (Or.inr (slot_ne (Or.inr (w18 hw)) (Or.inr (w14 hw)) (by decide) (t := .long) (t' := .long) (by decide) (by decide)))
  have F189_a1_early := F_a1_early.other W189 (Or.inr (slot_ne (Or.inr (w20 hw)) (Or.inr (w14 hw)) (by decide) (t := .long) (t' := .long) (by decide) (by decide)))
  have F189_a1_firstFinding := F_a1_firstFinding.other W189 (Or.inr (slot_ne (Or.inr (w32 hw)) (Or.inr (w14 hw)) (by decide) (t := (.object "java/lang/String")) (t' := .long) (by decide) (by decide)))
  have F189_a1_fixedPlacement := F_a1_fixedPlacement.other W189 (Or.inr (slot_ne (Or.inr (w16 hw)) (Or.inr (w14 hw)) (by decide) (t := .boolean) (t' := .long) (by decide) (by decide)))
  have F189_a1_flowspanNs := F_a1_flowspanNs.other W189 (Or.inr (slot_ne (Or.inr (w30 hw)) (Or.inr (w14 hw)) (by decide) (t := .long) (t' := .long) (by decide) (by decide)))
  have F189_a1_missing := F_a1_missing.other W189 (Or.inr (slot_ne (Or.inr (w26 hw)) (Or.inr (w14 hw)) (by decide) (t := .long) (t' := .long) (by decide) (by decide)))
  have F189_a1_order := F_a1_order.other W189 (Or.inr (slot_ne (Or.inr (w22 hw)) (Or.inr (w14 hw)) (by decide) (t := .long) (t' := .long) (by decide) (by decide)))
  have F189_a1_waitingNs := F_a1_waitingNs.other W189 (Or.inr (slot_ne (Or.inr (w28 hw)) (Or.inr (w14 hw)) (by decide) (t := .long) (t' := .long) (by decide) (by decide)))
  have F189_a1_window := F_a1_window.other W189 (Or.inr (slot_ne (Or.inr (w24 hw)) (Or.inr (w14 hw)) (by decide) (t := .long) (t' := .long) (by decide) (by decide)))
  have E189_a2 := E_a2.wr W189
  have F189_a2_coder := F_a2_coder.other W189 (Or.inl (Ne.symm ne_a1_a2))
  have F189_a2_value := F_a2_value.other W189 (Or.inl (Ne.symm ne_a1_a2))
  have A189_a3 := A_a3.other W189 (Ne.symm ne_a1_a3)
  have F189_a1_frames := F_a1_frames.same W189
  have z189 := Nat.le_trans z (Keep.of_wr W189).1
  have K189_ := K.wr W189 (Or.inl (List.mem_of_getElem? (i := 0) rfl))
  have O189 := O.wr W189 g_a1
  have N189 := Fr.snoc X189 N g_a1
  show own_Goes _ _ _ _ _ _ _ (T189.setTop (mkF m 9 #[.val (.ref a1), .val (.long v1), .second, .val (.int v3), .val (.long v4), .second, .val (.long v6), .second, .val (.long v8), .second, .val (.long v10), .second, .val (.long v12), .second, .val (.long v14), .second, .val (.long v16), .second, .val (.ref a2)] []))
  refine own_Goes.via (B := T189.setTop (mkF m 11 #[.val (.ref a1), .val (.long v1), .second, .val (.int v3), .val (.long v4), .second, .val (.long v6), .second, .val (.long v8), .second, .val (.long v10), .second, .val (.long v12), .second, .val (.long v14), .second, .val (.long v16), .second, .val (.ref a2)] [(.int v3), (.ref a1)])) (fun t k => ?_) ?_
  · show Steps p.tables e below (T189.setTop (mkF m 9 #[.val (.ref a1), .val (.long v1), .second, .val (.int v3), .val (.long v4), .second, .val (.long v6), .second, .val (.long v8), .second, .val (.long v10), .second, .val (.long v12), .second, .val (.long v14), .second, .val (.long v16), .second, .val (.ref a2)] [])) t
    refine XS.aloadN X189.here hx rfl (hb hby dSummary_mk_9) rfl rfl ?_
    show Steps p.tables e below (T189.setTop (mkF m 10 #[.val (.ref a1), .val (.long v1), .second, .val (.int v3), .val (.long v4), .second, .val (.long v6), .second, .val (.long v8), .second, .val (.long v10), .second, .val (.long v12), .second, .val (.long v14), .second, .val (.long v16), .second, .val (.ref a2)] [(.ref a1)])) t
    refine XS.iloadN X189.here hx rfl (hb hby dSummary_mk_10) rfl ?_
    exact k
  obtain ⟨T190, h190, X190, e190, W190, st190⟩ := putFN X189 hx hZ hown (w15 hw) Via.refl e189 F189_a1_fixedPlacement E189_a1 (Or.inr ⟨(w16 hw), rfl, hnm⟩) (w5 hw) (ty := .boolean) (v' := (.int (v3 &&& 1))) (by decide) rfl (fits_nar_bool _) (g := (mkF m 11 #[.val (.ref a1), .val (.long v1), .second, .val (.int v3), .val (.long v4), .second, .val (.long v6), .second, .val (.long v8), .second, .val (.long v10), .second, .val (.long v12), .second, .val (.long v14), .second, .val (.long v16), .second, .val (.ref a2)] [(.int v3), (.ref a1)])) rfl rfl (hb hby dSummary_mk_11)
  refine own_Goes.via st190 ?_
  have E190_a1 := E189_a1.wr W190
  have F190_a1_conflicts := F189_a1_conflicts.other W190 (Or.inr (slot_ne (Or.inr (w18 hw)) (Or.inr (w16 hw)) (by decide) (t := .long) (t' := .boolean) (by decide) (by decide)))
  have F190_a1_early := F189_a1_early.other W190 (Or.inr (slot_ne (Or.inr (w20 hw)) (Or.inr (w16 hw)) (by decide) (t := .long) (t' := .boolean) (by decide) (by decide)))
  have F190_a1_firstFinding := F189_a1_firstFinding.other W190 (Or.inr (slot_ne (Or.inr (w32 hw)) (Or.inr (w16 hw)) (by decide) (t := (.object "java/lang/String")) (t' := .boolean) (by decide) (by decide)))
  have F190_a1_flowspanNs := F189_a1_flowspanNs.other W190 (Or.inr (slot_ne (Or.inr (w30 hw)) (Or.inr (w16 hw)) (by decide) (t := .long) (t' := .boolean) (by decide) (by decide)))
  have F190_a1_frames := F189_a1_frames.other W190 (Or.inr (slot_ne (Or.inr (w14 hw)) (Or.inr (w16 hw)) (by decide) (t := .long) (t' := .boolean) (by decide) (by decide)))
  have F190_a1_missing := F189_a1_missing.other W190 (Or.inr (slot_ne (Or.inr (w26 hw)) (Or.inr (w16 hw)) (by decide) (t := .long) (t' := .boolean) (by decide) (by decide)))
  have F190_a1_order := F189_a1_order.other W190 (Or.inr (slot_ne (Or.inr (w22 hw)) (Or.inr (w16 hw)) (by decide) (t := .long) (t' := .boolean) (by decide) (by decide)))
  have F190_a1_waitingNs := F189_a1_waitingNs.other W190 (Or.inr (slot_ne (Or.inr (w28 hw)) (Or.inr (w16 hw)) (by decide) (t := .long) (t' := .boolean) (by decide) (by decide)))
  have F190_a1_window := F189_a1_window.other W190 (Or.inr (slot_ne (Or.inr (w24 hw)) (Or.inr (w16 hw)) (by decide) (t := .long) (t' := .boolean) (by decide) (by decide)))
  have E190_a2 := E189_a2.wr W190
  have F190_a2_coder := F189_a2_coder.other W190 (Or.inl (Ne.symm ne_a1_a2))
  have F190_a2_value := F189_a2_value.other W190 (Or.inl (Ne.symm ne_a1_a2))
  have A190_a3 := A189_a3.other W190 (Ne.symm ne_a1_a3)
  have F190_a1_fixedPlacement := F189_a1_fixedPlacement.same W190
  have z190 := Nat.le_trans z189 (Keep.of_wr W190).1
  have K190_ := K189_.wr W190 (Or.inl (List.mem_of_getElem? (i := 0) rfl))
  have O190 := O189.wr W190 g_a1
  have N190 := Fr.snoc X190 N189 g_a1
  show own_Goes _ _ _ _ _ _ _ (T190.setTop (mkF m 14 #[.val (.ref a1), .val (.long v1), .second, .val (.int v3), .val (.long v4), .second, .val (.long v6), .second, .val (.long v8), .second, .val (.long v10), .second, .val (.long v12), .second, .val (.long v14), .second, .val (.long v16), .second, .val (.ref a2)] []))
  refine own_Goes.via (B := T190.setTop (mkF m 17 #[.val (.ref a1), .val (.long v1), .second, .val (.int v3), .val (.long v4), .second, .val (.long v6), .second, .val (.long v8), .second, .val (.long v10), .second, .val (.long v12), .second, .val (.long v14), .second, .val (.long v16), .second, .val (.ref a2)] [(.long v4), (.ref a1)])) (fun t k => ?_) ?_
  · show Steps p.tables e below (T190.setTop (mkF m 14 #[.val (.ref a1), .val (.long v1), .second, .val (.int v3), .val (.long v4), .second, .val (.long v6), .second, .val (.long v8), .second, .val (.long v10), .second, .val (.long v12), .second, .val (.long v14), .second, .val (.long v16), .second, .val (.ref a2)] [])) t
    refine XS.aloadN X190.here hx rfl (hb hby dSummary_mk_14) rfl rfl ?_
    show Steps p.tables e below (T190.setTop (mkF m 15 #[.val (.ref a1), .val (.long v1), .second, .val (.int v3), .val (.long v4), .second, .val (.long v6), .second, .val (.long v8), .second, .val (.long v10), .second, .val (.long v12), .second, .val (.long v14), .second, .val (.long v16), .second, .val (.ref a2)] [(.ref a1)])) t
    refine XS.lload X190.here hx rfl (hb hby dSummary_mk_15) rfl ?_
    exact k
  obtain ⟨T191, h191, X191, e191, W191, st191⟩ := putF X190 hx hZ hown (host := "") (Or.inl (w17 hw)) Via.refl e190 F190_a1_conflicts E190_a1 (Or.inr ⟨(w18 hw), rfl, hnm⟩) (w5 hw) (ty := .long) (by decide) rfl rfl (g := (mkF m 17 #[.val (.ref a1), .val (.long v1), .second, .val (.int v3), .val (.long v4), .second, .val (.long v6), .second, .val (.long v8), .second, .val (.long v10), .second, .val (.long v12), .second, .val (.long v14), .second, .val (.long v16), .second, .val (.ref a2)] [(.long v4), (.ref a1)])) rfl rfl (hb hby dSummary_mk_17)
  refine own_Goes.via st191 ?_
  have E191_a1 := E190_a1.wr W191
  have F191_a1_early := F190_a1_early.other W191 (Or.inr (slot_ne (Or.inr (w20 hw)) (Or.inr (w18 hw)) (by decide) (t := .long) (t' := .long) (by decide) (by decide)))
  have F191_a1_firstFinding := F190_a1_firstFinding.other W191 (Or.inr (slot_ne (Or.inr (w32 hw)) (Or.inr (w18 hw)) (by decide) (t := (.object "java/lang/String")) (t' := .long) (by decide) (by decide)))
  have F191_a1_fixedPlacement := F190_a1_fixedPlacement.other W191 (Or.inr (slot_ne (Or.inr (w16 hw)) (Or.inr (w18 hw)) (by decide) (t := .boolean) (t' := .long) (by decide) (by decide)))
  have F191_a1_flowspanNs := F190_a1_flowspanNs.other W191 (Or.inr (slot_ne (Or.inr (w30 hw)) (Or.inr (w18 hw)) (by decide) (t := .long) (t' := .long) (by decide) (by decide)))
  have F191_a1_frames := F190_a1_frames.other W191 (Or.inr (slot_ne (Or.inr (w14 hw)) (Or.inr (w18 hw)) (by decide) (t := .long) (t' := .long) (by decide) (by decide)))
  have F191_a1_missing := F190_a1_missing.other W191 (Or.inr (slot_ne (Or.inr (w26 hw)) (Or.inr (w18 hw)) (by decide) (t := .long) (t' := .long) (by decide) (by decide)))
  have F191_a1_order := F190_a1_order.other W191 (Or.inr (slot_ne (Or.inr (w22 hw)) (Or.inr (w18 hw)) (by decide) (t := .long) (t' := .long) (by decide) (by decide)))
  have F191_a1_waitingNs := F190_a1_waitingNs.other W191 (Or.inr (slot_ne (Or.inr (w28 hw)) (Or.inr (w18 hw)) (by decide) (t := .long) (t' := .long) (by decide) (by decide)))
  have F191_a1_window := F190_a1_window.other W191 (Or.inr (slot_ne (Or.inr (w24 hw)) (Or.inr (w18 hw)) (by decide) (t := .long) (t' := .long) (by decide) (by decide)))
  have E191_a2 := E190_a2.wr W191
  have F191_a2_coder := F190_a2_coder.other W191 (Or.inl (Ne.symm ne_a1_a2))
  have F191_a2_value := F190_a2_value.other W191 (Or.inl (Ne.symm ne_a1_a2))
  have A191_a3 := A190_a3.other W191 (Ne.symm ne_a1_a3)
  have F191_a1_conflicts := F190_a1_conflicts.same W191
  have z191 := Nat.le_trans z190 (Keep.of_wr W191).1
  have K191_ := K190_.wr W191 (Or.inl (List.mem_of_getElem? (i := 0) rfl))
  have O191 := O190.wr W191 g_a1
  have N191 := Fr.snoc X191 N190 g_a1
  show own_Goes _ _ _ _ _ _ _ (T191.setTop (mkF m 20 #[.val (.ref a1), .val (.long v1), .second, .val (.int v3), .val (.long v4), .second, .val (.long v6), .second, .val (.long v8), .second, .val (.long v10), .second, .val (.long v12), .second, .val (.long v14), .second, .val (.long v16), .second, .val (.ref a2)] []))
  refine own_Goes.via (B := T191.setTop (mkF m 23 #[.val (.ref a1), .val (.long v1), .second, .val (.int v3), .val (.long v4), .second, .val (.long v6), .second, .val (.long v8), .second, .val (.long v10), .second, .val (.long v12), .second, .val (.long v14), .second, .val (.long v16), .second, .val (.ref a2)] [(.long v6), (.ref a1)])) (fun t k => ?_) ?_
  · show Steps p.tables e below (T191.setTop (mkF m 20 #[.val (.ref a1), .val (.long v1), .second, .val (.int v3), .val (.long v4), .second, .val (.long v6), .second, .val (.long v8), .second, .val (.long v10), .second, .val (.long v12), .second, .val (.long v14), .second, .val (.long v16), .second, .val (.ref a2)] [])) t
    refine XS.aloadN X191.here hx rfl (hb hby dSummary_mk_20) rfl rfl ?_
    show Steps p.tables e below (T191.setTop (mkF m 21 #[.val (.ref a1), .val (.long v1), .second, .val (.int v3), .val (.long v4), .second, .val (.long v6), .second, .val (.long v8), .second, .val (.long v10), .second, .val (.long v12), .second, .val (.long v14), .second, .val (.long v16), .second, .val (.ref a2)] [(.ref a1)])) t
    refine XS.lload X191.here hx rfl (hb hby dSummary_mk_21) rfl ?_
    exact k
  obtain ⟨T192, h192, X192, e192, W192, st192⟩ := putF X191 hx hZ hown (host := "") (Or.inl (w19 hw)) Via.refl e191 F191_a1_early E191_a1 (Or.inr ⟨(w20 hw), rfl, hnm⟩) (w5 hw) (ty := .long) (by decide) rfl rfl (g := (mkF m 23 #[.val (.ref a1), .val (.long v1), .second, .val (.int v3), .val (.long v4), .second, .val (.long v6), .second, .val (.long v8), .second, .val (.long v10), .second, .val (.long v12), .second, .val (.long v14), .second, .val (.long v16), .second, .val (.ref a2)] [(.long v6), (.ref a1)])) rfl rfl (hb hby dSummary_mk_23)
  refine own_Goes.via st192 ?_
  have E192_a1 := E191_a1.wr W192
  have F192_a1_conflicts := F191_a1_conflicts.other W192 (Or.inr (slot_ne (Or.inr (w18 hw)) (Or.inr (w20 hw)) (by decide) (t := .long) (t' := .long) (by decide) (by decide)))
  have F192_a1_firstFinding := F191_a1_firstFinding.other W192 (Or.inr (slot_ne (Or.inr (w32 hw)) (Or.inr (w20 hw)) (by decide) (t := (.object "java/lang/String")) (t' := .long) (by decide) (by decide)))
  have F192_a1_fixedPlacement := F191_a1_fixedPlacement.other W192 (Or.inr (slot_ne (Or.inr (w16 hw)) (Or.inr (w20 hw)) (by decide) (t := .boolean) (t' := .long) (by decide) (by decide)))
  have F192_a1_flowspanNs := F191_a1_flowspanNs.other W192 (Or.inr (slot_ne (Or.inr (w30 hw)) (Or.inr (w20 hw)) (by decide) (t := .long) (t' := .long) (by decide) (by decide)))
  have F192_a1_frames := F191_a1_frames.other W192 (Or.inr (slot_ne (Or.inr (w14 hw)) (Or.inr (w20 hw)) (by decide) (t := .long) (t' := .long) (by decide) (by decide)))
  have F192_a1_missing := F191_a1_missing.other W192 (Or.inr (slot_ne (Or.inr (w26 hw)) (Or.inr (w20 hw)) (by decide) (t := .long) (t' := .long) (by decide) (by decide)))
  have F192_a1_order := F191_a1_order.other W192 (Or.inr (slot_ne (Or.inr (w22 hw)) (Or.inr (w20 hw)) (by decide) (t := .long) (t' := .long) (by decide) (by decide)))
  have F192_a1_waitingNs := F191_a1_waitingNs.other W192 (Or.inr (slot_ne (Or.inr (w28 hw)) (Or.inr (w20 hw)) (by decide) (t := .long) (t' := .long) (by decide) (by decide)))
  have F192_a1_window := F191_a1_window.other W192 (Or.inr (slot_ne (Or.inr (w24 hw)) (Or.inr (w20 hw)) (by decide) (t := .long) (t' := .long) (by decide) (by decide)))
  have E192_a2 := E191_a2.wr W192
  have F192_a2_coder := F191_a2_coder.other W192 (Or.inl (Ne.symm ne_a1_a2))
  have F192_a2_value := F191_a2_value.other W192 (Or.inl (Ne.symm ne_a1_a2))
  have A192_a3 := A191_a3.other W192 (Ne.symm ne_a1_a3)
  have F192_a1_early := F191_a1_early.same W192
  have z192 := Nat.le_trans z191 (Keep.of_wr W192).1
  have K192_ := K191_.wr W192 (Or.inl (List.mem_of_getElem? (i := 0) rfl))
  have O192 := O191.wr W192 g_a1
  have N192 := Fr.snoc X192 N191 g_a1
  show own_Goes _ _ _ _ _ _ _ (T192.setTop (mkF m 26 #[.val (.ref a1), .val (.long v1), .second, .val (.int v3), .val (.long v4), .second, .val (.long v6), .second, .val (.long v8), .second, .val (.long v10), .second, .val (.long v12), .second, .val (.long v14), .second, .val (.long v16), .second, .val (.ref a2)] []))
  refine own_Goes.via (B := T192.setTop (mkF m 29 #[.val (.ref a1), .val (.long v1), .second, .val (.int v3), .val (.long v4), .second, .val (.long v6), .second, .val (.long v8), .second, .val (.long v10), .second, .val (.long v12), .second, .val (.long v14), .second, .val (.long v16), .second, .val (.ref a2)] [(.long v8), (.ref a1)])) (fun t k => ?_) ?_
  · show Steps p.tables e below (T192.setTop (mkF m 26 #[.val (.ref a1), .val (.long v1), .second, .val (.int v3), .val (.long v4), .second, .val (.long v6), .second, .val (.long v8), .second, .val (.long v10), .second, .val (.long v12), .second, .val (.long v14), .second, .val (.long v16), .second, .val (.ref a2)] [])) t
    refine XS.aloadN X192.here hx rfl (hb hby dSummary_mk_26) rfl rfl ?_
    show Steps p.tables e below (T192.setTop (mkF m 27 #[.val (.ref a1), .val (.long v1), .second, .val (.int v3), .val (.long v4), .second, .val (.long v6), .second, .val (.long v8), .second, .val (.long v10), .second, .val (.long v12), .second, .val (.long v14), .second, .val (.long v16), .second, .val (.ref a2)] [(.ref a1)])) t
    refine XS.lload X192.here hx rfl (hb hby dSummary_mk_27) rfl ?_
    exact k
  obtain ⟨T193, h193, X193, e193, W193, st193⟩ := putF X192 hx hZ hown (host := "") (Or.inl (w21 hw)) Via.refl e192 F192_a1_order E192_a1 (Or.inr ⟨(w22 hw), rfl, hnm⟩) (w5 hw) (ty := .long) (by decide) rfl rfl (g := (mkF m 29 #[.val (.ref a1), .val (.long v1), .second, .val (.int v3), .val (.long v4), .second, .val (.long v6), .second, .val (.long v8), .second, .val (.long v10), .second, .val (.long v12), .second, .val (.long v14), .second, .val (.long v16), .second, .val (.ref a2)] [(.long v8), (.ref a1)])) rfl rfl (hb hby dSummary_mk_29)
  refine own_Goes.via st193 ?_
  have E193_a1 := E192_a1.wr W193
  have F193_a1_conflicts := F192_a1_conflicts.other W193 (Or.inr (slot_ne (Or.inr (w18 hw)) (Or.inr (w22 hw)) (by decide) (t := .long) (t' := .long) (by decide) (by decide)))
  have F193_a1_early := F192_a1_early.other W193 (Or.inr (slot_ne (Or.inr (w20 hw)) (Or.inr (w22 hw)) (by decide) (t := .long) (t' := .long) (by decide) (by decide)))
  have F193_a1_firstFinding := F192_a1_firstFinding.other W193 (Or.inr (slot_ne (Or.inr (w32 hw)) (Or.inr (w22 hw)) (by decide) (t := (.object "java/lang/String")) (t' := .long) (by decide) (by decide)))
  have F193_a1_fixedPlacement := F192_a1_fixedPlacement.other W193 (Or.inr (slot_ne (Or.inr (w16 hw)) (Or.inr (w22 hw)) (by decide) (t := .boolean) (t' := .long) (by decide) (by decide)))
  have F193_a1_flowspanNs := F192_a1_flowspanNs.other W193 (Or.inr (slot_ne (Or.inr (w30 hw)) (Or.inr (w22 hw)) (by decide) (t := .long) (t' := .long) (by decide) (by decide)))
  have F193_a1_frames := F192_a1_frames.other W193 (Or.inr (slot_ne (Or.inr (w14 hw)) (Or.inr (w22 hw)) (by decide) (t := .long) (t' := .long) (by decide) (by decide)))
  have F193_a1_missing := F192_a1_missing.other W193 (Or.inr (slot_ne (Or.inr (w26 hw)) (Or.inr (w22 hw)) (by decide) (t := .long) (t' := .long) (by decide) (by decide)))
  have F193_a1_waitingNs := F192_a1_waitingNs.other W193 (Or.inr (slot_ne (Or.inr (w28 hw)) (Or.inr (w22 hw)) (by decide) (t := .long) (t' := .long) (by decide) (by decide)))
  have F193_a1_window := F192_a1_window.other W193 (Or.inr (slot_ne (Or.inr (w24 hw)) (Or.inr (w22 hw)) (by decide) (t := .long) (t' := .long) (by decide) (by decide)))
  have E193_a2 := E192_a2.wr W193
  have F193_a2_coder := F192_a2_coder.other W193 (Or.inl (Ne.symm ne_a1_a2))
  have F193_a2_value := F192_a2_value.other W193 (Or.inl (Ne.symm ne_a1_a2))
  have A193_a3 := A192_a3.other W193 (Ne.symm ne_a1_a3)
  have F193_a1_order := F192_a1_order.same W193
  have z193 := Nat.le_trans z192 (Keep.of_wr W193).1
  have K193_ := K192_.wr W193 (Or.inl (List.mem_of_getElem? (i := 0) rfl))
  have O193 := O192.wr W193 g_a1
  have N193 := Fr.snoc X193 N192 g_a1
  show own_Goes _ _ _ _ _ _ _ (T193.setTop (mkF m 32 #[.val (.ref a1), .val (.long v1), .second, .val (.int v3), .val (.long v4), .second, .val (.long v6), .second, .val (.long v8), .second, .val (.long v10), .second, .val (.long v12), .second, .val (.long v14), .second, .val (.long v16), .second, .val (.ref a2)] []))
  refine own_Goes.via (B := T193.setTop (mkF m 35 #[.val (.ref a1), .val (.long v1), .second, .val (.int v3), .val (.long v4), .second, .val (.long v6), .second, .val (.long v8), .second, .val (.long v10), .second, .val (.long v12), .second, .val (.long v14), .second, .val (.long v16), .second, .val (.ref a2)] [(.long v10), (.ref a1)])) (fun t k => ?_) ?_
  · show Steps p.tables e below (T193.setTop (mkF m 32 #[.val (.ref a1), .val (.long v1), .second, .val (.int v3), .val (.long v4), .second, .val (.long v6), .second, .val (.long v8), .second, .val (.long v10), .second, .val (.long v12), .second, .val (.long v14), .second, .val (.long v16), .second, .val (.ref a2)] [])) t
    refine XS.aloadN X193.here hx rfl (hb hby dSummary_mk_32) rfl rfl ?_
    show Steps p.tables e below (T193.setTop (mkF m 33 #[.val (.ref a1), .val (.long v1), .second, .val (.int v3), .val (.long v4), .second, .val (.long v6), .second, .val (.long v8), .second, .val (.long v10), .second, .val (.long v12), .second, .val (.long v14), .second, .val (.long v16), .second, .val (.ref a2)] [(.ref a1)])) t
    refine XS.lload X193.here hx rfl (hb hby dSummary_mk_33) rfl ?_
    exact k
  obtain ⟨T194, h194, X194, e194, W194, st194⟩ := putF X193 hx hZ hown (host := "") (Or.inl (w23 hw)) Via.refl e193 F193_a1_window E193_a1 (Or.inr ⟨(w24 hw), rfl, hnm⟩) (w5 hw) (ty := .long) (by decide) rfl rfl (g := (mkF m 35 #[.val (.ref a1), .val (.long v1), .second, .val (.int v3), .val (.long v4), .second, .val (.long v6), .second, .val (.long v8), .second, .val (.long v10), .second, .val (.long v12), .second, .val (.long v14), .second, .val (.long v16), .second, .val (.ref a2)] [(.long v10), (.ref a1)])) rfl rfl (hb hby dSummary_mk_35)
  refine own_Goes.via st194 ?_
  have E194_a1 := E193_a1.wr W194
  have F194_a1_conflicts := F193_a1_conflicts.other W194 (Or.inr (slot_ne (Or.inr (w18 hw)) (Or.inr (w24 hw)) (by decide) (t := .long) (t' := .long) (by decide) (by decide)))
  have F194_a1_early := F193_a1_early.other W194 (Or.inr (slot_ne (Or.inr (w20 hw)) (Or.inr (w24 hw)) (by decide) (t := .long) (t' := .long) (by decide) (by decide)))
  have F194_a1_firstFinding := F193_a1_firstFinding.other W194 (Or.inr (slot_ne (Or.inr (w32 hw)) (Or.inr (w24 hw)) (by decide) (t := (.object "java/lang/String")) (t' := .long) (by decide) (by decide)))
  have F194_a1_fixedPlacement := F193_a1_fixedPlacement.other W194 (Or.inr (slot_ne (Or.inr (w16 hw)) (Or.inr (w24 hw)) (by decide) (t := .boolean) (t' := .long) (by decide) (by decide)))
  have F194_a1_flowspanNs := F193_a1_flowspanNs.other W194 (Or.inr (slot_ne (Or.inr (w30 hw)) (Or.inr (w24 hw)) (by decide) (t := .long) (t' := .long) (by decide) (by decide)))
  have F194_a1_frames := F193_a1_frames.other W194 (Or.inr (slot_ne (Or.inr (w14 hw)) (Or.inr (w24 hw)) (by decide) (t := .long) (t' := .long) (by decide) (by decide)))
  have F194_a1_missing := F193_a1_missing.other W194 (Or.inr (slot_ne (Or.inr (w26 hw)) (Or.inr (w24 hw)) (by decide) (t := .long) (t' := .long) (by decide) (by decide)))
  have F194_a1_order := F193_a1_order.other W194 (Or.inr (slot_ne (Or.inr (w22 hw)) (Or.inr (w24 hw)) (by decide) (t := .long) (t' := .long) (by decide) (by decide)))
  have F194_a1_waitingNs := F193_a1_waitingNs.other W194 (Or.inr (slot_ne (Or.inr (w28 hw)) (Or.inr (w24 hw)) (by decide) (t := .long) (t' := .long) (by decide) (by decide)))
  have E194_a2 := E193_a2.wr W194
  have F194_a2_coder := F193_a2_coder.other W194 (Or.inl (Ne.symm ne_a1_a2))
  have F194_a2_value := F193_a2_value.other W194 (Or.inl (Ne.symm ne_a1_a2))
  have A194_a3 := A193_a3.other W194 (Ne.symm ne_a1_a3)
  have F194_a1_window := F193_a1_window.same W194
  have z194 := Nat.le_trans z193 (Keep.of_wr W194).1
  have K194_ := K193_.wr W194 (Or.inl (List.mem_of_getElem? (i := 0) rfl))
  have O194 := O193.wr W194 g_a1
  have N194 := Fr.snoc X194 N193 g_a1
  show own_Goes _ _ _ _ _ _ _ (T194.setTop (mkF m 38 #[.val (.ref a1), .val (.long v1), .second, .val (.int v3), .val (.long v4), .second, .val (.long v6), .second, .val (.long v8), .second, .val (.long v10), .second, .val (.long v12), .second, .val (.long v14), .second, .val (.long v16), .second, .val (.ref a2)] []))
  refine own_Goes.via (B := T194.setTop (mkF m 41 #[.val (.ref a1), .val (.long v1), .second, .val (.int v3), .val (.long v4), .second, .val (.long v6), .second, .val (.long v8), .second, .val (.long v10), .second, .val (.long v12), .second, .val (.long v14), .second, .val (.long v16), .second, .val (.ref a2)] [(.long v12), (.ref a1)])) (fun t k => ?_) ?_
  · show Steps p.tables e below (T194.setTop (mkF m 38 #[.val (.ref a1), .val (.long v1), .second, .val (.int v3), .val (.long v4), .second, .val (.long v6), .second, .val (.long v8), .second, .val (.long v10), .second, .val (.long v12), .second, .val (.long v14), .second, .val (.long v16), .second, .val (.ref a2)] [])) t
    refine XS.aloadN X194.here hx rfl (hb hby dSummary_mk_38) rfl rfl ?_
    show Steps p.tables e below (T194.setTop (mkF m 39 #[.val (.ref a1), .val (.long v1), .second, .val (.int v3), .val (.long v4), .second, .val (.long v6), .second, .val (.long v8), .second, .val (.long v10), .second, .val (.long v12), .second, .val (.long v14), .second, .val (.long v16), .second, .val (.ref a2)] [(.ref a1)])) t
    refine XS.lload X194.here hx rfl (hb hby dSummary_mk_39) rfl ?_
    exact k
  obtain ⟨T195, h195, X195, e195, W195, st195⟩ := putF X194 hx hZ hown (host := "") (Or.inl (w25 hw)) Via.refl e194 F194_a1_missing E194_a1 (Or.inr ⟨(w26 hw), rfl, hnm⟩) (w5 hw) (ty := .long) (by decide) rfl rfl (g := (mkF m 41 #[.val (.ref a1), .val (.long v1), .second, .val (.int v3), .val (.long v4), .second, .val (.long v6), .second, .val (.long v8), .second, .val (.long v10), .second, .val (.long v12), .second, .val (.long v14), .second, .val (.long v16), .second, .val (.ref a2)] [(.long v12), (.ref a1)])) rfl rfl (hb hby dSummary_mk_41)
  refine own_Goes.via st195 ?_
  have E195_a1 := E194_a1.wr W195
  have F195_a1_conflicts := F194_a1_conflicts.other W195 (Or.inr (slot_ne (Or.inr (w18 hw)) (Or.inr (w26 hw)) (by decide) (t := .long) (t' := .long) (by decide) (by decide)))
  have F195_a1_early := F194_a1_early.other W195 (Or.inr (slot_ne (Or.inr (w20 hw)) (Or.inr (w26 hw)) (by decide) (t := .long) (t' := .long) (by decide) (by decide)))
  have F195_a1_firstFinding := F194_a1_firstFinding.other W195 (Or.inr (slot_ne (Or.inr (w32 hw)) (Or.inr (w26 hw)) (by decide) (t := (.object "java/lang/String")) (t' := .long) (by decide) (by decide)))
  have F195_a1_fixedPlacement := F194_a1_fixedPlacement.other W195 (Or.inr (slot_ne (Or.inr (w16 hw)) (Or.inr (w26 hw)) (by decide) (t := .boolean) (t' := .long) (by decide) (by decide)))
  have F195_a1_flowspanNs := F194_a1_flowspanNs.other W195 (Or.inr (slot_ne (Or.inr (w30 hw)) (Or.inr (w26 hw)) (by decide) (t := .long) (t' := .long) (by decide) (by decide)))
  have F195_a1_frames := F194_a1_frames.other W195 (Or.inr (slot_ne (Or.inr (w14 hw)) (Or.inr (w26 hw)) (by decide) (t := .long) (t' := .long) (by decide) (by decide)))
  have F195_a1_order := F194_a1_order.other W195 (Or.inr (slot_ne (Or.inr (w22 hw)) (Or.inr (w26 hw)) (by decide) (t := .long) (t' := .long) (by decide) (by decide)))
  have F195_a1_waitingNs := F194_a1_waitingNs.other W195 (Or.inr (slot_ne (Or.inr (w28 hw)) (Or.inr (w26 hw)) (by decide) (t := .long) (t' := .long) (by decide) (by decide)))
  have F195_a1_window := F194_a1_window.other W195 (Or.inr (slot_ne (Or.inr (w24 hw)) (Or.inr (w26 hw)) (by decide) (t := .long) (t' := .long) (by decide) (by decide)))
  have E195_a2 := E194_a2.wr W195
  have F195_a2_coder := F194_a2_coder.other W195 (Or.inl (Ne.symm ne_a1_a2))
  have F195_a2_value := F194_a2_value.other W195 (Or.inl (Ne.symm ne_a1_a2))
  have A195_a3 := A194_a3.other W195 (Ne.symm ne_a1_a3)
  have F195_a1_missing := F194_a1_missing.same W195
  have z195 := Nat.le_trans z194 (Keep.of_wr W195).1
  have K195_ := K194_.wr W195 (Or.inl (List.mem_of_getElem? (i := 0) rfl))
  have O195 := O194.wr W195 g_a1
  have N195 := Fr.snoc X195 N194 g_a1
  show own_Goes _ _ _ _ _ _ _ (T195.setTop (mkF m 44 #[.val (.ref a1), .val (.long v1), .second, .val (.int v3), .val (.long v4), .second, .val (.long v6), .second, .val (.long v8), .second, .val (.long v10), .second, .val (.long v12), .second, .val (.long v14), .second, .val (.long v16), .second, .val (.ref a2)] []))
  refine own_Goes.via (B := T195.setTop (mkF m 47 #[.val (.ref a1), .val (.long v1), .second, .val (.int v3), .val (.long v4), .second, .val (.long v6), .second, .val (.long v8), .second, .val (.long v10), .second, .val (.long v12), .second, .val (.long v14), .second, .val (.long v16), .second, .val (.ref a2)] [(.long v14), (.ref a1)])) (fun t k => ?_) ?_
  · show Steps p.tables e below (T195.setTop (mkF m 44 #[.val (.ref a1), .val (.long v1), .second, .val (.int v3), .val (.long v4), .second, .val (.long v6), .second, .val (.long v8), .second, .val (.long v10), .second, .val (.long v12), .second, .val (.long v14), .second, .val (.long v16), .second, .val (.ref a2)] [])) t
    refine XS.aloadN X195.here hx rfl (hb hby dSummary_mk_44) rfl rfl ?_
    show Steps p.tables e below (T195.setTop (mkF m 45 #[.val (.ref a1), .val (.long v1), .second, .val (.int v3), .val (.long v4), .second, .val (.long v6), .second, .val (.long v8), .second, .val (.long v10), .second, .val (.long v12), .second, .val (.long v14), .second, .val (.long v16), .second, .val (.ref a2)] [(.ref a1)])) t
    refine XS.lload X195.here hx rfl (hb hby dSummary_mk_45) rfl ?_
    exact k
  obtain ⟨T196, h196, X196, e196, W196, st196⟩ := putF X195 hx hZ hown (host := "") (Or.inl (w27 hw)) Via.refl e195 F195_a1_waitingNs E195_a1 (Or.inr ⟨(w28 hw), rfl, hnm⟩) (w5 hw) (ty := .long) (by decide) rfl rfl (g := (mkF m 47 #[.val (.ref a1), .val (.long v1), .second, .val (.int v3), .val (.long v4), .second, .val (.long v6), .second, .val (.long v8), .second, .val (.long v10), .second, .val (.long v12), .second, .val (.long v14), .second, .val (.long v16), .second, .val (.ref a2)] [(.long v14), (.ref a1)])) rfl rfl (hb hby dSummary_mk_47)
  refine own_Goes.via st196 ?_
  have E196_a1 := E195_a1.wr W196
  have F196_a1_conflicts := F195_a1_conflicts.other W196 (Or.inr (slot_ne (Or.inr (w18 hw)) (Or.inr (w28 hw)) (by decide) (t := .long) (t' := .long) (by decide) (by decide)))
  have F196_a1_early := F195_a1_early.other W196 (Or.inr (slot_ne (Or.inr (w20 hw)) (Or.inr (w28 hw)) (by decide) (t := .long) (t' := .long) (by decide) (by decide)))
  have F196_a1_firstFinding := F195_a1_firstFinding.other W196 (Or.inr (slot_ne (Or.inr (w32 hw)) (Or.inr (w28 hw)) (by decide) (t := (.object "java/lang/String")) (t' := .long) (by decide) (by decide)))
  have F196_a1_fixedPlacement := F195_a1_fixedPlacement.other W196 (Or.inr (slot_ne (Or.inr (w16 hw)) (Or.inr (w28 hw)) (by decide) (t := .boolean) (t' := .long) (by decide) (by decide)))
  have F196_a1_flowspanNs := F195_a1_flowspanNs.other W196 (Or.inr (slot_ne (Or.inr (w30 hw)) (Or.inr (w28 hw)) (by decide) (t := .long) (t' := .long) (by decide) (by decide)))
  have F196_a1_frames := F195_a1_frames.other W196 (Or.inr (slot_ne (Or.inr (w14 hw)) (Or.inr (w28 hw)) (by decide) (t := .long) (t' := .long) (by decide) (by decide)))
  have F196_a1_missing := F195_a1_missing.other W196 (Or.inr (slot_ne (Or.inr (w26 hw)) (Or.inr (w28 hw)) (by decide) (t := .long) (t' := .long) (by decide) (by decide)))
  have F196_a1_order := F195_a1_order.other W196 (Or.inr (slot_ne (Or.inr (w22 hw)) (Or.inr (w28 hw)) (by decide) (t := .long) (t' := .long) (by decide) (by decide)))
  have F196_a1_window := F195_a1_window.other W196 (Or.inr (slot_ne (Or.inr (w24 hw)) (Or.inr (w28 hw)) (by decide) (t := .long) (t' := .long) (by decide) (by decide)))
  have E196_a2 := E195_a2.wr W196
  have F196_a2_coder := F195_a2_coder.other W196 (Or.inl (Ne.symm ne_a1_a2))
  have F196_a2_value := F195_a2_value.other W196 (Or.inl (Ne.symm ne_a1_a2))
  have A196_a3 := A195_a3.other W196 (Ne.symm ne_a1_a3)
  have F196_a1_waitingNs := F195_a1_waitingNs.same W196
  have z196 := Nat.le_trans z195 (Keep.of_wr W196).1
  have K196_ := K195_.wr W196 (Or.inl (List.mem_of_getElem? (i := 0) rfl))
  have O196 := O195.wr W196 g_a1
  have N196 := Fr.snoc X196 N195 g_a1
  show own_Goes _ _ _ _ _ _ _ (T196.setTop (mkF m 50 #[.val (.ref a1), .val (.long v1), .second, .val (.int v3), .val (.long v4), .second, .val (.long v6), .second, .val (.long v8), .second, .val (.long v10), .second, .val (.long v12), .second, .val (.long v14), .second, .val (.long v16), .second, .val (.ref a2)] []))
  refine own_Goes.via (B := T196.setTop (mkF m 53 #[.val (.ref a1), .val (.long v1), .second, .val (.int v3), .val (.long v4), .second, .val (.long v6), .second, .val (.long v8), .second, .val (.long v10), .second, .val (.long v12), .second, .val (.long v14), .second, .val (.long v16), .second, .val (.ref a2)] [(.long v16), (.ref a1)])) (fun t k => ?_) ?_
  · show Steps p.tables e below (T196.setTop (mkF m 50 #[.val (.ref a1), .val (.long v1), .second, .val (.int v3), .val (.long v4), .second, .val (.long v6), .second, .val (.long v8), .second, .val (.long v10), .second, .val (.long v12), .second, .val (.long v14), .second, .val (.long v16), .second, .val (.ref a2)] [])) t
    refine XS.aloadN X196.here hx rfl (hb hby dSummary_mk_50) rfl rfl ?_
    show Steps p.tables e below (T196.setTop (mkF m 51 #[.val (.ref a1), .val (.long v1), .second, .val (.int v3), .val (.long v4), .second, .val (.long v6), .second, .val (.long v8), .second, .val (.long v10), .second, .val (.long v12), .second, .val (.long v14), .second, .val (.long v16), .second, .val (.ref a2)] [(.ref a1)])) t
    refine XS.lload X196.here hx rfl (hb hby dSummary_mk_51) rfl ?_
    exact k
  obtain ⟨T197, h197, X197, e197, W197, st197⟩ := putF X196 hx hZ hown (host := "") (Or.inl (w29 hw)) Via.refl e196 F196_a1_flowspanNs E196_a1 (Or.inr ⟨(w30 hw), rfl, hnm⟩) (w5 hw) (ty := .long) (by decide) rfl rfl (g := (mkF m 53 #[.val (.ref a1), .val (.long v1), .second, .val (.int v3), .val (.long v4), .second, .val (.long v6), .second, .val (.long v8), .second, .val (.long v10), .second, .val (.long v12), .second, .val (.long v14), .second, .val (.long v16), .second, .val (.ref a2)] [(.long v16), (.ref a1)])) rfl rfl (hb hby dSummary_mk_53)
  refine own_Goes.via st197 ?_
  have E197_a1 := E196_a1.wr W197
  have F197_a1_conflicts := F196_a1_conflicts.other W197 (Or.inr (slot_ne (Or.inr (w18 hw)) (Or.inr (w30 hw)) (by decide) (t := .long) (t' := .long) (by decide) (by decide)))
  have F197_a1_early := F196_a1_early.other W197 (Or.inr (slot_ne (Or.inr (w20 hw)) (Or.inr (w30 hw)) (by decide) (t := .long) (t' := .long) (by decide) (by decide)))
  have F197_a1_firstFinding := F196_a1_firstFinding.other W197 (Or.inr (slot_ne (Or.inr (w32 hw)) (Or.inr (w30 hw)) (by decide) (t := (.object "java/lang/String")) (t' := .long) (by decide) (by decide)))
  have F197_a1_fixedPlacement := F196_a1_fixedPlacement.other W197 (Or.inr (slot_ne (Or.inr (w16 hw)) (Or.inr (w30 hw)) (by decide) (t := .boolean) (t' := .long) (by decide) (by decide)))
  have F197_a1_frames := F196_a1_frames.other W197 (Or.inr (slot_ne (Or.inr (w14 hw)) (Or.inr (w30 hw)) (by decide) (t := .long) (t' := .long) (by decide) (by decide)))
  have F197_a1_missing := F196_a1_missing.other W197 (Or.inr (slot_ne (Or.inr (w26 hw)) (Or.inr (w30 hw)) (by decide) (t := .long) (t' := .long) (by decide) (by decide)))
  have F197_a1_order := F196_a1_order.other W197 (Or.inr (slot_ne (Or.inr (w22 hw)) (Or.inr (w30 hw)) (by decide) (t := .long) (t' := .long) (by decide) (by decide)))
  have F197_a1_waitingNs := F196_a1_waitingNs.other W197 (Or.inr (slot_ne (Or.inr (w28 hw)) (Or.inr (w30 hw)) (by decide) (t := .long) (t' := .long) (by decide) (by decide)))
  have F197_a1_window := F196_a1_window.other W197 (Or.inr (slot_ne (Or.inr (w24 hw)) (Or.inr (w30 hw)) (by decide) (t := .long) (t' := .long) (by decide) (by decide)))
  have E197_a2 := E196_a2.wr W197
  have F197_a2_coder := F196_a2_coder.other W197 (Or.inl (Ne.symm ne_a1_a2))
  have F197_a2_value := F196_a2_value.other W197 (Or.inl (Ne.symm ne_a1_a2))
  have A197_a3 := A196_a3.other W197 (Ne.symm ne_a1_a3)
  have F197_a1_flowspanNs := F196_a1_flowspanNs.same W197
  have z197 := Nat.le_trans z196 (Keep.of_wr W197).1
  have K197_ := K196_.wr W197 (Or.inl (List.mem_of_getElem? (i := 0) rfl))
  have O197 := O196.wr W197 g_a1
  have N197 := Fr.snoc X197 N196 g_a1
  show own_Goes _ _ _ _ _ _ _ (T197.setTop (mkF m 56 #[.val (.ref a1), .val (.long v1), .second, .val (.int v3), .val (.long v4), .second, .val (.long v6), .second, .val (.long v8), .second, .val (.long v10), .second, .val (.long v12), .second, .val (.long v14), .second, .val (.long v16), .second, .val (.ref a2)] []))
  refine own_Goes.via (B := T197.setTop (mkF m 59 #[.val (.ref a1), .val (.long v1), .second, .val (.int v3), .val (.long v4), .second, .val (.long v6), .second, .val (.long v8), .second, .val (.long v10), .second, .val (.long v12), .second, .val (.long v14), .second, .val (.long v16), .second, .val (.ref a2)] [(.ref a2), (.ref a1)])) (fun t k => ?_) ?_
  · show Steps p.tables e below (T197.setTop (mkF m 56 #[.val (.ref a1), .val (.long v1), .second, .val (.int v3), .val (.long v4), .second, .val (.long v6), .second, .val (.long v8), .second, .val (.long v10), .second, .val (.long v12), .second, .val (.long v14), .second, .val (.long v16), .second, .val (.ref a2)] [])) t
    refine XS.aloadN X197.here hx rfl (hb hby dSummary_mk_56) rfl rfl ?_
    show Steps p.tables e below (T197.setTop (mkF m 57 #[.val (.ref a1), .val (.long v1), .second, .val (.int v3), .val (.long v4), .second, .val (.long v6), .second, .val (.long v8), .second, .val (.long v10), .second, .val (.long v12), .second, .val (.long v14), .second, .val (.long v16), .second, .val (.ref a2)] [(.ref a1)])) t
    refine XS.aload X197.here hx rfl (hb hby dSummary_mk_57) rfl rfl ?_
    exact k
  obtain ⟨T198, h198, X198, e198, W198, st198⟩ := putF X197 hx hZ hown (host := "") (Or.inl (w31 hw)) Via.refl e197 F197_a1_firstFinding E197_a1 (Or.inr ⟨(w32 hw), rfl, hnm⟩) (w5 hw) (ty := (.object "java/lang/String")) (by decide) rfl rfl (g := (mkF m 59 #[.val (.ref a1), .val (.long v1), .second, .val (.int v3), .val (.long v4), .second, .val (.long v6), .second, .val (.long v8), .second, .val (.long v10), .second, .val (.long v12), .second, .val (.long v14), .second, .val (.long v16), .second, .val (.ref a2)] [(.ref a2), (.ref a1)])) rfl rfl (hb hby dSummary_mk_59)
  refine own_Goes.via st198 ?_
  have E198_a1 := E197_a1.wr W198
  have F198_a1_conflicts := F197_a1_conflicts.other W198 (Or.inr (slot_ne (Or.inr (w18 hw)) (Or.inr (w32 hw)) (by decide) (t := .long) (t' := (.object "java/lang/String")) (by decide) (by decide)))
  have F198_a1_early := F197_a1_early.other W198 (Or.inr (slot_ne (Or.inr (w20 hw)) (Or.inr (w32 hw)) (by decide) (t := .long) (t' := (.object "java/lang/String")) (by decide) (by decide)))
  have F198_a1_fixedPlacement := F197_a1_fixedPlacement.other W198 (Or.inr (slot_ne (Or.inr (w16 hw)) (Or.inr (w32 hw)) (by decide) (t := .boolean) (t' := (.object "java/lang/String")) (by decide) (by decide)))
  have F198_a1_flowspanNs := F197_a1_flowspanNs.other W198 (Or.inr (slot_ne (Or.inr (w30 hw)) (Or.inr (w32 hw)) (by decide) (t := .long) (t' := (.object "java/lang/String")) (by decide) (by decide)))
  have F198_a1_frames := F197_a1_frames.other W198 (Or.inr (slot_ne (Or.inr (w14 hw)) (Or.inr (w32 hw)) (by decide) (t := .long) (t' := (.object "java/lang/String")) (by decide) (by decide)))
  have F198_a1_missing := F197_a1_missing.other W198 (Or.inr (slot_ne (Or.inr (w26 hw)) (Or.inr (w32 hw)) (by decide) (t := .long) (t' := (.object "java/lang/String")) (by decide) (by decide)))
  have F198_a1_order := F197_a1_order.other W198 (Or.inr (slot_ne (Or.inr (w22 hw)) (Or.inr (w32 hw)) (by decide) (t := .long) (t' := (.object "java/lang/String")) (by decide) (by decide)))
  have F198_a1_waitingNs := F197_a1_waitingNs.other W198 (Or.inr (slot_ne (Or.inr (w28 hw)) (Or.inr (w32 hw)) (by decide) (t := .long) (t' := (.object "java/lang/String")) (by decide) (by decide)))
  have F198_a1_window := F197_a1_window.other W198 (Or.inr (slot_ne (Or.inr (w24 hw)) (Or.inr (w32 hw)) (by decide) (t := .long) (t' := (.object "java/lang/String")) (by decide) (by decide)))
  have E198_a2 := E197_a2.wr W198
  have F198_a2_coder := F197_a2_coder.other W198 (Or.inl (Ne.symm ne_a1_a2))
  have F198_a2_value := F197_a2_value.other W198 (Or.inl (Ne.symm ne_a1_a2))
  have A198_a3 := A197_a3.other W198 (Ne.symm ne_a1_a3)
  have F198_a1_firstFinding := F197_a1_firstFinding.same W198
  have z198 := Nat.le_trans z197 (Keep.of_wr W198).1
  have K198_ := K197_.wr W198 (Or.inl (List.mem_of_getElem? (i := 0) rfl))
  have O198 := O197.wr W198 g_a1
  have N198 := Fr.snoc X198 N197 g_a1
  show own_Goes _ _ _ _ _ _ _ (T198.setTop (mkF m 62 #[.val (.ref a1), .val (.long v1), .second, .val (.int v3), .val (.long v4), .second, .val (.long v6), .second, .val (.long v8), .second, .val (.long v10), .second, .val (.long v12), .second, .val (.long v14), .second, .val (.long v16), .second, .val (.ref a2)] []))
  obtain rfl : (v4, v6, (v3 &&& 1), v16, v1, v12, v8, v14, v10) = r := Option.some.inj hF
  exact own_retV X198 hx hret hlk (hb hby dSummary_mk_62) e198 ⟨rfl, N198, K198_, E198_a1, F198_a1_conflicts, F198_a1_early, F198_a1_firstFinding, F198_a1_fixedPlacement, F198_a1_flowspanNs, F198_a1_frames, F198_a1_missing, F198_a1_order, F198_a1_waitingNs, F198_a1_window⟩ (by decide) (by decide)
theorem ef_Summary_mk_i2 (m : MethodId) (x0 : Addr) (x1 : Int64) (x2 : Int32) (x3 : Int64) (x4 : Int64) (x5 : Int64) (x6 : Int64) (x7 : Int64) (x8 : Int64) (x9 : Int64) (x10 : Addr) : entryFrame m #[(.ref x0), (.long x1), (.int x2), (.long x3), (.long x4), (.long x5), (.long x6), (.long x7), (.long x8), (.long x9), (.ref x10)] 19 = mkF m 0 #[.val (.ref x0), .val (.long x1), .second, .val (.int x2), .val (.long x3), .second, .val (.long x4), .second, .val (.long x5), .second, .val (.long x6), .second, .val (.long x7), .second, .val (.long x8), .second, .val (.long x9), .second, .val (.ref x10)] [] := by first | (simp [entryFrame, mkF, argsToLocals, Value.category]; done) | rfl
set_option maxRecDepth 65536 in
set_option maxHeartbeats 4000000 in
theorem rm_Summary_mk_i2 (l : Launch) (Z : State) (a0 : Array Value) (hw : ∀ d ∈ tables_1, d.before a0 Z = true) (ws : List Jvm.Cond) (hE : Heap) (n0 : Nat) (z : n0 ≤ hE.size) (cs : own_CS Z) (O : Old Z n0 hE) (a1 : Addr) (a2 : Addr) (a3 : Addr) (v1 : Int64) (v3 : Int32) (v4 : Int64) (v6 : Int64) (v8 : Int64) (v10 : Int64) (v12 : Int64) (v14 : Int64) (v16 : Int64) (f_a1_conflicts : Int64) (f_a1_early : Int64) (f_a1_fixedPlacement : Int32) (f_a1_flowspanNs : Int64) (f_a1_frames : Int64) (f_a1_missing : Int64) (f_a1_order : Int64) (f_a1_waitingNs : Int64) (f_a1_window : Int64) (f_a2_coder : Int32) (bs_a3 : List Int32) (E_a1 : Exa Z hE a1 "com/example/no_wait_scheduler/nowaitscheduler/verify/Summary") (F_a1_conflicts : Fld Z hE a1 "com/example/no_wait_scheduler/nowaitscheduler/verify/Summary" "conflicts" "J" (.long f_a1_conflicts)) (F_a1_early : Fld Z hE a1 "com/example/no_wait_scheduler/nowaitscheduler/verify/Summary" "early" "J" (.long f_a1_early)) (F_a1_firstFinding : Fld Z hE a1 "com/example/no_wait_scheduler/nowaitscheduler/verify/Summary" "firstFinding" "Ljava/lang/String;" .null) (F_a1_fixedPlacement : Fld Z hE a1 "com/example/no_wait_scheduler/nowaitscheduler/verify/Summary" "fixedPlacement" "Z" (.int f_a1_fixedPlacement)) (F_a1_flowspanNs : Fld Z hE a1 "com/example/no_wait_scheduler/nowaitscheduler/verify/Summary" "flowspanNs" "J" (.long f_a1_flowspanNs)) (F_a1_frames : Fld Z hE a1 "com/example/no_wait_scheduler/nowaitscheduler/verify/Summary" "frames" "J" (.long f_a1_frames)) (F_a1_missing : Fld Z hE a1 "com/example/no_wait_scheduler/nowaitscheduler/verify/Summary" "missing" "J" (.long f_a1_missing)) (F_a1_order : Fld Z hE a1 "com/example/no_wait_scheduler/nowaitscheduler/verify/Summary" "order" "J" (.long f_a1_order)) (F_a1_waitingNs : Fld Z hE a1 "com/example/no_wait_scheduler/nowaitscheduler/verify/Summary" "waitingNs" "J" (.long f_a1_waitingNs)) (F_a1_window : Fld Z hE a1 "com/example/no_wait_scheduler/nowaitscheduler/verify/Summary" "window" "J" (.long f_a1_window)) (g_a1 : n0 ≤ a1) (E_a2 : Exa Z hE a2 "java/lang/String") (F_a2_coder : Fld Z hE a2 "java/lang/String" "coder" "B" (.int f_a2_coder)) (F_a2_value : Fld Z hE a2 "java/lang/String" "value" "[B" (.ref a3)) (g_a2 : n0 ≤ a2) (A_a3 : own_Ar Z hE a3 .byte (bs_a3.map Value.int)) (g_a3 : n0 ≤ a3) (ne_a1_a2 : a1 ≠ a2) (ne_a1_a3 : a1 ≠ a3) (ne_a2_a3 : a2 ≠ a3) (r : Int64 × Int64 × Int32 × Int64 × Int64 × Int64 × Int64 × Int64 × Int64) (hF : (f_Summary_mk_i2 v1 v3 v4 v6 v8 v10 v12 v14 v16 f_a1_conflicts f_a1_early f_a1_fixedPlacement f_a1_flowspanNs f_a1_frames f_a1_missing f_a1_order f_a1_waitingNs f_a1_window f_a2_coder bs_a3) = some r) :
    MetFree l (⟨"com/example/no_wait_scheduler/nowaitscheduler/verify/Summary", "<init>", "(JZJJJJJJJLjava/lang/String;)V"⟩ : MethodName) (head1 (Jvm.Cond.code (⟨"com/example/no_wait_scheduler/nowaitscheduler/verify/Summary", "<init>", "(JZJJJJJJJLjava/lang/String;)V"⟩ : MethodName) prog_51_method_1_code 19 none :: ws) ({ frames := 1, cells := 0, slots := 0, locals := 12 } : Room)) (fun a U => a = #[(.ref a1), (.long v1), (.int v3), (.long v4), (.long v6), (.long v8), (.long v10), (.long v12), (.long v14), (.long v16), (.ref a2)] ∧ Z.Warmed39 U.vm ∧ U.heap = hE) (fun _ _ _ _ _ => True) (fun _ U o U' => ∃ v L, o = .returned v ∧ (Q_Summary_mk_i2 Z hE n0 a1 a2 a3 r) v U'.heap L ∧ FrameEnd U o U' L ({ frames := 1, cells := 0, slots := 0, locals := 12 } : Room).cells ({ frames := 1, cells := 0, slots := 0, locals := 12 } : Room).slots) := by
  refine MetFree.of_bodySF (plainFor_of_name pn_com_example_no_wait_scheduler_nowaitscheduler_verify_Summary) hisR ?_
  intro p e s m args below meth c s₁ Bd hml0 hP hK
  obtain ⟨rfl, hZ, hh⟩ := hP
  have X0 : Stand p l e ({ frames := 1, cells := 0, slots := 0, locals := 12 } : Room) s m #[(.ref a1), (.long v1), (.int v3), (.long v4), (.long v6), (.long v8), (.long v10), (.long v12), (.long v14), (.long v16), (.ref a2)] below meth c s₁ [] 0 0 := Stand.of_body Bd
  have e0 : s₁.heap = hE := by rw [← hh, Bd.state]; rfl
  have cx : Cx_Summary_mk_i2 p s m meth c Z a0 := ⟨Bd.exec, hZ, hw, Bd.bytes, hml0, findClass_of_methodNamed Bd.named, Bd.returns, Bd.notSynchronized, (name_of_methodNamed Bd.named Bd.method).1, cs⟩
  show own_Goes p e below s (Q_Summary_mk_i2 Z hE n0 a1 a2 a3 r) ({ frames := 1, cells := 0, slots := 0, locals := 12 } : Room).cells ({ frames := 1, cells := 0, slots := 0, locals := 12 } : Room).slots (s₁.setTop (entryFrame m #[(.ref a1), (.long v1), (.int v3), (.long v4), (.long v6), (.long v8), (.long v10), (.long v12), (.long v14), (.long v16), (.ref a2)] 19))
  rw [ef_Summary_mk_i2]
  exact b_Summary_mk_i2 cx a1 a2 a3 X0 e0 (Fr.nil n0) (Keep.refl _ _) z O v1 v3 v4 v6 v8 v10 v12 v14 v16 f_a1_conflicts f_a1_early f_a1_fixedPlacement f_a1_flowspanNs f_a1_frames f_a1_missing f_a1_order f_a1_waitingNs f_a1_window f_a2_coder bs_a3 E_a1 F_a1_conflicts F_a1_early F_a1_firstFinding F_a1_fixedPlacement F_a1_flowspanNs F_a1_frames F_a1_missing F_a1_order F_a1_waitingNs F_a1_window g_a1 E_a2 F_a2_coder F_a2_value g_a2 A_a3 g_a3 ne_a1_a2 ne_a1_a3 ne_a2_a3 _ hF
/-! com/example/no_wait_scheduler/nowaitscheduler/verify/Summary.passes:()Z -/
def f_Summary_passes_i2 (f_a1_conflicts : Int64) (f_a1_early : Int64) (f_a1_fixedPlacement : Int32) (f_a1_flowspanNs : Int64) (f_a1_frames : Int64) (f_a1_missing : Int64) (f_a1_order : Int64) (f_a1_waitingNs : Int64) (f_a1_window : Int64) (f_a2_coder : Int32) (bs_a3 : List Int32) : Option (Int32) :=
  if f_a1_conflicts = (0 : Int64) then
    if f_a1_early = (0 : Int64) then
      if f_a1_order = (0 : Int64) then
        if f_a1_window = (0 : Int64) then
          if f_a1_missing = (0 : Int64) then
            some (1 : Int32)
          else
            some (0 : Int32)
        else
          some (0 : Int32)
      else
        some (0 : Int32)
    else
      some (0 : Int32)
  else
    some (0 : Int32)
def Q_Summary_passes_i2 (Z : State) (hE : Heap) (n0 : Nat) (a1 : Addr) (a2 : Addr) (a3 : Addr) (r : Int32) (v : Option Value) (h : Heap) (L : List Loc) : Prop := v = some (.int r) ∧ Fr n0 L ∧ h = hE
def Cx_Summary_passes_i2 (p : Program) (s : State) (m : MethodId) (meth : Method) (c : Code) (Z : State) (a0 : Array Value) : Prop := p.tables.exec = Jvm.exec ∧ Z.Warmed39 s.vm ∧ (∀ d ∈ tables_1, d.before a0 Z = true) ∧ c.code = prog_51_method_2_code ∧ c.maxLocals = 1 ∧ s.vm.findClass "com/example/no_wait_scheduler/nowaitscheduler/verify/Summary" = some m.cls ∧ meth.sig.returnType = some .boolean ∧ meth.locks = false ∧ meth.name = "passes" ∧ own_CS Z
set_option maxRecDepth 65536 in
set_option maxHeartbeats 4000000 in
theorem b_Summary_passes_i2 {p : Program} {l : Launch} {e : Env} {s : State} {m : MethodId} {args : Array Value} {below : List Frame} {meth : Method} {c : Code} {Z : State} {a0 : Array Value} {n0 : Nat} {hE : Heap} (cx : Cx_Summary_passes_i2 p s m meth c Z a0) (a1 : Addr) (a2 : Addr) (a3 : Addr) :
    ∀ {T : State} {locs : List Loc} (X : Stand p l e ({ frames := 0, cells := 0, slots := 0, locals := 0 } : Room) s m args below meth c T locs 0 0) (eT : T.heap = hE) (N : Fr n0 locs) (z : n0 ≤ hE.size) (O : Old Z n0 hE) (f_a1_conflicts : Int64) (f_a1_early : Int64) (f_a1_fixedPlacement : Int32) (f_a1_flowspanNs : Int64) (f_a1_frames : Int64) (f_a1_missing : Int64) (f_a1_order : Int64) (f_a1_waitingNs : Int64) (f_a1_window : Int64) (f_a2_coder : Int32) (bs_a3 : List Int32) (E_a1 : Exa Z hE a1 "com/example/no_wait_scheduler/nowaitscheduler/verify/Summary") (F_a1_conflicts : Fld Z hE a1 "com/example/no_wait_scheduler/nowaitscheduler/verify/Summary" "conflicts" "J" (.long f_a1_conflicts)) (F_a1_early : Fld Z hE a1 "com/example/no_wait_scheduler/nowaitscheduler/verify/Summary" "early" "J" (.long f_a1_early)) (F_a1_firstFinding : Fld Z hE a1 "com/example/no_wait_scheduler/nowaitscheduler/verify/Summary" "firstFinding" "Ljava/lang/String;" (.ref a2)) (F_a1_fixedPlacement : Fld Z hE a1 "com/example/no_wait_scheduler/nowaitscheduler/verify/Summary" "fixedPlacement" "Z" (.int f_a1_fixedPlacement)) (F_a1_flowspanNs : Fld Z hE a1 "com/example/no_wait_scheduler/nowaitscheduler/verify/Summary" "flowspanNs" "J" (.long f_a1_flowspanNs)) (F_a1_frames : Fld Z hE a1 "com/example/no_wait_scheduler/nowaitscheduler/verify/Summary" "frames" "J" (.long f_a1_frames)) (F_a1_missing : Fld Z hE a1 "com/example/no_wait_scheduler/nowaitscheduler/verify/Summary" "missing" "J" (.long f_a1_missing)) (F_a1_order : Fld Z hE a1 "com/example/no_wait_scheduler/nowaitscheduler/verify/Summary" "order" "J" (.long f_a1_order)) (F_a1_waitingNs : Fld Z hE a1 "com/example/no_wait_scheduler/nowaitscheduler/verify/Summary" "waitingNs" "J" (.long f_a1_waitingNs)) (F_a1_window : Fld Z hE a1 "com/example/no_wait_scheduler/nowaitscheduler/verify/Summary" "window" "J" (.long f_a1_window)) (g_a1 : n0 ≤ a1) (E_a2 : Exa Z hE a2 "java/lang/String") (F_a2_coder : Fld Z hE a2 "java/lang/String" "coder" "B" (.int f_a2_coder)) (F_a2_value : Fld Z hE a2 "java/lang/String" "value" "[B" (.ref a3)) (g_a2 : n0 ≤ a2) (A_a3 : own_Ar Z hE a3 .byte (bs_a3.map Value.int)) (g_a3 : n0 ≤ a3) (ne_a1_a2 : a1 ≠ a2) (ne_a1_a3 : a1 ≠ a3) (ne_a2_a3 : a2 ≠ a3) (r : Int32), f_Summary_passes_i2 f_a1_conflicts f_a1_early f_a1_fixedPlacement f_a1_flowspanNs f_a1_frames f_a1_missing f_a1_order f_a1_waitingNs f_a1_window f_a2_coder bs_a3 = some r → own_Goes p e below s (Q_Summary_passes_i2 Z hE n0 a1 a2 a3 r) 0 0 (T.setTop (mkF m 0 #[.val (.ref a1)] [])) := by
  have cx' := cx
  obtain ⟨hx, hZ, hw, hby, hml, hown, hret, hlk, hnm, hcs⟩ := cx'
  intro T locs X eT N z O f_a1_conflicts f_a1_early f_a1_fixedPlacement f_a1_flowspanNs f_a1_frames f_a1_missing f_a1_order f_a1_waitingNs f_a1_window f_a2_coder bs_a3 E_a1 F_a1_conflicts F_a1_early F_a1_firstFinding F_a1_fixedPlacement F_a1_flowspanNs F_a1_frames F_a1_missing F_a1_order F_a1_waitingNs F_a1_window g_a1 E_a2 F_a2_coder F_a2_value g_a2 A_a3 g_a3 ne_a1_a2 ne_a1_a3 ne_a2_a3 r hF
  unfold f_Summary_passes_i2 at hF
  refine own_Goes.via (B := T.setTop (mkF m 1 #[.val (.ref a1)] [(.ref a1)])) (fun t k => ?_) ?_
  · show Steps p.tables e below (T.setTop (mkF m 0 #[.val (.ref a1)] [])) t
    refine XS.aloadN X.here hx rfl (hb hby dSummary_passes_0) rfl rfl ?_
    exact k
  obtain ⟨T215, X215, e215, st215⟩ := getF X hx hZ hown (host := "") (Or.inl (w17 hw)) Via.refl eT F_a1_conflicts (g := (mkF m 1 #[.val (.ref a1)] [(.ref a1)])) rfl rfl (hb hby dSummary_passes_1)
  refine own_Goes.via st215 ?_
  show own_Goes _ _ _ _ _ _ _ (T215.setTop (mkF m 4 #[.val (.ref a1)] [(.long f_a1_conflicts)]))
  refine own_Goes.via (B := T215.setTop (mkF m 6 #[.val (.ref a1)] [(.int (lcmpW f_a1_conflicts (0 : Int64)))])) (fun t k => ?_) ?_
  · show Steps p.tables e below (T215.setTop (mkF m 4 #[.val (.ref a1)] [(.long f_a1_conflicts)])) t
    refine XS.lconst X215.here hx rfl (hb hby dSummary_passes_4) ?_
    show Steps p.tables e below (T215.setTop (mkF m 5 #[.val (.ref a1)] [(.long (0 : Int64)), (.long f_a1_conflicts)])) t
    refine XS.lcmp X215.here hx rfl (hb hby dSummary_passes_5) rfl ?_
    exact k
  by_cases hc6 : f_a1_conflicts = (0 : Int64)
  · rw [if_pos hc6] at hF
    refine own_Goes.via (B := T215.setTop (mkF m 10 #[.val (.ref a1)] [(.ref a1)])) (fun t k => ?_) ?_
    · show Steps p.tables e below (T215.setTop (mkF m 6 #[.val (.ref a1)] [(.int (lcmpW f_a1_conflicts (0 : Int64)))])) t
      refine XS.ifNo X215.here hx rfl (hb hby dSummary_passes_6) rfl (own_teqL hc6).2 ?_
      show Steps p.tables e below (T215.setTop (mkF m 9 #[.val (.ref a1)] [])) t
      refine XS.aloadN X215.here hx rfl (hb hby dSummary_passes_9) rfl rfl ?_
      exact k
    obtain ⟨T216, X216, e216, st216⟩ := getF X215 hx hZ hown (host := "") (Or.inl (w19 hw)) Via.refl e215 F_a1_early (g := (mkF m 10 #[.val (.ref a1)] [(.ref a1)])) rfl rfl (hb hby dSummary_passes_10)
    refine own_Goes.via st216 ?_
    show own_Goes _ _ _ _ _ _ _ (T216.setTop (mkF m 13 #[.val (.ref a1)] [(.long f_a1_early)]))
    refine own_Goes.via (B := T216.setTop (mkF m 15 #[.val (.ref a1)] [(.int (lcmpW f_a1_early (0 : Int64)))])) (fun t k => ?_) ?_
    · show Steps p.tables e below (T216.setTop (mkF m 13 #[.val (.ref a1)] [(.long f_a1_early)])) t
      refine XS.lconst X216.here hx rfl (hb hby dSummary_passes_13) ?_
      show Steps p.tables e below (T216.setTop (mkF m 14 #[.val (.ref a1)] [(.long (0 : Int64)), (.long f_a1_early)])) t
      refine XS.lcmp X216.here hx rfl (hb hby dSummary_passes_14) rfl ?_
      exact k
    by_cases hc15 : f_a1_early = (0 : Int64)
    · rw [if_pos hc15] at hF
      refine own_Goes.via (B := T216.setTop (mkF m 19 #[.val (.ref a1)] [(.ref a1)])) (fun t k => ?_) ?_
      · show Steps p.tables e below (T216.setTop (mkF m 15 #[.val (.ref a1)] [(.int (lcmpW f_a1_early (0 : Int64)))])) t
        refine XS.ifNo X216.here hx rfl (hb hby dSummary_passes_15) rfl (own_teqL hc15).2 ?_
        show Steps p.tables e below (T216.setTop (mkF m 18 #[.val (.ref a1)] [])) t
        refine XS.aloadN X216.here hx rfl (hb hby dSummary_passes_18) rfl rfl ?_
        exact k
      obtain ⟨T217, X217, e217, st217⟩ := getF X216 hx hZ hown (host := "") (Or.inl (w21 hw)) Via.refl e216 F_a1_order (g := (mkF m 19 #[.val (.ref a1)] [(.ref a1)])) rfl rfl (hb hby dSummary_passes_19)
      refine own_Goes.via st217 ?_
      show own_Goes _ _ _ _ _ _ _ (T217.setTop (mkF m 22 #[.val (.ref a1)] [(.long f_a1_order)]))
      refine own_Goes.via (B := T217.setTop (mkF m 24 #[.val (.ref a1)] [(.int (lcmpW f_a1_order (0 : Int64)))])) (fun t k => ?_) ?_
      · show Steps p.tables e below (T217.setTop (mkF m 22 #[.val (.ref a1)] [(.long f_a1_order)])) t
        refine XS.lconst X217.here hx rfl (hb hby dSummary_passes_22) ?_
        show Steps p.tables e below (T217.setTop (mkF m 23 #[.val (.ref a1)] [(.long (0 : Int64)), (.long f_a1_order)])) t
        refine XS.lcmp X217.here hx rfl (hb hby dSummary_passes_23) rfl ?_
        exact k
      by_cases hc24 : f_a1_order = (0 : Int64)
      · rw [if_pos hc24] at hF
        refine own_Goes.via (B := T217.setTop (mkF m 28 #[.val (.ref a1)] [(.ref a1)])) (fun t k => ?_) ?_
        · show Steps p.tables e below (T217.setTop (mkF m 24 #[.val (.ref a1)] [(.int (lcmpW f_a1_order (0 : Int64)))])) t
          refine XS.ifNo X217.here hx rfl (hb hby dSummary_passes_24) rfl (own_teqL hc24).2 ?_
          show Steps p.tables e below (T217.setTop (mkF m 27 #[.val (.ref a1)] [])) t
          refine XS.aloadN X217.here hx rfl (hb hby dSummary_passes_27) rfl rfl ?_
          exact k
        obtain ⟨T218, X218, e218, st218⟩ := getF X217 hx hZ hown (host := "") (Or.inl (w23 hw)) Via.refl e217 F_a1_window (g := (mkF m 28 #[.val (.ref a1)] [(.ref a1)])) rfl rfl (hb hby dSummary_passes_28)
        refine own_Goes.via st218 ?_
        show own_Goes _ _ _ _ _ _ _ (T218.setTop (mkF m 31 #[.val (.ref a1)] [(.long f_a1_window)]))
        refine own_Goes.via (B := T218.setTop (mkF m 33 #[.val (.ref a1)] [(.int (lcmpW f_a1_window (0 : Int64)))])) (fun t k => ?_) ?_
        · show Steps p.tables e below (T218.setTop (mkF m 31 #[.val (.ref a1)] [(.long f_a1_window)])) t
          refine XS.lconst X218.here hx rfl (hb hby dSummary_passes_31) ?_
          show Steps p.tables e below (T218.setTop (mkF m 32 #[.val (.ref a1)] [(.long (0 : Int64)), (.long f_a1_window)])) t
          refine XS.lcmp X218.here hx rfl (hb hby dSummary_passes_32) rfl ?_
          exact k
        by_cases hc33 : f_a1_window = (0 : Int64)
        · rw [if_pos hc33] at hF
          refine own_Goes.via (B := T218.setTop (mkF m 37 #[.val (.ref a1)] [(.ref a1)])) (fun t k => ?_) ?_
          · show Steps p.tables e below (T218.setTop (mkF m 33 #[.val (.ref a1)] [(.int (lcmpW f_a1_window (0 : Int64)))])) t
            refine XS.ifNo X218.here hx rfl (hb hby dSummary_passes_33) rfl (own_teqL hc33).2 ?_
            show Steps p.tables e below (T218.setTop (mkF m 36 #[.val (.ref a1)] [])) t
            refine XS.aloadN X218.here hx rfl (hb hby dSummary_passes_36) rfl rfl ?_
            exact k
          obtain ⟨T219, X219, e219, st219⟩ := getF X218 hx hZ hown (host := "") (Or.inl (w25 hw)) Via.refl e218 F_a1_missing (g := (mkF m 37 #[.val (.ref a1)] [(.ref a1)])) rfl rfl (hb hby dSummary_passes_37)
          refine own_Goes.via st219 ?_
          show own_Goes _ _ _ _ _ _ _ (T219.setTop (mkF m 40 #[.val (.ref a1)] [(.long f_a1_missing)]))
          refine own_Goes.via (B := T219.setTop (mkF m 42 #[.val (.ref a1)] [(.int (lcmpW f_a1_missing (0 : Int64)))])) (fun t k => ?_) ?_
          · show Steps p.tables e below (T219.setTop (mkF m 40 #[.val (.ref a1)] [(.long f_a1_missing)])) t
            refine XS.lconst X219.here hx rfl (hb hby dSummary_passes_40) ?_
            show Steps p.tables e below (T219.setTop (mkF m 41 #[.val (.ref a1)] [(.long (0 : Int64)), (.long f_a1_missing)])) t
            refine XS.lcmp X219.here hx rfl (hb hby dSummary_passes_41) rfl ?_
            exact k
          by_cases hc42 : f_a1_missing = (0 : Int64)
          · rw [if_pos hc42] at hF
            refine own_Goes.via (B := T219.setTop (mkF m 50 #[.val (.ref a1)] [(.int (1 : Int32))])) (fun t k => ?_) ?_
            · show Steps p.tables e below (T219.setTop (mkF m 42 #[.val (.ref a1)] [(.int (lcmpW f_a1_missing (0 : Int64)))])) t
              refine XS.ifNo X219.here hx rfl (hb hby dSummary_passes_42) rfl (own_teqL hc42).2 ?_
              show Steps p.tables e below (T219.setTop (mkF m 45 #[.val (.ref a1)] [])) t
              refine XS.iconst X219.here hx rfl (hb hby dSummary_passes_45) ?_
              show Steps p.tables e below (T219.setTop (mkF m 46 #[.val (.ref a1)] [(.int (1 : Int32))])) t
              refine XS.goto X219.here hx rfl (pc0 := 46) (pc' := 50) rfl (hb hby dSummary_passes_46) (by decide) (by decide) ?_
              exact k
            obtain rfl : (1 : Int32) = r := Option.some.inj hF
            exact own_retN X219 hx (t := .boolean) hret hlk (by simp) (hb hby dSummary_passes_50) e219 (v := (1 : Int32)) (by decide) ⟨rfl, N, rfl⟩ (by decide) (by decide)
          · rw [if_neg hc42] at hF
            refine own_Goes.via (B := T219.setTop (mkF m 50 #[.val (.ref a1)] [(.int (0 : Int32))])) (fun t k => ?_) ?_
            · show Steps p.tables e below (T219.setTop (mkF m 42 #[.val (.ref a1)] [(.int (lcmpW f_a1_missing (0 : Int64)))])) t
              refine XS.ifYes X219.here hx rfl (pc0 := 42) (pc' := 49) rfl (hb hby dSummary_passes_42) rfl (own_feqL hc42).2 (by decide) (by decide) ?_
              show Steps p.tables e below (T219.setTop (mkF m 49 #[.val (.ref a1)] [])) t
              refine XS.iconst X219.here hx rfl (hb hby dSummary_passes_49) ?_
              exact k
            obtain rfl : (0 : Int32) = r := Option.some.inj hF
            exact own_retN X219 hx (t := .boolean) hret hlk (by simp) (hb hby dSummary_passes_50) e219 (v := (0 : Int32)) (by decide) ⟨rfl, N, rfl⟩ (by decide) (by decide)
        · rw [if_neg hc33] at hF
          refine own_Goes.via (B := T218.setTop (mkF m 50 #[.val (.ref a1)] [(.int (0 : Int32))])) (fun t k => ?_) ?_
          · show Steps p.tables e below (T218.setTop (mkF m 33 #[.val (.ref a1)] [(.int (lcmpW f_a1_window (0 : Int64)))])) t
            refine XS.ifYes X218.here hx rfl (pc0 := 33) (pc' := 49) rfl (hb hby dSummary_passes_33) rfl (own_feqL hc33).2 (by decide) (by decide) ?_
            show Steps p.tables e below (T218.setTop (mkF m 49 #[.val (.ref a1)] [])) t
            refine XS.iconst X218.here hx rfl (hb hby dSummary_passes_49) ?_
            exact k
          obtain rfl : (0 : Int32) = r := Option.some.inj hF
          exact own_retN X218 hx (t := .boolean) hret hlk (by simp) (hb hby dSummary_passes_50) e218 (v := (0 : Int32)) (by decide) ⟨rfl, N, rfl⟩ (by decide) (by decide)
      · rw [if_neg hc24] at hF
        refine own_Goes.via (B := T217.setTop (mkF m 50 #[.val (.ref a1)] [(.int (0 : Int32))])) (fun t k => ?_) ?_
        · show Steps p.tables e below (T217.setTop (mkF m 24 #[.val (.ref a1)] [(.int (lcmpW f_a1_order (0 : Int64)))])) t
          refine XS.ifYes X217.here hx rfl (pc0 := 24) (pc' := 49) rfl (hb hby dSummary_passes_24) rfl (own_feqL hc24).2 (by decide) (by decide) ?_
          show Steps p.tables e below (T217.setTop (mkF m 49 #[.val (.ref a1)] [])) t
          refine XS.iconst X217.here hx rfl (hb hby dSummary_passes_49) ?_
          exact k
        obtain rfl : (0 : Int32) = r := Option.some.inj hF
        exact own_retN X217 hx (t := .boolean) hret hlk (by simp) (hb hby dSummary_passes_50) e217 (v := (0 : Int32)) (by decide) ⟨rfl, N, rfl⟩ (by decide) (by decide)
    · rw [if_neg hc15] at hF
      refine own_Goes.via (B := T216.setTop (mkF m 50 #[.val (.ref a1)] [(.int (0 : Int32))])) (fun t k => ?_) ?_
      · show Steps p.tables e below (T216.setTop (mkF m 15 #[.val (.ref a1)] [(.int (lcmpW f_a1_early (0 : Int64)))])) t
        refine XS.ifYes X216.here hx rfl (pc0 := 15) (pc' := 49) rfl (hb hby dSummary_passes_15) rfl (own_feqL hc15).2 (by decide) (by decide) ?_
        show Steps p.tables e below (T216.setTop (mkF m 49 #[.val (.ref a1)] [])) t
        refine XS.iconst X216.here hx rfl (hb hby dSummary_passes_49) ?_
        exact k
      obtain rfl : (0 : Int32) = r := Option.some.inj hF
      exact own_retN X216 hx (t := .boolean) hret hlk (by simp) (hb hby dSummary_passes_50) e216 (v := (0 : Int32)) (by decide) ⟨rfl, N, rfl⟩ (by decide) (by decide)
  · rw [if_neg hc6] at hF
    refine own_Goes.via (B := T215.setTop (mkF m 50 #[.val (.ref a1)] [(.int (0 : Int32))])) (fun t k => ?_) ?_
    · show Steps p.tables e below (T215.setTop (mkF m 6 #[.val (.ref a1)] [(.int (lcmpW f_a1_conflicts (0 : Int64)))])) t
      refine XS.ifYes X215.here hx rfl (pc0 := 6) (pc' := 49) rfl (hb hby dSummary_passes_6) rfl (own_feqL hc6).2 (by decide) (by decide) ?_
      show Steps p.tables e below (T215.setTop (mkF m 49 #[.val (.ref a1)] [])) t
      refine XS.iconst X215.here hx rfl (hb hby dSummary_passes_49) ?_
      exact k
    obtain rfl : (0 : Int32) = r := Option.some.inj hF
    exact own_retN X215 hx (t := .boolean) hret hlk (by simp) (hb hby dSummary_passes_50) e215 (v := (0 : Int32)) (by decide) ⟨rfl, N, rfl⟩ (by decide) (by decide)
theorem ef_Summary_passes_i2 (m : MethodId) (x0 : Addr) : entryFrame m #[(.ref x0)] 1 = mkF m 0 #[.val (.ref x0)] [] := by first | (simp [entryFrame, mkF, argsToLocals, Value.category]; done) | rfl
set_option maxRecDepth 65536 in
set_option maxHeartbeats 4000000 in
theorem rm_Summary_passes_i2 (l : Launch) (Z : State) (a0 : Array Value) (hw : ∀ d ∈ tables_1, d.before a0 Z = true) (ws : List Jvm.Cond) (hE : Heap) (n0 : Nat) (z : n0 ≤ hE.size) (cs : own_CS Z) (O : Old Z n0 hE) (a1 : Addr) (a2 : Addr) (a3 : Addr) (f_a1_conflicts : Int64) (f_a1_early : Int64) (f_a1_fixedPlacement : Int32) (f_a1_flowspanNs : Int64) (f_a1_frames : Int64) (f_a1_missing : Int64) (f_a1_order : Int64) (f_a1_waitingNs : Int64) (f_a1_window : Int64) (f_a2_coder : Int32) (bs_a3 : List Int32) (E_a1 : Exa Z hE a1 "com/example/no_wait_scheduler/nowaitscheduler/verify/Summary") (F_a1_conflicts : Fld Z hE a1 "com/example/no_wait_scheduler/nowaitscheduler/verify/Summary" "conflicts" "J" (.long f_a1_conflicts)) (F_a1_early : Fld Z hE a1 "com/example/no_wait_scheduler/nowaitscheduler/verify/Summary" "early" "J" (.long f_a1_early)) (F_a1_firstFinding : Fld Z hE a1 "com/example/no_wait_scheduler/nowaitscheduler/verify/Summary" "firstFinding" "Ljava/lang/String;" (.ref a2)) (F_a1_fixedPlacement : Fld Z hE a1 "com/example/no_wait_scheduler/nowaitscheduler/verify/Summary" "fixedPlacement" "Z" (.int f_a1_fixedPlacement)) (F_a1_flowspanNs : Fld Z hE a1 "com/example/no_wait_scheduler/nowaitscheduler/verify/Summary" "flowspanNs" "J" (.long f_a1_flowspanNs)) (F_a1_frames : Fld Z hE a1 "com/example/no_wait_scheduler/nowaitscheduler/verify/Summary" "frames" "J" (.long f_a1_frames)) (F_a1_missing : Fld Z hE a1 "com/example/no_wait_scheduler/nowaitscheduler/verify/Summary" "missing" "J" (.long f_a1_missing)) (F_a1_order : Fld Z hE a1 "com/example/no_wait_scheduler/nowaitscheduler/verify/Summary" "order" "J" (.long f_a1_order)) (F_a1_waitingNs : Fld Z hE a1 "com/example/no_wait_scheduler/nowaitscheduler/verify/Summary" "waitingNs" "J" (.long f_a1_waitingNs)) (F_a1_window : Fld Z hE a1 "com/example/no_wait_scheduler/nowaitscheduler/verify/Summary" "window" "J" (.long f_a1_window)) (g_a1 : n0 ≤ a1) (E_a2 : Exa Z hE a2 "java/lang/String") (F_a2_coder : Fld Z hE a2 "java/lang/String" "coder" "B" (.int f_a2_coder)) (F_a2_value : Fld Z hE a2 "java/lang/String" "value" "[B" (.ref a3)) (g_a2 : n0 ≤ a2) (A_a3 : own_Ar Z hE a3 .byte (bs_a3.map Value.int)) (g_a3 : n0 ≤ a3) (ne_a1_a2 : a1 ≠ a2) (ne_a1_a3 : a1 ≠ a3) (ne_a2_a3 : a2 ≠ a3) (r : Int32) (hF : (f_Summary_passes_i2 f_a1_conflicts f_a1_early f_a1_fixedPlacement f_a1_flowspanNs f_a1_frames f_a1_missing f_a1_order f_a1_waitingNs f_a1_window f_a2_coder bs_a3) = some r) :
    MetFree l (⟨"com/example/no_wait_scheduler/nowaitscheduler/verify/Summary", "passes", "()Z"⟩ : MethodName) (head1 (Jvm.Cond.code (⟨"com/example/no_wait_scheduler/nowaitscheduler/verify/Summary", "passes", "()Z"⟩ : MethodName) prog_51_method_2_code 1 (some .boolean) :: ws) ({ frames := 0, cells := 0, slots := 0, locals := 0 } : Room)) (fun a U => a = #[(.ref a1)] ∧ Z.Warmed39 U.vm ∧ U.heap = hE) (fun _ _ _ _ _ => True) (fun _ U o U' => ∃ v L, o = .returned v ∧ (Q_Summary_passes_i2 Z hE n0 a1 a2 a3 r) v U'.heap L ∧ FrameEnd U o U' L ({ frames := 0, cells := 0, slots := 0, locals := 0 } : Room).cells ({ frames := 0, cells := 0, slots := 0, locals := 0 } : Room).slots) := by
  refine MetFree.of_bodySF (plainFor_of_name pn_com_example_no_wait_scheduler_nowaitscheduler_verify_Summary) hisR ?_
  intro p e s m args below meth c s₁ Bd hml0 hP hK
  obtain ⟨rfl, hZ, hh⟩ := hP
  have X0 : Stand p l e ({ frames := 0, cells := 0, slots := 0, locals := 0 } : Room) s m #[(.ref a1)] below meth c s₁ [] 0 0 := Stand.of_body Bd
  have e0 : s₁.heap = hE := by rw [← hh, Bd.state]; rfl
  have cx : Cx_Summary_passes_i2 p s m meth c Z a0 := ⟨Bd.exec, hZ, hw, Bd.bytes, hml0, findClass_of_methodNamed Bd.named, Bd.returns, Bd.notSynchronized, (name_of_methodNamed Bd.named Bd.method).1, cs⟩
  show own_Goes p e below s (Q_Summary_passes_i2 Z hE n0 a1 a2 a3 r) ({ frames := 0, cells := 0, slots := 0, locals := 0 } : Room).cells ({ frames := 0, cells := 0, slots := 0, locals := 0 } : Room).slots (s₁.setTop (entryFrame m #[(.ref a1)] 1))
  rw [ef_Summary_passes_i2]
  exact b_Summary_passes_i2 cx a1 a2 a3 X0 e0 (Fr.nil n0) z O f_a1_conflicts f_a1_early f_a1_fixedPlacement f_a1_flowspanNs f_a1_frames f_a1_missing f_a1_order f_a1_waitingNs f_a1_window f_a2_coder bs_a3 E_a1 F_a1_conflicts F_a1_early F_a1_firstFinding F_a1_fixedPlacement F_a1_flowspanNs F_a1_frames F_a1_missing F_a1_order F_a1_waitingNs F_a1_window g_a1 E_a2 F_a2_coder F_a2_value g_a2 A_a3 g_a3 ne_a1_a2 ne_a1_a3 ne_a2_a3 _ hF
/-! com/example/no_wait_scheduler/nowaitscheduler/verify/Summary.findings:()J -/
def f_Summary_findings_i2 (f_a1_conflicts : Int64) (f_a1_early : Int64) (f_a1_fixedPlacement : Int32) (f_a1_flowspanNs : Int64) (f_a1_frames : Int64) (f_a1_missing : Int64) (f_a1_order : Int64) (f_a1_waitingNs : Int64) (f_a1_window : Int64) (f_a2_coder : Int32) (bs_a3 : List Int32) : Option (Int64) :=
  some ((((f_a1_conflicts + f_a1_early) + f_a1_order) + f_a1_window) + f_a1_missing)
def Q_Summary_findings_i2 (Z : State) (hE : Heap) (n0 : Nat) (a1 : Addr) (a2 : Addr) (a3 : Addr) (r : Int64) (v : Option Value) (h : Heap) (L : List Loc) : Prop := v = some (.long r) ∧ Fr n0 L ∧ h = hE
def Cx_Summary_findings_i2 (p : Program) (s : State) (m : MethodId) (meth : Method) (c : Code) (Z : State) (a0 : Array Value) : Prop := p.tables.exec = Jvm.exec ∧ Z.Warmed39 s.vm ∧ (∀ d ∈ tables_1, d.before a0 Z = true) ∧ c.code = prog_51_method_3_code ∧ c.maxLocals = 1 ∧ s.vm.findClass "com/example/no_wait_scheduler/nowaitscheduler/verify/Summary" = some m.cls ∧ meth.sig.returnType = some .long ∧ meth.locks = false ∧ meth.name = "findings" ∧ own_CS Z
set_option maxRecDepth 65536 in
set_option maxHeartbeats 4000000 in
theorem b_Summary_findings_i2 {p : Program} {l : Launch} {e : Env} {s : State} {m : MethodId} {args : Array Value} {below : List Frame} {meth : Method} {c : Code} {Z : State} {a0 : Array Value} {n0 : Nat} {hE : Heap} (cx : Cx_Summary_findings_i2 p s m meth c Z a0) (a1 : Addr) (a2 : Addr) (a3 : Addr) :
    ∀ {T : State} {locs : List Loc} (X : Stand p l e ({ frames := 0, cells := 0, slots := 0, locals := 0 } : Room) s m args below meth c T locs 0 0) (eT : T.heap = hE) (N : Fr n0 locs) (z : n0 ≤ hE.size) (O : Old Z n0 hE) (f_a1_conflicts : Int64) (f_a1_early : Int64) (f_a1_fixedPlacement : Int32) (f_a1_flowspanNs : Int64) (f_a1_frames : Int64) (f_a1_missing : Int64) (f_a1_order : Int64) (f_a1_waitingNs : Int64) (f_a1_window : Int64) (f_a2_coder : Int32) (bs_a3 : List Int32) (E_a1 : Exa Z hE a1 "com/example/no_wait_scheduler/nowaitscheduler/verify/Summary") (F_a1_conflicts : Fld Z hE a1 "com/example/no_wait_scheduler/nowaitscheduler/verify/Summary" "conflicts" "J" (.long f_a1_conflicts)) (F_a1_early : Fld Z hE a1 "com/example/no_wait_scheduler/nowaitscheduler/verify/Summary" "early" "J" (.long f_a1_early)) (F_a1_firstFinding : Fld Z hE a1 "com/example/no_wait_scheduler/nowaitscheduler/verify/Summary" "firstFinding" "Ljava/lang/String;" (.ref a2)) (F_a1_fixedPlacement : Fld Z hE a1 "com/example/no_wait_scheduler/nowaitscheduler/verify/Summary" "fixedPlacement" "Z" (.int f_a1_fixedPlacement)) (F_a1_flowspanNs : Fld Z hE a1 "com/example/no_wait_scheduler/nowaitscheduler/verify/Summary" "flowspanNs" "J" (.long f_a1_flowspanNs)) (F_a1_frames : Fld Z hE a1 "com/example/no_wait_scheduler/nowaitscheduler/verify/Summary" "frames" "J" (.long f_a1_frames)) (F_a1_missing : Fld Z hE a1 "com/example/no_wait_scheduler/nowaitscheduler/verify/Summary" "missing" "J" (.long f_a1_missing)) (F_a1_order : Fld Z hE a1 "com/example/no_wait_scheduler/nowaitscheduler/verify/Summary" "order" "J" (.long f_a1_order)) (F_a1_waitingNs : Fld Z hE a1 "com/example/no_wait_scheduler/nowaitscheduler/verify/Summary" "waitingNs" "J" (.long f_a1_waitingNs)) (F_a1_window : Fld Z hE a1 "com/example/no_wait_scheduler/nowaitscheduler/verify/Summary" "window" "J" (.long f_a1_window)) (g_a1 : n0 ≤ a1) (E_a2 : Exa Z hE a2 "java/lang/String") (F_a2_coder : Fld Z hE a2 "java/lang/String" "coder" "B" (.int f_a2_coder)) (F_a2_value : Fld Z hE a2 "java/lang/String" "value" "[B" (.ref a3)) (g_a2 : n0 ≤ a2) (A_a3 : own_Ar Z hE a3 .byte (bs_a3.map Value.int)) (g_a3 : n0 ≤ a3) (ne_a1_a2 : a1 ≠ a2) (ne_a1_a3 : a1 ≠ a3) (ne_a2_a3 : a2 ≠ a3) (r : Int64), f_Summary_findings_i2 f_a1_conflicts f_a1_early f_a1_fixedPlacement f_a1_flowspanNs f_a1_frames f_a1_missing f_a1_order f_a1_waitingNs f_a1_window f_a2_coder bs_a3 = some r → own_Goes p e below s (Q_Summary_findings_i2 Z hE n0 a1 a2 a3 r) 0 0 (T.setTop (mkF m 0 #[.val (.ref a1)] [])) := by
  have cx' := cx
  obtain ⟨hx, hZ, hw, hby, hml, hown, hret, hlk, hnm, hcs⟩ := cx'
  intro T locs X eT N z O f_a1_conflicts f_a1_early f_a1_fixedPlacement f_a1_flowspanNs f_a1_frames f_a1_missing f_a1_order f_a1_waitingNs f_a1_window f_a2_coder bs_a3 E_a1 F_a1_conflicts F_a1_early F_a1_firstFinding F_a1_fixedPlacement F_a1_flowspanNs F_a1_frames F_a1_missing F_a1_order F_a1_waitingNs F_a1_window g_a1 E_a2 F_a2_coder F_a2_value g_a2 A_a3 g_a3 ne_a1_a2 ne_a1_a3 ne_a2_a3 r hF
  unfold f_Summary_findings_i2 at hF
  refine own_Goes.via (B := T.setTop (mkF m 1 #[.val (.ref a1)] [(.ref a1)])) (fun t k => ?_) ?_
  · show Steps p.tables e below (T.setTop (mkF m 0 #[.val (.ref a1)] [])) t
    refine XS.aloadN X.here hx rfl (hb hby dSummary_findings_0) rfl rfl ?_
    exact k
  obtain ⟨T236, X236, e236, st236⟩ := getF X hx hZ hown (host := "") (Or.inl (w17 hw)) Via.refl eT F_a1_conflicts (g := (mkF m 1 #[.val (.ref a1)] [(.ref a1)])) rfl rfl (hb hby dSummary_findings_1)
  refine own_Goes.via st236 ?_
  show own_Goes _ _ _ _ _ _ _ (T236.setTop (mkF m 4 #[.val (.ref a1)] [(.long f_a1_conflicts)]))
  refine own_Goes.via (B := T236.setTop (mkF m 5 #[.val (.ref a1)] [(.ref a1), (.long f_a1_conflicts)])) (fun t k => ?_) ?_
  · show Steps p.tables e below (T236.setTop (mkF m 4 #[.val (.ref a1)] [(.long f_a1_conflicts)])) t
    refine XS.aloadN X236.here hx rfl (hb hby dSummary_findings_4) rfl rfl ?_
    exact k
  obtain ⟨T237, X237, e237, st237⟩ := getF X236 hx hZ hown (host := "") (Or.inl (w19 hw)) Via.refl e236 F_a1_early (g := (mkF m 5 #[.val (.ref a1)] [(.ref a1), (.long f_a1_conflicts)])) rfl rfl (hb hby dSummary_findings_5)
  refine own_Goes.via st237 ?_
  show own_Goes _ _ _ _ _ _ _ (T237.setTop (mkF m 8 #[.val (.ref a1)] [(.long f_a1_early), (.long f_a1_conflicts)]))
  refine own_Goes.via (B := T237.setTop (mkF m 10 #[.val (.ref a1)] [(.ref a1), (.long (f_a1_conflicts + f_a1_early))])) (fun t k => ?_) ?_
  · show Steps p.tables e below (T237.setTop (mkF m 8 #[.val (.ref a1)] [(.long f_a1_early), (.long f_a1_conflicts)])) t
    refine XS.ladd X237.here hx rfl (hb hby dSummary_findings_8) rfl ?_
    show Steps p.tables e below (T237.setTop (mkF m 9 #[.val (.ref a1)] [(.long (f_a1_conflicts + f_a1_early))])) t
    refine XS.aloadN X237.here hx rfl (hb hby dSummary_findings_9) rfl rfl ?_
    exact k
  obtain ⟨T238, X238, e238, st238⟩ := getF X237 hx hZ hown (host := "") (Or.inl (w21 hw)) Via.refl e237 F_a1_order (g := (mkF m 10 #[.val (.ref a1)] [(.ref a1), (.long (f_a1_conflicts + f_a1_early))])) rfl rfl (hb hby dSummary_findings_10)
  refine own_Goes.via st238 ?_
  show own_Goes _ _ _ _ _ _ _ (T238.setTop (mkF m 13 #[.val (.ref a1)] [(.long f_a1_order), (.long (f_a1_conflicts + f_a1_early))]))
  refine own_Goes.via (B := T238.setTop (mkF m 15 #[.val (.ref a1)] [(.ref a1), (.long ((f_a1_conflicts + f_a1_early) + f_a1_order))])) (fun t k => ?_) ?_
  · show Steps p.tables e below (T238.setTop (mkF m 13 #[.val (.ref a1)] [(.long f_a1_order), (.long (f_a1_conflicts + f_a1_early))])) t
    refine XS.ladd X238.here hx rfl (hb hby dSummary_findings_13) rfl ?_
    show Steps p.tables e below (T238.setTop (mkF m 14 #[.val (.ref a1)] [(.long ((f_a1_conflicts + f_a1_early) + f_a1_order))])) t
    refine XS.aloadN X238.here hx rfl (hb hby dSummary_findings_14) rfl rfl ?_
    exact k
  obtain ⟨T239, X239, e239, st239⟩ := getF X238 hx hZ hown (host := "") (Or.inl (w23 hw)) Via.refl e238 F_a1_window (g := (mkF m 15 #[.val (.ref a1)] [(.ref a1), (.long ((f_a1_conflicts + f_a1_early) + f_a1_order))])) rfl rfl (hb hby dSummary_findings_15)
  refine own_Goes.via st239 ?_
  show own_Goes _ _ _ _ _ _ _ (T239.setTop (mkF m 18 #[.val (.ref a1)] [(.long f_a1_window), (.long ((f_a1_conflicts + f_a1_early) + f_a1_order))]))
  refine own_Goes.via (B := T239.setTop (mkF m 20 #[.val (.ref a1)] [(.ref a1), (.long (((f_a1_conflicts + f_a1_early) + f_a1_order) + f_a1_window))])) (fun t k => ?_) ?_
  · show Steps p.tables e below (T239.setTop (mkF m 18 #[.val (.ref a1)] [(.long f_a1_window), (.long ((f_a1_conflicts + f_a1_early) + f_a1_order))])) t
    refine XS.ladd X239.here hx rfl (hb hby dSummary_findings_18) rfl ?_
    show Steps p.tables e below (T239.setTop (mkF m 19 #[.val (.ref a1)] [(.long (((f_a1_conflicts + f_a1_early) + f_a1_order) + f_a1_window))])) t
    refine XS.aloadN X239.here hx rfl (hb hby dSummary_findings_19) rfl rfl ?_
    exact k
  obtain ⟨T240, X240, e240, st240⟩ := getF X239 hx hZ hown (host := "") (Or.inl (w25 hw)) Via.refl e239 F_a1_missing (g := (mkF m 20 #[.val (.ref a1)] [(.ref a1), (.long (((f_a1_conflicts + f_a1_early) + f_a1_order) + f_a1_window))])) rfl rfl (hb hby dSummary_findings_20)
  refine own_Goes.via st240 ?_
  show own_Goes _ _ _ _ _ _ _ (T240.setTop (mkF m 23 #[.val (.ref a1)] [(.long f_a1_missing), (.long (((f_a1_conflicts + f_a1_early) + f_a1_order) + f_a1_window))]))
  refine own_Goes.via (B := T240.setTop (mkF m 24 #[.val (.ref a1)] [(.long ((((f_a1_conflicts + f_a1_early) + f_a1_order) + f_a1_window) + f_a1_missing))])) (fun t k => ?_) ?_
  · show Steps p.tables e below (T240.setTop (mkF m 23 #[.val (.ref a1)] [(.long f_a1_missing), (.long (((f_a1_conflicts + f_a1_early) + f_a1_order) + f_a1_window))])) t
    refine XS.ladd X240.here hx rfl (hb hby dSummary_findings_23) rfl ?_
    exact k
  obtain rfl : ((((f_a1_conflicts + f_a1_early) + f_a1_order) + f_a1_window) + f_a1_missing) = r := Option.some.inj hF
  exact own_retJ X240 hx hret hlk (hb hby dSummary_findings_24) e240 ⟨rfl, N, rfl⟩ (by decide) (by decide)
theorem ef_Summary_findings_i2 (m : MethodId) (x0 : Addr) : entryFrame m #[(.ref x0)] 1 = mkF m 0 #[.val (.ref x0)] [] := by first | (simp [entryFrame, mkF, argsToLocals, Value.category]; done) | rfl
set_option maxRecDepth 65536 in
set_option maxHeartbeats 4000000 in
theorem rm_Summary_findings_i2 (l : Launch) (Z : State) (a0 : Array Value) (hw : ∀ d ∈ tables_1, d.before a0 Z = true) (ws : List Jvm.Cond) (hE : Heap) (n0 : Nat) (z : n0 ≤ hE.size) (cs : own_CS Z) (O : Old Z n0 hE) (a1 : Addr) (a2 : Addr) (a3 : Addr) (f_a1_conflicts : Int64) (f_a1_early : Int64) (f_a1_fixedPlacement : Int32) (f_a1_flowspanNs : Int64) (f_a1_frames : Int64) (f_a1_missing : Int64) (f_a1_order : Int64) (f_a1_waitingNs : Int64) (f_a1_window : Int64) (f_a2_coder : Int32) (bs_a3 : List Int32) (E_a1 : Exa Z hE a1 "com/example/no_wait_scheduler/nowaitscheduler/verify/Summary") (F_a1_conflicts : Fld Z hE a1 "com/example/no_wait_scheduler/nowaitscheduler/verify/Summary" "conflicts" "J" (.long f_a1_conflicts)) (F_a1_early : Fld Z hE a1 "com/example/no_wait_scheduler/nowaitscheduler/verify/Summary" "early" "J" (.long f_a1_early)) (F_a1_firstFinding : Fld Z hE a1 "com/example/no_wait_scheduler/nowaitscheduler/verify/Summary" "firstFinding" "Ljava/lang/String;" (.ref a2)) (F_a1_fixedPlacement : Fld Z hE a1 "com/example/no_wait_scheduler/nowaitscheduler/verify/Summary" "fixedPlacement" "Z" (.int f_a1_fixedPlacement)) (F_a1_flowspanNs : Fld Z hE a1 "com/example/no_wait_scheduler/nowaitscheduler/verify/Summary" "flowspanNs" "J" (.long f_a1_flowspanNs)) (F_a1_frames : Fld Z hE a1 "com/example/no_wait_scheduler/nowaitscheduler/verify/Summary" "frames" "J" (.long f_a1_frames)) (F_a1_missing : Fld Z hE a1 "com/example/no_wait_scheduler/nowaitscheduler/verify/Summary" "missing" "J" (.long f_a1_missing)) (F_a1_order : Fld Z hE a1 "com/example/no_wait_scheduler/nowaitscheduler/verify/Summary" "order" "J" (.long f_a1_order)) (F_a1_waitingNs : Fld Z hE a1 "com/example/no_wait_scheduler/nowaitscheduler/verify/Summary" "waitingNs" "J" (.long f_a1_waitingNs)) (F_a1_window : Fld Z hE a1 "com/example/no_wait_scheduler/nowaitscheduler/verify/Summary" "window" "J" (.long f_a1_window)) (g_a1 : n0 ≤ a1) (E_a2 : Exa Z hE a2 "java/lang/String") (F_a2_coder : Fld Z hE a2 "java/lang/String" "coder" "B" (.int f_a2_coder)) (F_a2_value : Fld Z hE a2 "java/lang/String" "value" "[B" (.ref a3)) (g_a2 : n0 ≤ a2) (A_a3 : own_Ar Z hE a3 .byte (bs_a3.map Value.int)) (g_a3 : n0 ≤ a3) (ne_a1_a2 : a1 ≠ a2) (ne_a1_a3 : a1 ≠ a3) (ne_a2_a3 : a2 ≠ a3) (r : Int64) (hF : (f_Summary_findings_i2 f_a1_conflicts f_a1_early f_a1_fixedPlacement f_a1_flowspanNs f_a1_frames f_a1_missing f_a1_order f_a1_waitingNs f_a1_window f_a2_coder bs_a3) = some r) :
    MetFree l (⟨"com/example/no_wait_scheduler/nowaitscheduler/verify/Summary", "findings", "()J"⟩ : MethodName) (head1 (Jvm.Cond.code (⟨"com/example/no_wait_scheduler/nowaitscheduler/verify/Summary", "findings", "()J"⟩ : MethodName) prog_51_method_3_code 1 (some .long) :: ws) ({ frames := 0, cells := 0, slots := 0, locals := 0 } : Room)) (fun a U => a = #[(.ref a1)] ∧ Z.Warmed39 U.vm ∧ U.heap = hE) (fun _ _ _ _ _ => True) (fun _ U o U' => ∃ v L, o = .returned v ∧ (Q_Summary_findings_i2 Z hE n0 a1 a2 a3 r) v U'.heap L ∧ FrameEnd U o U' L ({ frames := 0, cells := 0, slots := 0, locals := 0 } : Room).cells ({ frames := 0, cells := 0, slots := 0, locals := 0 } : Room).slots) := by
  refine MetFree.of_bodySF (plainFor_of_name pn_com_example_no_wait_scheduler_nowaitscheduler_verify_Summary) hisR ?_
  intro p e s m args below meth c s₁ Bd hml0 hP hK
  obtain ⟨rfl, hZ, hh⟩ := hP
  have X0 : Stand p l e ({ frames := 0, cells := 0, slots := 0, locals := 0 } : Room) s m #[(.ref a1)] below meth c s₁ [] 0 0 := Stand.of_body Bd
  have e0 : s₁.heap = hE := by rw [← hh, Bd.state]; rfl
  have cx : Cx_Summary_findings_i2 p s m meth c Z a0 := ⟨Bd.exec, hZ, hw, Bd.bytes, hml0, findClass_of_methodNamed Bd.named, Bd.returns, Bd.notSynchronized, (name_of_methodNamed Bd.named Bd.method).1, cs⟩
  show own_Goes p e below s (Q_Summary_findings_i2 Z hE n0 a1 a2 a3 r) ({ frames := 0, cells := 0, slots := 0, locals := 0 } : Room).cells ({ frames := 0, cells := 0, slots := 0, locals := 0 } : Room).slots (s₁.setTop (entryFrame m #[(.ref a1)] 1))
  rw [ef_Summary_findings_i2]
  exact b_Summary_findings_i2 cx a1 a2 a3 X0 e0 (Fr.nil n0) z O f_a1_conflicts f_a1_early f_a1_fixedPlacement f_a1_flowspanNs f_a1_frames f_a1_missing f_a1_order f_a1_waitingNs f_a1_window f_a2_coder bs_a3 E_a1 F_a1_conflicts F_a1_early F_a1_firstFinding F_a1_fixedPlacement F_a1_flowspanNs F_a1_frames F_a1_missing F_a1_order F_a1_waitingNs F_a1_window g_a1 E_a2 F_a2_coder F_a2_value g_a2 A_a3 g_a3 ne_a1_a2 ne_a1_a3 ne_a2_a3 _ hF
/-! com/example/no_wait_scheduler/nowaitscheduler/verify/SummaryPassesPinLaw.law:(IJJJJJ)Z -/
def f_law_99 (v1 : Int64) (v3 : Int64) (v5 : Int64) (v7 : Int64) (v11 : Int64) (v13 : Int64) (v15 : Int64) (v17 : Int64) (v19 : Int64) (v21 : Int32) (t0 : Int32) (t1 : Int64) (f_b1_conflicts : Int64) (f_b1_early : Int64) (f_b1_fixedPlacement : Int32) (f_b1_flowspanNs : Int64) (f_b1_frames : Int64) (f_b1_missing : Int64) (f_b1_order : Int64) (f_b1_waitingNs : Int64) (f_b1_window : Int64) : Option (Int32) :=
  own_lt (v5 - v7) fun x266 =>
  own_lt (v1 ^^^ v3) fun x267 =>
  own_bd (f_Summary_mk t1 t0 v11 v13 v15 v17 v19 x267 x266 f_b1_conflicts f_b1_early f_b1_fixedPlacement f_b1_flowspanNs f_b1_frames f_b1_missing f_b1_order f_b1_waitingNs f_b1_window) fun r268 =>
  own_bd (f_Summary_passes r268.1 r268.2.1 r268.2.2.1 r268.2.2.2.1 r268.2.2.2.2.1 r268.2.2.2.2.2.1 r268.2.2.2.2.2.2.1 r268.2.2.2.2.2.2.2.1 r268.2.2.2.2.2.2.2.2) fun r269 =>
  if r269 = v21 then
    own_bd (f_Summary_findings r268.1 r268.2.1 r268.2.2.1 r268.2.2.2.1 r268.2.2.2.2.1 r268.2.2.2.2.2.1 r268.2.2.2.2.2.2.1 r268.2.2.2.2.2.2.2.1 r268.2.2.2.2.2.2.2.2) fun r270 =>
    if r270 = (0 : Int64) then
      if r269 = (1 : Int32) then
        some (1 : Int32)
      else
        some (0 : Int32)
    else
      if r269 = (0 : Int32) then
        some (1 : Int32)
      else
        some (0 : Int32)
  else
    some (0 : Int32)
def f_law_78 (v0 : Int32) (v1 : Int64) (v3 : Int64) (v5 : Int64) (v7 : Int64) (v11 : Int64) (v13 : Int64) (v15 : Int64) (v17 : Int64) (v19 : Int64) (v21 : Int32) : Option (Int32) :=
  if (((v0.toUInt32 >>> ((5 : Int32) &&& 31).toUInt32).toInt32) &&& (1 : Int32)) = (0 : Int32) then
    (f_law_99 v1 v3 v5 v7 v11 v13 v15 v17 v19 v21 (0 : Int32) (v0.toInt64) (0 : Int64) (0 : Int64) (0 : Int32) (0 : Int64) (0 : Int64) (0 : Int64) (0 : Int64) (0 : Int64) (0 : Int64))
  else
    (f_law_99 v1 v3 v5 v7 v11 v13 v15 v17 v19 v21 (1 : Int32) (v0.toInt64) (0 : Int64) (0 : Int64) (0 : Int32) (0 : Int64) (0 : Int64) (0 : Int64) (0 : Int64) (0 : Int64) (0 : Int64))
def f_law_99v2 (v1 : Int64) (v3 : Int64) (v5 : Int64) (v7 : Int64) (v11 : Int64) (v13 : Int64) (v15 : Int64) (v17 : Int64) (v19 : Int64) (v21 : Int32) (t0 : Int32) (t1 : Int64) (f_b1_coder : Int32) (bs_b2 : List Int32) (f_b3_conflicts : Int64) (f_b3_early : Int64) (f_b3_fixedPlacement : Int32) (f_b3_flowspanNs : Int64) (f_b3_frames : Int64) (f_b3_missing : Int64) (f_b3_order : Int64) (f_b3_waitingNs : Int64) (f_b3_window : Int64) : Option (Int32) :=
  own_lt (v5 - v7) fun x280 =>
  own_lt (v1 ^^^ v3) fun x281 =>
  own_bd (f_Summary_mk_i2 t1 t0 v11 v13 v15 v17 v19 x281 x280 f_b3_conflicts f_b3_early f_b3_fixedPlacement f_b3_flowspanNs f_b3_frames f_b3_missing f_b3_order f_b3_waitingNs f_b3_window f_b1_coder bs_b2) fun r282 =>
  own_bd (f_Summary_passes_i2 r282.1 r282.2.1 r282.2.2.1 r282.2.2.2.1 r282.2.2.2.2.1 r282.2.2.2.2.2.1 r282.2.2.2.2.2.2.1 r282.2.2.2.2.2.2.2.1 r282.2.2.2.2.2.2.2.2 f_b1_coder bs_b2) fun r283 =>
  if r283 = v21 then
    own_bd (f_Summary_findings_i2 r282.1 r282.2.1 r282.2.2.1 r282.2.2.2.1 r282.2.2.2.2.1 r282.2.2.2.2.2.1 r282.2.2.2.2.2.2.1 r282.2.2.2.2.2.2.2.1 r282.2.2.2.2.2.2.2.2 f_b1_coder bs_b2) fun r284 =>
    if r284 = (0 : Int64) then
      if r283 = (1 : Int32) then
        some (1 : Int32)
      else
        some (0 : Int32)
    else
      if r283 = (0 : Int32) then
        some (1 : Int32)
      else
        some (0 : Int32)
  else
    some (0 : Int32)
def f_law_78v2 (v0 : Int32) (v1 : Int64) (v3 : Int64) (v5 : Int64) (v7 : Int64) (v11 : Int64) (v13 : Int64) (v15 : Int64) (v17 : Int64) (v19 : Int64) (v21 : Int32) (f_b1_coder : Int32) (bs_b2 : List Int32) : Option (Int32) :=
  if (((v0.toUInt32 >>> ((5 : Int32) &&& 31).toUInt32).toInt32) &&& (1 : Int32)) = (0 : Int32) then
    (f_law_99v2 v1 v3 v5 v7 v11 v13 v15 v17 v19 v21 (0 : Int32) (v0.toInt64) f_b1_coder bs_b2 (0 : Int64) (0 : Int64) (0 : Int32) (0 : Int64) (0 : Int64) (0 : Int64) (0 : Int64) (0 : Int64) (0 : Int64))
  else
    (f_law_99v2 v1 v3 v5 v7 v11 v13 v15 v17 v19 v21 (1 : Int32) (v0.toInt64) f_b1_coder bs_b2 (0 : Int64) (0 : Int64) (0 : Int32) (0 : Int64) (0 : Int64) (0 : Int64) (0 : Int64) (0 : Int64) (0 : Int64))
def f_law (v0 : Int32) (v1 : Int64) (v3 : Int64) (v5 : Int64) (v7 : Int64) (v9 : Int64) : Option (Int32) :=
  own_bd (f_SummaryPassesPinLaw_count v0 (0 : Int32) v1) fun r286 =>
  own_bd (f_SummaryPassesPinLaw_count v0 (1 : Int32) v3) fun r287 =>
  own_bd (f_SummaryPassesPinLaw_count v0 (2 : Int32) v5) fun r288 =>
  own_bd (f_SummaryPassesPinLaw_count v0 (3 : Int32) v7) fun r289 =>
  own_bd (f_SummaryPassesPinLaw_count v0 (4 : Int32) v9) fun r290 =>
  if (v0 &&& (31 : Int32)) = (0 : Int32) then
    (f_law_78 v0 v1 v3 v5 v7 r286 r287 r288 r289 r290 (1 : Int32))
  else
    own_lt ((((v0.toUInt32 >>> ((8 : Int32) &&& 31).toUInt32).toInt32) &&& (255 : Int32)).toUInt32.toUInt16.toUInt32.toInt32) fun x291 =>
    own_bd (f_String_valueOf x291) fun r292 =>
    (f_law_78v2 v0 v1 v3 v5 v7 r286 r287 r288 r289 r290 (0 : Int32) r292.1 r292.2)
def Q_law (Z : State) (hE : Heap) (n0 : Nat)  (r : Int32) (v : Option Value) (h : Heap) (L : List Loc) : Prop := v = some (.int r) ∧ Fr n0 L ∧ Keep hE h []
def Cx_law (p : Program) (s : State) (m : MethodId) (meth : Method) (c : Code) (Z : State) (a0 : Array Value) : Prop := p.tables.exec = Jvm.exec ∧ Z.Warmed39 s.vm ∧ (∀ d ∈ tables_1, d.before a0 Z = true) ∧ c.code = code ∧ c.maxLocals = 25 ∧ s.vm.findClass "com/example/no_wait_scheduler/nowaitscheduler/verify/SummaryPassesPinLaw" = some m.cls ∧ meth.sig.returnType = some .boolean ∧ meth.locks = false ∧ meth.name = "law" ∧ own_CS Z
set_option maxRecDepth 65536 in
set_option maxHeartbeats 4000000 in
theorem b_law_99 {p : Program} {l : Launch} {e : Env} {s : State} {m : MethodId} {args : Array Value} {below : List Frame} {meth : Method} {c : Code} {Z : State} {a0 : Array Value} {n0 : Nat} {hE : Heap} (cx : Cx_law p s m meth c Z a0) :
    ∀ {T : State} {locs : List Loc} {h : Heap} (X : Stand p l e room_1 s m args below meth c T locs 1 10) (eT : T.heap = h) (N : Fr n0 locs) (K : Keep hE h []) (z : n0 ≤ h.size) (O : Old Z n0 h) (b1 : Addr) (v1 : Int64) (v3 : Int64) (v5 : Int64) (v7 : Int64) (v11 : Int64) (v13 : Int64) (v15 : Int64) (v17 : Int64) (v19 : Int64) (v21 : Int32) (t0 : Int32) (t1 : Int64) (f_b1_conflicts : Int64) (f_b1_early : Int64) (f_b1_fixedPlacement : Int32) (f_b1_flowspanNs : Int64) (f_b1_frames : Int64) (f_b1_missing : Int64) (f_b1_order : Int64) (f_b1_waitingNs : Int64) (f_b1_window : Int64) (d0 : Slot) (v9 : Int64) (d23 : Slot) (d24 : Slot) (o_d0 : One d0) (o_d23 : One d23) (o_d24 : One d24) (E_b1 : Exa Z h b1 "com/example/no_wait_scheduler/nowaitscheduler/verify/Summary") (F_b1_conflicts : Fld Z h b1 "com/example/no_wait_scheduler/nowaitscheduler/verify/Summary" "conflicts" "J" (.long f_b1_conflicts)) (F_b1_early : Fld Z h b1 "com/example/no_wait_scheduler/nowaitscheduler/verify/Summary" "early" "J" (.long f_b1_early)) (F_b1_firstFinding : Fld Z h b1 "com/example/no_wait_scheduler/nowaitscheduler/verify/Summary" "firstFinding" "Ljava/lang/String;" .null) (F_b1_fixedPlacement : Fld Z h b1 "com/example/no_wait_scheduler/nowaitscheduler/verify/Summary" "fixedPlacement" "Z" (.int f_b1_fixedPlacement)) (F_b1_flowspanNs : Fld Z h b1 "com/example/no_wait_scheduler/nowaitscheduler/verify/Summary" "flowspanNs" "J" (.long f_b1_flowspanNs)) (F_b1_frames : Fld Z h b1 "com/example/no_wait_scheduler/nowaitscheduler/verify/Summary" "frames" "J" (.long f_b1_frames)) (F_b1_missing : Fld Z h b1 "com/example/no_wait_scheduler/nowaitscheduler/verify/Summary" "missing" "J" (.long f_b1_missing)) (F_b1_order : Fld Z h b1 "com/example/no_wait_scheduler/nowaitscheduler/verify/Summary" "order" "J" (.long f_b1_order)) (F_b1_waitingNs : Fld Z h b1 "com/example/no_wait_scheduler/nowaitscheduler/verify/Summary" "waitingNs" "J" (.long f_b1_waitingNs)) (F_b1_window : Fld Z h b1 "com/example/no_wait_scheduler/nowaitscheduler/verify/Summary" "window" "J" (.long f_b1_window)) (g_b1 : n0 ≤ b1) (nE_b1 : hE.size ≤ b1) (r : Int32), f_law_99 v1 v3 v5 v7 v11 v13 v15 v17 v19 v21 t0 t1 f_b1_conflicts f_b1_early f_b1_fixedPlacement f_b1_flowspanNs f_b1_frames f_b1_missing f_b1_order f_b1_waitingNs f_b1_window = some r → own_Goes p e below s (Q_law Z hE n0 r) 3 15 (T.setTop (mkF m 99 #[d0, .val (.long v1), .second, .val (.long v3), .second, .val (.long v5), .second, .val (.long v7), .second, .val (.long v9), .second, .val (.long v11), .second, .val (.long v13), .second, .val (.long v15), .second, .val (.long v17), .second, .val (.long v19), .second, .val (.int v21), .val .null, d23, d24] [(.int t0), (.long t1), (.ref b1), (.ref b1)])) := by
  have cx' := cx
  obtain ⟨hx, hZ, hw, hby, hml, hown, hret, hlk, hnm, hcs⟩ := cx'
  intro T locs h X eT N K z O b1 v1 v3 v5 v7 v11 v13 v15 v17 v19 v21 t0 t1 f_b1_conflicts f_b1_early f_b1_fixedPlacement f_b1_flowspanNs f_b1_frames f_b1_missing f_b1_order f_b1_waitingNs f_b1_window d0 v9 d23 d24 o_d0 o_d23 o_d24 E_b1 F_b1_conflicts F_b1_early F_b1_firstFinding F_b1_fixedPlacement F_b1_flowspanNs F_b1_frames F_b1_missing F_b1_order F_b1_waitingNs F_b1_window g_b1 nE_b1 r hF
  unfold f_law_99 at hF
  refine own_Goes.via (B := T.setTop (mkF m 119 #[d0, .val (.long v1), .second, .val (.long v3), .second, .val (.long v5), .second, .val (.long v7), .second, .val (.long v9), .second, .val (.long v11), .second, .val (.long v13), .second, .val (.long v15), .second, .val (.long v17), .second, .val (.long v19), .second, .val (.int v21), .val .null, d23, d24] [.null, (.long (v5 - v7)), (.long (v1 ^^^ v3)), (.long v19), (.long v17), (.long v15), (.long v13), (.long v11), (.int t0), (.long t1), (.ref b1), (.ref b1)])) (fun t k => ?_) ?_
  · show Steps p.tables e below (T.setTop (mkF m 99 #[d0, .val (.long v1), .second, .val (.long v3), .second, .val (.long v5), .second, .val (.long v7), .second, .val (.long v9), .second, .val (.long v11), .second, .val (.long v13), .second, .val (.long v15), .second, .val (.long v17), .second, .val (.long v19), .second, .val (.int v21), .val .null, d23, d24] [(.int t0), (.long t1), (.ref b1), (.ref b1)])) t
    refine XS.lload X.here hx rfl (hb hby at_99) rfl ?_
    show Steps p.tables e below (T.setTop (mkF m 101 #[d0, .val (.long v1), .second, .val (.long v3), .second, .val (.long v5), .second, .val (.long v7), .second, .val (.long v9), .second, .val (.long v11), .second, .val (.long v13), .second, .val (.long v15), .second, .val (.long v17), .second, .val (.long v19), .second, .val (.int v21), .val .null, d23, d24] [(.long v11), (.int t0), (.long t1), (.ref b1), (.ref b1)])) t
    refine XS.lload X.here hx rfl (hb hby at_101) rfl ?_
    show Steps p.tables e below (T.setTop (mkF m 103 #[d0, .val (.long v1), .second, .val (.long v3), .second, .val (.long v5), .second, .val (.long v7), .second, .val (.long v9), .second, .val (.long v11), .second, .val (.long v13), .second, .val (.long v15), .second, .val (.long v17), .second, .val (.long v19), .second, .val (.int v21), .val .null, d23, d24] [(.long v13), (.long v11), (.int t0), (.long t1), (.ref b1), (.ref b1)])) t
    refine XS.lload X.here hx rfl (hb hby at_103) rfl ?_
    show Steps p.tables e below (T.setTop (mkF m 105 #[d0, .val (.long v1), .second, .val (.long v3), .second, .val (.long v5), .second, .val (.long v7), .second, .val (.long v9), .second, .val (.long v11), .second, .val (.long v13), .second, .val (.long v15), .second, .val (.long v17), .second, .val (.long v19), .second, .val (.int v21), .val .null, d23, d24] [(.long v15), (.long v13), (.long v11), (.int t0), (.long t1), (.ref b1), (.ref b1)])) t
    refine XS.lload X.here hx rfl (hb hby at_105) rfl ?_
    show Steps p.tables e below (T.setTop (mkF m 107 #[d0, .val (.long v1), .second, .val (.long v3), .second, .val (.long v5), .second, .val (.long v7), .second, .val (.long v9), .second, .val (.long v11), .second, .val (.long v13), .second, .val (.long v15), .second, .val (.long v17), .second, .val (.long v19), .second, .val (.int v21), .val .null, d23, d24] [(.long v17), (.long v15), (.long v13), (.long v11), (.int t0), (.long t1), (.ref b1), (.ref b1)])) t
    refine XS.lload X.here hx rfl (hb hby at_107) rfl ?_
    show Steps p.tables e below (T.setTop (mkF m 109 #[d0, .val (.long v1), .second, .val (.long v3), .second, .val (.long v5), .second, .val (.long v7), .second, .val (.long v9), .second, .val (.long v11), .second, .val (.long v13), .second, .val (.long v15), .second, .val (.long v17), .second, .val (.long v19), .second, .val (.int v21), .val .null, d23, d24] [(.long v19), (.long v17), (.long v15), (.long v13), (.long v11), (.int t0), (.long t1), (.ref b1), (.ref b1)])) t
    refine XS.lloadN X.here hx rfl (hb hby at_109) rfl ?_
    show Steps p.tables e below (T.setTop (mkF m 110 #[d0, .val (.long v1), .second, .val (.long v3), .second, .val (.long v5), .second, .val (.long v7), .second, .val (.long v9), .second, .val (.long v11), .second, .val (.long v13), .second, .val (.long v15), .second, .val (.long v17), .second, .val (.long v19), .second, .val (.int v21), .val .null, d23, d24] [(.long v1), (.long v19), (.long v17), (.long v15), (.long v13), (.long v11), (.int t0), (.long t1), (.ref b1), (.ref b1)])) t
    refine XS.lloadN X.here hx rfl (hb hby at_110) rfl ?_
    show Steps p.tables e below (T.setTop (mkF m 111 #[d0, .val (.long v1), .second, .val (.long v3), .second, .val (.long v5), .second, .val (.long v7), .second, .val (.long v9), .second, .val (.long v11), .second, .val (.long v13), .second, .val (.long v15), .second, .val (.long v17), .second, .val (.long v19), .second, .val (.int v21), .val .null, d23, d24] [(.long v3), (.long v1), (.long v19), (.long v17), (.long v15), (.long v13), (.long v11), (.int t0), (.long t1), (.ref b1), (.ref b1)])) t
    refine XS.lxor X.here hx rfl (hb hby at_111) rfl ?_
    show Steps p.tables e below (T.setTop (mkF m 112 #[d0, .val (.long v1), .second, .val (.long v3), .second, .val (.long v5), .second, .val (.long v7), .second, .val (.long v9), .second, .val (.long v11), .second, .val (.long v13), .second, .val (.long v15), .second, .val (.long v17), .second, .val (.long v19), .second, .val (.int v21), .val .null, d23, d24] [(.long (v1 ^^^ v3)), (.long v19), (.long v17), (.long v15), (.long v13), (.long v11), (.int t0), (.long t1), (.ref b1), (.ref b1)])) t
    refine XS.lload X.here hx rfl (hb hby at_112) rfl ?_
    show Steps p.tables e below (T.setTop (mkF m 114 #[d0, .val (.long v1), .second, .val (.long v3), .second, .val (.long v5), .second, .val (.long v7), .second, .val (.long v9), .second, .val (.long v11), .second, .val (.long v13), .second, .val (.long v15), .second, .val (.long v17), .second, .val (.long v19), .second, .val (.int v21), .val .null, d23, d24] [(.long v5), (.long (v1 ^^^ v3)), (.long v19), (.long v17), (.long v15), (.long v13), (.long v11), (.int t0), (.long t1), (.ref b1), (.ref b1)])) t
    refine XS.lload X.here hx rfl (hb hby at_114) rfl ?_
    show Steps p.tables e below (T.setTop (mkF m 116 #[d0, .val (.long v1), .second, .val (.long v3), .second, .val (.long v5), .second, .val (.long v7), .second, .val (.long v9), .second, .val (.long v11), .second, .val (.long v13), .second, .val (.long v15), .second, .val (.long v17), .second, .val (.long v19), .second, .val (.int v21), .val .null, d23, d24] [(.long v7), (.long v5), (.long (v1 ^^^ v3)), (.long v19), (.long v17), (.long v15), (.long v13), (.long v11), (.int t0), (.long t1), (.ref b1), (.ref b1)])) t
    refine XS.lsub X.here hx rfl (hb hby at_116) rfl ?_
    show Steps p.tables e below (T.setTop (mkF m 117 #[d0, .val (.long v1), .second, .val (.long v3), .second, .val (.long v5), .second, .val (.long v7), .second, .val (.long v9), .second, .val (.long v11), .second, .val (.long v13), .second, .val (.long v15), .second, .val (.long v17), .second, .val (.long v19), .second, .val (.int v21), .val .null, d23, d24] [(.long (v5 - v7)), (.long (v1 ^^^ v3)), (.long v19), (.long v17), (.long v15), (.long v13), (.long v11), (.int t0), (.long t1), (.ref b1), (.ref b1)])) t
    refine XS.aload X.here hx rfl (hb hby at_117) rfl rfl ?_
    exact k
  obtain ⟨x266, hx266, hF⟩ := own_lt_e hF
  rw [← hx266]
  obtain ⟨x267, hx267, hF⟩ := own_lt_e hF
  rw [← hx267]
  obtain ⟨r268, hr268, hF⟩ := own_bd_e hF
  obtain ⟨_, _, ⟨T268, L268, k268, n268⟩, -, X268, ⟨Lc268, hQ268, l268, y268, z268⟩, st268⟩ := X.specialBack hx (y := (⟨"com/example/no_wait_scheduler/nowaitscheduler/verify/Summary", "<init>", "(JZJJJJJJJLjava/lang/String;)V"⟩ : MethodName)) rfl hown (mvT hZ (w7 hw)) (mvT hZ (w8 hw)) (mvT hZ (w9 hw)) (by decide) (backOf (W := 1) (rm_Summary_mk l Z a0 hw [] h n0 z hcs O b1 t1 t0 v11 v13 v15 v17 v19 x267 x266 f_b1_conflicts f_b1_early f_b1_fixedPlacement f_b1_flowspanNs f_b1_frames f_b1_missing f_b1_order f_b1_waitingNs f_b1_window E_b1 F_b1_conflicts F_b1_early F_b1_firstFinding F_b1_fixedPlacement F_b1_flowspanNs F_b1_frames F_b1_missing F_b1_order F_b1_waitingNs F_b1_window g_b1 r268 hr268) hZ (w9 hw) (w6 hw) (by decide) (by decide)) (g := (mkF m 119 #[d0, .val (.long v1), .second, .val (.long v3), .second, .val (.long v5), .second, .val (.long v7), .second, .val (.long v9), .second, .val (.long v11), .second, .val (.long v13), .second, .val (.long v15), .second, .val (.long v17), .second, .val (.long v19), .second, .val (.int v21), .val .null, d23, d24] [.null, (.long x266), (.long x267), (.long v19), (.long v17), (.long v15), (.long v13), (.long v11), (.int t0), (.long t1), (.ref b1), (.ref b1)])) rfl (by rw [hml]; rfl) (Steps.refl _) (a := b1) (argsL := [(.long t1), (.int t0), (.long v11), (.long v13), (.long v15), (.long v17), (.long v19), (.long x267), (.long x266), .null]) (rest := [(.ref b1)]) (lenOf pd_1 rfl) rfl (by show 2 * 0 + _ ≤ _; exact Nat.le_of_eq rfl) (hb hby at_119) (fun _ _ => ⟨rfl, eT, (by decide : 1 + 0 ≤ _), (by decide : 10 + 0 ≤ _)⟩)
  dsimp only [Pt.U, Pt.locs, Pt.cells, Pt.slots] at X268 l268 y268 z268 st268 hQ268
  subst l268 y268 z268
  obtain ⟨rfl, N268q, K268, E268_b1, F268_b1_conflicts, F268_b1_early, F268_b1_firstFinding, F268_b1_fixedPlacement, F268_b1_flowspanNs, F268_b1_frames, F268_b1_missing, F268_b1_order, F268_b1_waitingNs, F268_b1_window⟩ := hQ268
  have N268 := Fr.app N N268q
  have O268 := O.keep K268 (allS g_b1 all0)
  have K268_ := K.trans K268 (allS (Or.inr nE_b1) all0)
  have z268_ := Nat.le_trans z K268.1
  refine own_Goes.tr st268 ?_
  show own_Goes _ _ _ _ _ _ _ (T268.setTop (mkF m 122 #[d0, .val (.long v1), .second, .val (.long v3), .second, .val (.long v5), .second, .val (.long v7), .second, .val (.long v9), .second, .val (.long v11), .second, .val (.long v13), .second, .val (.long v15), .second, .val (.long v17), .second, .val (.long v19), .second, .val (.int v21), .val .null, d23, d24] [(.ref b1)]))
  refine own_Goes.via (B := T268.setTop (mkF m 126 #[d0, .val (.long v1), .second, .val (.long v3), .second, .val (.long v5), .second, .val (.long v7), .second, .val (.long v9), .second, .val (.long v11), .second, .val (.long v13), .second, .val (.long v15), .second, .val (.long v17), .second, .val (.long v19), .second, .val (.int v21), .val .null, .val (.ref b1), d24] [(.ref b1)])) (fun t k => ?_) ?_
  · show Steps p.tables e below (T268.setTop (mkF m 122 #[d0, .val (.long v1), .second, .val (.long v3), .second, .val (.long v5), .second, .val (.long v7), .second, .val (.long v9), .second, .val (.long v11), .second, .val (.long v13), .second, .val (.long v15), .second, .val (.long v17), .second, .val (.long v19), .second, .val (.int v21), .val .null, d23, d24] [(.ref b1)])) t
    refine XS.astoreS X268.here hx rfl (hb hby at_122) rfl rfl rfl rfl o_d23 ?_
    show Steps p.tables e below (T268.setTop (mkF m 124 #[d0, .val (.long v1), .second, .val (.long v3), .second, .val (.long v5), .second, .val (.long v7), .second, .val (.long v9), .second, .val (.long v11), .second, .val (.long v13), .second, .val (.long v15), .second, .val (.long v17), .second, .val (.long v19), .second, .val (.int v21), .val .null, .val (.ref b1), d24] [])) t
    refine XS.aload X268.here hx rfl (hb hby at_124) rfl rfl ?_
    exact k
  obtain ⟨r269, hr269, hF⟩ := own_bd_e hF
  obtain ⟨cq269, kq269, q269a, q269b, q269c⟩ := isOf hZ rfl E268_b1
  obtain ⟨_, _, ⟨T269, L269, k269, n269⟩, -, X269, ⟨Lc269, hQ269, l269, y269, z269⟩, st269⟩ := X268.virtualBack hx (y := (⟨"com/example/no_wait_scheduler/nowaitscheduler/verify/Summary", "passes", "()Z"⟩ : MethodName)) (z := (⟨"com/example/no_wait_scheduler/nowaitscheduler/verify/Summary", "passes", "()Z"⟩ : MethodName)) hown (mvT hZ (w33 hw)) (mvT hZ (w34 hw)) (notFace_of_selects (args := #[]) (mvT hZ (w36 hw))) (mvT hZ (w36 hw)) (mvT hZ (w35 hw)) (by decide) (backOf (W := 0) (rm_Summary_passes l Z a0 hw [] T268.heap n0 z268_ hcs O268 b1 r268.1 r268.2.1 r268.2.2.1 r268.2.2.2.1 r268.2.2.2.2.1 r268.2.2.2.2.2.1 r268.2.2.2.2.2.2.1 r268.2.2.2.2.2.2.2.1 r268.2.2.2.2.2.2.2.2 E268_b1 F268_b1_conflicts F268_b1_early F268_b1_firstFinding F268_b1_fixedPlacement F268_b1_flowspanNs F268_b1_frames F268_b1_missing F268_b1_order F268_b1_waitingNs F268_b1_window g_b1 r269 hr269) hZ (w37 hw) (w6 hw) (by decide) (by decide)) q269a q269c (g := (mkF m 126 #[d0, .val (.long v1), .second, .val (.long v3), .second, .val (.long v5), .second, .val (.long v7), .second, .val (.long v9), .second, .val (.long v11), .second, .val (.long v13), .second, .val (.long v15), .second, .val (.long v17), .second, .val (.long v19), .second, .val (.int v21), .val .null, .val (.ref b1), d24] [(.ref b1)])) rfl (by rw [hml]; rfl) (Steps.refl _) (argsL := []) (rest := []) (lenOf pd_2 rfl) rfl (by show 2 * 0 + _ ≤ _; exact Nat.le_of_eq rfl) (hb hby at_126) (fun _ _ => ⟨rfl, rfl, (by decide : 1 + 0 ≤ _), (by decide : 10 + 0 ≤ _)⟩)
  dsimp only [Pt.U, Pt.locs, Pt.cells, Pt.slots] at X269 l269 y269 z269 st269 hQ269
  subst l269 y269 z269
  obtain ⟨rfl, N269q, e269⟩ := hQ269
  have N269 := Fr.app N268 N269q
  refine own_Goes.tr st269 ?_
  show own_Goes _ _ _ _ _ _ _ (T269.setTop (mkF m 129 #[d0, .val (.long v1), .second, .val (.long v3), .second, .val (.long v5), .second, .val (.long v7), .second, .val (.long v9), .second, .val (.long v11), .second, .val (.long v13), .second, .val (.long v15), .second, .val (.long v17), .second, .val (.long v19), .second, .val (.int v21), .val .null, .val (.ref b1), d24] [(.int r269)]))
  refine own_Goes.via (B := T269.setTop (mkF m 135 #[d0, .val (.long v1), .second, .val (.long v3), .second, .val (.long v5), .second, .val (.long v7), .second, .val (.long v9), .second, .val (.long v11), .second, .val (.long v13), .second, .val (.long v15), .second, .val (.long v17), .second, .val (.long v19), .second, .val (.int v21), .val .null, .val (.ref b1), .val (.int r269)] [(.int v21), (.int r269)])) (fun t k => ?_) ?_
  · show Steps p.tables e below (T269.setTop (mkF m 129 #[d0, .val (.long v1), .second, .val (.long v3), .second, .val (.long v5), .second, .val (.long v7), .second, .val (.long v9), .second, .val (.long v11), .second, .val (.long v13), .second, .val (.long v15), .second, .val (.long v17), .second, .val (.long v19), .second, .val (.int v21), .val .null, .val (.ref b1), d24] [(.int r269)])) t
    refine XS.istoreS X269.here hx rfl (hb hby at_129) rfl rfl o_d24 ?_
    show Steps p.tables e below (T269.setTop (mkF m 131 #[d0, .val (.long v1), .second, .val (.long v3), .second, .val (.long v5), .second, .val (.long v7), .second, .val (.long v9), .second, .val (.long v11), .second, .val (.long v13), .second, .val (.long v15), .second, .val (.long v17), .second, .val (.long v19), .second, .val (.int v21), .val .null, .val (.ref b1), .val (.int r269)] [])) t
    refine XS.iload X269.here hx rfl (hb hby at_131) rfl ?_
    show Steps p.tables e below (T269.setTop (mkF m 133 #[d0, .val (.long v1), .second, .val (.long v3), .second, .val (.long v5), .second, .val (.long v7), .second, .val (.long v9), .second, .val (.long v11), .second, .val (.long v13), .second, .val (.long v15), .second, .val (.long v17), .second, .val (.long v19), .second, .val (.int v21), .val .null, .val (.ref b1), .val (.int r269)] [(.int r269)])) t
    refine XS.iload X269.here hx rfl (hb hby at_133) rfl ?_
    exact k
  by_cases hc135 : r269 = v21
  · rw [if_pos hc135] at hF
    refine own_Goes.via (B := T269.setTop (mkF m 142 #[d0, .val (.long v1), .second, .val (.long v3), .second, .val (.long v5), .second, .val (.long v7), .second, .val (.long v9), .second, .val (.long v11), .second, .val (.long v13), .second, .val (.long v15), .second, .val (.long v17), .second, .val (.long v19), .second, .val (.int v21), .val .null, .val (.ref b1), .val (.int r269)] [(.ref b1), (.int r269)])) (fun t k => ?_) ?_
    · show Steps p.tables e below (T269.setTop (mkF m 135 #[d0, .val (.long v1), .second, .val (.long v3), .second, .val (.long v5), .second, .val (.long v7), .second, .val (.long v9), .second, .val (.long v11), .second, .val (.long v13), .second, .val (.long v15), .second, .val (.long v17), .second, .val (.long v19), .second, .val (.int v21), .val .null, .val (.ref b1), .val (.int r269)] [(.int v21), (.int r269)])) t
      refine XS.icmpNo X269.here hx rfl (hb hby at_135) rfl (teq hc135).2 ?_
      show Steps p.tables e below (T269.setTop (mkF m 138 #[d0, .val (.long v1), .second, .val (.long v3), .second, .val (.long v5), .second, .val (.long v7), .second, .val (.long v9), .second, .val (.long v11), .second, .val (.long v13), .second, .val (.long v15), .second, .val (.long v17), .second, .val (.long v19), .second, .val (.int v21), .val .null, .val (.ref b1), .val (.int r269)] [])) t
      refine XS.iload X269.here hx rfl (hb hby at_138) rfl ?_
      show Steps p.tables e below (T269.setTop (mkF m 140 #[d0, .val (.long v1), .second, .val (.long v3), .second, .val (.long v5), .second, .val (.long v7), .second, .val (.long v9), .second, .val (.long v11), .second, .val (.long v13), .second, .val (.long v15), .second, .val (.long v17), .second, .val (.long v19), .second, .val (.int v21), .val .null, .val (.ref b1), .val (.int r269)] [(.int r269)])) t
      refine XS.aload X269.here hx rfl (hb hby at_140) rfl rfl ?_
      exact k
    obtain ⟨r270, hr270, hF⟩ := own_bd_e hF
    obtain ⟨cq270, kq270, q270a, q270b, q270c⟩ := isOf hZ e269 E268_b1
    obtain ⟨_, _, ⟨T270, L270, k270, n270⟩, -, X270, ⟨Lc270, hQ270, l270, y270, z270⟩, st270⟩ := X269.virtualBack hx (y := (⟨"com/example/no_wait_scheduler/nowaitscheduler/verify/Summary", "findings", "()J"⟩ : MethodName)) (z := (⟨"com/example/no_wait_scheduler/nowaitscheduler/verify/Summary", "findings", "()J"⟩ : MethodName)) hown (mvT hZ (w38 hw)) (mvT hZ (w39 hw)) (notFace_of_selects (args := #[]) (mvT hZ (w41 hw))) (mvT hZ (w41 hw)) (mvT hZ (w40 hw)) (by decide) (backOf (W := 1) (rm_Summary_findings l Z a0 hw [] T268.heap n0 z268_ hcs O268 b1 r268.1 r268.2.1 r268.2.2.1 r268.2.2.2.1 r268.2.2.2.2.1 r268.2.2.2.2.2.1 r268.2.2.2.2.2.2.1 r268.2.2.2.2.2.2.2.1 r268.2.2.2.2.2.2.2.2 E268_b1 F268_b1_conflicts F268_b1_early F268_b1_firstFinding F268_b1_fixedPlacement F268_b1_flowspanNs F268_b1_frames F268_b1_missing F268_b1_order F268_b1_waitingNs F268_b1_window g_b1 r270 hr270) hZ (w42 hw) (w6 hw) (by decide) (by decide)) q270a q270c (g := (mkF m 142 #[d0, .val (.long v1), .second, .val (.long v3), .second, .val (.long v5), .second, .val (.long v7), .second, .val (.long v9), .second, .val (.long v11), .second, .val (.long v13), .second, .val (.long v15), .second, .val (.long v17), .second, .val (.long v19), .second, .val (.int v21), .val .null, .val (.ref b1), .val (.int r269)] [(.ref b1), (.int r269)])) rfl (by rw [hml]; rfl) (Steps.refl _) (argsL := []) (rest := [(.int r269)]) (lenOf pd_3 rfl) rfl (by show 2 * 0 + _ ≤ _; exact Nat.le_of_eq rfl) (hb hby at_142) (fun _ _ => ⟨rfl, e269, (by decide : 1 + 0 ≤ _), (by decide : 10 + 0 ≤ _)⟩)
    dsimp only [Pt.U, Pt.locs, Pt.cells, Pt.slots] at X270 l270 y270 z270 st270 hQ270
    subst l270 y270 z270
    obtain ⟨rfl, N270q, e270⟩ := hQ270
    have N270 := Fr.app N269 N270q
    refine own_Goes.tr st270 ?_
    show own_Goes _ _ _ _ _ _ _ (T270.setTop (mkF m 145 #[d0, .val (.long v1), .second, .val (.long v3), .second, .val (.long v5), .second, .val (.long v7), .second, .val (.long v9), .second, .val (.long v11), .second, .val (.long v13), .second, .val (.long v15), .second, .val (.long v17), .second, .val (.long v19), .second, .val (.int v21), .val .null, .val (.ref b1), .val (.int r269)] [(.long r270), (.int r269)]))
    refine own_Goes.via (B := T270.setTop (mkF m 147 #[d0, .val (.long v1), .second, .val (.long v3), .second, .val (.long v5), .second, .val (.long v7), .second, .val (.long v9), .second, .val (.long v11), .second, .val (.long v13), .second, .val (.long v15), .second, .val (.long v17), .second, .val (.long v19), .second, .val (.int v21), .val .null, .val (.ref b1), .val (.int r269)] [(.int (lcmpW r270 (0 : Int64))), (.int r269)])) (fun t k => ?_) ?_
    · show Steps p.tables e below (T270.setTop (mkF m 145 #[d0, .val (.long v1), .second, .val (.long v3), .second, .val (.long v5), .second, .val (.long v7), .second, .val (.long v9), .second, .val (.long v11), .second, .val (.long v13), .second, .val (.long v15), .second, .val (.long v17), .second, .val (.long v19), .second, .val (.int v21), .val .null, .val (.ref b1), .val (.int r269)] [(.long r270), (.int r269)])) t
      refine XS.lconst X270.here hx rfl (hb hby at_145) ?_
      show Steps p.tables e below (T270.setTop (mkF m 146 #[d0, .val (.long v1), .second, .val (.long v3), .second, .val (.long v5), .second, .val (.long v7), .second, .val (.long v9), .second, .val (.long v11), .second, .val (.long v13), .second, .val (.long v15), .second, .val (.long v17), .second, .val (.long v19), .second, .val (.int v21), .val .null, .val (.ref b1), .val (.int r269)] [(.long (0 : Int64)), (.long r270), (.int r269)])) t
      refine XS.lcmp X270.here hx rfl (hb hby at_146) rfl ?_
      exact k
    by_cases hc147 : r270 = (0 : Int64)
    · rw [if_pos hc147] at hF
      refine own_Goes.via (B := T270.setTop (mkF m 155 #[d0, .val (.long v1), .second, .val (.long v3), .second, .val (.long v5), .second, .val (.long v7), .second, .val (.long v9), .second, .val (.long v11), .second, .val (.long v13), .second, .val (.long v15), .second, .val (.long v17), .second, .val (.long v19), .second, .val (.int v21), .val .null, .val (.ref b1), .val (.int r269)] [(.int (1 : Int32)), (.int r269)])) (fun t k => ?_) ?_
      · show Steps p.tables e below (T270.setTop (mkF m 147 #[d0, .val (.long v1), .second, .val (.long v3), .second, .val (.long v5), .second, .val (.long v7), .second, .val (.long v9), .second, .val (.long v11), .second, .val (.long v13), .second, .val (.long v15), .second, .val (.long v17), .second, .val (.long v19), .second, .val (.int v21), .val .null, .val (.ref b1), .val (.int r269)] [(.int (lcmpW r270 (0 : Int64))), (.int r269)])) t
        refine XS.ifNo X270.here hx rfl (hb hby at_147) rfl (own_teqL hc147).2 ?_
        show Steps p.tables e below (T270.setTop (mkF m 150 #[d0, .val (.long v1), .second, .val (.long v3), .second, .val (.long v5), .second, .val (.long v7), .second, .val (.long v9), .second, .val (.long v11), .second, .val (.long v13), .second, .val (.long v15), .second, .val (.long v17), .second, .val (.long v19), .second, .val (.int v21), .val .null, .val (.ref b1), .val (.int r269)] [(.int r269)])) t
        refine XS.iconst X270.here hx rfl (hb hby at_150) ?_
        show Steps p.tables e below (T270.setTop (mkF m 151 #[d0, .val (.long v1), .second, .val (.long v3), .second, .val (.long v5), .second, .val (.long v7), .second, .val (.long v9), .second, .val (.long v11), .second, .val (.long v13), .second, .val (.long v15), .second, .val (.long v17), .second, .val (.long v19), .second, .val (.int v21), .val .null, .val (.ref b1), .val (.int r269)] [(.int (1 : Int32)), (.int r269)])) t
        refine XS.goto X270.here hx rfl (pc0 := 151) (pc' := 155) rfl (hb hby at_151) (by decide) (by decide) ?_
        exact k
      by_cases hc155 : r269 = (1 : Int32)
      · rw [if_pos hc155] at hF
        refine own_Goes.via (B := T270.setTop (mkF m 163 #[d0, .val (.long v1), .second, .val (.long v3), .second, .val (.long v5), .second, .val (.long v7), .second, .val (.long v9), .second, .val (.long v11), .second, .val (.long v13), .second, .val (.long v15), .second, .val (.long v17), .second, .val (.long v19), .second, .val (.int v21), .val .null, .val (.ref b1), .val (.int r269)] [(.int (1 : Int32))])) (fun t k => ?_) ?_
        · show Steps p.tables e below (T270.setTop (mkF m 155 #[d0, .val (.long v1), .second, .val (.long v3), .second, .val (.long v5), .second, .val (.long v7), .second, .val (.long v9), .second, .val (.long v11), .second, .val (.long v13), .second, .val (.long v15), .second, .val (.long v17), .second, .val (.long v19), .second, .val (.int v21), .val .null, .val (.ref b1), .val (.int r269)] [(.int (1 : Int32)), (.int r269)])) t
          refine XS.icmpNo X270.here hx rfl (hb hby at_155) rfl (teq hc155).2 ?_
          show Steps p.tables e below (T270.setTop (mkF m 158 #[d0, .val (.long v1), .second, .val (.long v3), .second, .val (.long v5), .second, .val (.long v7), .second, .val (.long v9), .second, .val (.long v11), .second, .val (.long v13), .second, .val (.long v15), .second, .val (.long v17), .second, .val (.long v19), .second, .val (.int v21), .val .null, .val (.ref b1), .val (.int r269)] [])) t
          refine XS.iconst X270.here hx rfl (hb hby at_158) ?_
          show Steps p.tables e below (T270.setTop (mkF m 159 #[d0, .val (.long v1), .second, .val (.long v3), .second, .val (.long v5), .second, .val (.long v7), .second, .val (.long v9), .second, .val (.long v11), .second, .val (.long v13), .second, .val (.long v15), .second, .val (.long v17), .second, .val (.long v19), .second, .val (.int v21), .val .null, .val (.ref b1), .val (.int r269)] [(.int (1 : Int32))])) t
          refine XS.goto X270.here hx rfl (pc0 := 159) (pc' := 163) rfl (hb hby at_159) (by decide) (by decide) ?_
          exact k
        obtain rfl : (1 : Int32) = r := Option.some.inj hF
        exact own_retN X270 hx (t := .boolean) hret hlk (by simp) (hb hby at_163) e270 (v := (1 : Int32)) (by decide) ⟨rfl, N270, K268_⟩ (by decide) (by decide)
      · rw [if_neg hc155] at hF
        refine own_Goes.via (B := T270.setTop (mkF m 163 #[d0, .val (.long v1), .second, .val (.long v3), .second, .val (.long v5), .second, .val (.long v7), .second, .val (.long v9), .second, .val (.long v11), .second, .val (.long v13), .second, .val (.long v15), .second, .val (.long v17), .second, .val (.long v19), .second, .val (.int v21), .val .null, .val (.ref b1), .val (.int r269)] [(.int (0 : Int32))])) (fun t k => ?_) ?_
        · show Steps p.tables e below (T270.setTop (mkF m 155 #[d0, .val (.long v1), .second, .val (.long v3), .second, .val (.long v5), .second, .val (.long v7), .second, .val (.long v9), .second, .val (.long v11), .second, .val (.long v13), .second, .val (.long v15), .second, .val (.long v17), .second, .val (.long v19), .second, .val (.int v21), .val .null, .val (.ref b1), .val (.int r269)] [(.int (1 : Int32)), (.int r269)])) t
          refine XS.icmpYes X270.here hx rfl (pc0 := 155) (pc' := 162) rfl (hb hby at_155) rfl (feq hc155).2 (by decide) (by decide) ?_
          show Steps p.tables e below (T270.setTop (mkF m 162 #[d0, .val (.long v1), .second, .val (.long v3), .second, .val (.long v5), .second, .val (.long v7), .second, .val (.long v9), .second, .val (.long v11), .second, .val (.long v13), .second, .val (.long v15), .second, .val (.long v17), .second, .val (.long v19), .second, .val (.int v21), .val .null, .val (.ref b1), .val (.int r269)] [])) t
          refine XS.iconst X270.here hx rfl (hb hby at_162) ?_
          exact k
        obtain rfl : (0 : Int32) = r := Option.some.inj hF
        exact own_retN X270 hx (t := .boolean) hret hlk (by simp) (hb hby at_163) e270 (v := (0 : Int32)) (by decide) ⟨rfl, N270, K268_⟩ (by decide) (by decide)
    · rw [if_neg hc147] at hF
      refine own_Goes.via (B := T270.setTop (mkF m 155 #[d0, .val (.long v1), .second, .val (.long v3), .second, .val (.long v5), .second, .val (.long v7), .second, .val (.long v9), .second, .val (.long v11), .second, .val (.long v13), .second, .val (.long v15), .second, .val (.long v17), .second, .val (.long v19), .second, .val (.int v21), .val .null, .val (.ref b1), .val (.int r269)] [(.int (0 : Int32)), (.int r269)])) (fun t k => ?_) ?_
      · show Steps p.tables e below (T270.setTop (mkF m 147 #[d0, .val (.long v1), .second, .val (.long v3), .second, .val (.long v5), .second, .val (.long v7), .second, .val (.long v9), .second, .val (.long v11), .second, .val (.long v13), .second, .val (.long v15), .second, .val (.long v17), .second, .val (.long v19), .second, .val (.int v21), .val .null, .val (.ref b1), .val (.int r269)] [(.int (lcmpW r270 (0 : Int64))), (.int r269)])) t
        refine XS.ifYes X270.here hx rfl (pc0 := 147) (pc' := 154) rfl (hb hby at_147) rfl (own_feqL hc147).2 (by decide) (by decide) ?_
        show Steps p.tables e below (T270.setTop (mkF m 154 #[d0, .val (.long v1), .second, .val (.long v3), .second, .val (.long v5), .second, .val (.long v7), .second, .val (.long v9), .second, .val (.long v11), .second, .val (.long v13), .second, .val (.long v15), .second, .val (.long v17), .second, .val (.long v19), .second, .val (.int v21), .val .null, .val (.ref b1), .val (.int r269)] [(.int r269)])) t
        refine XS.iconst X270.here hx rfl (hb hby at_154) ?_
        exact k
      by_cases hc155 : r269 = (0 : Int32)
      · rw [if_pos hc155] at hF
        refine own_Goes.via (B := T270.setTop (mkF m 163 #[d0, .val (.long v1), .second, .val (.long v3), .second, .val (.long v5), .second, .val (.long v7), .second, .val (.long v9), .second, .val (.long v11), .second, .val (.long v13), .second, .val (.long v15), .second, .val (.long v17), .second, .val (.long v19), .second, .val (.int v21), .val .null, .val (.ref b1), .val (.int r269)] [(.int (1 : Int32))])) (fun t k => ?_) ?_
        · show Steps p.tables e below (T270.setTop (mkF m 155 #[d0, .val (.long v1), .second, .val (.long v3), .second, .val (.long v5), .second, .val (.long v7), .second, .val (.long v9), .second, .val (.long v11), .second, .val (.long v13), .second, .val (.long v15), .second, .val (.long v17), .second, .val (.long v19), .second, .val (.int v21), .val .null, .val (.ref b1), .val (.int r269)] [(.int (0 : Int32)), (.int r269)])) t
          refine XS.icmpNo X270.here hx rfl (hb hby at_155) rfl (teq hc155).2 ?_
          show Steps p.tables e below (T270.setTop (mkF m 158 #[d0, .val (.long v1), .second, .val (.long v3), .second, .val (.long v5), .second, .val (.long v7), .second, .val (.long v9), .second, .val (.long v11), .second, .val (.long v13), .second, .val (.long v15), .second, .val (.long v17), .second, .val (.long v19), .second, .val (.int v21), .val .null, .val (.ref b1), .val (.int r269)] [])) t
          refine XS.iconst X270.here hx rfl (hb hby at_158) ?_
          show Steps p.tables e below (T270.setTop (mkF m 159 #[d0, .val (.long v1), .second, .val (.long v3), .second, .val (.long v5), .second, .val (.long v7), .second, .val (.long v9), .second, .val (.long v11), .second, .val (.long v13), .second, .val (.long v15), .second, .val (.long v17), .second, .val (.long v19), .second, .val (.int v21), .val .null, .val (.ref b1), .val (.int r269)] [(.int (1 : Int32))])) t
          refine XS.goto X270.here hx rfl (pc0 := 159) (pc' := 163) rfl (hb hby at_159) (by decide) (by decide) ?_
          exact k
        obtain rfl : (1 : Int32) = r := Option.some.inj hF
        exact own_retN X270 hx (t := .boolean) hret hlk (by simp) (hb hby at_163) e270 (v := (1 : Int32)) (by decide) ⟨rfl, N270, K268_⟩ (by decide) (by decide)
      · rw [if_neg hc155] at hF
        refine own_Goes.via (B := T270.setTop (mkF m 163 #[d0, .val (.long v1), .second, .val (.long v3), .second, .val (.long v5), .second, .val (.long v7), .second, .val (.long v9), .second, .val (.long v11), .second, .val (.long v13), .second, .val (.long v15), .second, .val (.long v17), .second, .val (.long v19), .second, .val (.int v21), .val .null, .val (.ref b1), .val (.int r269)] [(.int (0 : Int32))])) (fun t k => ?_) ?_
        · show Steps p.tables e below (T270.setTop (mkF m 155 #[d0, .val (.long v1), .second, .val (.long v3), .second, .val (.long v5), .second, .val (.long v7), .second, .val (.long v9), .second, .val (.long v11), .second, .val (.long v13), .second, .val (.long v15), .second, .val (.long v17), .second, .val (.long v19), .second, .val (.int v21), .val .null, .val (.ref b1), .val (.int r269)] [(.int (0 : Int32)), (.int r269)])) t
          refine XS.icmpYes X270.here hx rfl (pc0 := 155) (pc' := 162) rfl (hb hby at_155) rfl (feq hc155).2 (by decide) (by decide) ?_
          show Steps p.tables e below (T270.setTop (mkF m 162 #[d0, .val (.long v1), .second, .val (.long v3), .second, .val (.long v5), .second, .val (.long v7), .second, .val (.long v9), .second, .val (.long v11), .second, .val (.long v13), .second, .val (.long v15), .second, .val (.long v17), .second, .val (.long v19), .second, .val (.int v21), .val .null, .val (.ref b1), .val (.int r269)] [])) t
          refine XS.iconst X270.here hx rfl (hb hby at_162) ?_
          exact k
        obtain rfl : (0 : Int32) = r := Option.some.inj hF
        exact own_retN X270 hx (t := .boolean) hret hlk (by simp) (hb hby at_163) e270 (v := (0 : Int32)) (by decide) ⟨rfl, N270, K268_⟩ (by decide) (by decide)
  · rw [if_neg hc135] at hF
    refine own_Goes.via (B := T269.setTop (mkF m 163 #[d0, .val (.long v1), .second, .val (.long v3), .second, .val (.long v5), .second, .val (.long v7), .second, .val (.long v9), .second, .val (.long v11), .second, .val (.long v13), .second, .val (.long v15), .second, .val (.long v17), .second, .val (.long v19), .second, .val (.int v21), .val .null, .val (.ref b1), .val (.int r269)] [(.int (0 : Int32))])) (fun t k => ?_) ?_
    · show Steps p.tables e below (T269.setTop (mkF m 135 #[d0, .val (.long v1), .second, .val (.long v3), .second, .val (.long v5), .second, .val (.long v7), .second, .val (.long v9), .second, .val (.long v11), .second, .val (.long v13), .second, .val (.long v15), .second, .val (.long v17), .second, .val (.long v19), .second, .val (.int v21), .val .null, .val (.ref b1), .val (.int r269)] [(.int v21), (.int r269)])) t
      refine XS.icmpYes X269.here hx rfl (pc0 := 135) (pc' := 162) rfl (hb hby at_135) rfl (feq hc135).2 (by decide) (by decide) ?_
      show Steps p.tables e below (T269.setTop (mkF m 162 #[d0, .val (.long v1), .second, .val (.long v3), .second, .val (.long v5), .second, .val (.long v7), .second, .val (.long v9), .second, .val (.long v11), .second, .val (.long v13), .second, .val (.long v15), .second, .val (.long v17), .second, .val (.long v19), .second, .val (.int v21), .val .null, .val (.ref b1), .val (.int r269)] [])) t
      refine XS.iconst X269.here hx rfl (hb hby at_162) ?_
      exact k
    obtain rfl : (0 : Int32) = r := Option.some.inj hF
    exact own_retN X269 hx (t := .boolean) hret hlk (by simp) (hb hby at_163) e269 (v := (0 : Int32)) (by decide) ⟨rfl, N269, K268_⟩ (by decide) (by decide)
set_option maxRecDepth 65536 in
set_option maxHeartbeats 4000000 in
theorem b_law_78 {p : Program} {l : Launch} {e : Env} {s : State} {m : MethodId} {args : Array Value} {below : List Frame} {meth : Method} {c : Code} {Z : State} {a0 : Array Value} {n0 : Nat} {hE : Heap} (cx : Cx_law p s m meth c Z a0) :
    ∀ {T : State} {locs : List Loc} {h : Heap} (X : Stand p l e room_1 s m args below meth c T locs 0 0) (eT : T.heap = h) (N : Fr n0 locs) (K : Keep hE h []) (z : n0 ≤ h.size) (O : Old Z n0 h) (v0 : Int32) (v1 : Int64) (v3 : Int64) (v5 : Int64) (v7 : Int64) (v11 : Int64) (v13 : Int64) (v15 : Int64) (v17 : Int64) (v19 : Int64) (v21 : Int32) (v9 : Int64) (d22 : Slot) (d23 : Slot) (d24 : Slot) (o_d22 : One d22) (o_d23 : One d23) (o_d24 : One d24) (r : Int32), f_law_78 v0 v1 v3 v5 v7 v11 v13 v15 v17 v19 v21 = some r → own_Goes p e below s (Q_law Z hE n0 r) 3 15 (T.setTop (mkF m 78 #[.val (.int v0), .val (.long v1), .second, .val (.long v3), .second, .val (.long v5), .second, .val (.long v7), .second, .val (.long v9), .second, .val (.long v11), .second, .val (.long v13), .second, .val (.long v15), .second, .val (.long v17), .second, .val (.long v19), .second, .val (.int v21), d22, d23, d24] [.null])) := by
  have cx' := cx
  obtain ⟨hx, hZ, hw, hby, hml, hown, hret, hlk, hnm, hcs⟩ := cx'
  intro T locs h X eT N K z O v0 v1 v3 v5 v7 v11 v13 v15 v17 v19 v21 v9 d22 d23 d24 o_d22 o_d23 o_d24 r hF
  unfold f_law_78 at hF
  refine own_Goes.via (B := T.setTop (mkF m 80 #[.val (.int v0), .val (.long v1), .second, .val (.long v3), .second, .val (.long v5), .second, .val (.long v7), .second, .val (.long v9), .second, .val (.long v11), .second, .val (.long v13), .second, .val (.long v15), .second, .val (.long v17), .second, .val (.long v19), .second, .val (.int v21), .val .null, d23, d24] [])) (fun t k => ?_) ?_
  · show Steps p.tables e below (T.setTop (mkF m 78 #[.val (.int v0), .val (.long v1), .second, .val (.long v3), .second, .val (.long v5), .second, .val (.long v7), .second, .val (.long v9), .second, .val (.long v11), .second, .val (.long v13), .second, .val (.long v15), .second, .val (.long v17), .second, .val (.long v19), .second, .val (.int v21), d22, d23, d24] [.null])) t
    refine XS.astoreS X.here hx rfl (hb hby at_78) rfl rfl rfl rfl o_d22 ?_
    exact k
  obtain ⟨T271, h271, X271, e271, E271, A271, D271, -, st271⟩ := newO X hx hZ hown (w4 hw) (w5 hw) (w6 hw) eT (g := (mkF m 80 #[.val (.int v0), .val (.long v1), .second, .val (.long v3), .second, .val (.long v5), .second, .val (.long v7), .second, .val (.long v9), .second, .val (.long v11), .second, .val (.long v13), .second, .val (.long v15), .second, .val (.long v17), .second, .val (.long v19), .second, .val (.int v21), .val .null, d23, d24] [])) rfl (hb hby at_80) (by decide) (by decide)
  obtain ⟨c271, q271⟩ : ∃ z, z = h.size := ⟨_, rfl⟩
  rw [← q271] at A271 D271 st271
  have F271_c271_frames : Fld Z h271 c271 "com/example/no_wait_scheduler/nowaitscheduler/verify/Summary" "frames" "J" (.long (0 : Int64)) := D271 (Or.inr (w14 hw)) (ty := .long) (by decide)
  have F271_c271_fixedPlacement : Fld Z h271 c271 "com/example/no_wait_scheduler/nowaitscheduler/verify/Summary" "fixedPlacement" "Z" (.int (0 : Int32)) := D271 (Or.inr (w16 hw)) (ty := .boolean) (by decide)
  have F271_c271_conflicts : Fld Z h271 c271 "com/example/no_wait_scheduler/nowaitscheduler/verify/Summary" "conflicts" "J" (.long (0 : Int64)) := D271 (Or.inr (w18 hw)) (ty := .long) (by decide)
  have F271_c271_early : Fld Z h271 c271 "com/example/no_wait_scheduler/nowaitscheduler/verify/Summary" "early" "J" (.long (0 : Int64)) := D271 (Or.inr (w20 hw)) (ty := .long) (by decide)
  have F271_c271_order : Fld Z h271 c271 "com/example/no_wait_scheduler/nowaitscheduler/verify/Summary" "order" "J" (.long (0 : Int64)) := D271 (Or.inr (w22 hw)) (ty := .long) (by decide)
  have F271_c271_window : Fld Z h271 c271 "com/example/no_wait_scheduler/nowaitscheduler/verify/Summary" "window" "J" (.long (0 : Int64)) := D271 (Or.inr (w24 hw)) (ty := .long) (by decide)
  have F271_c271_missing : Fld Z h271 c271 "com/example/no_wait_scheduler/nowaitscheduler/verify/Summary" "missing" "J" (.long (0 : Int64)) := D271 (Or.inr (w26 hw)) (ty := .long) (by decide)
  have F271_c271_waitingNs : Fld Z h271 c271 "com/example/no_wait_scheduler/nowaitscheduler/verify/Summary" "waitingNs" "J" (.long (0 : Int64)) := D271 (Or.inr (w28 hw)) (ty := .long) (by decide)
  have F271_c271_flowspanNs : Fld Z h271 c271 "com/example/no_wait_scheduler/nowaitscheduler/verify/Summary" "flowspanNs" "J" (.long (0 : Int64)) := D271 (Or.inr (w30 hw)) (ty := .long) (by decide)
  have F271_c271_firstFinding : Fld Z h271 c271 "com/example/no_wait_scheduler/nowaitscheduler/verify/Summary" "firstFinding" "Ljava/lang/String;" .null := D271 (Or.inr (w32 hw)) (ty := (.object "java/lang/String")) (by decide)
  have g271_c271 : n0 ≤ c271 := Nat.le_trans z (Nat.le_of_eq q271.symm)
  have nE271_c271 : hE.size ≤ c271 := Nat.le_trans K.1 (Nat.le_of_eq q271.symm)
  have z271 := Nat.le_trans z E271.1
  have K271_ := K.ext E271
  have O271 := O.ext E271
  refine own_Goes.via st271 ?_
  show own_Goes _ _ _ _ _ _ _ (T271.setTop (mkF m 83 #[.val (.int v0), .val (.long v1), .second, .val (.long v3), .second, .val (.long v5), .second, .val (.long v7), .second, .val (.long v9), .second, .val (.long v11), .second, .val (.long v13), .second, .val (.long v15), .second, .val (.long v17), .second, .val (.long v19), .second, .val (.int v21), .val .null, d23, d24] [(.ref c271)]))
  refine own_Goes.via (B := T271.setTop (mkF m 91 #[.val (.int v0), .val (.long v1), .second, .val (.long v3), .second, .val (.long v5), .second, .val (.long v7), .second, .val (.long v9), .second, .val (.long v11), .second, .val (.long v13), .second, .val (.long v15), .second, .val (.long v17), .second, .val (.long v19), .second, .val (.int v21), .val .null, d23, d24] [(.int (((v0.toUInt32 >>> ((5 : Int32) &&& 31).toUInt32).toInt32) &&& (1 : Int32))), (.long (v0.toInt64)), (.ref c271), (.ref c271)])) (fun t k => ?_) ?_
  · show Steps p.tables e below (T271.setTop (mkF m 83 #[.val (.int v0), .val (.long v1), .second, .val (.long v3), .second, .val (.long v5), .second, .val (.long v7), .second, .val (.long v9), .second, .val (.long v11), .second, .val (.long v13), .second, .val (.long v15), .second, .val (.long v17), .second, .val (.long v19), .second, .val (.int v21), .val .null, d23, d24] [(.ref c271)])) t
    refine XS.dup X271.here hx rfl (hb hby at_83) rfl rfl ?_
    show Steps p.tables e below (T271.setTop (mkF m 84 #[.val (.int v0), .val (.long v1), .second, .val (.long v3), .second, .val (.long v5), .second, .val (.long v7), .second, .val (.long v9), .second, .val (.long v11), .second, .val (.long v13), .second, .val (.long v15), .second, .val (.long v17), .second, .val (.long v19), .second, .val (.int v21), .val .null, d23, d24] [(.ref c271), (.ref c271)])) t
    refine XS.iloadN X271.here hx rfl (hb hby at_84) rfl ?_
    show Steps p.tables e below (T271.setTop (mkF m 85 #[.val (.int v0), .val (.long v1), .second, .val (.long v3), .second, .val (.long v5), .second, .val (.long v7), .second, .val (.long v9), .second, .val (.long v11), .second, .val (.long v13), .second, .val (.long v15), .second, .val (.long v17), .second, .val (.long v19), .second, .val (.int v21), .val .null, d23, d24] [(.int v0), (.ref c271), (.ref c271)])) t
    refine XS.i2l X271.here hx rfl (hb hby at_85) rfl ?_
    show Steps p.tables e below (T271.setTop (mkF m 86 #[.val (.int v0), .val (.long v1), .second, .val (.long v3), .second, .val (.long v5), .second, .val (.long v7), .second, .val (.long v9), .second, .val (.long v11), .second, .val (.long v13), .second, .val (.long v15), .second, .val (.long v17), .second, .val (.long v19), .second, .val (.int v21), .val .null, d23, d24] [(.long (v0.toInt64)), (.ref c271), (.ref c271)])) t
    refine XS.iloadN X271.here hx rfl (hb hby at_86) rfl ?_
    show Steps p.tables e below (T271.setTop (mkF m 87 #[.val (.int v0), .val (.long v1), .second, .val (.long v3), .second, .val (.long v5), .second, .val (.long v7), .second, .val (.long v9), .second, .val (.long v11), .second, .val (.long v13), .second, .val (.long v15), .second, .val (.long v17), .second, .val (.long v19), .second, .val (.int v21), .val .null, d23, d24] [(.int v0), (.long (v0.toInt64)), (.ref c271), (.ref c271)])) t
    refine XS.iconst X271.here hx rfl (hb hby at_87) ?_
    show Steps p.tables e below (T271.setTop (mkF m 88 #[.val (.int v0), .val (.long v1), .second, .val (.long v3), .second, .val (.long v5), .second, .val (.long v7), .second, .val (.long v9), .second, .val (.long v11), .second, .val (.long v13), .second, .val (.long v15), .second, .val (.long v17), .second, .val (.long v19), .second, .val (.int v21), .val .null, d23, d24] [(.int (5 : Int32)), (.int v0), (.long (v0.toInt64)), (.ref c271), (.ref c271)])) t
    refine XS.iushr X271.here hx rfl (hb hby at_88) rfl ?_
    show Steps p.tables e below (T271.setTop (mkF m 89 #[.val (.int v0), .val (.long v1), .second, .val (.long v3), .second, .val (.long v5), .second, .val (.long v7), .second, .val (.long v9), .second, .val (.long v11), .second, .val (.long v13), .second, .val (.long v15), .second, .val (.long v17), .second, .val (.long v19), .second, .val (.int v21), .val .null, d23, d24] [(.int ((v0.toUInt32 >>> ((5 : Int32) &&& 31).toUInt32).toInt32)), (.long (v0.toInt64)), (.ref c271), (.ref c271)])) t
    refine XS.iconst X271.here hx rfl (hb hby at_89) ?_
    show Steps p.tables e below (T271.setTop (mkF m 90 #[.val (.int v0), .val (.long v1), .second, .val (.long v3), .second, .val (.long v5), .second, .val (.long v7), .second, .val (.long v9), .second, .val (.long v11), .second, .val (.long v13), .second, .val (.long v15), .second, .val (.long v17), .second, .val (.long v19), .second, .val (.int v21), .val .null, d23, d24] [(.int (1 : Int32)), (.int ((v0.toUInt32 >>> ((5 : Int32) &&& 31).toUInt32).toInt32)), (.long (v0.toInt64)), (.ref c271), (.ref c271)])) t
    refine XS.iand X271.here hx rfl (hb hby at_90) rfl ?_
    exact k
  by_cases hc91 : (((v0.toUInt32 >>> ((5 : Int32) &&& 31).toUInt32).toInt32) &&& (1 : Int32)) = (0 : Int32)
  · rw [if_pos hc91] at hF
    refine own_Goes.via (B := T271.setTop (mkF m 99 #[.val (.int v0), .val (.long v1), .second, .val (.long v3), .second, .val (.long v5), .second, .val (.long v7), .second, .val (.long v9), .second, .val (.long v11), .second, .val (.long v13), .second, .val (.long v15), .second, .val (.long v17), .second, .val (.long v19), .second, .val (.int v21), .val .null, d23, d24] [(.int (0 : Int32)), (.long (v0.toInt64)), (.ref c271), (.ref c271)])) (fun t k => ?_) ?_
    · show Steps p.tables e below (T271.setTop (mkF m 91 #[.val (.int v0), .val (.long v1), .second, .val (.long v3), .second, .val (.long v5), .second, .val (.long v7), .second, .val (.long v9), .second, .val (.long v11), .second, .val (.long v13), .second, .val (.long v15), .second, .val (.long v17), .second, .val (.long v19), .second, .val (.int v21), .val .null, d23, d24] [(.int (((v0.toUInt32 >>> ((5 : Int32) &&& 31).toUInt32).toInt32) &&& (1 : Int32))), (.long (v0.toInt64)), (.ref c271), (.ref c271)])) t
      refine XS.ifYes X271.here hx rfl (pc0 := 91) (pc' := 98) rfl (hb hby at_91) rfl ((if0 _ _).trans (teq hc91).1) (by decide) (by decide) ?_
      show Steps p.tables e below (T271.setTop (mkF m 98 #[.val (.int v0), .val (.long v1), .second, .val (.long v3), .second, .val (.long v5), .second, .val (.long v7), .second, .val (.long v9), .second, .val (.long v11), .second, .val (.long v13), .second, .val (.long v15), .second, .val (.long v17), .second, .val (.long v19), .second, .val (.int v21), .val .null, d23, d24] [(.long (v0.toInt64)), (.ref c271), (.ref c271)])) t
      refine XS.iconst X271.here hx rfl (hb hby at_98) ?_
      exact k
    exact b_law_99 cx X271 e271 N K271_ z271 O271 c271 v1 v3 v5 v7 v11 v13 v15 v17 v19 v21 (0 : Int32) (v0.toInt64) (0 : Int64) (0 : Int64) (0 : Int32) (0 : Int64) (0 : Int64) (0 : Int64) (0 : Int64) (0 : Int64) (0 : Int64) (.val (.int v0)) v9 d23 d24 (One.val rfl) o_d23 o_d24 A271 F271_c271_conflicts F271_c271_early F271_c271_firstFinding F271_c271_fixedPlacement F271_c271_flowspanNs F271_c271_frames F271_c271_missing F271_c271_order F271_c271_waitingNs F271_c271_window g271_c271 nE271_c271 _ hF
  · rw [if_neg hc91] at hF
    refine own_Goes.via (B := T271.setTop (mkF m 99 #[.val (.int v0), .val (.long v1), .second, .val (.long v3), .second, .val (.long v5), .second, .val (.long v7), .second, .val (.long v9), .second, .val (.long v11), .second, .val (.long v13), .second, .val (.long v15), .second, .val (.long v17), .second, .val (.long v19), .second, .val (.int v21), .val .null, d23, d24] [(.int (1 : Int32)), (.long (v0.toInt64)), (.ref c271), (.ref c271)])) (fun t k => ?_) ?_
    · show Steps p.tables e below (T271.setTop (mkF m 91 #[.val (.int v0), .val (.long v1), .second, .val (.long v3), .second, .val (.long v5), .second, .val (.long v7), .second, .val (.long v9), .second, .val (.long v11), .second, .val (.long v13), .second, .val (.long v15), .second, .val (.long v17), .second, .val (.long v19), .second, .val (.int v21), .val .null, d23, d24] [(.int (((v0.toUInt32 >>> ((5 : Int32) &&& 31).toUInt32).toInt32) &&& (1 : Int32))), (.long (v0.toInt64)), (.ref c271), (.ref c271)])) t
      refine XS.ifNo X271.here hx rfl (hb hby at_91) rfl ((if0 _ _).trans (feq hc91).1) ?_
      show Steps p.tables e below (T271.setTop (mkF m 94 #[.val (.int v0), .val (.long v1), .second, .val (.long v3), .second, .val (.long v5), .second, .val (.long v7), .second, .val (.long v9), .second, .val (.long v11), .second, .val (.long v13), .second, .val (.long v15), .second, .val (.long v17), .second, .val (.long v19), .second, .val (.int v21), .val .null, d23, d24] [(.long (v0.toInt64)), (.ref c271), (.ref c271)])) t
      refine XS.iconst X271.here hx rfl (hb hby at_94) ?_
      show Steps p.tables e below (T271.setTop (mkF m 95 #[.val (.int v0), .val (.long v1), .second, .val (.long v3), .second, .val (.long v5), .second, .val (.long v7), .second, .val (.long v9), .second, .val (.long v11), .second, .val (.long v13), .second, .val (.long v15), .second, .val (.long v17), .second, .val (.long v19), .second, .val (.int v21), .val .null, d23, d24] [(.int (1 : Int32)), (.long (v0.toInt64)), (.ref c271), (.ref c271)])) t
      refine XS.goto X271.here hx rfl (pc0 := 95) (pc' := 99) rfl (hb hby at_95) (by decide) (by decide) ?_
      exact k
    exact b_law_99 cx X271 e271 N K271_ z271 O271 c271 v1 v3 v5 v7 v11 v13 v15 v17 v19 v21 (1 : Int32) (v0.toInt64) (0 : Int64) (0 : Int64) (0 : Int32) (0 : Int64) (0 : Int64) (0 : Int64) (0 : Int64) (0 : Int64) (0 : Int64) (.val (.int v0)) v9 d23 d24 (One.val rfl) o_d23 o_d24 A271 F271_c271_conflicts F271_c271_early F271_c271_firstFinding F271_c271_fixedPlacement F271_c271_flowspanNs F271_c271_frames F271_c271_missing F271_c271_order F271_c271_waitingNs F271_c271_window g271_c271 nE271_c271 _ hF
set_option maxRecDepth 65536 in
set_option maxHeartbeats 4000000 in
theorem b_law_99v2 {p : Program} {l : Launch} {e : Env} {s : State} {m : MethodId} {args : Array Value} {below : List Frame} {meth : Method} {c : Code} {Z : State} {a0 : Array Value} {n0 : Nat} {hE : Heap} (cx : Cx_law p s m meth c Z a0) :
    ∀ {T : State} {locs : List Loc} {h : Heap} (X : Stand p l e room_1 s m args below meth c T locs 3 15) (eT : T.heap = h) (N : Fr n0 locs) (K : Keep hE h []) (z : n0 ≤ h.size) (O : Old Z n0 h) (b1 : Addr) (b2 : Addr) (b3 : Addr) (v1 : Int64) (v3 : Int64) (v5 : Int64) (v7 : Int64) (v11 : Int64) (v13 : Int64) (v15 : Int64) (v17 : Int64) (v19 : Int64) (v21 : Int32) (t0 : Int32) (t1 : Int64) (f_b1_coder : Int32) (bs_b2 : List Int32) (f_b3_conflicts : Int64) (f_b3_early : Int64) (f_b3_fixedPlacement : Int32) (f_b3_flowspanNs : Int64) (f_b3_frames : Int64) (f_b3_missing : Int64) (f_b3_order : Int64) (f_b3_waitingNs : Int64) (f_b3_window : Int64) (d0 : Slot) (v9 : Int64) (d23 : Slot) (d24 : Slot) (o_d0 : One d0) (o_d23 : One d23) (o_d24 : One d24) (E_b1 : Exa Z h b1 "java/lang/String") (F_b1_coder : Fld Z h b1 "java/lang/String" "coder" "B" (.int f_b1_coder)) (F_b1_value : Fld Z h b1 "java/lang/String" "value" "[B" (.ref b2)) (g_b1 : n0 ≤ b1) (nE_b1 : hE.size ≤ b1) (A_b2 : own_Ar Z h b2 .byte (bs_b2.map Value.int)) (g_b2 : n0 ≤ b2) (nE_b2 : hE.size ≤ b2) (E_b3 : Exa Z h b3 "com/example/no_wait_scheduler/nowaitscheduler/verify/Summary") (F_b3_conflicts : Fld Z h b3 "com/example/no_wait_scheduler/nowaitscheduler/verify/Summary" "conflicts" "J" (.long f_b3_conflicts)) (F_b3_early : Fld Z h b3 "com/example/no_wait_scheduler/nowaitscheduler/verify/Summary" "early" "J" (.long f_b3_early)) (F_b3_firstFinding : Fld Z h b3 "com/example/no_wait_scheduler/nowaitscheduler/verify/Summary" "firstFinding" "Ljava/lang/String;" .null) (F_b3_fixedPlacement : Fld Z h b3 "com/example/no_wait_scheduler/nowaitscheduler/verify/Summary" "fixedPlacement" "Z" (.int f_b3_fixedPlacement)) (F_b3_flowspanNs : Fld Z h b3 "com/example/no_wait_scheduler/nowaitscheduler/verify/Summary" "flowspanNs" "J" (.long f_b3_flowspanNs)) (F_b3_frames : Fld Z h b3 "com/example/no_wait_scheduler/nowaitscheduler/verify/Summary" "frames" "J" (.long f_b3_frames)) (F_b3_missing : Fld Z h b3 "com/example/no_wait_scheduler/nowaitscheduler/verify/Summary" "missing" "J" (.long f_b3_missing)) (F_b3_order : Fld Z h b3 "com/example/no_wait_scheduler/nowaitscheduler/verify/Summary" "order" "J" (.long f_b3_order)) (F_b3_waitingNs : Fld Z h b3 "com/example/no_wait_scheduler/nowaitscheduler/verify/Summary" "waitingNs" "J" (.long f_b3_waitingNs)) (F_b3_window : Fld Z h b3 "com/example/no_wait_scheduler/nowaitscheduler/verify/Summary" "window" "J" (.long f_b3_window)) (g_b3 : n0 ≤ b3) (nE_b3 : hE.size ≤ b3) (ne_b1_b2 : b1 ≠ b2) (ne_b1_b3 : b1 ≠ b3) (ne_b2_b3 : b2 ≠ b3) (r : Int32), f_law_99v2 v1 v3 v5 v7 v11 v13 v15 v17 v19 v21 t0 t1 f_b1_coder bs_b2 f_b3_conflicts f_b3_early f_b3_fixedPlacement f_b3_flowspanNs f_b3_frames f_b3_missing f_b3_order f_b3_waitingNs f_b3_window = some r → own_Goes p e below s (Q_law Z hE n0 r) 3 15 (T.setTop (mkF m 99 #[d0, .val (.long v1), .second, .val (.long v3), .second, .val (.long v5), .second, .val (.long v7), .second, .val (.long v9), .second, .val (.long v11), .second, .val (.long v13), .second, .val (.long v15), .second, .val (.long v17), .second, .val (.long v19), .second, .val (.int v21), .val (.ref b1), d23, d24] [(.int t0), (.long t1), (.ref b3), (.ref b3)])) := by
  have cx' := cx
  obtain ⟨hx, hZ, hw, hby, hml, hown, hret, hlk, hnm, hcs⟩ := cx'
  intro T locs h X eT N K z O b1 b2 b3 v1 v3 v5 v7 v11 v13 v15 v17 v19 v21 t0 t1 f_b1_coder bs_b2 f_b3_conflicts f_b3_early f_b3_fixedPlacement f_b3_flowspanNs f_b3_frames f_b3_missing f_b3_order f_b3_waitingNs f_b3_window d0 v9 d23 d24 o_d0 o_d23 o_d24 E_b1 F_b1_coder F_b1_value g_b1 nE_b1 A_b2 g_b2 nE_b2 E_b3 F_b3_conflicts F_b3_early F_b3_firstFinding F_b3_fixedPlacement F_b3_flowspanNs F_b3_frames F_b3_missing F_b3_order F_b3_waitingNs F_b3_window g_b3 nE_b3 ne_b1_b2 ne_b1_b3 ne_b2_b3 r hF
  unfold f_law_99v2 at hF
  refine own_Goes.via (B := T.setTop (mkF m 119 #[d0, .val (.long v1), .second, .val (.long v3), .second, .val (.long v5), .second, .val (.long v7), .second, .val (.long v9), .second, .val (.long v11), .second, .val (.long v13), .second, .val (.long v15), .second, .val (.long v17), .second, .val (.long v19), .second, .val (.int v21), .val (.ref b1), d23, d24] [(.ref b1), (.long (v5 - v7)), (.long (v1 ^^^ v3)), (.long v19), (.long v17), (.long v15), (.long v13), (.long v11), (.int t0), (.long t1), (.ref b3), (.ref b3)])) (fun t k => ?_) ?_
  · show Steps p.tables e below (T.setTop (mkF m 99 #[d0, .val (.long v1), .second, .val (.long v3), .second, .val (.long v5), .second, .val (.long v7), .second, .val (.long v9), .second, .val (.long v11), .second, .val (.long v13), .second, .val (.long v15), .second, .val (.long v17), .second, .val (.long v19), .second, .val (.int v21), .val (.ref b1), d23, d24] [(.int t0), (.long t1), (.ref b3), (.ref b3)])) t
    refine XS.lload X.here hx rfl (hb hby at_99) rfl ?_
    show Steps p.tables e below (T.setTop (mkF m 101 #[d0, .val (.long v1), .second, .val (.long v3), .second, .val (.long v5), .second, .val (.long v7), .second, .val (.long v9), .second, .val (.long v11), .second, .val (.long v13), .second, .val (.long v15), .second, .val (.long v17), .second, .val (.long v19), .second, .val (.int v21), .val (.ref b1), d23, d24] [(.long v11), (.int t0), (.long t1), (.ref b3), (.ref b3)])) t
    refine XS.lload X.here hx rfl (hb hby at_101) rfl ?_
    show Steps p.tables e below (T.setTop (mkF m 103 #[d0, .val (.long v1), .second, .val (.long v3), .second, .val (.long v5), .second, .val (.long v7), .second, .val (.long v9), .second, .val (.long v11), .second, .val (.long v13), .second, .val (.long v15), .second, .val (.long v17), .second, .val (.long v19), .second, .val (.int v21), .val (.ref b1), d23, d24] [(.long v13), (.long v11), (.int t0), (.long t1), (.ref b3), (.ref b3)])) t
    refine XS.lload X.here hx rfl (hb hby at_103) rfl ?_
    show Steps p.tables e below (T.setTop (mkF m 105 #[d0, .val (.long v1), .second, .val (.long v3), .second, .val (.long v5), .second, .val (.long v7), .second, .val (.long v9), .second, .val (.long v11), .second, .val (.long v13), .second, .val (.long v15), .second, .val (.long v17), .second, .val (.long v19), .second, .val (.int v21), .val (.ref b1), d23, d24] [(.long v15), (.long v13), (.long v11), (.int t0), (.long t1), (.ref b3), (.ref b3)])) t
    refine XS.lload X.here hx rfl (hb hby at_105) rfl ?_
    show Steps p.tables e below (T.setTop (mkF m 107 #[d0, .val (.long v1), .second, .val (.long v3), .second, .val (.long v5), .second, .val (.long v7), .second, .val (.long v9), .second, .val (.long v11), .second, .val (.long v13), .second, .val (.long v15), .second, .val (.long v17), .second, .val (.long v19), .second, .val (.int v21), .val (.ref b1), d23, d24] [(.long v17), (.long v15), (.long v13), (.long v11), (.int t0), (.long t1), (.ref b3), (.ref b3)])) t
    refine XS.lload X.here hx rfl (hb hby at_107) rfl ?_
    show Steps p.tables e below (T.setTop (mkF m 109 #[d0, .val (.long v1), .second, .val (.long v3), .second, .val (.long v5), .second, .val (.long v7), .second, .val (.long v9), .second, .val (.long v11), .second, .val (.long v13), .second, .val (.long v15), .second, .val (.long v17), .second, .val (.long v19), .second, .val (.int v21), .val (.ref b1), d23, d24] [(.long v19), (.long v17), (.long v15), (.long v13), (.long v11), (.int t0), (.long t1), (.ref b3), (.ref b3)])) t
    refine XS.lloadN X.here hx rfl (hb hby at_109) rfl ?_
    show Steps p.tables e below (T.setTop (mkF m 110 #[d0, .val (.long v1), .second, .val (.long v3), .second, .val (.long v5), .second, .val (.long v7), .second, .val (.long v9), .second, .val (.long v11), .second, .val (.long v13), .second, .val (.long v15), .second, .val (.long v17), .second, .val (.long v19), .second, .val (.int v21), .val (.ref b1), d23, d24] [(.long v1), (.long v19), (.long v17), (.long v15), (.long v13), (.long v11), (.int t0), (.long t1), (.ref b3), (.ref b3)])) t
    refine XS.lloadN X.here hx rfl (hb hby at_110) rfl ?_
    show Steps p.tables e below (T.setTop (mkF m 111 #[d0, .val (.long v1), .second, .val (.long v3), .second, .val (.long v5), .second, .val (.long v7), .second, .val (.long v9), .second, .val (.long v11), .second, .val (.long v13), .second, .val (.long v15), .second, .val (.long v17), .second, .val (.long v19), .second, .val (.int v21), .val (.ref b1), d23, d24] [(.long v3), (.long v1), (.long v19), (.long v17), (.long v15), (.long v13), (.long v11), (.int t0), (.long t1), (.ref b3), (.ref b3)])) t
    refine XS.lxor X.here hx rfl (hb hby at_111) rfl ?_
    show Steps p.tables e below (T.setTop (mkF m 112 #[d0, .val (.long v1), .second, .val (.long v3), .second, .val (.long v5), .second, .val (.long v7), .second, .val (.long v9), .second, .val (.long v11), .second, .val (.long v13), .second, .val (.long v15), .second, .val (.long v17), .second, .val (.long v19), .second, .val (.int v21), .val (.ref b1), d23, d24] [(.long (v1 ^^^ v3)), (.long v19), (.long v17), (.long v15), (.long v13), (.long v11), (.int t0), (.long t1), (.ref b3), (.ref b3)])) t
    refine XS.lload X.here hx rfl (hb hby at_112) rfl ?_
    show Steps p.tables e below (T.setTop (mkF m 114 #[d0, .val (.long v1), .second, .val (.long v3), .second, .val (.long v5), .second, .val (.long v7), .second, .val (.long v9), .second, .val (.long v11), .second, .val (.long v13), .second, .val (.long v15), .second, .val (.long v17), .second, .val (.long v19), .second, .val (.int v21), .val (.ref b1), d23, d24] [(.long v5), (.long (v1 ^^^ v3)), (.long v19), (.long v17), (.long v15), (.long v13), (.long v11), (.int t0), (.long t1), (.ref b3), (.ref b3)])) t
    refine XS.lload X.here hx rfl (hb hby at_114) rfl ?_
    show Steps p.tables e below (T.setTop (mkF m 116 #[d0, .val (.long v1), .second, .val (.long v3), .second, .val (.long v5), .second, .val (.long v7), .second, .val (.long v9), .second, .val (.long v11), .second, .val (.long v13), .second, .val (.long v15), .second, .val (.long v17), .second, .val (.long v19), .second, .val (.int v21), .val (.ref b1), d23, d24] [(.long v7), (.long v5), (.long (v1 ^^^ v3)), (.long v19), (.long v17), (.long v15), (.long v13), (.long v11), (.int t0), (.long t1), (.ref b3), (.ref b3)])) t
    refine XS.lsub X.here hx rfl (hb hby at_116) rfl ?_
    show Steps p.tables e below (T.setTop (mkF m 117 #[d0, .val (.long v1), .second, .val (.long v3), .second, .val (.long v5), .second, .val (.long v7), .second, .val (.long v9), .second, .val (.long v11), .second, .val (.long v13), .second, .val (.long v15), .second, .val (.long v17), .second, .val (.long v19), .second, .val (.int v21), .val (.ref b1), d23, d24] [(.long (v5 - v7)), (.long (v1 ^^^ v3)), (.long v19), (.long v17), (.long v15), (.long v13), (.long v11), (.int t0), (.long t1), (.ref b3), (.ref b3)])) t
    refine XS.aload X.here hx rfl (hb hby at_117) rfl rfl ?_
    exact k
  obtain ⟨x280, hx280, hF⟩ := own_lt_e hF
  rw [← hx280]
  obtain ⟨x281, hx281, hF⟩ := own_lt_e hF
  rw [← hx281]
  obtain ⟨r282, hr282, hF⟩ := own_bd_e hF
  obtain ⟨_, _, ⟨T282, L282, k282, n282⟩, -, X282, ⟨Lc282, hQ282, l282, y282, z282⟩, st282⟩ := X.specialBack hx (y := (⟨"com/example/no_wait_scheduler/nowaitscheduler/verify/Summary", "<init>", "(JZJJJJJJJLjava/lang/String;)V"⟩ : MethodName)) rfl hown (mvT hZ (w7 hw)) (mvT hZ (w8 hw)) (mvT hZ (w9 hw)) (by decide) (backOf (W := 1) (rm_Summary_mk_i2 l Z a0 hw [] h n0 z hcs O b3 b1 b2 t1 t0 v11 v13 v15 v17 v19 x281 x280 f_b3_conflicts f_b3_early f_b3_fixedPlacement f_b3_flowspanNs f_b3_frames f_b3_missing f_b3_order f_b3_waitingNs f_b3_window f_b1_coder bs_b2 E_b3 F_b3_conflicts F_b3_early F_b3_firstFinding F_b3_fixedPlacement F_b3_flowspanNs F_b3_frames F_b3_missing F_b3_order F_b3_waitingNs F_b3_window g_b3 E_b1 F_b1_coder F_b1_value g_b1 A_b2 g_b2 (Ne.symm ne_b1_b3) (Ne.symm ne_b2_b3) ne_b1_b2 r282 hr282) hZ (w9 hw) (w6 hw) (by decide) (by decide)) (g := (mkF m 119 #[d0, .val (.long v1), .second, .val (.long v3), .second, .val (.long v5), .second, .val (.long v7), .second, .val (.long v9), .second, .val (.long v11), .second, .val (.long v13), .second, .val (.long v15), .second, .val (.long v17), .second, .val (.long v19), .second, .val (.int v21), .val (.ref b1), d23, d24] [(.ref b1), (.long x280), (.long x281), (.long v19), (.long v17), (.long v15), (.long v13), (.long v11), (.int t0), (.long t1), (.ref b3), (.ref b3)])) rfl (by rw [hml]; rfl) (Steps.refl _) (a := b3) (argsL := [(.long t1), (.int t0), (.long v11), (.long v13), (.long v15), (.long v17), (.long v19), (.long x281), (.long x280), (.ref b1)]) (rest := [(.ref b3)]) (lenOf pd_1 rfl) rfl (by show 2 * 0 + _ ≤ _; exact Nat.le_of_eq rfl) (hb hby at_119) (fun _ _ => ⟨rfl, eT, (by decide : 3 + 0 ≤ _), (by decide : 15 + 0 ≤ _)⟩)
  dsimp only [Pt.U, Pt.locs, Pt.cells, Pt.slots] at X282 l282 y282 z282 st282 hQ282
  subst l282 y282 z282
  obtain ⟨rfl, N282q, K282, E282_b3, F282_b3_conflicts, F282_b3_early, F282_b3_firstFinding, F282_b3_fixedPlacement, F282_b3_flowspanNs, F282_b3_frames, F282_b3_missing, F282_b3_order, F282_b3_waitingNs, F282_b3_window⟩ := hQ282
  have N282 := Fr.app N N282q
  have E282_b1 := E_b1.keep K282
  have F282_b1_coder := F_b1_coder.keep K282 (ninS ne_b1_b3 nin0)
  have F282_b1_value := F_b1_value.keep K282 (ninS ne_b1_b3 nin0)
  have A282_b2 := A_b2.keep K282 (ninS ne_b2_b3 nin0)
  have O282 := O.keep K282 (allS g_b3 all0)
  have K282_ := K.trans K282 (allS (Or.inr nE_b3) all0)
  have z282_ := Nat.le_trans z K282.1
  refine own_Goes.tr st282 ?_
  show own_Goes _ _ _ _ _ _ _ (T282.setTop (mkF m 122 #[d0, .val (.long v1), .second, .val (.long v3), .second, .val (.long v5), .second, .val (.long v7), .second, .val (.long v9), .second, .val (.long v11), .second, .val (.long v13), .second, .val (.long v15), .second, .val (.long v17), .second, .val (.long v19), .second, .val (.int v21), .val (.ref b1), d23, d24] [(.ref b3)]))
  refine own_Goes.via (B := T282.setTop (mkF m 126 #[d0, .val (.long v1), .second, .val (.long v3), .second, .val (.long v5), .second, .val (.long v7), .second, .val (.long v9), .second, .val (.long v11), .second, .val (.long v13), .second, .val (.long v15), .second, .val (.long v17), .second, .val (.long v19), .second, .val (.int v21), .val (.ref b1), .val (.ref b3), d24] [(.ref b3)])) (fun t k => ?_) ?_
  · show Steps p.tables e below (T282.setTop (mkF m 122 #[d0, .val (.long v1), .second, .val (.long v3), .second, .val (.long v5), .second, .val (.long v7), .second, .val (.long v9), .second, .val (.long v11), .second, .val (.long v13), .second, .val (.long v15), .second, .val (.long v17), .second, .val (.long v19), .second, .val (.int v21), .val (.ref b1), d23, d24] [(.ref b3)])) t
    refine XS.astoreS X282.here hx rfl (hb hby at_122) rfl rfl rfl rfl o_d23 ?_
    show Steps p.tables e below (T282.setTop (mkF m 124 #[d0, .val (.long v1), .second, .val (.long v3), .second, .val (.long v5), .second, .val (.long v7), .second, .val (.long v9), .second, .val (.long v11), .second, .val (.long v13), .second, .val (.long v15), .second, .val (.long v17), .second, .val (.long v19), .second, .val (.int v21), .val (.ref b1), .val (.ref b3), d24] [])) t
    refine XS.aload X282.here hx rfl (hb hby at_124) rfl rfl ?_
    exact k
  obtain ⟨r283, hr283, hF⟩ := own_bd_e hF
  obtain ⟨cq283, kq283, q283a, q283b, q283c⟩ := isOf hZ rfl E282_b3
  obtain ⟨_, _, ⟨T283, L283, k283, n283⟩, -, X283, ⟨Lc283, hQ283, l283, y283, z283⟩, st283⟩ := X282.virtualBack hx (y := (⟨"com/example/no_wait_scheduler/nowaitscheduler/verify/Summary", "passes", "()Z"⟩ : MethodName)) (z := (⟨"com/example/no_wait_scheduler/nowaitscheduler/verify/Summary", "passes", "()Z"⟩ : MethodName)) hown (mvT hZ (w33 hw)) (mvT hZ (w34 hw)) (notFace_of_selects (args := #[]) (mvT hZ (w36 hw))) (mvT hZ (w36 hw)) (mvT hZ (w35 hw)) (by decide) (backOf (W := 0) (rm_Summary_passes_i2 l Z a0 hw [] T282.heap n0 z282_ hcs O282 b3 b1 b2 r282.1 r282.2.1 r282.2.2.1 r282.2.2.2.1 r282.2.2.2.2.1 r282.2.2.2.2.2.1 r282.2.2.2.2.2.2.1 r282.2.2.2.2.2.2.2.1 r282.2.2.2.2.2.2.2.2 f_b1_coder bs_b2 E282_b3 F282_b3_conflicts F282_b3_early F282_b3_firstFinding F282_b3_fixedPlacement F282_b3_flowspanNs F282_b3_frames F282_b3_missing F282_b3_order F282_b3_waitingNs F282_b3_window g_b3 E282_b1 F282_b1_coder F282_b1_value g_b1 A282_b2 g_b2 (Ne.symm ne_b1_b3) (Ne.symm ne_b2_b3) ne_b1_b2 r283 hr283) hZ (w37 hw) (w6 hw) (by decide) (by decide)) q283a q283c (g := (mkF m 126 #[d0, .val (.long v1), .second, .val (.long v3), .second, .val (.long v5), .second, .val (.long v7), .second, .val (.long v9), .second, .val (.long v11), .second, .val (.long v13), .second, .val (.long v15), .second, .val (.long v17), .second, .val (.long v19), .second, .val (.int v21), .val (.ref b1), .val (.ref b3), d24] [(.ref b3)])) rfl (by rw [hml]; rfl) (Steps.refl _) (argsL := []) (rest := []) (lenOf pd_2 rfl) rfl (by show 2 * 0 + _ ≤ _; exact Nat.le_of_eq rfl) (hb hby at_126) (fun _ _ => ⟨rfl, rfl, (by decide : 3 + 0 ≤ _), (by decide : 15 + 0 ≤ _)⟩)
  dsimp only [Pt.U, Pt.locs, Pt.cells, Pt.slots] at X283 l283 y283 z283 st283 hQ283
  subst l283 y283 z283
  obtain ⟨rfl, N283q, e283⟩ := hQ283
  have N283 := Fr.app N282 N283q
  refine own_Goes.tr st283 ?_
  show own_Goes _ _ _ _ _ _ _ (T283.setTop (mkF m 129 #[d0, .val (.long v1), .second, .val (.long v3), .second, .val (.long v5), .second, .val (.long v7), .second, .val (.long v9), .second, .val (.long v11), .second, .val (.long v13), .second, .val (.long v15), .second, .val (.long v17), .second, .val (.long v19), .second, .val (.int v21), .val (.ref b1), .val (.ref b3), d24] [(.int r283)]))
  refine own_Goes.via (B := T283.setTop (mkF m 135 #[d0, .val (.long v1), .second, .val (.long v3), .second, .val (.long v5), .second, .val (.long v7), .second, .val (.long v9), .second, .val (.long v11), .second, .val (.long v13), .second, .val (.long v15), .second, .val (.long v17), .second, .val (.long v19), .second, .val (.int v21), .val (.ref b1), .val (.ref b3), .val (.int r283)] [(.int v21), (.int r283)])) (fun t k => ?_) ?_
  · show Steps p.tables e below (T283.setTop (mkF m 129 #[d0, .val (.long v1), .second, .val (.long v3), .second, .val (.long v5), .second, .val (.long v7), .second, .val (.long v9), .second, .val (.long v11), .second, .val (.long v13), .second, .val (.long v15), .second, .val (.long v17), .second, .val (.long v19), .second, .val (.int v21), .val (.ref b1), .val (.ref b3), d24] [(.int r283)])) t
    refine XS.istoreS X283.here hx rfl (hb hby at_129) rfl rfl o_d24 ?_
    show Steps p.tables e below (T283.setTop (mkF m 131 #[d0, .val (.long v1), .second, .val (.long v3), .second, .val (.long v5), .second, .val (.long v7), .second, .val (.long v9), .second, .val (.long v11), .second, .val (.long v13), .second, .val (.long v15), .second, .val (.long v17), .second, .val (.long v19), .second, .val (.int v21), .val (.ref b1), .val (.ref b3), .val (.int r283)] [])) t
    refine XS.iload X283.here hx rfl (hb hby at_131) rfl ?_
    show Steps p.tables e below (T283.setTop (mkF m 133 #[d0, .val (.long v1), .second, .val (.long v3), .second, .val (.long v5), .second, .val (.long v7), .second, .val (.long v9), .second, .val (.long v11), .second, .val (.long v13), .second, .val (.long v15), .second, .val (.long v17), .second, .val (.long v19), .second, .val (.int v21), .val (.ref b1), .val (.ref b3), .val (.int r283)] [(.int r283)])) t
    refine XS.iload X283.here hx rfl (hb hby at_133) rfl ?_
    exact k
  by_cases hc135 : r283 = v21
  · rw [if_pos hc135] at hF
    refine own_Goes.via (B := T283.setTop (mkF m 142 #[d0, .val (.long v1), .second, .val (.long v3), .second, .val (.long v5), .second, .val (.long v7), .second, .val (.long v9), .second, .val (.long v11), .second, .val (.long v13), .second, .val (.long v15), .second, .val (.long v17), .second, .val (.long v19), .second, .val (.int v21), .val (.ref b1), .val (.ref b3), .val (.int r283)] [(.ref b3), (.int r283)])) (fun t k => ?_) ?_
    · show Steps p.tables e below (T283.setTop (mkF m 135 #[d0, .val (.long v1), .second, .val (.long v3), .second, .val (.long v5), .second, .val (.long v7), .second, .val (.long v9), .second, .val (.long v11), .second, .val (.long v13), .second, .val (.long v15), .second, .val (.long v17), .second, .val (.long v19), .second, .val (.int v21), .val (.ref b1), .val (.ref b3), .val (.int r283)] [(.int v21), (.int r283)])) t
      refine XS.icmpNo X283.here hx rfl (hb hby at_135) rfl (teq hc135).2 ?_
      show Steps p.tables e below (T283.setTop (mkF m 138 #[d0, .val (.long v1), .second, .val (.long v3), .second, .val (.long v5), .second, .val (.long v7), .second, .val (.long v9), .second, .val (.long v11), .second, .val (.long v13), .second, .val (.long v15), .second, .val (.long v17), .second, .val (.long v19), .second, .val (.int v21), .val (.ref b1), .val (.ref b3), .val (.int r283)] [])) t
      refine XS.iload X283.here hx rfl (hb hby at_138) rfl ?_
      show Steps p.tables e below (T283.setTop (mkF m 140 #[d0, .val (.long v1), .second, .val (.long v3), .second, .val (.long v5), .second, .val (.long v7), .second, .val (.long v9), .second, .val (.long v11), .second, .val (.long v13), .second, .val (.long v15), .second, .val (.long v17), .second, .val (.long v19), .second, .val (.int v21), .val (.ref b1), .val (.ref b3), .val (.int r283)] [(.int r283)])) t
      refine XS.aload X283.here hx rfl (hb hby at_140) rfl rfl ?_
      exact k
    obtain ⟨r284, hr284, hF⟩ := own_bd_e hF
    obtain ⟨cq284, kq284, q284a, q284b, q284c⟩ := isOf hZ e283 E282_b3
    obtain ⟨_, _, ⟨T284, L284, k284, n284⟩, -, X284, ⟨Lc284, hQ284, l284, y284, z284⟩, st284⟩ := X283.virtualBack hx (y := (⟨"com/example/no_wait_scheduler/nowaitscheduler/verify/Summary", "findings", "()J"⟩ : MethodName)) (z := (⟨"com/example/no_wait_scheduler/nowaitscheduler/verify/Summary", "findings", "()J"⟩ : MethodName)) hown (mvT hZ (w38 hw)) (mvT hZ (w39 hw)) (notFace_of_selects (args := #[]) (mvT hZ (w41 hw))) (mvT hZ (w41 hw)) (mvT hZ (w40 hw)) (by decide) (backOf (W := 1) (rm_Summary_findings_i2 l Z a0 hw [] T282.heap n0 z282_ hcs O282 b3 b1 b2 r282.1 r282.2.1 r282.2.2.1 r282.2.2.2.1 r282.2.2.2.2.1 r282.2.2.2.2.2.1 r282.2.2.2.2.2.2.1 r282.2.2.2.2.2.2.2.1 r282.2.2.2.2.2.2.2.2 f_b1_coder bs_b2 E282_b3 F282_b3_conflicts F282_b3_early F282_b3_firstFinding F282_b3_fixedPlacement F282_b3_flowspanNs F282_b3_frames F282_b3_missing F282_b3_order F282_b3_waitingNs F282_b3_window g_b3 E282_b1 F282_b1_coder F282_b1_value g_b1 A282_b2 g_b2 (Ne.symm ne_b1_b3) (Ne.symm ne_b2_b3) ne_b1_b2 r284 hr284) hZ (w42 hw) (w6 hw) (by decide) (by decide)) q284a q284c (g := (mkF m 142 #[d0, .val (.long v1), .second, .val (.long v3), .second, .val (.long v5), .second, .val (.long v7), .second, .val (.long v9), .second, .val (.long v11), .second, .val (.long v13), .second, .val (.long v15), .second, .val (.long v17), .second, .val (.long v19), .second, .val (.int v21), .val (.ref b1), .val (.ref b3), .val (.int r283)] [(.ref b3), (.int r283)])) rfl (by rw [hml]; rfl) (Steps.refl _) (argsL := []) (rest := [(.int r283)]) (lenOf pd_3 rfl) rfl (by show 2 * 0 + _ ≤ _; exact Nat.le_of_eq rfl) (hb hby at_142) (fun _ _ => ⟨rfl, e283, (by decide : 3 + 0 ≤ _), (by decide : 15 + 0 ≤ _)⟩)
    dsimp only [Pt.U, Pt.locs, Pt.cells, Pt.slots] at X284 l284 y284 z284 st284 hQ284
    subst l284 y284 z284
    obtain ⟨rfl, N284q, e284⟩ := hQ284
    have N284 := Fr.app N283 N284q
    refine own_Goes.tr st284 ?_
    show own_Goes _ _ _ _ _ _ _ (T284.setTop (mkF m 145 #[d0, .val (.long v1), .second, .val (.long v3), .second, .val (.long v5), .second, .val (.long v7), .second, .val (.long v9), .second, .val (.long v11), .second, .val (.long v13), .second, .val (.long v15), .second, .val (.long v17), .second, .val (.long v19), .second, .val (.int v21), .val (.ref b1), .val (.ref b3), .val (.int r283)] [(.long r284), (.int r283)]))
    refine own_Goes.via (B := T284.setTop (mkF m 147 #[d0, .val (.long v1), .second, .val (.long v3), .second, .val (.long v5), .second, .val (.long v7), .second, .val (.long v9), .second, .val (.long v11), .second, .val (.long v13), .second, .val (.long v15), .second, .val (.long v17), .second, .val (.long v19), .second, .val (.int v21), .val (.ref b1), .val (.ref b3), .val (.int r283)] [(.int (lcmpW r284 (0 : Int64))), (.int r283)])) (fun t k => ?_) ?_
    · show Steps p.tables e below (T284.setTop (mkF m 145 #[d0, .val (.long v1), .second, .val (.long v3), .second, .val (.long v5), .second, .val (.long v7), .second, .val (.long v9), .second, .val (.long v11), .second, .val (.long v13), .second, .val (.long v15), .second, .val (.long v17), .second, .val (.long v19), .second, .val (.int v21), .val (.ref b1), .val (.ref b3), .val (.int r283)] [(.long r284), (.int r283)])) t
      refine XS.lconst X284.here hx rfl (hb hby at_145) ?_
      show Steps p.tables e below (T284.setTop (mkF m 146 #[d0, .val (.long v1), .second, .val (.long v3), .second, .val (.long v5), .second, .val (.long v7), .second, .val (.long v9), .second, .val (.long v11), .second, .val (.long v13), .second, .val (.long v15), .second, .val (.long v17), .second, .val (.long v19), .second, .val (.int v21), .val (.ref b1), .val (.ref b3), .val (.int r283)] [(.long (0 : Int64)), (.long r284), (.int r283)])) t
      refine XS.lcmp X284.here hx rfl (hb hby at_146) rfl ?_
      exact k
    by_cases hc147 : r284 = (0 : Int64)
    · rw [if_pos hc147] at hF
      refine own_Goes.via (B := T284.setTop (mkF m 155 #[d0, .val (.long v1), .second, .val (.long v3), .second, .val (.long v5), .second, .val (.long v7), .second, .val (.long v9), .second, .val (.long v11), .second, .val (.long v13), .second, .val (.long v15), .second, .val (.long v17), .second, .val (.long v19), .second, .val (.int v21), .val (.ref b1), .val (.ref b3), .val (.int r283)] [(.int (1 : Int32)), (.int r283)])) (fun t k => ?_) ?_
      · show Steps p.tables e below (T284.setTop (mkF m 147 #[d0, .val (.long v1), .second, .val (.long v3), .second, .val (.long v5), .second, .val (.long v7), .second, .val (.long v9), .second, .val (.long v11), .second, .val (.long v13), .second, .val (.long v15), .second, .val (.long v17), .second, .val (.long v19), .second, .val (.int v21), .val (.ref b1), .val (.ref b3), .val (.int r283)] [(.int (lcmpW r284 (0 : Int64))), (.int r283)])) t
        refine XS.ifNo X284.here hx rfl (hb hby at_147) rfl (own_teqL hc147).2 ?_
        show Steps p.tables e below (T284.setTop (mkF m 150 #[d0, .val (.long v1), .second, .val (.long v3), .second, .val (.long v5), .second, .val (.long v7), .second, .val (.long v9), .second, .val (.long v11), .second, .val (.long v13), .second, .val (.long v15), .second, .val (.long v17), .second, .val (.long v19), .second, .val (.int v21), .val (.ref b1), .val (.ref b3), .val (.int r283)] [(.int r283)])) t
        refine XS.iconst X284.here hx rfl (hb hby at_150) ?_
        show Steps p.tables e below (T284.setTop (mkF m 151 #[d0, .val (.long v1), .second, .val (.long v3), .second, .val (.long v5), .second, .val (.long v7), .second, .val (.long v9), .second, .val (.long v11), .second, .val (.long v13), .second, .val (.long v15), .second, .val (.long v17), .second, .val (.long v19), .second, .val (.int v21), .val (.ref b1), .val (.ref b3), .val (.int r283)] [(.int (1 : Int32)), (.int r283)])) t
        refine XS.goto X284.here hx rfl (pc0 := 151) (pc' := 155) rfl (hb hby at_151) (by decide) (by decide) ?_
        exact k
      by_cases hc155 : r283 = (1 : Int32)
      · rw [if_pos hc155] at hF
        refine own_Goes.via (B := T284.setTop (mkF m 163 #[d0, .val (.long v1), .second, .val (.long v3), .second, .val (.long v5), .second, .val (.long v7), .second, .val (.long v9), .second, .val (.long v11), .second, .val (.long v13), .second, .val (.long v15), .second, .val (.long v17), .second, .val (.long v19), .second, .val (.int v21), .val (.ref b1), .val (.ref b3), .val (.int r283)] [(.int (1 : Int32))])) (fun t k => ?_) ?_
        · show Steps p.tables e below (T284.setTop (mkF m 155 #[d0, .val (.long v1), .second, .val (.long v3), .second, .val (.long v5), .second, .val (.long v7), .second, .val (.long v9), .second, .val (.long v11), .second, .val (.long v13), .second, .val (.long v15), .second, .val (.long v17), .second, .val (.long v19), .second, .val (.int v21), .val (.ref b1), .val (.ref b3), .val (.int r283)] [(.int (1 : Int32)), (.int r283)])) t
          refine XS.icmpNo X284.here hx rfl (hb hby at_155) rfl (teq hc155).2 ?_
          show Steps p.tables e below (T284.setTop (mkF m 158 #[d0, .val (.long v1), .second, .val (.long v3), .second, .val (.long v5), .second, .val (.long v7), .second, .val (.long v9), .second, .val (.long v11), .second, .val (.long v13), .second, .val (.long v15), .second, .val (.long v17), .second, .val (.long v19), .second, .val (.int v21), .val (.ref b1), .val (.ref b3), .val (.int r283)] [])) t
          refine XS.iconst X284.here hx rfl (hb hby at_158) ?_
          show Steps p.tables e below (T284.setTop (mkF m 159 #[d0, .val (.long v1), .second, .val (.long v3), .second, .val (.long v5), .second, .val (.long v7), .second, .val (.long v9), .second, .val (.long v11), .second, .val (.long v13), .second, .val (.long v15), .second, .val (.long v17), .second, .val (.long v19), .second, .val (.int v21), .val (.ref b1), .val (.ref b3), .val (.int r283)] [(.int (1 : Int32))])) t
          refine XS.goto X284.here hx rfl (pc0 := 159) (pc' := 163) rfl (hb hby at_159) (by decide) (by decide) ?_
          exact k
        obtain rfl : (1 : Int32) = r := Option.some.inj hF
        exact own_retN X284 hx (t := .boolean) hret hlk (by simp) (hb hby at_163) e284 (v := (1 : Int32)) (by decide) ⟨rfl, N284, K282_⟩ (by decide) (by decide)
      · rw [if_neg hc155] at hF
        refine own_Goes.via (B := T284.setTop (mkF m 163 #[d0, .val (.long v1), .second, .val (.long v3), .second, .val (.long v5), .second, .val (.long v7), .second, .val (.long v9), .second, .val (.long v11), .second, .val (.long v13), .second, .val (.long v15), .second, .val (.long v17), .second, .val (.long v19), .second, .val (.int v21), .val (.ref b1), .val (.ref b3), .val (.int r283)] [(.int (0 : Int32))])) (fun t k => ?_) ?_
        · show Steps p.tables e below (T284.setTop (mkF m 155 #[d0, .val (.long v1), .second, .val (.long v3), .second, .val (.long v5), .second, .val (.long v7), .second, .val (.long v9), .second, .val (.long v11), .second, .val (.long v13), .second, .val (.long v15), .second, .val (.long v17), .second, .val (.long v19), .second, .val (.int v21), .val (.ref b1), .val (.ref b3), .val (.int r283)] [(.int (1 : Int32)), (.int r283)])) t
          refine XS.icmpYes X284.here hx rfl (pc0 := 155) (pc' := 162) rfl (hb hby at_155) rfl (feq hc155).2 (by decide) (by decide) ?_
          show Steps p.tables e below (T284.setTop (mkF m 162 #[d0, .val (.long v1), .second, .val (.long v3), .second, .val (.long v5), .second, .val (.long v7), .second, .val (.long v9), .second, .val (.long v11), .second, .val (.long v13), .second, .val (.long v15), .second, .val (.long v17), .second, .val (.long v19), .second, .val (.int v21), .val (.ref b1), .val (.ref b3), .val (.int r283)] [])) t
          refine XS.iconst X284.here hx rfl (hb hby at_162) ?_
          exact k
        obtain rfl : (0 : Int32) = r := Option.some.inj hF
        exact own_retN X284 hx (t := .boolean) hret hlk (by simp) (hb hby at_163) e284 (v := (0 : Int32)) (by decide) ⟨rfl, N284, K282_⟩ (by decide) (by decide)
    · rw [if_neg hc147] at hF
      refine own_Goes.via (B := T284.setTop (mkF m 155 #[d0, .val (.long v1), .second, .val (.long v3), .second, .val (.long v5), .second, .val (.long v7), .second, .val (.long v9), .second, .val (.long v11), .second, .val (.long v13), .second, .val (.long v15), .second, .val (.long v17), .second, .val (.long v19), .second, .val (.int v21), .val (.ref b1), .val (.ref b3), .val (.int r283)] [(.int (0 : Int32)), (.int r283)])) (fun t k => ?_) ?_
      · show Steps p.tables e below (T284.setTop (mkF m 147 #[d0, .val (.long v1), .second, .val (.long v3), .second, .val (.long v5), .second, .val (.long v7), .second, .val (.long v9), .second, .val (.long v11), .second, .val (.long v13), .second, .val (.long v15), .second, .val (.long v17), .second, .val (.long v19), .second, .val (.int v21), .val (.ref b1), .val (.ref b3), .val (.int r283)] [(.int (lcmpW r284 (0 : Int64))), (.int r283)])) t
        refine XS.ifYes X284.here hx rfl (pc0 := 147) (pc' := 154) rfl (hb hby at_147) rfl (own_feqL hc147).2 (by decide) (by decide) ?_
        show Steps p.tables e below (T284.setTop (mkF m 154 #[d0, .val (.long v1), .second, .val (.long v3), .second, .val (.long v5), .second, .val (.long v7), .second, .val (.long v9), .second, .val (.long v11), .second, .val (.long v13), .second, .val (.long v15), .second, .val (.long v17), .second, .val (.long v19), .second, .val (.int v21), .val (.ref b1), .val (.ref b3), .val (.int r283)] [(.int r283)])) t
        refine XS.iconst X284.here hx rfl (hb hby at_154) ?_
        exact k
      by_cases hc155 : r283 = (0 : Int32)
      · rw [if_pos hc155] at hF
        refine own_Goes.via (B := T284.setTop (mkF m 163 #[d0, .val (.long v1), .second, .val (.long v3), .second, .val (.long v5), .second, .val (.long v7), .second, .val (.long v9), .second, .val (.long v11), .second, .val (.long v13), .second, .val (.long v15), .second, .val (.long v17), .second, .val (.long v19), .second, .val (.int v21), .val (.ref b1), .val (.ref b3), .val (.int r283)] [(.int (1 : Int32))])) (fun t k => ?_) ?_
        · show Steps p.tables e below (T284.setTop (mkF m 155 #[d0, .val (.long v1), .second, .val (.long v3), .second, .val (.long v5), .second, .val (.long v7), .second, .val (.long v9), .second, .val (.long v11), .second, .val (.long v13), .second, .val (.long v15), .second, .val (.long v17), .second, .val (.long v19), .second, .val (.int v21), .val (.ref b1), .val (.ref b3), .val (.int r283)] [(.int (0 : Int32)), (.int r283)])) t
          refine XS.icmpNo X284.here hx rfl (hb hby at_155) rfl (teq hc155).2 ?_
          show Steps p.tables e below (T284.setTop (mkF m 158 #[d0, .val (.long v1), .second, .val (.long v3), .second, .val (.long v5), .second, .val (.long v7), .second, .val (.long v9), .second, .val (.long v11), .second, .val (.long v13), .second, .val (.long v15), .second, .val (.long v17), .second, .val (.long v19), .second, .val (.int v21), .val (.ref b1), .val (.ref b3), .val (.int r283)] [])) t
          refine XS.iconst X284.here hx rfl (hb hby at_158) ?_
          show Steps p.tables e below (T284.setTop (mkF m 159 #[d0, .val (.long v1), .second, .val (.long v3), .second, .val (.long v5), .second, .val (.long v7), .second, .val (.long v9), .second, .val (.long v11), .second, .val (.long v13), .second, .val (.long v15), .second, .val (.long v17), .second, .val (.long v19), .second, .val (.int v21), .val (.ref b1), .val (.ref b3), .val (.int r283)] [(.int (1 : Int32))])) t
          refine XS.goto X284.here hx rfl (pc0 := 159) (pc' := 163) rfl (hb hby at_159) (by decide) (by decide) ?_
          exact k
        obtain rfl : (1 : Int32) = r := Option.some.inj hF
        exact own_retN X284 hx (t := .boolean) hret hlk (by simp) (hb hby at_163) e284 (v := (1 : Int32)) (by decide) ⟨rfl, N284, K282_⟩ (by decide) (by decide)
      · rw [if_neg hc155] at hF
        refine own_Goes.via (B := T284.setTop (mkF m 163 #[d0, .val (.long v1), .second, .val (.long v3), .second, .val (.long v5), .second, .val (.long v7), .second, .val (.long v9), .second, .val (.long v11), .second, .val (.long v13), .second, .val (.long v15), .second, .val (.long v17), .second, .val (.long v19), .second, .val (.int v21), .val (.ref b1), .val (.ref b3), .val (.int r283)] [(.int (0 : Int32))])) (fun t k => ?_) ?_
        · show Steps p.tables e below (T284.setTop (mkF m 155 #[d0, .val (.long v1), .second, .val (.long v3), .second, .val (.long v5), .second, .val (.long v7), .second, .val (.long v9), .second, .val (.long v11), .second, .val (.long v13), .second, .val (.long v15), .second, .val (.long v17), .second, .val (.long v19), .second, .val (.int v21), .val (.ref b1), .val (.ref b3), .val (.int r283)] [(.int (0 : Int32)), (.int r283)])) t
          refine XS.icmpYes X284.here hx rfl (pc0 := 155) (pc' := 162) rfl (hb hby at_155) rfl (feq hc155).2 (by decide) (by decide) ?_
          show Steps p.tables e below (T284.setTop (mkF m 162 #[d0, .val (.long v1), .second, .val (.long v3), .second, .val (.long v5), .second, .val (.long v7), .second, .val (.long v9), .second, .val (.long v11), .second, .val (.long v13), .second, .val (.long v15), .second, .val (.long v17), .second, .val (.long v19), .second, .val (.int v21), .val (.ref b1), .val (.ref b3), .val (.int r283)] [])) t
          refine XS.iconst X284.here hx rfl (hb hby at_162) ?_
          exact k
        obtain rfl : (0 : Int32) = r := Option.some.inj hF
        exact own_retN X284 hx (t := .boolean) hret hlk (by simp) (hb hby at_163) e284 (v := (0 : Int32)) (by decide) ⟨rfl, N284, K282_⟩ (by decide) (by decide)
  · rw [if_neg hc135] at hF
    refine own_Goes.via (B := T283.setTop (mkF m 163 #[d0, .val (.long v1), .second, .val (.long v3), .second, .val (.long v5), .second, .val (.long v7), .second, .val (.long v9), .second, .val (.long v11), .second, .val (.long v13), .second, .val (.long v15), .second, .val (.long v17), .second, .val (.long v19), .second, .val (.int v21), .val (.ref b1), .val (.ref b3), .val (.int r283)] [(.int (0 : Int32))])) (fun t k => ?_) ?_
    · show Steps p.tables e below (T283.setTop (mkF m 135 #[d0, .val (.long v1), .second, .val (.long v3), .second, .val (.long v5), .second, .val (.long v7), .second, .val (.long v9), .second, .val (.long v11), .second, .val (.long v13), .second, .val (.long v15), .second, .val (.long v17), .second, .val (.long v19), .second, .val (.int v21), .val (.ref b1), .val (.ref b3), .val (.int r283)] [(.int v21), (.int r283)])) t
      refine XS.icmpYes X283.here hx rfl (pc0 := 135) (pc' := 162) rfl (hb hby at_135) rfl (feq hc135).2 (by decide) (by decide) ?_
      show Steps p.tables e below (T283.setTop (mkF m 162 #[d0, .val (.long v1), .second, .val (.long v3), .second, .val (.long v5), .second, .val (.long v7), .second, .val (.long v9), .second, .val (.long v11), .second, .val (.long v13), .second, .val (.long v15), .second, .val (.long v17), .second, .val (.long v19), .second, .val (.int v21), .val (.ref b1), .val (.ref b3), .val (.int r283)] [])) t
      refine XS.iconst X283.here hx rfl (hb hby at_162) ?_
      exact k
    obtain rfl : (0 : Int32) = r := Option.some.inj hF
    exact own_retN X283 hx (t := .boolean) hret hlk (by simp) (hb hby at_163) e283 (v := (0 : Int32)) (by decide) ⟨rfl, N283, K282_⟩ (by decide) (by decide)
set_option maxRecDepth 65536 in
set_option maxHeartbeats 4000000 in
theorem b_law_78v2 {p : Program} {l : Launch} {e : Env} {s : State} {m : MethodId} {args : Array Value} {below : List Frame} {meth : Method} {c : Code} {Z : State} {a0 : Array Value} {n0 : Nat} {hE : Heap} (cx : Cx_law p s m meth c Z a0) :
    ∀ {T : State} {locs : List Loc} {h : Heap} (X : Stand p l e room_1 s m args below meth c T locs 2 5) (eT : T.heap = h) (N : Fr n0 locs) (K : Keep hE h []) (z : n0 ≤ h.size) (O : Old Z n0 h) (b1 : Addr) (b2 : Addr) (v0 : Int32) (v1 : Int64) (v3 : Int64) (v5 : Int64) (v7 : Int64) (v11 : Int64) (v13 : Int64) (v15 : Int64) (v17 : Int64) (v19 : Int64) (v21 : Int32) (f_b1_coder : Int32) (bs_b2 : List Int32) (v9 : Int64) (d22 : Slot) (d23 : Slot) (d24 : Slot) (o_d22 : One d22) (o_d23 : One d23) (o_d24 : One d24) (E_b1 : Exa Z h b1 "java/lang/String") (F_b1_coder : Fld Z h b1 "java/lang/String" "coder" "B" (.int f_b1_coder)) (F_b1_value : Fld Z h b1 "java/lang/String" "value" "[B" (.ref b2)) (g_b1 : n0 ≤ b1) (nE_b1 : hE.size ≤ b1) (A_b2 : own_Ar Z h b2 .byte (bs_b2.map Value.int)) (g_b2 : n0 ≤ b2) (nE_b2 : hE.size ≤ b2) (ne_b1_b2 : b1 ≠ b2) (r : Int32), f_law_78v2 v0 v1 v3 v5 v7 v11 v13 v15 v17 v19 v21 f_b1_coder bs_b2 = some r → own_Goes p e below s (Q_law Z hE n0 r) 3 15 (T.setTop (mkF m 78 #[.val (.int v0), .val (.long v1), .second, .val (.long v3), .second, .val (.long v5), .second, .val (.long v7), .second, .val (.long v9), .second, .val (.long v11), .second, .val (.long v13), .second, .val (.long v15), .second, .val (.long v17), .second, .val (.long v19), .second, .val (.int v21), d22, d23, d24] [(.ref b1)])) := by
  have cx' := cx
  obtain ⟨hx, hZ, hw, hby, hml, hown, hret, hlk, hnm, hcs⟩ := cx'
  intro T locs h X eT N K z O b1 b2 v0 v1 v3 v5 v7 v11 v13 v15 v17 v19 v21 f_b1_coder bs_b2 v9 d22 d23 d24 o_d22 o_d23 o_d24 E_b1 F_b1_coder F_b1_value g_b1 nE_b1 A_b2 g_b2 nE_b2 ne_b1_b2 r hF
  unfold f_law_78v2 at hF
  refine own_Goes.via (B := T.setTop (mkF m 80 #[.val (.int v0), .val (.long v1), .second, .val (.long v3), .second, .val (.long v5), .second, .val (.long v7), .second, .val (.long v9), .second, .val (.long v11), .second, .val (.long v13), .second, .val (.long v15), .second, .val (.long v17), .second, .val (.long v19), .second, .val (.int v21), .val (.ref b1), d23, d24] [])) (fun t k => ?_) ?_
  · show Steps p.tables e below (T.setTop (mkF m 78 #[.val (.int v0), .val (.long v1), .second, .val (.long v3), .second, .val (.long v5), .second, .val (.long v7), .second, .val (.long v9), .second, .val (.long v11), .second, .val (.long v13), .second, .val (.long v15), .second, .val (.long v17), .second, .val (.long v19), .second, .val (.int v21), d22, d23, d24] [(.ref b1)])) t
    refine XS.astoreS X.here hx rfl (hb hby at_78) rfl rfl rfl rfl o_d22 ?_
    exact k
  obtain ⟨T285, h285, X285, e285, E285, A285, D285, -, st285⟩ := newO X hx hZ hown (w4 hw) (w5 hw) (w6 hw) eT (g := (mkF m 80 #[.val (.int v0), .val (.long v1), .second, .val (.long v3), .second, .val (.long v5), .second, .val (.long v7), .second, .val (.long v9), .second, .val (.long v11), .second, .val (.long v13), .second, .val (.long v15), .second, .val (.long v17), .second, .val (.long v19), .second, .val (.int v21), .val (.ref b1), d23, d24] [])) rfl (hb hby at_80) (by decide) (by decide)
  obtain ⟨c285, q285⟩ : ∃ z, z = h.size := ⟨_, rfl⟩
  rw [← q285] at A285 D285 st285
  have F285_c285_frames : Fld Z h285 c285 "com/example/no_wait_scheduler/nowaitscheduler/verify/Summary" "frames" "J" (.long (0 : Int64)) := D285 (Or.inr (w14 hw)) (ty := .long) (by decide)
  have F285_c285_fixedPlacement : Fld Z h285 c285 "com/example/no_wait_scheduler/nowaitscheduler/verify/Summary" "fixedPlacement" "Z" (.int (0 : Int32)) := D285 (Or.inr (w16 hw)) (ty := .boolean) (by decide)
  have F285_c285_conflicts : Fld Z h285 c285 "com/example/no_wait_scheduler/nowaitscheduler/verify/Summary" "conflicts" "J" (.long (0 : Int64)) := D285 (Or.inr (w18 hw)) (ty := .long) (by decide)
  have F285_c285_early : Fld Z h285 c285 "com/example/no_wait_scheduler/nowaitscheduler/verify/Summary" "early" "J" (.long (0 : Int64)) := D285 (Or.inr (w20 hw)) (ty := .long) (by decide)
  have F285_c285_order : Fld Z h285 c285 "com/example/no_wait_scheduler/nowaitscheduler/verify/Summary" "order" "J" (.long (0 : Int64)) := D285 (Or.inr (w22 hw)) (ty := .long) (by decide)
  have F285_c285_window : Fld Z h285 c285 "com/example/no_wait_scheduler/nowaitscheduler/verify/Summary" "window" "J" (.long (0 : Int64)) := D285 (Or.inr (w24 hw)) (ty := .long) (by decide)
  have F285_c285_missing : Fld Z h285 c285 "com/example/no_wait_scheduler/nowaitscheduler/verify/Summary" "missing" "J" (.long (0 : Int64)) := D285 (Or.inr (w26 hw)) (ty := .long) (by decide)
  have F285_c285_waitingNs : Fld Z h285 c285 "com/example/no_wait_scheduler/nowaitscheduler/verify/Summary" "waitingNs" "J" (.long (0 : Int64)) := D285 (Or.inr (w28 hw)) (ty := .long) (by decide)
  have F285_c285_flowspanNs : Fld Z h285 c285 "com/example/no_wait_scheduler/nowaitscheduler/verify/Summary" "flowspanNs" "J" (.long (0 : Int64)) := D285 (Or.inr (w30 hw)) (ty := .long) (by decide)
  have F285_c285_firstFinding : Fld Z h285 c285 "com/example/no_wait_scheduler/nowaitscheduler/verify/Summary" "firstFinding" "Ljava/lang/String;" .null := D285 (Or.inr (w32 hw)) (ty := (.object "java/lang/String")) (by decide)
  have g285_c285 : n0 ≤ c285 := Nat.le_trans z (Nat.le_of_eq q285.symm)
  have nE285_c285 : hE.size ≤ c285 := Nat.le_trans K.1 (Nat.le_of_eq q285.symm)
  have ne_b1_c285 : b1 ≠ c285 := Nat.ne_of_lt (Nat.lt_of_lt_of_le E_b1.lt (Nat.le_of_eq q285.symm))
  have ne_b2_c285 : b2 ≠ c285 := Nat.ne_of_lt (Nat.lt_of_lt_of_le A_b2.lt (Nat.le_of_eq q285.symm))
  have E285_b1 := E_b1.ext E285
  have F285_b1_coder := F_b1_coder.ext E285
  have F285_b1_value := F_b1_value.ext E285
  have A285_b2 := A_b2.ext E285
  have z285 := Nat.le_trans z E285.1
  have K285_ := K.ext E285
  have O285 := O.ext E285
  refine own_Goes.via st285 ?_
  show own_Goes _ _ _ _ _ _ _ (T285.setTop (mkF m 83 #[.val (.int v0), .val (.long v1), .second, .val (.long v3), .second, .val (.long v5), .second, .val (.long v7), .second, .val (.long v9), .second, .val (.long v11), .second, .val (.long v13), .second, .val (.long v15), .second, .val (.long v17), .second, .val (.long v19), .second, .val (.int v21), .val (.ref b1), d23, d24] [(.ref c285)]))
  refine own_Goes.via (B := T285.setTop (mkF m 91 #[.val (.int v0), .val (.long v1), .second, .val (.long v3), .second, .val (.long v5), .second, .val (.long v7), .second, .val (.long v9), .second, .val (.long v11), .second, .val (.long v13), .second, .val (.long v15), .second, .val (.long v17), .second, .val (.long v19), .second, .val (.int v21), .val (.ref b1), d23, d24] [(.int (((v0.toUInt32 >>> ((5 : Int32) &&& 31).toUInt32).toInt32) &&& (1 : Int32))), (.long (v0.toInt64)), (.ref c285), (.ref c285)])) (fun t k => ?_) ?_
  · show Steps p.tables e below (T285.setTop (mkF m 83 #[.val (.int v0), .val (.long v1), .second, .val (.long v3), .second, .val (.long v5), .second, .val (.long v7), .second, .val (.long v9), .second, .val (.long v11), .second, .val (.long v13), .second, .val (.long v15), .second, .val (.long v17), .second, .val (.long v19), .second, .val (.int v21), .val (.ref b1), d23, d24] [(.ref c285)])) t
    refine XS.dup X285.here hx rfl (hb hby at_83) rfl rfl ?_
    show Steps p.tables e below (T285.setTop (mkF m 84 #[.val (.int v0), .val (.long v1), .second, .val (.long v3), .second, .val (.long v5), .second, .val (.long v7), .second, .val (.long v9), .second, .val (.long v11), .second, .val (.long v13), .second, .val (.long v15), .second, .val (.long v17), .second, .val (.long v19), .second, .val (.int v21), .val (.ref b1), d23, d24] [(.ref c285), (.ref c285)])) t
    refine XS.iloadN X285.here hx rfl (hb hby at_84) rfl ?_
    show Steps p.tables e below (T285.setTop (mkF m 85 #[.val (.int v0), .val (.long v1), .second, .val (.long v3), .second, .val (.long v5), .second, .val (.long v7), .second, .val (.long v9), .second, .val (.long v11), .second, .val (.long v13), .second, .val (.long v15), .second, .val (.long v17), .second, .val (.long v19), .second, .val (.int v21), .val (.ref b1), d23, d24] [(.int v0), (.ref c285), (.ref c285)])) t
    refine XS.i2l X285.here hx rfl (hb hby at_85) rfl ?_
    show Steps p.tables e below (T285.setTop (mkF m 86 #[.val (.int v0), .val (.long v1), .second, .val (.long v3), .second, .val (.long v5), .second, .val (.long v7), .second, .val (.long v9), .second, .val (.long v11), .second, .val (.long v13), .second, .val (.long v15), .second, .val (.long v17), .second, .val (.long v19), .second, .val (.int v21), .val (.ref b1), d23, d24] [(.long (v0.toInt64)), (.ref c285), (.ref c285)])) t
    refine XS.iloadN X285.here hx rfl (hb hby at_86) rfl ?_
    show Steps p.tables e below (T285.setTop (mkF m 87 #[.val (.int v0), .val (.long v1), .second, .val (.long v3), .second, .val (.long v5), .second, .val (.long v7), .second, .val (.long v9), .second, .val (.long v11), .second, .val (.long v13), .second, .val (.long v15), .second, .val (.long v17), .second, .val (.long v19), .second, .val (.int v21), .val (.ref b1), d23, d24] [(.int v0), (.long (v0.toInt64)), (.ref c285), (.ref c285)])) t
    refine XS.iconst X285.here hx rfl (hb hby at_87) ?_
    show Steps p.tables e below (T285.setTop (mkF m 88 #[.val (.int v0), .val (.long v1), .second, .val (.long v3), .second, .val (.long v5), .second, .val (.long v7), .second, .val (.long v9), .second, .val (.long v11), .second, .val (.long v13), .second, .val (.long v15), .second, .val (.long v17), .second, .val (.long v19), .second, .val (.int v21), .val (.ref b1), d23, d24] [(.int (5 : Int32)), (.int v0), (.long (v0.toInt64)), (.ref c285), (.ref c285)])) t
    refine XS.iushr X285.here hx rfl (hb hby at_88) rfl ?_
    show Steps p.tables e below (T285.setTop (mkF m 89 #[.val (.int v0), .val (.long v1), .second, .val (.long v3), .second, .val (.long v5), .second, .val (.long v7), .second, .val (.long v9), .second, .val (.long v11), .second, .val (.long v13), .second, .val (.long v15), .second, .val (.long v17), .second, .val (.long v19), .second, .val (.int v21), .val (.ref b1), d23, d24] [(.int ((v0.toUInt32 >>> ((5 : Int32) &&& 31).toUInt32).toInt32)), (.long (v0.toInt64)), (.ref c285), (.ref c285)])) t
    refine XS.iconst X285.here hx rfl (hb hby at_89) ?_
    show Steps p.tables e below (T285.setTop (mkF m 90 #[.val (.int v0), .val (.long v1), .second, .val (.long v3), .second, .val (.long v5), .second, .val (.long v7), .second, .val (.long v9), .second, .val (.long v11), .second, .val (.long v13), .second, .val (.long v15), .second, .val (.long v17), .second, .val (.long v19), .second, .val (.int v21), .val (.ref b1), d23, d24] [(.int (1 : Int32)), (.int ((v0.toUInt32 >>> ((5 : Int32) &&& 31).toUInt32).toInt32)), (.long (v0.toInt64)), (.ref c285), (.ref c285)])) t
    refine XS.iand X285.here hx rfl (hb hby at_90) rfl ?_
    exact k
  by_cases hc91 : (((v0.toUInt32 >>> ((5 : Int32) &&& 31).toUInt32).toInt32) &&& (1 : Int32)) = (0 : Int32)
  · rw [if_pos hc91] at hF
    refine own_Goes.via (B := T285.setTop (mkF m 99 #[.val (.int v0), .val (.long v1), .second, .val (.long v3), .second, .val (.long v5), .second, .val (.long v7), .second, .val (.long v9), .second, .val (.long v11), .second, .val (.long v13), .second, .val (.long v15), .second, .val (.long v17), .second, .val (.long v19), .second, .val (.int v21), .val (.ref b1), d23, d24] [(.int (0 : Int32)), (.long (v0.toInt64)), (.ref c285), (.ref c285)])) (fun t k => ?_) ?_
    · show Steps p.tables e below (T285.setTop (mkF m 91 #[.val (.int v0), .val (.long v1), .second, .val (.long v3), .second, .val (.long v5), .second, .val (.long v7), .second, .val (.long v9), .second, .val (.long v11), .second, .val (.long v13), .second, .val (.long v15), .second, .val (.long v17), .second, .val (.long v19), .second, .val (.int v21), .val (.ref b1), d23, d24] [(.int (((v0.toUInt32 >>> ((5 : Int32) &&& 31).toUInt32).toInt32) &&& (1 : Int32))), (.long (v0.toInt64)), (.ref c285), (.ref c285)])) t
      refine XS.ifYes X285.here hx rfl (pc0 := 91) (pc' := 98) rfl (hb hby at_91) rfl ((if0 _ _).trans (teq hc91).1) (by decide) (by decide) ?_
      show Steps p.tables e below (T285.setTop (mkF m 98 #[.val (.int v0), .val (.long v1), .second, .val (.long v3), .second, .val (.long v5), .second, .val (.long v7), .second, .val (.long v9), .second, .val (.long v11), .second, .val (.long v13), .second, .val (.long v15), .second, .val (.long v17), .second, .val (.long v19), .second, .val (.int v21), .val (.ref b1), d23, d24] [(.long (v0.toInt64)), (.ref c285), (.ref c285)])) t
      refine XS.iconst X285.here hx rfl (hb hby at_98) ?_
      exact k
    exact b_law_99v2 cx X285 e285 N K285_ z285 O285 b1 b2 c285 v1 v3 v5 v7 v11 v13 v15 v17 v19 v21 (0 : Int32) (v0.toInt64) f_b1_coder bs_b2 (0 : Int64) (0 : Int64) (0 : Int32) (0 : Int64) (0 : Int64) (0 : Int64) (0 : Int64) (0 : Int64) (0 : Int64) (.val (.int v0)) v9 d23 d24 (One.val rfl) o_d23 o_d24 E285_b1 F285_b1_coder F285_b1_value g_b1 nE_b1 A285_b2 g_b2 nE_b2 A285 F285_c285_conflicts F285_c285_early F285_c285_firstFinding F285_c285_fixedPlacement F285_c285_flowspanNs F285_c285_frames F285_c285_missing F285_c285_order F285_c285_waitingNs F285_c285_window g285_c285 nE285_c285 ne_b1_b2 ne_b1_c285 ne_b2_c285 _ hF
  · rw [if_neg hc91] at hF
    refine own_Goes.via (B := T285.setTop (mkF m 99 #[.val (.int v0), .val (.long v1), .second, .val (.long v3), .second, .val (.long v5), .second, .val (.long v7), .second, .val (.long v9), .second, .val (.long v11), .second, .val (.long v13), .second, .val (.long v15), .second, .val (.long v17), .second, .val (.long v19), .second, .val (.int v21), .val (.ref b1), d23, d24] [(.int (1 : Int32)), (.long (v0.toInt64)), (.ref c285), (.ref c285)])) (fun t k => ?_) ?_
    · show Steps p.tables e below (T285.setTop (mkF m 91 #[.val (.int v0), .val (.long v1), .second, .val (.long v3), .second, .val (.long v5), .second, .val (.long v7), .second, .val (.long v9), .second, .val (.long v11), .second, .val (.long v13), .second, .val (.long v15), .second, .val (.long v17), .second, .val (.long v19), .second, .val (.int v21), .val (.ref b1), d23, d24] [(.int (((v0.toUInt32 >>> ((5 : Int32) &&& 31).toUInt32).toInt32) &&& (1 : Int32))), (.long (v0.toInt64)), (.ref c285), (.ref c285)])) t
      refine XS.ifNo X285.here hx rfl (hb hby at_91) rfl ((if0 _ _).trans (feq hc91).1) ?_
      show Steps p.tables e below (T285.setTop (mkF m 94 #[.val (.int v0), .val (.long v1), .second, .val (.long v3), .second, .val (.long v5), .second, .val (.long v7), .second, .val (.long v9), .second, .val (.long v11), .second, .val (.long v13), .second, .val (.long v15), .second, .val (.long v17), .second, .val (.long v19), .second, .val (.int v21), .val (.ref b1), d23, d24] [(.long (v0.toInt64)), (.ref c285), (.ref c285)])) t
      refine XS.iconst X285.here hx rfl (hb hby at_94) ?_
      show Steps p.tables e below (T285.setTop (mkF m 95 #[.val (.int v0), .val (.long v1), .second, .val (.long v3), .second, .val (.long v5), .second, .val (.long v7), .second, .val (.long v9), .second, .val (.long v11), .second, .val (.long v13), .second, .val (.long v15), .second, .val (.long v17), .second, .val (.long v19), .second, .val (.int v21), .val (.ref b1), d23, d24] [(.int (1 : Int32)), (.long (v0.toInt64)), (.ref c285), (.ref c285)])) t
      refine XS.goto X285.here hx rfl (pc0 := 95) (pc' := 99) rfl (hb hby at_95) (by decide) (by decide) ?_
      exact k
    exact b_law_99v2 cx X285 e285 N K285_ z285 O285 b1 b2 c285 v1 v3 v5 v7 v11 v13 v15 v17 v19 v21 (1 : Int32) (v0.toInt64) f_b1_coder bs_b2 (0 : Int64) (0 : Int64) (0 : Int32) (0 : Int64) (0 : Int64) (0 : Int64) (0 : Int64) (0 : Int64) (0 : Int64) (.val (.int v0)) v9 d23 d24 (One.val rfl) o_d23 o_d24 E285_b1 F285_b1_coder F285_b1_value g_b1 nE_b1 A285_b2 g_b2 nE_b2 A285 F285_c285_conflicts F285_c285_early F285_c285_firstFinding F285_c285_fixedPlacement F285_c285_flowspanNs F285_c285_frames F285_c285_missing F285_c285_order F285_c285_waitingNs F285_c285_window g285_c285 nE285_c285 ne_b1_b2 ne_b1_c285 ne_b2_c285 _ hF
set_option maxRecDepth 65536 in
set_option maxHeartbeats 4000000 in
theorem b_law {p : Program} {l : Launch} {e : Env} {s : State} {m : MethodId} {args : Array Value} {below : List Frame} {meth : Method} {c : Code} {Z : State} {a0 : Array Value} {n0 : Nat} {hE : Heap} (cx : Cx_law p s m meth c Z a0) :
    ∀ {T : State} {locs : List Loc} {h : Heap} (X : Stand p l e room_1 s m args below meth c T locs 0 0) (eT : T.heap = h) (N : Fr n0 locs) (K : Keep hE h []) (z : n0 ≤ h.size) (O : Old Z n0 h) (v0 : Int32) (v1 : Int64) (v3 : Int64) (v5 : Int64) (v7 : Int64) (v9 : Int64) (r : Int32), f_law v0 v1 v3 v5 v7 v9 = some r → own_Goes p e below s (Q_law Z hE n0 r) 3 15 (T.setTop (mkF m 0 #[.val (.int v0), .val (.long v1), .second, .val (.long v3), .second, .val (.long v5), .second, .val (.long v7), .second, .val (.long v9), .second, .unset, .unset, .unset, .unset, .unset, .unset, .unset, .unset, .unset, .unset, .unset, .unset, .unset, .unset] [])) := by
  have cx' := cx
  obtain ⟨hx, hZ, hw, hby, hml, hown, hret, hlk, hnm, hcs⟩ := cx'
  intro T locs h X eT N K z O v0 v1 v3 v5 v7 v9 r hF
  unfold f_law at hF
  refine own_Goes.via (B := T.setTop (mkF m 3 #[.val (.int v0), .val (.long v1), .second, .val (.long v3), .second, .val (.long v5), .second, .val (.long v7), .second, .val (.long v9), .second, .unset, .unset, .unset, .unset, .unset, .unset, .unset, .unset, .unset, .unset, .unset, .unset, .unset, .unset] [(.long v1), (.int (0 : Int32)), (.int v0)])) (fun t k => ?_) ?_
  · show Steps p.tables e below (T.setTop (mkF m 0 #[.val (.int v0), .val (.long v1), .second, .val (.long v3), .second, .val (.long v5), .second, .val (.long v7), .second, .val (.long v9), .second, .unset, .unset, .unset, .unset, .unset, .unset, .unset, .unset, .unset, .unset, .unset, .unset, .unset, .unset] [])) t
    refine XS.iloadN X.here hx rfl (hb hby at_0) rfl ?_
    show Steps p.tables e below (T.setTop (mkF m 1 #[.val (.int v0), .val (.long v1), .second, .val (.long v3), .second, .val (.long v5), .second, .val (.long v7), .second, .val (.long v9), .second, .unset, .unset, .unset, .unset, .unset, .unset, .unset, .unset, .unset, .unset, .unset, .unset, .unset, .unset] [(.int v0)])) t
    refine XS.iconst X.here hx rfl (hb hby at_1) ?_
    show Steps p.tables e below (T.setTop (mkF m 2 #[.val (.int v0), .val (.long v1), .second, .val (.long v3), .second, .val (.long v5), .second, .val (.long v7), .second, .val (.long v9), .second, .unset, .unset, .unset, .unset, .unset, .unset, .unset, .unset, .unset, .unset, .unset, .unset, .unset, .unset] [(.int (0 : Int32)), (.int v0)])) t
    refine XS.lloadN X.here hx rfl (hb hby at_2) rfl ?_
    exact k
  obtain ⟨r286, hr286, hF⟩ := own_bd_e hF
  obtain ⟨_, _, ⟨T286, L286, k286, n286⟩, -, X286, ⟨Lc286, hQ286, l286, y286, z286⟩, st286⟩ := Jvm.LawKit.callS X hx (y := (⟨"com/example/no_wait_scheduler/nowaitscheduler/verify/SummaryPassesPinLaw", "count", "(IIJ)J"⟩ : MethodName)) hown (mvT hZ (w0 hw)) (mvT hZ (w1 hw)) (mvT hZ (w2 hw)) (mvT hZ (w3 hw)) (by decide) (backOf (W := 0) (rm_SummaryPassesPinLaw_count l Z a0 hw [] h n0 z hcs O v0 (0 : Int32) v1 r286 hr286) hZ (w3 hw) (w2 hw) (by decide) (by decide)) (g := (mkF m 3 #[.val (.int v0), .val (.long v1), .second, .val (.long v3), .second, .val (.long v5), .second, .val (.long v7), .second, .val (.long v9), .second, .unset, .unset, .unset, .unset, .unset, .unset, .unset, .unset, .unset, .unset, .unset, .unset, .unset, .unset] [(.long v1), (.int (0 : Int32)), (.int v0)])) rfl (by rw [hml]; rfl) (argsL := [(.int v0), (.int (0 : Int32)), (.long v1)]) (rest := []) (lenOf pd_0 rfl) rfl (by show 2 * 0 + _ ≤ _; exact Nat.le_of_eq rfl) (hb hby at_3) (fun _ _ => ⟨rfl, eT, (by decide : 0 + 0 ≤ _), (by decide : 0 + 0 ≤ _)⟩)
  dsimp only [Pt.U, Pt.locs, Pt.cells, Pt.slots] at X286 l286 y286 z286 st286 hQ286
  subst l286 y286 z286
  obtain ⟨rfl, N286q, e286⟩ := hQ286
  have N286 := Fr.app N N286q
  refine own_Goes.via st286 ?_
  show own_Goes _ _ _ _ _ _ _ (T286.setTop (mkF m 6 #[.val (.int v0), .val (.long v1), .second, .val (.long v3), .second, .val (.long v5), .second, .val (.long v7), .second, .val (.long v9), .second, .unset, .unset, .unset, .unset, .unset, .unset, .unset, .unset, .unset, .unset, .unset, .unset, .unset, .unset] [(.long r286)]))
  refine own_Goes.via (B := T286.setTop (mkF m 11 #[.val (.int v0), .val (.long v1), .second, .val (.long v3), .second, .val (.long v5), .second, .val (.long v7), .second, .val (.long v9), .second, .val (.long r286), .second, .unset, .unset, .unset, .unset, .unset, .unset, .unset, .unset, .unset, .unset, .unset, .unset] [(.long v3), (.int (1 : Int32)), (.int v0)])) (fun t k => ?_) ?_
  · show Steps p.tables e below (T286.setTop (mkF m 6 #[.val (.int v0), .val (.long v1), .second, .val (.long v3), .second, .val (.long v5), .second, .val (.long v7), .second, .val (.long v9), .second, .unset, .unset, .unset, .unset, .unset, .unset, .unset, .unset, .unset, .unset, .unset, .unset, .unset, .unset] [(.long r286)])) t
    refine XS.lstore X286.here hx rfl (hb hby at_6) rfl (l' := #[.val (.int v0), .val (.long v1), .second, .val (.long v3), .second, .val (.long v5), .second, .val (.long v7), .second, .val (.long v9), .second, .val (.long r286), .second, .unset, .unset, .unset, .unset, .unset, .unset, .unset, .unset, .unset, .unset, .unset, .unset]) rfl ?_
    show Steps p.tables e below (T286.setTop (mkF m 8 #[.val (.int v0), .val (.long v1), .second, .val (.long v3), .second, .val (.long v5), .second, .val (.long v7), .second, .val (.long v9), .second, .val (.long r286), .second, .unset, .unset, .unset, .unset, .unset, .unset, .unset, .unset, .unset, .unset, .unset, .unset] [])) t
    refine XS.iloadN X286.here hx rfl (hb hby at_8) rfl ?_
    show Steps p.tables e below (T286.setTop (mkF m 9 #[.val (.int v0), .val (.long v1), .second, .val (.long v3), .second, .val (.long v5), .second, .val (.long v7), .second, .val (.long v9), .second, .val (.long r286), .second, .unset, .unset, .unset, .unset, .unset, .unset, .unset, .unset, .unset, .unset, .unset, .unset] [(.int v0)])) t
    refine XS.iconst X286.here hx rfl (hb hby at_9) ?_
    show Steps p.tables e below (T286.setTop (mkF m 10 #[.val (.int v0), .val (.long v1), .second, .val (.long v3), .second, .val (.long v5), .second, .val (.long v7), .second, .val (.long v9), .second, .val (.long r286), .second, .unset, .unset, .unset, .unset, .unset, .unset, .unset, .unset, .unset, .unset, .unset, .unset] [(.int (1 : Int32)), (.int v0)])) t
    refine XS.lloadN X286.here hx rfl (hb hby at_10) rfl ?_
    exact k
  obtain ⟨r287, hr287, hF⟩ := own_bd_e hF
  obtain ⟨_, _, ⟨T287, L287, k287, n287⟩, -, X287, ⟨Lc287, hQ287, l287, y287, z287⟩, st287⟩ := Jvm.LawKit.callS X286 hx (y := (⟨"com/example/no_wait_scheduler/nowaitscheduler/verify/SummaryPassesPinLaw", "count", "(IIJ)J"⟩ : MethodName)) hown (mvT hZ (w0 hw)) (mvT hZ (w1 hw)) (mvT hZ (w2 hw)) (mvT hZ (w3 hw)) (by decide) (backOf (W := 0) (rm_SummaryPassesPinLaw_count l Z a0 hw [] h n0 z hcs O v0 (1 : Int32) v3 r287 hr287) hZ (w3 hw) (w2 hw) (by decide) (by decide)) (g := (mkF m 11 #[.val (.int v0), .val (.long v1), .second, .val (.long v3), .second, .val (.long v5), .second, .val (.long v7), .second, .val (.long v9), .second, .val (.long r286), .second, .unset, .unset, .unset, .unset, .unset, .unset, .unset, .unset, .unset, .unset, .unset, .unset] [(.long v3), (.int (1 : Int32)), (.int v0)])) rfl (by rw [hml]; rfl) (argsL := [(.int v0), (.int (1 : Int32)), (.long v3)]) (rest := []) (lenOf pd_0 rfl) rfl (by show 2 * 0 + _ ≤ _; exact Nat.le_of_eq rfl) (hb hby at_11) (fun _ _ => ⟨rfl, e286, (by decide : 0 + 0 ≤ _), (by decide : 0 + 0 ≤ _)⟩)
  dsimp only [Pt.U, Pt.locs, Pt.cells, Pt.slots] at X287 l287 y287 z287 st287 hQ287
  subst l287 y287 z287
  obtain ⟨rfl, N287q, e287⟩ := hQ287
  have N287 := Fr.app N286 N287q
  refine own_Goes.via st287 ?_
  show own_Goes _ _ _ _ _ _ _ (T287.setTop (mkF m 14 #[.val (.int v0), .val (.long v1), .second, .val (.long v3), .second, .val (.long v5), .second, .val (.long v7), .second, .val (.long v9), .second, .val (.long r286), .second, .unset, .unset, .unset, .unset, .unset, .unset, .unset, .unset, .unset, .unset, .unset, .unset] [(.long r287)]))
  refine own_Goes.via (B := T287.setTop (mkF m 20 #[.val (.int v0), .val (.long v1), .second, .val (.long v3), .second, .val (.long v5), .second, .val (.long v7), .second, .val (.long v9), .second, .val (.long r286), .second, .val (.long r287), .second, .unset, .unset, .unset, .unset, .unset, .unset, .unset, .unset, .unset, .unset] [(.long v5), (.int (2 : Int32)), (.int v0)])) (fun t k => ?_) ?_
  · show Steps p.tables e below (T287.setTop (mkF m 14 #[.val (.int v0), .val (.long v1), .second, .val (.long v3), .second, .val (.long v5), .second, .val (.long v7), .second, .val (.long v9), .second, .val (.long r286), .second, .unset, .unset, .unset, .unset, .unset, .unset, .unset, .unset, .unset, .unset, .unset, .unset] [(.long r287)])) t
    refine XS.lstore X287.here hx rfl (hb hby at_14) rfl (l' := #[.val (.int v0), .val (.long v1), .second, .val (.long v3), .second, .val (.long v5), .second, .val (.long v7), .second, .val (.long v9), .second, .val (.long r286), .second, .val (.long r287), .second, .unset, .unset, .unset, .unset, .unset, .unset, .unset, .unset, .unset, .unset]) rfl ?_
    show Steps p.tables e below (T287.setTop (mkF m 16 #[.val (.int v0), .val (.long v1), .second, .val (.long v3), .second, .val (.long v5), .second, .val (.long v7), .second, .val (.long v9), .second, .val (.long r286), .second, .val (.long r287), .second, .unset, .unset, .unset, .unset, .unset, .unset, .unset, .unset, .unset, .unset] [])) t
    refine XS.iloadN X287.here hx rfl (hb hby at_16) rfl ?_
    show Steps p.tables e below (T287.setTop (mkF m 17 #[.val (.int v0), .val (.long v1), .second, .val (.long v3), .second, .val (.long v5), .second, .val (.long v7), .second, .val (.long v9), .second, .val (.long r286), .second, .val (.long r287), .second, .unset, .unset, .unset, .unset, .unset, .unset, .unset, .unset, .unset, .unset] [(.int v0)])) t
    refine XS.iconst X287.here hx rfl (hb hby at_17) ?_
    show Steps p.tables e below (T287.setTop (mkF m 18 #[.val (.int v0), .val (.long v1), .second, .val (.long v3), .second, .val (.long v5), .second, .val (.long v7), .second, .val (.long v9), .second, .val (.long r286), .second, .val (.long r287), .second, .unset, .unset, .unset, .unset, .unset, .unset, .unset, .unset, .unset, .unset] [(.int (2 : Int32)), (.int v0)])) t
    refine XS.lload X287.here hx rfl (hb hby at_18) rfl ?_
    exact k
  obtain ⟨r288, hr288, hF⟩ := own_bd_e hF
  obtain ⟨_, _, ⟨T288, L288, k288, n288⟩, -, X288, ⟨Lc288, hQ288, l288, y288, z288⟩, st288⟩ := Jvm.LawKit.callS X287 hx (y := (⟨"com/example/no_wait_scheduler/nowaitscheduler/verify/SummaryPassesPinLaw", "count", "(IIJ)J"⟩ : MethodName)) hown (mvT hZ (w0 hw)) (mvT hZ (w1 hw)) (mvT hZ (w2 hw)) (mvT hZ (w3 hw)) (by decide) (backOf (W := 0) (rm_SummaryPassesPinLaw_count l Z a0 hw [] h n0 z hcs O v0 (2 : Int32) v5 r288 hr288) hZ (w3 hw) (w2 hw) (by decide) (by decide)) (g := (mkF m 20 #[.val (.int v0), .val (.long v1), .second, .val (.long v3), .second, .val (.long v5), .second, .val (.long v7), .second, .val (.long v9), .second, .val (.long r286), .second, .val (.long r287), .second, .unset, .unset, .unset, .unset, .unset, .unset, .unset, .unset, .unset, .unset] [(.long v5), (.int (2 : Int32)), (.int v0)])) rfl (by rw [hml]; rfl) (argsL := [(.int v0), (.int (2 : Int32)), (.long v5)]) (rest := []) (lenOf pd_0 rfl) rfl (by show 2 * 0 + _ ≤ _; exact Nat.le_of_eq rfl) (hb hby at_20) (fun _ _ => ⟨rfl, e287, (by decide : 0 + 0 ≤ _), (by decide : 0 + 0 ≤ _)⟩)
  dsimp only [Pt.U, Pt.locs, Pt.cells, Pt.slots] at X288 l288 y288 z288 st288 hQ288
  subst l288 y288 z288
  obtain ⟨rfl, N288q, e288⟩ := hQ288
  have N288 := Fr.app N287 N288q
  refine own_Goes.via st288 ?_
  show own_Goes _ _ _ _ _ _ _ (T288.setTop (mkF m 23 #[.val (.int v0), .val (.long v1), .second, .val (.long v3), .second, .val (.long v5), .second, .val (.long v7), .second, .val (.long v9), .second, .val (.long r286), .second, .val (.long r287), .second, .unset, .unset, .unset, .unset, .unset, .unset, .unset, .unset, .unset, .unset] [(.long r288)]))
  refine own_Goes.via (B := T288.setTop (mkF m 29 #[.val (.int v0), .val (.long v1), .second, .val (.long v3), .second, .val (.long v5), .second, .val (.long v7), .second, .val (.long v9), .second, .val (.long r286), .second, .val (.long r287), .second, .val (.long r288), .second, .unset, .unset, .unset, .unset, .unset, .unset, .unset, .unset] [(.long v7), (.int (3 : Int32)), (.int v0)])) (fun t k => ?_) ?_
  · show Steps p.tables e below (T288.setTop (mkF m 23 #[.val (.int v0), .val (.long v1), .second, .val (.long v3), .second, .val (.long v5), .second, .val (.long v7), .second, .val (.long v9), .second, .val (.long r286), .second, .val (.long r287), .second, .unset, .unset, .unset, .unset, .unset, .unset, .unset, .unset, .unset, .unset] [(.long r288)])) t
    refine XS.lstore X288.here hx rfl (hb hby at_23) rfl (l' := #[.val (.int v0), .val (.long v1), .second, .val (.long v3), .second, .val (.long v5), .second, .val (.long v7), .second, .val (.long v9), .second, .val (.long r286), .second, .val (.long r287), .second, .val (.long r288), .second, .unset, .unset, .unset, .unset, .unset, .unset, .unset, .unset]) rfl ?_
    show Steps p.tables e below (T288.setTop (mkF m 25 #[.val (.int v0), .val (.long v1), .second, .val (.long v3), .second, .val (.long v5), .second, .val (.long v7), .second, .val (.long v9), .second, .val (.long r286), .second, .val (.long r287), .second, .val (.long r288), .second, .unset, .unset, .unset, .unset, .unset, .unset, .unset, .unset] [])) t
    refine XS.iloadN X288.here hx rfl (hb hby at_25) rfl ?_
    show Steps p.tables e below (T288.setTop (mkF m 26 #[.val (.int v0), .val (.long v1), .second, .val (.long v3), .second, .val (.long v5), .second, .val (.long v7), .second, .val (.long v9), .second, .val (.long r286), .second, .val (.long r287), .second, .val (.long r288), .second, .unset, .unset, .unset, .unset, .unset, .unset, .unset, .unset] [(.int v0)])) t
    refine XS.iconst X288.here hx rfl (hb hby at_26) ?_
    show Steps p.tables e below (T288.setTop (mkF m 27 #[.val (.int v0), .val (.long v1), .second, .val (.long v3), .second, .val (.long v5), .second, .val (.long v7), .second, .val (.long v9), .second, .val (.long r286), .second, .val (.long r287), .second, .val (.long r288), .second, .unset, .unset, .unset, .unset, .unset, .unset, .unset, .unset] [(.int (3 : Int32)), (.int v0)])) t
    refine XS.lload X288.here hx rfl (hb hby at_27) rfl ?_
    exact k
  obtain ⟨r289, hr289, hF⟩ := own_bd_e hF
  obtain ⟨_, _, ⟨T289, L289, k289, n289⟩, -, X289, ⟨Lc289, hQ289, l289, y289, z289⟩, st289⟩ := Jvm.LawKit.callS X288 hx (y := (⟨"com/example/no_wait_scheduler/nowaitscheduler/verify/SummaryPassesPinLaw", "count", "(IIJ)J"⟩ : MethodName)) hown (mvT hZ (w0 hw)) (mvT hZ (w1 hw)) (mvT hZ (w2 hw)) (mvT hZ (w3 hw)) (by decide) (backOf (W := 0) (rm_SummaryPassesPinLaw_count l Z a0 hw [] h n0 z hcs O v0 (3 : Int32) v7 r289 hr289) hZ (w3 hw) (w2 hw) (by decide) (by decide)) (g := (mkF m 29 #[.val (.int v0), .val (.long v1), .second, .val (.long v3), .second, .val (.long v5), .second, .val (.long v7), .second, .val (.long v9), .second, .val (.long r286), .second, .val (.long r287), .second, .val (.long r288), .second, .unset, .unset, .unset, .unset, .unset, .unset, .unset, .unset] [(.long v7), (.int (3 : Int32)), (.int v0)])) rfl (by rw [hml]; rfl) (argsL := [(.int v0), (.int (3 : Int32)), (.long v7)]) (rest := []) (lenOf pd_0 rfl) rfl (by show 2 * 0 + _ ≤ _; exact Nat.le_of_eq rfl) (hb hby at_29) (fun _ _ => ⟨rfl, e288, (by decide : 0 + 0 ≤ _), (by decide : 0 + 0 ≤ _)⟩)
  dsimp only [Pt.U, Pt.locs, Pt.cells, Pt.slots] at X289 l289 y289 z289 st289 hQ289
  subst l289 y289 z289
  obtain ⟨rfl, N289q, e289⟩ := hQ289
  have N289 := Fr.app N288 N289q
  refine own_Goes.via st289 ?_
  show own_Goes _ _ _ _ _ _ _ (T289.setTop (mkF m 32 #[.val (.int v0), .val (.long v1), .second, .val (.long v3), .second, .val (.long v5), .second, .val (.long v7), .second, .val (.long v9), .second, .val (.long r286), .second, .val (.long r287), .second, .val (.long r288), .second, .unset, .unset, .unset, .unset, .unset, .unset, .unset, .unset] [(.long r289)]))
  refine own_Goes.via (B := T289.setTop (mkF m 38 #[.val (.int v0), .val (.long v1), .second, .val (.long v3), .second, .val (.long v5), .second, .val (.long v7), .second, .val (.long v9), .second, .val (.long r286), .second, .val (.long r287), .second, .val (.long r288), .second, .val (.long r289), .second, .unset, .unset, .unset, .unset, .unset, .unset] [(.long v9), (.int (4 : Int32)), (.int v0)])) (fun t k => ?_) ?_
  · show Steps p.tables e below (T289.setTop (mkF m 32 #[.val (.int v0), .val (.long v1), .second, .val (.long v3), .second, .val (.long v5), .second, .val (.long v7), .second, .val (.long v9), .second, .val (.long r286), .second, .val (.long r287), .second, .val (.long r288), .second, .unset, .unset, .unset, .unset, .unset, .unset, .unset, .unset] [(.long r289)])) t
    refine XS.lstore X289.here hx rfl (hb hby at_32) rfl (l' := #[.val (.int v0), .val (.long v1), .second, .val (.long v3), .second, .val (.long v5), .second, .val (.long v7), .second, .val (.long v9), .second, .val (.long r286), .second, .val (.long r287), .second, .val (.long r288), .second, .val (.long r289), .second, .unset, .unset, .unset, .unset, .unset, .unset]) rfl ?_
    show Steps p.tables e below (T289.setTop (mkF m 34 #[.val (.int v0), .val (.long v1), .second, .val (.long v3), .second, .val (.long v5), .second, .val (.long v7), .second, .val (.long v9), .second, .val (.long r286), .second, .val (.long r287), .second, .val (.long r288), .second, .val (.long r289), .second, .unset, .unset, .unset, .unset, .unset, .unset] [])) t
    refine XS.iloadN X289.here hx rfl (hb hby at_34) rfl ?_
    show Steps p.tables e below (T289.setTop (mkF m 35 #[.val (.int v0), .val (.long v1), .second, .val (.long v3), .second, .val (.long v5), .second, .val (.long v7), .second, .val (.long v9), .second, .val (.long r286), .second, .val (.long r287), .second, .val (.long r288), .second, .val (.long r289), .second, .unset, .unset, .unset, .unset, .unset, .unset] [(.int v0)])) t
    refine XS.iconst X289.here hx rfl (hb hby at_35) ?_
    show Steps p.tables e below (T289.setTop (mkF m 36 #[.val (.int v0), .val (.long v1), .second, .val (.long v3), .second, .val (.long v5), .second, .val (.long v7), .second, .val (.long v9), .second, .val (.long r286), .second, .val (.long r287), .second, .val (.long r288), .second, .val (.long r289), .second, .unset, .unset, .unset, .unset, .unset, .unset] [(.int (4 : Int32)), (.int v0)])) t
    refine XS.lload X289.here hx rfl (hb hby at_36) rfl ?_
    exact k
  obtain ⟨r290, hr290, hF⟩ := own_bd_e hF
  obtain ⟨_, _, ⟨T290, L290, k290, n290⟩, -, X290, ⟨Lc290, hQ290, l290, y290, z290⟩, st290⟩ := Jvm.LawKit.callS X289 hx (y := (⟨"com/example/no_wait_scheduler/nowaitscheduler/verify/SummaryPassesPinLaw", "count", "(IIJ)J"⟩ : MethodName)) hown (mvT hZ (w0 hw)) (mvT hZ (w1 hw)) (mvT hZ (w2 hw)) (mvT hZ (w3 hw)) (by decide) (backOf (W := 0) (rm_SummaryPassesPinLaw_count l Z a0 hw [] h n0 z hcs O v0 (4 : Int32) v9 r290 hr290) hZ (w3 hw) (w2 hw) (by decide) (by decide)) (g := (mkF m 38 #[.val (.int v0), .val (.long v1), .second, .val (.long v3), .second, .val (.long v5), .second, .val (.long v7), .second, .val (.long v9), .second, .val (.long r286), .second, .val (.long r287), .second, .val (.long r288), .second, .val (.long r289), .second, .unset, .unset, .unset, .unset, .unset, .unset] [(.long v9), (.int (4 : Int32)), (.int v0)])) rfl (by rw [hml]; rfl) (argsL := [(.int v0), (.int (4 : Int32)), (.long v9)]) (rest := []) (lenOf pd_0 rfl) rfl (by show 2 * 0 + _ ≤ _; exact Nat.le_of_eq rfl) (hb hby at_38) (fun _ _ => ⟨rfl, e289, (by decide : 0 + 0 ≤ _), (by decide : 0 + 0 ≤ _)⟩)
  dsimp only [Pt.U, Pt.locs, Pt.cells, Pt.slots] at X290 l290 y290 z290 st290 hQ290
  subst l290 y290 z290
  obtain ⟨rfl, N290q, e290⟩ := hQ290
  have N290 := Fr.app N289 N290q
  refine own_Goes.via st290 ?_
  show own_Goes _ _ _ _ _ _ _ (T290.setTop (mkF m 41 #[.val (.int v0), .val (.long v1), .second, .val (.long v3), .second, .val (.long v5), .second, .val (.long v7), .second, .val (.long v9), .second, .val (.long r286), .second, .val (.long r287), .second, .val (.long r288), .second, .val (.long r289), .second, .unset, .unset, .unset, .unset, .unset, .unset] [(.long r290)]))
  refine own_Goes.via (B := T290.setTop (mkF m 47 #[.val (.int v0), .val (.long v1), .second, .val (.long v3), .second, .val (.long v5), .second, .val (.long v7), .second, .val (.long v9), .second, .val (.long r286), .second, .val (.long r287), .second, .val (.long r288), .second, .val (.long r289), .second, .val (.long r290), .second, .unset, .unset, .unset, .unset] [(.int (v0 &&& (31 : Int32)))])) (fun t k => ?_) ?_
  · show Steps p.tables e below (T290.setTop (mkF m 41 #[.val (.int v0), .val (.long v1), .second, .val (.long v3), .second, .val (.long v5), .second, .val (.long v7), .second, .val (.long v9), .second, .val (.long r286), .second, .val (.long r287), .second, .val (.long r288), .second, .val (.long r289), .second, .unset, .unset, .unset, .unset, .unset, .unset] [(.long r290)])) t
    refine XS.lstore X290.here hx rfl (hb hby at_41) rfl (l' := #[.val (.int v0), .val (.long v1), .second, .val (.long v3), .second, .val (.long v5), .second, .val (.long v7), .second, .val (.long v9), .second, .val (.long r286), .second, .val (.long r287), .second, .val (.long r288), .second, .val (.long r289), .second, .val (.long r290), .second, .unset, .unset, .unset, .unset]) rfl ?_
    show Steps p.tables e below (T290.setTop (mkF m 43 #[.val (.int v0), .val (.long v1), .second, .val (.long v3), .second, .val (.long v5), .second, .val (.long v7), .second, .val (.long v9), .second, .val (.long r286), .second, .val (.long r287), .second, .val (.long r288), .second, .val (.long r289), .second, .val (.long r290), .second, .unset, .unset, .unset, .unset] [])) t
    refine XS.iloadN X290.here hx rfl (hb hby at_43) rfl ?_
    show Steps p.tables e below (T290.setTop (mkF m 44 #[.val (.int v0), .val (.long v1), .second, .val (.long v3), .second, .val (.long v5), .second, .val (.long v7), .second, .val (.long v9), .second, .val (.long r286), .second, .val (.long r287), .second, .val (.long r288), .second, .val (.long r289), .second, .val (.long r290), .second, .unset, .unset, .unset, .unset] [(.int v0)])) t
    refine XS.bipush X290.here hx rfl (hb hby at_44) ?_
    show Steps p.tables e below (T290.setTop (mkF m 46 #[.val (.int v0), .val (.long v1), .second, .val (.long v3), .second, .val (.long v5), .second, .val (.long v7), .second, .val (.long v9), .second, .val (.long r286), .second, .val (.long r287), .second, .val (.long r288), .second, .val (.long r289), .second, .val (.long r290), .second, .unset, .unset, .unset, .unset] [(.int (31 : Int32)), (.int v0)])) t
    refine XS.iand X290.here hx rfl (hb hby at_46) rfl ?_
    exact k
  by_cases hc47 : (v0 &&& (31 : Int32)) = (0 : Int32)
  · rw [if_pos hc47] at hF
    refine own_Goes.via (B := T290.setTop (mkF m 78 #[.val (.int v0), .val (.long v1), .second, .val (.long v3), .second, .val (.long v5), .second, .val (.long v7), .second, .val (.long v9), .second, .val (.long r286), .second, .val (.long r287), .second, .val (.long r288), .second, .val (.long r289), .second, .val (.long r290), .second, .val (.int (1 : Int32)), .unset, .unset, .unset] [.null])) (fun t k => ?_) ?_
    · show Steps p.tables e below (T290.setTop (mkF m 47 #[.val (.int v0), .val (.long v1), .second, .val (.long v3), .second, .val (.long v5), .second, .val (.long v7), .second, .val (.long v9), .second, .val (.long r286), .second, .val (.long r287), .second, .val (.long r288), .second, .val (.long r289), .second, .val (.long r290), .second, .unset, .unset, .unset, .unset] [(.int (v0 &&& (31 : Int32)))])) t
      refine XS.ifNo X290.here hx rfl (hb hby at_47) rfl ((if0 _ _).trans (teq hc47).2) ?_
      show Steps p.tables e below (T290.setTop (mkF m 50 #[.val (.int v0), .val (.long v1), .second, .val (.long v3), .second, .val (.long v5), .second, .val (.long v7), .second, .val (.long v9), .second, .val (.long r286), .second, .val (.long r287), .second, .val (.long r288), .second, .val (.long r289), .second, .val (.long r290), .second, .unset, .unset, .unset, .unset] [])) t
      refine XS.iconst X290.here hx rfl (hb hby at_50) ?_
      show Steps p.tables e below (T290.setTop (mkF m 51 #[.val (.int v0), .val (.long v1), .second, .val (.long v3), .second, .val (.long v5), .second, .val (.long v7), .second, .val (.long v9), .second, .val (.long r286), .second, .val (.long r287), .second, .val (.long r288), .second, .val (.long r289), .second, .val (.long r290), .second, .unset, .unset, .unset, .unset] [(.int (1 : Int32))])) t
      refine XS.goto X290.here hx rfl (pc0 := 51) (pc' := 55) rfl (hb hby at_51) (by decide) (by decide) ?_
      show Steps p.tables e below (T290.setTop (mkF m 55 #[.val (.int v0), .val (.long v1), .second, .val (.long v3), .second, .val (.long v5), .second, .val (.long v7), .second, .val (.long v9), .second, .val (.long r286), .second, .val (.long r287), .second, .val (.long r288), .second, .val (.long r289), .second, .val (.long r290), .second, .unset, .unset, .unset, .unset] [(.int (1 : Int32))])) t
      refine XS.istore X290.here hx rfl (hb hby at_55) rfl (l' := #[.val (.int v0), .val (.long v1), .second, .val (.long v3), .second, .val (.long v5), .second, .val (.long v7), .second, .val (.long v9), .second, .val (.long r286), .second, .val (.long r287), .second, .val (.long r288), .second, .val (.long r289), .second, .val (.long r290), .second, .val (.int (1 : Int32)), .unset, .unset, .unset]) rfl ?_
      show Steps p.tables e below (T290.setTop (mkF m 57 #[.val (.int v0), .val (.long v1), .second, .val (.long v3), .second, .val (.long v5), .second, .val (.long v7), .second, .val (.long v9), .second, .val (.long r286), .second, .val (.long r287), .second, .val (.long r288), .second, .val (.long r289), .second, .val (.long r290), .second, .val (.int (1 : Int32)), .unset, .unset, .unset] [])) t
      refine XS.iload X290.here hx rfl (hb hby at_57) rfl ?_
      show Steps p.tables e below (T290.setTop (mkF m 59 #[.val (.int v0), .val (.long v1), .second, .val (.long v3), .second, .val (.long v5), .second, .val (.long v7), .second, .val (.long v9), .second, .val (.long r286), .second, .val (.long r287), .second, .val (.long r288), .second, .val (.long r289), .second, .val (.long r290), .second, .val (.int (1 : Int32)), .unset, .unset, .unset] [(.int (1 : Int32))])) t
      refine XS.ifNo X290.here hx rfl (hb hby at_59) rfl ((if0 _ _).trans (feq (by decide : ¬ (1 : Int32) = (0 : Int32))).1) ?_
      show Steps p.tables e below (T290.setTop (mkF m 62 #[.val (.int v0), .val (.long v1), .second, .val (.long v3), .second, .val (.long v5), .second, .val (.long v7), .second, .val (.long v9), .second, .val (.long r286), .second, .val (.long r287), .second, .val (.long r288), .second, .val (.long r289), .second, .val (.long r290), .second, .val (.int (1 : Int32)), .unset, .unset, .unset] [])) t
      refine XS.aconstNull X290.here hx rfl (hb hby at_62) ?_
      show Steps p.tables e below (T290.setTop (mkF m 63 #[.val (.int v0), .val (.long v1), .second, .val (.long v3), .second, .val (.long v5), .second, .val (.long v7), .second, .val (.long v9), .second, .val (.long r286), .second, .val (.long r287), .second, .val (.long r288), .second, .val (.long r289), .second, .val (.long r290), .second, .val (.int (1 : Int32)), .unset, .unset, .unset] [.null])) t
      refine XS.goto X290.here hx rfl (pc0 := 63) (pc' := 78) rfl (hb hby at_63) (by decide) (by decide) ?_
      exact k
    exact b_law_78 cx X290 e290 N290 K z O v0 v1 v3 v5 v7 r286 r287 r288 r289 r290 (1 : Int32) v9 (.unset) (.unset) (.unset) One.u One.u One.u _ hF
  · rw [if_neg hc47] at hF
    refine own_Goes.via (B := T290.setTop (mkF m 75 #[.val (.int v0), .val (.long v1), .second, .val (.long v3), .second, .val (.long v5), .second, .val (.long v7), .second, .val (.long v9), .second, .val (.long r286), .second, .val (.long r287), .second, .val (.long r288), .second, .val (.long r289), .second, .val (.long r290), .second, .val (.int (0 : Int32)), .unset, .unset, .unset] [(.int ((((v0.toUInt32 >>> ((8 : Int32) &&& 31).toUInt32).toInt32) &&& (255 : Int32)).toUInt32.toUInt16.toUInt32.toInt32))])) (fun t k => ?_) ?_
    · show Steps p.tables e below (T290.setTop (mkF m 47 #[.val (.int v0), .val (.long v1), .second, .val (.long v3), .second, .val (.long v5), .second, .val (.long v7), .second, .val (.long v9), .second, .val (.long r286), .second, .val (.long r287), .second, .val (.long r288), .second, .val (.long r289), .second, .val (.long r290), .second, .unset, .unset, .unset, .unset] [(.int (v0 &&& (31 : Int32)))])) t
      refine XS.ifYes X290.here hx rfl (pc0 := 47) (pc' := 54) rfl (hb hby at_47) rfl ((if0 _ _).trans (feq hc47).2) (by decide) (by decide) ?_
      show Steps p.tables e below (T290.setTop (mkF m 54 #[.val (.int v0), .val (.long v1), .second, .val (.long v3), .second, .val (.long v5), .second, .val (.long v7), .second, .val (.long v9), .second, .val (.long r286), .second, .val (.long r287), .second, .val (.long r288), .second, .val (.long r289), .second, .val (.long r290), .second, .unset, .unset, .unset, .unset] [])) t
      refine XS.iconst X290.here hx rfl (hb hby at_54) ?_
      show Steps p.tables e below (T290.setTop (mkF m 55 #[.val (.int v0), .val (.long v1), .second, .val (.long v3), .second, .val (.long v5), .second, .val (.long v7), .second, .val (.long v9), .second, .val (.long r286), .second, .val (.long r287), .second, .val (.long r288), .second, .val (.long r289), .second, .val (.long r290), .second, .unset, .unset, .unset, .unset] [(.int (0 : Int32))])) t
      refine XS.istore X290.here hx rfl (hb hby at_55) rfl (l' := #[.val (.int v0), .val (.long v1), .second, .val (.long v3), .second, .val (.long v5), .second, .val (.long v7), .second, .val (.long v9), .second, .val (.long r286), .second, .val (.long r287), .second, .val (.long r288), .second, .val (.long r289), .second, .val (.long r290), .second, .val (.int (0 : Int32)), .unset, .unset, .unset]) rfl ?_
      show Steps p.tables e below (T290.setTop (mkF m 57 #[.val (.int v0), .val (.long v1), .second, .val (.long v3), .second, .val (.long v5), .second, .val (.long v7), .second, .val (.long v9), .second, .val (.long r286), .second, .val (.long r287), .second, .val (.long r288), .second, .val (.long r289), .second, .val (.long r290), .second, .val (.int (0 : Int32)), .unset, .unset, .unset] [])) t
      refine XS.iload X290.here hx rfl (hb hby at_57) rfl ?_
      show Steps p.tables e below (T290.setTop (mkF m 59 #[.val (.int v0), .val (.long v1), .second, .val (.long v3), .second, .val (.long v5), .second, .val (.long v7), .second, .val (.long v9), .second, .val (.long r286), .second, .val (.long r287), .second, .val (.long r288), .second, .val (.long r289), .second, .val (.long r290), .second, .val (.int (0 : Int32)), .unset, .unset, .unset] [(.int (0 : Int32))])) t
      refine XS.ifYes X290.here hx rfl (pc0 := 59) (pc' := 66) rfl (hb hby at_59) rfl ((if0 _ _).trans (teq (by decide : (0 : Int32) = (0 : Int32))).1) (by decide) (by decide) ?_
      show Steps p.tables e below (T290.setTop (mkF m 66 #[.val (.int v0), .val (.long v1), .second, .val (.long v3), .second, .val (.long v5), .second, .val (.long v7), .second, .val (.long v9), .second, .val (.long r286), .second, .val (.long r287), .second, .val (.long r288), .second, .val (.long r289), .second, .val (.long r290), .second, .val (.int (0 : Int32)), .unset, .unset, .unset] [])) t
      refine XS.iloadN X290.here hx rfl (hb hby at_66) rfl ?_
      show Steps p.tables e below (T290.setTop (mkF m 67 #[.val (.int v0), .val (.long v1), .second, .val (.long v3), .second, .val (.long v5), .second, .val (.long v7), .second, .val (.long v9), .second, .val (.long r286), .second, .val (.long r287), .second, .val (.long r288), .second, .val (.long r289), .second, .val (.long r290), .second, .val (.int (0 : Int32)), .unset, .unset, .unset] [(.int v0)])) t
      refine XS.bipush X290.here hx rfl (hb hby at_67) ?_
      show Steps p.tables e below (T290.setTop (mkF m 69 #[.val (.int v0), .val (.long v1), .second, .val (.long v3), .second, .val (.long v5), .second, .val (.long v7), .second, .val (.long v9), .second, .val (.long r286), .second, .val (.long r287), .second, .val (.long r288), .second, .val (.long r289), .second, .val (.long r290), .second, .val (.int (0 : Int32)), .unset, .unset, .unset] [(.int (8 : Int32)), (.int v0)])) t
      refine XS.iushr X290.here hx rfl (hb hby at_69) rfl ?_
      show Steps p.tables e below (T290.setTop (mkF m 70 #[.val (.int v0), .val (.long v1), .second, .val (.long v3), .second, .val (.long v5), .second, .val (.long v7), .second, .val (.long v9), .second, .val (.long r286), .second, .val (.long r287), .second, .val (.long r288), .second, .val (.long r289), .second, .val (.long r290), .second, .val (.int (0 : Int32)), .unset, .unset, .unset] [(.int ((v0.toUInt32 >>> ((8 : Int32) &&& 31).toUInt32).toInt32))])) t
      refine XS.sipush X290.here hx rfl (hb hby at_70) ?_
      show Steps p.tables e below (T290.setTop (mkF m 73 #[.val (.int v0), .val (.long v1), .second, .val (.long v3), .second, .val (.long v5), .second, .val (.long v7), .second, .val (.long v9), .second, .val (.long r286), .second, .val (.long r287), .second, .val (.long r288), .second, .val (.long r289), .second, .val (.long r290), .second, .val (.int (0 : Int32)), .unset, .unset, .unset] [(.int (255 : Int32)), (.int ((v0.toUInt32 >>> ((8 : Int32) &&& 31).toUInt32).toInt32))])) t
      refine XS.iand X290.here hx rfl (hb hby at_73) rfl ?_
      show Steps p.tables e below (T290.setTop (mkF m 74 #[.val (.int v0), .val (.long v1), .second, .val (.long v3), .second, .val (.long v5), .second, .val (.long v7), .second, .val (.long v9), .second, .val (.long r286), .second, .val (.long r287), .second, .val (.long r288), .second, .val (.long r289), .second, .val (.long r290), .second, .val (.int (0 : Int32)), .unset, .unset, .unset] [(.int (((v0.toUInt32 >>> ((8 : Int32) &&& 31).toUInt32).toInt32) &&& (255 : Int32)))])) t
      refine XS.i2c X290.here hx rfl (hb hby at_74) rfl ?_
      exact k
    obtain ⟨x291, hx291, hF⟩ := own_lt_e hF
    rw [← hx291]
    obtain ⟨r292, hr292, hF⟩ := own_bd_e hF
    obtain ⟨_, _, ⟨T292, L292, k292, n292⟩, -, X292, ⟨Lc292, hQ292, l292, y292, z292⟩, st292⟩ := Jvm.LawKit.callS X290 hx (y := (⟨"java/lang/String", "valueOf", "(C)Ljava/lang/String;"⟩ : MethodName)) hown (mvT hZ (w43 hw)) (mvT hZ (w44 hw)) (mvT hZ (w45 hw)) (mvT hZ (w46 hw)) (by decide) (backOf (W := 0) (rm_String_valueOf l Z a0 hw [] h n0 z hcs O x291 r292 hr292) hZ (w46 hw) (w45 hw) (by decide) (by decide)) (g := (mkF m 75 #[.val (.int v0), .val (.long v1), .second, .val (.long v3), .second, .val (.long v5), .second, .val (.long v7), .second, .val (.long v9), .second, .val (.long r286), .second, .val (.long r287), .second, .val (.long r288), .second, .val (.long r289), .second, .val (.long r290), .second, .val (.int (0 : Int32)), .unset, .unset, .unset] [(.int x291)])) rfl (by rw [hml]; rfl) (argsL := [(.int x291)]) (rest := []) (lenOf pd_7 rfl) rfl (by show 2 * 0 + _ ≤ _; exact Nat.le_of_eq rfl) (hb hby at_75) (fun _ _ => ⟨rfl, e290, (by decide : 0 + 2 ≤ _), (by decide : 0 + 5 ≤ _)⟩)
    dsimp only [Pt.U, Pt.locs, Pt.cells, Pt.slots] at X292 l292 y292 z292 st292 hQ292
    subst l292 y292 z292
    obtain ⟨c292_0, c292_1, rfl, N292q, K292, g292_c292_0, s292_c292_0, E292_c292_0, F292_c292_0_coder, F292_c292_0_value, g292_c292_1, s292_c292_1, A292_c292_1, ne_c292_1_c292_0'⟩ := hQ292
    have N292 := Fr.app N290 N292q
    have ne_c292_0_c292_1 := Ne.symm ne_c292_1_c292_0'
    have nE292_c292_0 : hE.size ≤ c292_0 := Nat.le_trans K.1 s292_c292_0
    have nE292_c292_1 : hE.size ≤ c292_1 := Nat.le_trans K.1 s292_c292_1
    have O292 := O.keep K292 all0
    have K292_ := K.trans K292 all0
    have z292_ := Nat.le_trans z K292.1
    refine own_Goes.via st292 ?_
    show own_Goes _ _ _ _ _ _ _ (T292.setTop (mkF m 78 #[.val (.int v0), .val (.long v1), .second, .val (.long v3), .second, .val (.long v5), .second, .val (.long v7), .second, .val (.long v9), .second, .val (.long r286), .second, .val (.long r287), .second, .val (.long r288), .second, .val (.long r289), .second, .val (.long r290), .second, .val (.int (0 : Int32)), .unset, .unset, .unset] [(.ref c292_0)]))
    exact b_law_78v2 cx X292 rfl N292 K292_ z292_ O292 c292_0 c292_1 v0 v1 v3 v5 v7 r286 r287 r288 r289 r290 (0 : Int32) r292.1 r292.2 v9 (.unset) (.unset) (.unset) One.u One.u One.u E292_c292_0 F292_c292_0_coder F292_c292_0_value g292_c292_0 nE292_c292_0 A292_c292_1 g292_c292_1 nE292_c292_1 ne_c292_0_c292_1 _ hF
theorem ef_law (m : MethodId) (x0 : Int32) (x1 : Int64) (x2 : Int64) (x3 : Int64) (x4 : Int64) (x5 : Int64) : entryFrame m #[(.int x0), (.long x1), (.long x2), (.long x3), (.long x4), (.long x5)] maxLocals = mkF m 0 #[.val (.int x0), .val (.long x1), .second, .val (.long x2), .second, .val (.long x3), .second, .val (.long x4), .second, .val (.long x5), .second, .unset, .unset, .unset, .unset, .unset, .unset, .unset, .unset, .unset, .unset, .unset, .unset, .unset, .unset] [] := by first | (simp [entryFrame, mkF, argsToLocals, Value.category, maxLocals]; done) | rfl
set_option maxRecDepth 65536 in
set_option maxHeartbeats 4000000 in
theorem rm_law (l : Launch) (Z : State) (a0 : Array Value) (hw : ∀ d ∈ tables_1, d.before a0 Z = true) (ws : List Jvm.Cond) (hE : Heap) (n0 : Nat) (z : n0 ≤ hE.size) (cs : own_CS Z) (O : Old Z n0 hE)  (v0 : Int32) (v1 : Int64) (v3 : Int64) (v5 : Int64) (v7 : Int64) (v9 : Int64) (r : Int32) (hF : (f_law v0 v1 v3 v5 v7 v9) = some r) :
    MetFree l x (head1 (Jvm.Cond.code x code maxLocals ret :: ws) room_1) (fun a U => a = #[(.int v0), (.long v1), (.long v3), (.long v5), (.long v7), (.long v9)] ∧ Z.Warmed39 U.vm ∧ U.heap = hE) (fun _ _ _ _ _ => True) (fun _ U o U' => ∃ v L, o = .returned v ∧ (Q_law Z hE n0 r) v U'.heap L ∧ FrameEnd U o U' L 3 15) := by
  refine MetFree.of_bodySF (plainFor_of_name pn_com_example_no_wait_scheduler_nowaitscheduler_verify_SummaryPassesPinLaw) hisR ?_
  intro p e s m args below meth c s₁ Bd hml0 hP hK
  obtain ⟨rfl, hZ, hh⟩ := hP
  have X0 : Stand p l e room_1 s m #[(.int v0), (.long v1), (.long v3), (.long v5), (.long v7), (.long v9)] below meth c s₁ [] 0 0 := Stand.of_body Bd
  have e0 : s₁.heap = hE := by rw [← hh, Bd.state]; rfl
  have cx : Cx_law p s m meth c Z a0 := ⟨Bd.exec, hZ, hw, Bd.bytes, hml0, findClass_of_methodNamed Bd.named, Bd.returns, Bd.notSynchronized, (name_of_methodNamed Bd.named Bd.method).1, cs⟩
  show own_Goes p e below s (Q_law Z hE n0 r) 3 15 (s₁.setTop (entryFrame m #[(.int v0), (.long v1), (.long v3), (.long v5), (.long v7), (.long v9)] maxLocals))
  rw [ef_law]
  exact b_law cx X0 e0 (Fr.nil n0) (Keep.refl _ _) z O v0 v1 v3 v5 v7 v9 _ hF
/-! the words of the mirrors -/
theorem own_bs {α β : Type} (x : α) (f : α → Option β) : own_bd (some x) f = f x := by unfold own_bd; exact rfl
theorem own_ls {α β : Type} (x : α) (f : α → Option β) : own_lt x f = f x := by unfold own_lt; exact rfl
theorem own_bn {α : Type} (x : Option α) : own_bd x (fun y => some y) = x := by cases x <;> exact rfl
theorem own_ct {β : Type} {P : Prop} [Decidable P] (x : Option β) (h : P) : own_ck P x = x := by unfold own_ck; exact if_pos h
/-! numbers: ints and longs as integers -/
theorem own_i1 (x : Int32) : -2147483648 ≤ x.toInt := Int32.le_toInt x
theorem own_i2 (x : Int32) : x.toInt < 2147483648 := Int32.toInt_lt x
theorem own_j1 (x : Int64) : -9223372036854775808 ≤ x.toInt := Int64.le_toInt x
theorem own_j2 (x : Int64) : x.toInt < 9223372036854775808 := Int64.toInt_lt x
theorem own_iadd {a b : Int32} (h1 : -2147483648 ≤ a.toInt + b.toInt) (h2 : a.toInt + b.toInt < 2147483648) : (a + b).toInt = a.toInt + b.toInt := by
  rw [Int32.toInt_add]; exact Int.bmod_eq_of_le (by omega) (by omega)
theorem own_isub {a b : Int32} (h1 : -2147483648 ≤ a.toInt - b.toInt) (h2 : a.toInt - b.toInt < 2147483648) : (a - b).toInt = a.toInt - b.toInt := by
  rw [Int32.toInt_sub]; exact Int.bmod_eq_of_le (by omega) (by omega)
theorem own_imul {a b : Int32} (h1 : -2147483648 ≤ a.toInt * b.toInt) (h2 : a.toInt * b.toInt < 2147483648) : (a * b).toInt = a.toInt * b.toInt := by
  rw [Int32.toInt_mul]; exact Int.bmod_eq_of_le (by omega) (by omega)
theorem own_ladd {a b : Int64} (h1 : -9223372036854775808 ≤ a.toInt + b.toInt) (h2 : a.toInt + b.toInt < 9223372036854775808) : (a + b).toInt = a.toInt + b.toInt := by
  rw [Int64.toInt_add]; exact Int.bmod_eq_of_le (by omega) (by omega)
theorem own_lsub {a b : Int64} (h1 : -9223372036854775808 ≤ a.toInt - b.toInt) (h2 : a.toInt - b.toInt < 9223372036854775808) : (a - b).toInt = a.toInt - b.toInt := by
  rw [Int64.toInt_sub]; exact Int.bmod_eq_of_le (by omega) (by omega)
theorem own_lmul {a b : Int64} (h1 : -9223372036854775808 ≤ a.toInt * b.toInt) (h2 : a.toInt * b.toInt < 9223372036854775808) : (a * b).toInt = a.toInt * b.toInt := by
  rw [Int64.toInt_mul]; exact Int.bmod_eq_of_le (by omega) (by omega)
theorem own_imask {x m : Int32} (k : Nat) (hk : k ≤ 31) (hm : m.toBitVec.toNat = 2 ^ k - 1) : (x &&& m).toInt = x.toInt % 2 ^ k := by
  have h1 : (x &&& m).toBitVec.toNat = x.toBitVec.toNat % 2 ^ k := by rw [Int32.toBitVec_and, BitVec.toNat_and, hm, Nat.and_two_pow_sub_one_eq_mod]
  have h3 : x.toBitVec.toNat % 2 ^ k < 2 ^ k := Nat.mod_lt _ (Nat.pow_pos (by decide))
  have h4 : (2 : Nat) ^ k ≤ 2 ^ 31 := Nat.pow_le_pow_right (by decide) hk
  have h2 : (x &&& m).toInt = ((x.toBitVec.toNat % 2 ^ k : Nat) : Int) := by
    show (x &&& m).toBitVec.toInt = _
    rw [BitVec.toInt_eq_toNat_of_lt (by rw [h1]; omega), h1]
  rw [h2]
  have h5 : x.toInt = x.toBitVec.toInt := rfl
  have h6 : ((2 : Int) ^ k) ∣ 4294967296 := by
    have : (4294967296 : Int) = 2 ^ k * 2 ^ (32 - k) := by rw [← Int.pow_add, show k + (32 - k) = 32 by omega]; rfl
    exact ⟨_, this⟩
  rw [h5, BitVec.toInt_eq_toNat_cond]
  split
  · exact Int.natCast_emod _ _
  · rw [Int.natCast_emod, show (((2 ^ 32 : Nat) : Int)) = 4294967296 from rfl, Int.sub_emod, Int.emod_eq_zero_of_dvd h6]; simp
theorem own_lmask {x m : Int64} (k : Nat) (hk : k ≤ 63) (hm : m.toBitVec.toNat = 2 ^ k - 1) : (x &&& m).toInt = x.toInt % 2 ^ k := by
  have h1 : (x &&& m).toBitVec.toNat = x.toBitVec.toNat % 2 ^ k := by rw [Int64.toBitVec_and, BitVec.toNat_and, hm, Nat.and_two_pow_sub_one_eq_mod]
  have h3 : x.toBitVec.toNat % 2 ^ k < 2 ^ k := Nat.mod_lt _ (Nat.pow_pos (by decide))
  have h4 : (2 : Nat) ^ k ≤ 2 ^ 63 := Nat.pow_le_pow_right (by decide) hk
  have h2 : (x &&& m).toInt = ((x.toBitVec.toNat % 2 ^ k : Nat) : Int) := by
    show (x &&& m).toBitVec.toInt = _
    rw [BitVec.toInt_eq_toNat_of_lt (by rw [h1]; omega), h1]
  rw [h2]
  have h5 : x.toInt = x.toBitVec.toInt := rfl
  have h6 : ((2 : Int) ^ k) ∣ 18446744073709551616 := by
    have : (18446744073709551616 : Int) = 2 ^ k * 2 ^ (64 - k) := by rw [← Int.pow_add, show k + (64 - k) = 64 by omega]; rfl
    exact ⟨_, this⟩
  rw [h5, BitVec.toInt_eq_toNat_cond]
  split
  · exact Int.natCast_emod _ _
  · rw [Int.natCast_emod, show (((2 ^ 64 : Nat) : Int)) = 18446744073709551616 from rfl, Int.sub_emod, Int.emod_eq_zero_of_dvd h6]; simp
theorem own_bm32 (x : Int) : x.bmod 4294967296 = (x + 2147483648) % 4294967296 - 2147483648 := by
  unfold Int.bmod; dsimp only; split <;> omega
theorem own_bm64 (x : Int) : x.bmod 18446744073709551616 = (x + 9223372036854775808) % 18446744073709551616 - 9223372036854775808 := by
  unfold Int.bmod; dsimp only; split <;> omega
theorem own_bm8 (x : Int) : x.bmod 256 = (x + 128) % 256 - 128 := by
  unfold Int.bmod; dsimp only; split <;> omega
theorem own_bm16 (x : Int) : x.bmod 65536 = (x + 32768) % 65536 - 32768 := by
  unfold Int.bmod; dsimp only; split <;> omega
theorem own_b8 (x : Int32) : x.toInt8.toInt32.toInt = (x.toInt + 128) % 256 - 128 := by rw [Int8.toInt_toInt32, Int32.toInt_toInt8]; exact own_bm8 _
theorem own_s16 (x : Int32) : x.toInt16.toInt32.toInt = (x.toInt + 32768) % 65536 - 32768 := by rw [Int16.toInt_toInt32, Int32.toInt_toInt16]; exact own_bm16 _
theorem own_l2i (x : Int64) : x.toInt32.toInt = (x.toInt + 2147483648) % 4294967296 - 2147483648 := by rw [Int64.toInt_toInt32]; exact own_bm32 _
theorem own_i2l (x : Int32) : x.toInt64.toInt = x.toInt := Int32.toInt_toInt64 x
theorem own_idiv {a b : Int32} (h1 : 0 ≤ a.toInt) (h2 : 0 < b.toInt) : (a / b).toInt = a.toInt / b.toInt := by
  rw [Int32.toInt_div_of_ne_right a b (fun q => by rw [q] at h2; exact absurd h2 (by decide)), Int.tdiv_eq_ediv_of_nonneg h1]
theorem own_ldiv {a b : Int64} (h1 : 0 ≤ a.toInt) (h2 : 0 < b.toInt) : (a / b).toInt = a.toInt / b.toInt := by
  rw [Int64.toInt_div_of_ne_right a b (fun q => by rw [q] at h2; exact absurd h2 (by decide)), Int.tdiv_eq_ediv_of_nonneg h1]
theorem own_imod {a b : Int32} (h1 : 0 ≤ a.toInt) : (a % b).toInt = a.toInt % b.toInt := by rw [Int32.toInt_mod, Int.tmod_eq_emod_of_nonneg h1]
theorem own_lmod {a b : Int64} (h1 : 0 ≤ a.toInt) : (a % b).toInt = a.toInt % b.toInt := by rw [Int64.toInt_mod, Int.tmod_eq_emod_of_nonneg h1]
theorem own_uI (x : Int32) : (x.toUInt32.toNat : Int) = x.toInt % 4294967296 := by
  have h : x.toInt = x.toBitVec.toInt := rfl
  have q : x.toUInt32.toNat = x.toBitVec.toNat := rfl
  have b := x.toBitVec.isLt
  rw [h, q, BitVec.toInt_eq_toNat_cond]
  split <;> omega
theorem own_uJ (x : Int64) : (x.toUInt64.toNat : Int) = x.toInt % 18446744073709551616 := by
  have h : x.toInt = x.toBitVec.toInt := rfl
  have q : x.toUInt64.toNat = x.toBitVec.toNat := rfl
  have b := x.toBitVec.isLt
  rw [h, q, BitVec.toInt_eq_toNat_cond]
  split <;> omega
theorem own_ofU (u : UInt32) (h : u.toNat < 2147483648) : u.toInt32.toInt = u.toNat := by
  show u.toBitVec.toInt = _
  exact BitVec.toInt_eq_toNat_of_lt (by show 2 * u.toNat < 2 ^ 32; omega)
theorem own_ofUJ (u : UInt64) (h : u.toNat < 9223372036854775808) : u.toInt64.toInt = u.toNat := by
  show u.toBitVec.toInt = _
  exact BitVec.toInt_eq_toNat_of_lt (by show 2 * u.toNat < 2 ^ 64; omega)
/-- Java's >>> on ints by a constant from 1 to 31 -/
theorem own_iushr (x s : Int32) (n : Nat) (h0 : 1 ≤ n) (hn : n < 32) (hs : (s &&& 31).toUInt32.toNat = n) : ((x.toUInt32 >>> (s &&& 31).toUInt32).toInt32).toInt = (x.toInt % 4294967296) / (2 ^ n : Nat) := by
  have e : (x.toUInt32 >>> (s &&& 31).toUInt32).toNat = x.toUInt32.toNat / 2 ^ n := by rw [UInt32.toNat_shiftRight, hs, Nat.mod_eq_of_lt hn, Nat.shiftRight_eq_div_pow]
  have b : x.toUInt32.toNat < 4294967296 := x.toUInt32.toNat_lt
  have c : x.toUInt32.toNat / 2 ^ n ≤ x.toUInt32.toNat / 2 ^ 1 := Nat.div_le_div_left (Nat.pow_le_pow_right (by decide) h0) (by decide)
  rw [own_ofU _ (by rw [e]; omega), e, Int.natCast_ediv, own_uI]
theorem own_lushr (x : Int64) (s : Int32) (n : Nat) (h0 : 1 ≤ n) (hn : n < 64) (hs : (s &&& 0x3f).toInt64.toUInt64.toNat = n) : ((x.toUInt64 >>> (s &&& 0x3f).toInt64.toUInt64).toInt64).toInt = (x.toInt % 18446744073709551616) / (2 ^ n : Nat) := by
  have e : (x.toUInt64 >>> (s &&& 0x3f).toInt64.toUInt64).toNat = x.toUInt64.toNat / 2 ^ n := by rw [UInt64.toNat_shiftRight, hs, Nat.mod_eq_of_lt hn, Nat.shiftRight_eq_div_pow]
  have b : x.toUInt64.toNat < 18446744073709551616 := x.toUInt64.toNat_lt
  have c : x.toUInt64.toNat / 2 ^ n ≤ x.toUInt64.toNat / 2 ^ 1 := Nat.div_le_div_left (Nat.pow_le_pow_right (by decide) h0) (by decide)
  rw [own_ofUJ _ (by rw [e]; omega), e, Int.natCast_ediv, own_uJ]
theorem own_ishl {x s : Int32} (n : Nat) (hs : (s.toBitVec.smod 32).toNat = n) (h0 : 0 ≤ x.toInt) (h1 : x.toInt * (2 ^ n : Nat) < 2147483648) : (x <<< s).toInt = x.toInt * (2 ^ n : Nat) := by
  have h : x.toInt = x.toBitVec.toInt := rfl
  have hx : x.toInt = x.toBitVec.toNat := by
    have b := x.toBitVec.isLt
    rw [h, BitVec.toInt_eq_toNat_cond]; rw [h, BitVec.toInt_eq_toNat_cond] at h0
    split at h0 <;> rename_i q
    · rw [if_pos q]
    · omega
  have e : (x <<< s).toBitVec.toNat = x.toBitVec.toNat * 2 ^ n := by
    rw [Int32.toBitVec_shiftLeft, BitVec.shiftLeft_eq', hs, BitVec.toNat_shiftLeft, Nat.shiftLeft_eq]
    apply Nat.mod_eq_of_lt
    rw [hx] at h1
    omega
  show (x <<< s).toBitVec.toInt = _
  rw [BitVec.toInt_eq_toNat_of_lt (by rw [e]; rw [hx] at h1; omega), e, hx]
  simp
theorem own_lshl {x s : Int64} (n : Nat) (hs : (s.toBitVec.smod 64).toNat = n) (h0 : 0 ≤ x.toInt) (h1 : x.toInt * (2 ^ n : Nat) < 9223372036854775808) : (x <<< s).toInt = x.toInt * (2 ^ n : Nat) := by
  have h : x.toInt = x.toBitVec.toInt := rfl
  have hx : x.toInt = x.toBitVec.toNat := by
    have b := x.toBitVec.isLt
    rw [h, BitVec.toInt_eq_toNat_cond]; rw [h, BitVec.toInt_eq_toNat_cond] at h0
    split at h0 <;> rename_i q
    · rw [if_pos q]
    · omega
  have e : (x <<< s).toBitVec.toNat = x.toBitVec.toNat * 2 ^ n := by
    rw [Int64.toBitVec_shiftLeft, BitVec.shiftLeft_eq', hs, BitVec.toNat_shiftLeft, Nat.shiftLeft_eq]
    apply Nat.mod_eq_of_lt
    rw [hx] at h1
    omega
  show (x <<< s).toBitVec.toInt = _
  rw [BitVec.toInt_eq_toNat_of_lt (by rw [e]; rw [hx] at h1; omega), e, hx]
  simp
theorem own_ishr (x s : Int32) (n : Nat) (hs : (s.toBitVec.smod 32).toNat = n) : (x >>> s).toInt = x.toInt / (2 ^ n : Nat) := by
  show (x >>> s).toBitVec.toInt = _
  rw [Int32.toBitVec_shiftRight, BitVec.sshiftRight', hs, BitVec.toInt_sshiftRight, Int.shiftRight_eq_div_pow]
  rfl
theorem own_lshr (x s : Int64) (n : Nat) (hs : (s.toBitVec.smod 64).toNat = n) : (x >>> s).toInt = x.toInt / (2 ^ n : Nat) := by
  show (x >>> s).toBitVec.toInt = _
  rw [Int64.toBitVec_shiftRight, BitVec.sshiftRight', hs, BitVec.toInt_sshiftRight, Int.shiftRight_eq_div_pow]
  rfl
theorem own_natbit (x k : Nat) : x &&& 2 ^ k = 0 ↔ x / 2 ^ k % 2 = 0 := by
  constructor
  · intro h
    have q : (x &&& 2 ^ k).testBit k = false := by rw [h]; exact Nat.zero_testBit k
    rw [Nat.testBit_and, Nat.testBit_two_pow_self, Bool.and_true, Nat.testBit_eq_decide_div_mod_eq] at q
    have q := of_decide_eq_false q
    omega
  · intro h
    apply Nat.eq_of_testBit_eq
    intro i
    rw [Nat.testBit_and, Nat.zero_testBit, Nat.testBit_two_pow]
    by_cases e : k = i
    · subst e
      rw [Nat.testBit_eq_decide_div_mod_eq, h]; rfl
    · simp [e]
/-- one bit of an int -/
theorem own_ibit (x m : Int32) (k : Nat) (hm : m.toBitVec.toNat = 2 ^ k) : (x &&& m = 0) ↔ x.toInt % 4294967296 / (2 ^ k : Nat) % 2 = 0 := by
  have u : (x.toBitVec.toNat : Int) = x.toInt % 4294967296 := own_uI x
  have z : (0 : Int32).toBitVec.toNat = 0 := rfl
  rw [← u, ← Int.natCast_ediv, ← Int32.toBitVec_inj, ← BitVec.toNat_inj, Int32.toBitVec_and, BitVec.toNat_and, hm, z, own_natbit]
  omega
theorem own_k0 : (0 : Int32).toNatClampNeg = 0 := by decide
theorem own_k1 : (1 : Int32).toNatClampNeg = 1 := by decide
theorem own_k2 : (2 : Int32).toNatClampNeg = 2 := by decide
theorem own_k3 : (3 : Int32).toNatClampNeg = 3 := by decide
theorem own_k4 : (4 : Int32).toNatClampNeg = 4 := by decide
theorem own_k5 : (5 : Int32).toNatClampNeg = 5 := by decide
theorem own_k6 : (6 : Int32).toNatClampNeg = 6 := by decide
theorem own_k7 : (7 : Int32).toNatClampNeg = 7 := by decide
/-- a byte, and what a property of the 256 of them says -/
theorem own_byte {P : Int32 → Prop} (h : ∀ n : Nat, n < 256 → P (Int32.ofNat n)) (x : Int32) (h1 : 0 ≤ x.toInt) (h2 : x.toInt < 256) : P x := by
  have e : x = Int32.ofNat x.toInt.toNat := by
    apply Int32.toInt_inj.mp
    rw [Int32.toInt_ofNat_of_lt (by omega)]; omega
  rw [e]; exact h _ (by omega)
theorem own_192 (x : Int32) (h1 : 0 ≤ x.toInt) (h2 : x.toInt < 256) : (x &&& 192).toInt = x.toInt / 64 * 64 :=
  own_byte (P := fun x => (x &&& 192).toInt = x.toInt / 64 * 64) (by decide +kernel) x h1 h2
/-- the or of two numbers that share no bit -/
theorem own_ior {x y : Int32} (k : Nat) (q : Int) (hq : 0 ≤ q) (hx : x.toInt = (2 ^ k : Nat) * q) (hy : 0 ≤ y.toInt) (hy2 : y.toInt < (2 ^ k : Nat)) : (x ||| y).toInt = x.toInt + y.toInt := by
  have x0 : 0 ≤ x.toInt := by rw [hx]; exact Int.mul_nonneg (Int.natCast_nonneg _) hq
  have ux := own_uI x
  have uy := own_uI y
  have x2 := own_i2 x
  have y2 := own_i2 y
  have nx : x.toUInt32.toNat = 2 ^ k * q.toNat := by
    have : ((2 ^ k * q.toNat : Nat) : Int) = (2 ^ k : Nat) * q := by rw [Int.natCast_mul, Int.toNat_of_nonneg hq]
    omega
  have e : (x ||| y).toBitVec.toNat = x.toUInt32.toNat + y.toUInt32.toNat := by
    rw [Int32.toBitVec_or, BitVec.toNat_or]
    show x.toUInt32.toNat ||| y.toUInt32.toNat = _
    rw [nx]
    exact (Nat.two_pow_add_eq_or_of_lt (by omega) _).symm
  have lt : x.toInt + y.toInt < 2147483648 := by
    by_cases k31 : k ≤ 31
    · have d : (2 ^ 31 : Nat) = 2 ^ k * 2 ^ (31 - k) := by rw [← Nat.pow_add]; congr 1; omega
      have z1 : q.toNat < 2 ^ (31 - k) := by
        apply Nat.lt_of_mul_lt_mul_left (a := 2 ^ k)
        rw [← d, ← nx]; omega
      have z2 : 2 ^ k * (q.toNat + 1) ≤ 2 ^ k * 2 ^ (31 - k) := Nat.mul_le_mul_left _ z1
      rw [← d, Nat.mul_add, ← nx] at z2
      omega
    · have z0 : q = 0 := by
        have z1 : (2 ^ 32 : Nat) ≤ 2 ^ k := Nat.pow_le_pow_right (by decide) (by omega)
        by_cases q0 : q = 0
        · exact q0
        · have z3 : (2 ^ k : Nat) * 1 ≤ ((2 ^ k : Nat) : Int) * q := Int.mul_le_mul_of_nonneg_left (by omega) (Int.natCast_nonneg _)
          omega
      rw [hx, z0]; omega
  show (x ||| y).toBitVec.toInt = _
  rw [BitVec.toInt_eq_toNat_of_lt (by rw [e]; omega), e]
  omega
/-! arrays as lists: a place read behind a write -/
theorem own_nn {i : Int32} (h : 0 ≤ i.toInt) : (i.toNatClampNeg : Int) = i.toInt := by rw [Int32.toNatClampNeg]; omega
theorem own_ib {α : Type} {bs : List α} {i : Int32} (h1 : 0 ≤ i.toInt) (h2 : i.toInt < bs.length) : own_inb bs i := by
  refine ⟨?_, ?_⟩
  · rw [Int32.lt_iff_toInt_lt]; simp only [Int32.reduceToInt]; omega
  · have := own_nn h1; omega
theorem own_ibe {α : Type} {bs : List α} {i : Int32} (h : own_inb bs i) : 0 ≤ i.toInt ∧ i.toInt < bs.length := by
  have h1 := h.1
  rw [Int32.lt_iff_toInt_lt] at h1
  simp only [Int32.reduceToInt] at h1
  have := own_nn (i := i) (by omega)
  have := h.2
  omega
theorem own_wrl {α : Type} (bs : List α) (j : Int32) (v : α) : (own_wr bs j v).length = bs.length := by rw [own_wr, List.length_set]
theorem own_rw {α : Type} [OfNat α 0] {bs : List α} {i j : Int32} (v : α) (hi : 0 ≤ i.toInt) (hj : own_inb bs j) : own_rd (own_wr bs j v) i = if i = j then v else own_rd bs i := by
  have h := own_ibe hj
  rw [own_rd, own_rd, own_wr]
  have ni := own_nn hi
  have nj := own_nn h.1
  by_cases e : i = j
  · subst e
    rw [if_pos rfl, List.getD_eq_getElem?_getD, List.getElem?_set_self (by omega)]; rfl
  · have e' : i.toInt ≠ j.toInt := fun z => e (Int32.toInt_inj.mp z)
    rw [if_neg e, List.getD_eq_getElem?_getD, List.getElem?_set_ne (by omega), List.getD_eq_getElem?_getD]
theorem own_rw1 {α : Type} [OfNat α 0] {bs : List α} {j : Int32} (v : α) (hj : own_inb bs j) : own_rd (own_wr bs j v) j = v := by rw [own_rw v (own_ibe hj).1 hj, if_pos rfl]
theorem own_rw2 {α : Type} [OfNat α 0] {bs : List α} {i j : Int32} (v : α) (hi : 0 ≤ i.toInt) (hj : own_inb bs j) (h : i.toInt ≠ j.toInt) : own_rd (own_wr bs j v) i = own_rd bs i := by
  rw [own_rw v hi hj, if_neg fun z => h (by rw [z])]
theorem own_rrep {α : Type} [OfNat α 0] (n : Nat) (v : α) {i : Int32} (h : i.toNatClampNeg < n) : own_rd (List.replicate n v) i = v := by
  rw [own_rd, List.getD_eq_getElem?_getD, List.getElem?_replicate, if_pos h]; rfl
theorem own_n8i (x : Int32) : x.toInt8.toInt32.toInt8.toInt32 = x.toInt8.toInt32 := by
  rw [← Int32.toInt_inj, own_b8, own_b8]; omega
theorem own_iadd1 (a : Int32) (k : Int32) (h1 : -2147483648 ≤ a.toInt + k.toInt) (h2 : a.toInt + k.toInt < 2147483648) : (a + k).toInt = a.toInt + k.toInt := own_iadd h1 h2
theorem own_cnt (s b : Int32) (x : Int64) (n : Nat) (hn : n ≤ 4) (hb : (b &&& 31).toUInt32.toNat = n) : ∃ k, f_SummaryPassesPinLaw_count s b x = some k ∧ (s.toInt % 4294967296 / (2 ^ n : Nat) % 2 = 0 → k.toInt = 0) ∧ (¬ s.toInt % 4294967296 / (2 ^ n : Nat) % 2 = 0 → 1 ≤ k.toInt) ∧ 0 ≤ k.toInt ∧ k.toInt ≤ 1152921504606846976 := by
  have l0 : (0 : Int64).toInt = 0 := rfl
  have l1 : (1 : Int64).toInt = 1 := rfl
  have z : (0 : Int32).toInt = 0 := rfl
  have e : ((((s.toUInt32 >>> (b &&& 31).toUInt32).toInt32) &&& (1 : Int32)) = 0) ↔ s.toInt % 4294967296 / (2 ^ n : Nat) % 2 = 0 := by
    have m : (((s.toUInt32 >>> (b &&& 31).toUInt32).toInt32) &&& (1 : Int32)).toInt = ((s.toUInt32 >>> (b &&& 31).toUInt32).toInt32).toInt % 2 ^ 1 := own_imask 1 (by decide) (by decide)
    rw [← Int32.toInt_inj, m, z]
    by_cases n0 : n = 0
    · subst n0
      have q : s.toUInt32 >>> (b &&& 31).toUInt32 = s.toUInt32 := by
        apply UInt32.toNat_inj.mp
        rw [UInt32.toNat_shiftRight, hb]; rfl
      rw [q]
      have q2 : s.toUInt32.toInt32 = s := rfl
      rw [q2]; omega
    · rw [own_iushr s b n (by omega) (by omega) hb]
      have : n = 1 ∨ n = 2 ∨ n = 3 ∨ n = 4 := by omega
      rcases this with rfl | rfl | rfl | rfl <;> omega
  have u : ((x.toUInt64 >>> ((4 : Int32) &&& 0x3f).toInt64.toUInt64).toInt64).toInt = x.toInt % 18446744073709551616 / 16 := own_lushr x 4 4 (by decide) (by decide) (by decide)
  unfold f_SummaryPassesPinLaw_count
  by_cases c : (((s.toUInt32 >>> (b &&& 31).toUInt32).toInt32) &&& (1 : Int32)) = 0
  · rw [if_pos c]
    exact ⟨_, rfl, fun _ => l0, fun q => absurd (e.mp c) q, by decide, by decide⟩
  · rw [if_neg c]
    have a : (((x.toUInt64 >>> ((4 : Int32) &&& 0x3f).toInt64.toUInt64).toInt64) + 1).toInt = x.toInt % 18446744073709551616 / 16 + 1 := by rw [own_ladd (by rw [u, l1]; omega) (by rw [u, l1]; omega), u, l1]
    exact ⟨_, rfl, fun q => absurd (e.mpr q) c, fun _ => by rw [a]; omega, by rw [a]; omega, by rw [a]; omega⟩
/-- passes and findings, for five counts -/
theorem own_fin (c0 c1 c2 c3 c4 : Int64) (h0 : 0 ≤ c0.toInt ∧ c0.toInt ≤ 1152921504606846976) (h1 : 0 ≤ c1.toInt ∧ c1.toInt ≤ 1152921504606846976) (h2 : 0 ≤ c2.toInt ∧ c2.toInt ≤ 1152921504606846976) (h3 : 0 ≤ c3.toInt ∧ c3.toInt ≤ 1152921504606846976) (h4 : 0 ≤ c4.toInt ∧ c4.toInt ≤ 1152921504606846976) :
    ((c0 + c1 + c2 + c3 + c4 = 0) ↔ (c0.toInt = 0 ∧ c1.toInt = 0 ∧ c2.toInt = 0 ∧ c3.toInt = 0 ∧ c4.toInt = 0)) := by
  have l0 : (0 : Int64).toInt = 0 := rfl
  have e1 : (c0 + c1).toInt = c0.toInt + c1.toInt := own_ladd (by omega) (by omega)
  have e2 : (c0 + c1 + c2).toInt = c0.toInt + c1.toInt + c2.toInt := by rw [own_ladd (by omega) (by omega), e1]
  have e3 : (c0 + c1 + c2 + c3).toInt = c0.toInt + c1.toInt + c2.toInt + c3.toInt := by rw [own_ladd (by omega) (by omega), e2]
  have e4 : (c0 + c1 + c2 + c3 + c4).toInt = c0.toInt + c1.toInt + c2.toInt + c3.toInt + c4.toInt := by rw [own_ladd (by omega) (by omega), e3]
  rw [← Int64.toInt_inj, e4, l0]; omega
theorem own_law (s : Int32) (a b c d e : Int64) : f_law s a b c d e = some 1 := by
  obtain ⟨k0, a0, z0, n0, r0⟩ := own_cnt s 0 a 0 (by decide) (by decide)
  obtain ⟨k1, a1, z1, n1, r1⟩ := own_cnt s 1 b 1 (by decide) (by decide)
  obtain ⟨k2, a2, z2, n2, r2⟩ := own_cnt s 2 c 2 (by decide) (by decide)
  obtain ⟨k3, a3, z3, n3, r3⟩ := own_cnt s 3 d 3 (by decide) (by decide)
  obtain ⟨k4, a4, z4, n4, r4⟩ := own_cnt s 4 e 4 (by decide) (by decide)
  have m : (s &&& (31 : Int32)).toInt = s.toInt % 2 ^ 5 := own_imask 5 (by decide) (by decide)
  have z : (0 : Int32).toInt = 0 := rfl
  have l0 : (0 : Int64).toInt = 0 := rfl
  have sum := own_fin k0 k1 k2 k3 k4 r0 r1 r2 r3 r4
  unfold f_law
  rw [a0, own_bs, a1, own_bs, a2, own_bs, a3, own_bs, a4, own_bs]
  by_cases h : s &&& 31 = 0
  · rw [if_pos h]
    rw [← Int32.toInt_inj, m, z] at h
    have y0 : k0.toInt = 0 := z0 (by omega)
    have y1 : k1.toInt = 0 := z1 (by omega)
    have y2 : k2.toInt = 0 := z2 (by omega)
    have y3 : k3.toInt = 0 := z3 (by omega)
    have y4 : k4.toInt = 0 := z4 (by omega)
    have fin : ∀ t0 : Int32, ∀ t1 : Int64, f_law_99 a b c d k0 k1 k2 k3 k4 1 t0 t1 0 0 0 0 0 0 0 0 0 = some 1 := fun t0 t1 => by
      unfold f_law_99 f_Summary_mk
      rw [own_ls, own_ls, own_bs]
      dsimp only
      unfold f_Summary_passes f_Summary_findings
      rw [if_pos (by rw [← Int64.toInt_inj, y0, l0]), if_pos (by rw [← Int64.toInt_inj, y1, l0]), if_pos (by rw [← Int64.toInt_inj, y2, l0]), if_pos (by rw [← Int64.toInt_inj, y3, l0]), if_pos (by rw [← Int64.toInt_inj, y4, l0]), own_bs, if_pos rfl, own_bs, if_pos (sum.mpr ⟨y0, y1, y2, y3, y4⟩), if_pos rfl]
    unfold f_law_78
    split
    · exact fin _ _
    · exact fin _ _
  · rw [if_neg h, own_ls]
    rw [← Int32.toInt_inj, m, z] at h
    have some1 : ¬ (k0.toInt = 0 ∧ k1.toInt = 0 ∧ k2.toInt = 0 ∧ k3.toInt = 0 ∧ k4.toInt = 0) := fun q => by
      have x0 : s.toInt % 4294967296 / (2 ^ 0 : Nat) % 2 = 0 := Decidable.byContradiction fun y => by have := n0 y; omega
      have x1 : s.toInt % 4294967296 / (2 ^ 1 : Nat) % 2 = 0 := Decidable.byContradiction fun y => by have := n1 y; omega
      have x2 : s.toInt % 4294967296 / (2 ^ 2 : Nat) % 2 = 0 := Decidable.byContradiction fun y => by have := n2 y; omega
      have x3 : s.toInt % 4294967296 / (2 ^ 3 : Nat) % 2 = 0 := Decidable.byContradiction fun y => by have := n3 y; omega
      have x4 : s.toInt % 4294967296 / (2 ^ 4 : Nat) % 2 = 0 := Decidable.byContradiction fun y => by have := n4 y; omega
      omega
    -- the string's one sign
    have ch : ∀ x : Int32, ((x &&& 255).toUInt32.toUInt16.toUInt32.toInt32).toInt = x.toInt % 256 := fun x => by
      have q : (x &&& 255).toInt = x.toInt % 2 ^ 8 := own_imask 8 (by decide) (by decide)
      have u := own_uI (x &&& 255)
      have e1 : (x &&& 255).toUInt32.toUInt16.toUInt32.toNat = (x &&& 255).toUInt32.toNat % 65536 := rfl
      rw [own_ofU _ (by rw [e1]; omega), e1]; omega
    obtain ⟨r, hr⟩ : ∃ r, f_String_valueOf ((((s.toUInt32 >>> ((8 : Int32) &&& 31).toUInt32).toInt32) &&& (255 : Int32)).toUInt32.toUInt16.toUInt32.toInt32) = some r := by
      unfold f_String_valueOf f_StringLatin1_canEncode f_StringLatin1_toBytes f_String_mk
      rw [if_neg (by rw [Int32.lt_iff_toInt_lt, ch]; simp only [Int32.reduceToInt]; omega), own_bs, if_neg (by decide), own_ls, own_bs, own_bs]
      exact ⟨_, rfl⟩
    rw [hr, own_bs]
    have fin : ∀ (t0 : Int32) (t1 : Int64) (q1 : Int32) (q2 : List Int32), f_law_99v2 a b c d k0 k1 k2 k3 k4 0 t0 t1 q1 q2 0 0 0 0 0 0 0 0 0 = some 1 := fun t0 t1 q1 q2 => by
      unfold f_law_99v2 f_Summary_mk_i2
      rw [own_ls, own_ls, own_bs]
      dsimp only
      have pass : f_Summary_passes_i2 k0 k1 (t0 &&& 1) (c - d) t1 k4 k2 (a ^^^ b) k3 q1 q2 = some 0 := by
        unfold f_Summary_passes_i2
        simp only [← Int64.toInt_inj, l0]
        repeat' split
        all_goals first | rfl | (exfalso; exact some1 ⟨by assumption, by assumption, by assumption, by assumption, by assumption⟩)
      rw [pass, own_bs, if_pos rfl]
      unfold f_Summary_findings_i2
      rw [own_bs, if_neg (fun q => some1 (sum.mp q)), if_pos rfl]
    unfold f_law_78v2
    split
    · exact fin _ _ _ _
    · exact fin _ _ _ _

set_option maxRecDepth 65536 in
set_option maxHeartbeats 4000000 in
theorem comes_1 {Post : Tables → Env → Array Value → State → Outcome → State → Prop} (hpost : ∀ tb e args s v u, (limb_1_1.after args s (.returned v) u = true ∧ limb_1_2.after args s (.returned v) u = true ∧ True) → FrameEnd s (.returned v) u (Jvm.fieldLocs frame_1_writes args s ++ Jvm.arrayLocs frame_1_arrays args s ++ Jvm.staticLocs frame_1_statics s) 16 128 → Post tb e args s (.returned v) u) :
    ArmFor flags0 classFile x code maxLocals ret World_1 tables_1 room_1 Calls_1 rest_1 Pre_1 Post := by
  intro l hfl _ _ p e ha hc hk s m args below hf hA hF happ hP
  obtain ⟨hcalls, hrest, hpre⟩ := hP
  obtain ⟨-, -, -, hnamed, -, -, -, hat⟩ := (Spec.applies_iff hf).mp happ
  obtain ⟨hg, hn⟩ := and_e (Cond.before_iff.mp (show (Jvm.Cond.and given_1 narrow_1).before args s = true from hpre))
  obtain ⟨gc, g0⟩ := and_e hg
  obtain ⟨ga0, g1⟩ := and_e g0
  obtain ⟨ga1, g2⟩ := and_e g1
  obtain ⟨ga2, g3⟩ := and_e g2
  obtain ⟨ga3, g4⟩ := and_e g3
  obtain ⟨ga4, g5⟩ := and_e g4
  have ga5 := g5
  obtain ⟨w0, w1, w2, w3, w4, w5, rfl⟩ : ∃ w0 w1 w2 w3 w4 w5 : Value, args = #[w0, w1, w2, w3, w4, w5] := by
    have hs : args.size = 6 := by simpa [Cond.value, given_1] using gc
    obtain ⟨L⟩ := args
    match L, hs with
    | [w0, w1, w2, w3, w4, w5], _ => exact ⟨w0, w1, w2, w3, w4, w5, rfl⟩
  have hw := fun d (hd : d ∈ tables_1) => atoms_spec (ws := Jvm.Cond.code x code maxLocals ret :: tables_1) hat d (List.mem_cons_of_mem _ hd)
  obtain ⟨i0, ei0⟩ := is_v ga0
  obtain rfl : w0 = (.int i0) := Option.some.inj ei0
  obtain ⟨i1, ei1⟩ := isL_v ga1
  obtain rfl : w1 = (.long i1) := Option.some.inj ei1
  obtain ⟨i2, ei2⟩ := isL_v ga2
  obtain rfl : w2 = (.long i2) := Option.some.inj ei2
  obtain ⟨i3, ei3⟩ := isL_v ga3
  obtain rfl : w3 = (.long i3) := Option.some.inj ei3
  obtain ⟨i4, ei4⟩ := isL_v ga4
  obtain rfl : w4 = (.long i4) := Option.some.inj ei4
  obtain ⟨i5, ei5⟩ := isL_v ga5
  obtain rfl : w5 = (.long i5) := Option.some.inj ei5
  obtain ⟨hsets, hown0⟩ := atoms_of _ (rest_1_c_eq ▸ (show rest_1_c.before _ s = true from hrest))
  have n5 := not_v (Cond.before_iff.mp (hsets _ (List.mem_of_getElem? (i := 2) rfl)))
  obtain ⟨i11, e10⟩ := is_v (Cond.before_iff.mp (hsets _ (List.mem_of_getElem? (i := 1) rfl)))
  have hcs : own_CS s := ⟨i11, Sta.start e10 (Or.inl (hsets _ (List.mem_of_getElem? (i := 0) rfl))), gotF (Cond.eq_ints e10 (Term.int_eval (0))) n5⟩
  obtain ⟨n, o, h1, h2, h3, _, L, rfl, hQ, hq⟩ := rm_law l s _ hw tables_1 s.heap s.heap.size (Nat.le_refl _) hcs (Old.start s) i0 i1 i2 i3 i4 i5 1 (own_law i0 i1 i2 i3 i4 i5) p e ha hc hk s m _ below hf ((Spec.applies_iff_loose hf).mp happ).1 ⟨rfl, State.Warmed39.refl s, rfl⟩ trivial
  obtain ⟨rfl, N, -⟩ := hQ
  refine ⟨n, _, h1, h2, h3, hpost _ _ _ _ _ _ ⟨Cond.after_iff.mpr rfl, Cond.after_iff.mpr (eq_i res_at (Term.int_eval (1)) rfl), trivial⟩ ⟨hq.1, hq.2.1, (hq.2.2.sift fun y hy => Or.inr (N y hy)).mono (by decide) (by decide)⟩⟩
theorem main_1_1 : Claimed_1_1 := comes_1 fun _ _ _ _ _ _ h hF => ⟨h.1, hF⟩
theorem main_1_2 : Claimed_1_2 := comes_1 fun _ _ _ _ _ _ h hF => ⟨h.2.1, hF⟩
end Jvm.Pilot.@@N@@
namespace Jvm.Pilot.@@N@@
open Jvm Jvm.ClassFile Sem Op Lib Jvm.Free Jvm.Stand Jvm.Pilot.@@N@@.Jvm.D
/-! MADE BY PROGRAM (witnessworld.py) out of the Statement's table words and the real class files: 17 classes; the members and pool entries that the words name. The judged class is class 1, her method 2. -/
namespace start1
open Jvm.ClassFile
def u (s : String) : CpInfo := .utf8 (stringToUtf16 s)
/-- a pool by its gaps: so many unusable entries, then the entry; so many at the end -/
def gap : Nat → List CpInfo → List CpInfo
  | 0, r => r
  | n + 1, r => .unusable :: gap n r
def poolList (es : List (Nat × CpInfo)) (last : Nat) : List CpInfo := es.foldr (fun e r => gap e.1 (e.2 :: r)) (gap last [])
def pool (es : List (Nat × CpInfo)) (last : Nat) : Array CpInfo := ⟨poolList es last⟩
def fileOf (pool : Array CpInfo) (this : Nat) (attrs : Array Attribute := #[]) (ms : Array MethodInfo := #[]) (fl : Nat := 33) (sup : Nat := 0) (ifs : Array Nat := #[]) (fds : Array FieldInfo := #[]) : ClassFile where
  minorVersion := 0
  majorVersion := 65
  constantPool := pool
  accessFlags := fl
  thisClass := this
  superClass := sup
  interfaces := ifs
  fields := fds
  methods := ms
  attributes := attrs
def plain (name : String) (sup : Option ClassId) : Class where
  name := name
  kind := .ordinary
  loader := none
  accessFlags := 33
  super := sup
  interfaces := #[]
  cf := none
  fields := #[]
  methods := #[]
  instanceTypes := #[]
  staticTypes := #[]
  resolved := #[]
  callSites := []
  init := .initialized
  statics := none
  mirror := none

def pool0 : Array CpInfo := pool [(5, u "<init>"), (0, u "()V"), (1, .class_ 10), (1, u "java/lang/Object")] 113

def k0c0 : Code := { maxStack := 0, maxLocals := 1, code := object_method_1_code, exceptionTable := #[], attributes := #[] }
def k0m0 : Method := { name := "<init>", desc := "()V", sig := { parameters := [], returnType := none }, accessFlags := 1, code := some k0c0 }
/-- java/lang/Object -/
def k0 : Class := { plain "java/lang/Object" none with
  accessFlags := 33
  interfaces := #[]
  cf := some (fileOf pool0 8 #[] #[{ accessFlags := 1, nameIndex := 5, descriptorIndex := 6, attributes := #[] }] 33 0 #[] #[])
  fields := #[]
  methods := #[k0m0]
  instanceTypes := #[]
  staticTypes := #[]
  resolved := Array.replicate 124 none
  statics := none }

def pool1 : Array CpInfo := pool [(2, .class_ 4), (1, u "java/lang/Object"), (0, u "<init>"), (0, u "()V"), (0, .methodref 8 9), (0, .class_ 10), (0, .nameAndType 11 12), (0, u "com/example/no_wait_scheduler/nowaitscheduler/verify/SummaryPassesPinLaw"), (0, u "count"), (0, u "(IIJ)J"), (0, .methodref 14 15), (0, .class_ 16), (0, .nameAndType 17 18), (0, u "java/lang/String"), (0, u "valueOf"), (0, u "(C)Ljava/lang/String;"), (0, .class_ 20), (0, u "com/example/no_wait_scheduler/nowaitscheduler/verify/Summary"), (0, .methodref 19 22), (0, .nameAndType 5 23), (0, u "(JZJJJJJJJLjava/lang/String;)V"), (0, .methodref 19 25), (0, .nameAndType 26 27), (0, u "passes"), (0, u "()Z"), (0, .methodref 19 29), (0, .nameAndType 30 31), (0, u "findings"), (0, u "()J"), (3, u "law"), (0, u "(IJJJJJ)Z")] 2

def k1m0 : Method := { name := "<init>", desc := "()V", sig := { parameters := [], returnType := none }, accessFlags := 1, code := none }
def k1c1 : Code := { maxStack := 4, maxLocals := 4, code := method_2_code, exceptionTable := #[], attributes := #[] }
def k1m1 : Method := { name := "count", desc := "(IIJ)J", sig := { parameters := [.int, .int, .long], returnType := some .long }, accessFlags := 10, code := some k1c1 }
def k1c2 : Code := { maxStack := 21, maxLocals := 25, code := code, exceptionTable := #[], attributes := #[] }
def k1m2 : Method := { name := "law", desc := "(IJJJJJ)Z", sig := { parameters := [.int, .long, .long, .long, .long, .long], returnType := some .boolean }, accessFlags := 9, code := some k1c2 }
/-- com/example/no_wait_scheduler/nowaitscheduler/verify/SummaryPassesPinLaw -/
def k1 : Class := { plain "com/example/no_wait_scheduler/nowaitscheduler/verify/SummaryPassesPinLaw" (some 0) with
  accessFlags := 49
  interfaces := #[]
  cf := some (fileOf pool1 8 #[] #[{ accessFlags := 1, nameIndex := 5, descriptorIndex := 6, attributes := #[] }, { accessFlags := 10, nameIndex := 11, descriptorIndex := 12, attributes := #[] }, { accessFlags := 9, nameIndex := 35, descriptorIndex := 36, attributes := #[] }] 49 2 #[] #[])
  fields := #[]
  methods := #[k1m0, k1m1, k1m2]
  instanceTypes := #[]
  staticTypes := #[]
  resolved := Array.replicate 39 none
  statics := none }

def pool2 : Array CpInfo := pool [(1, .methodref 2 3), (0, .class_ 4), (0, .nameAndType 5 6), (0, u "java/lang/Object"), (0, u "<init>"), (0, u "()V"), (0, .fieldref 8 9), (0, .class_ 10), (0, .nameAndType 11 12), (0, u "com/example/no_wait_scheduler/nowaitscheduler/verify/Summary"), (0, u "frames"), (0, u "J"), (0, .fieldref 8 14), (0, .nameAndType 15 16), (0, u "fixedPlacement"), (0, u "Z"), (0, .fieldref 8 18), (0, .nameAndType 19 12), (0, u "conflicts"), (0, .fieldref 8 21), (0, .nameAndType 22 12), (0, u "early"), (0, .fieldref 8 24), (0, .nameAndType 25 12), (0, u "order"), (0, .fieldref 8 27), (0, .nameAndType 28 12), (0, u "window"), (0, .fieldref 8 30), (0, .nameAndType 31 12), (0, u "missing"), (0, .fieldref 8 33), (0, .nameAndType 34 12), (0, u "waitingNs"), (0, .fieldref 8 36), (0, .nameAndType 37 12), (0, u "flowspanNs"), (0, .fieldref 8 39), (0, .nameAndType 40 41), (0, u "firstFinding"), (0, u "Ljava/lang/String;"), (9, u "findings"), (0, u "()J"), (27, u "(JZJJJJJJJLjava/lang/String;)V"), (2, u "passes"), (0, u "()Z")] 44

def k2c0 : Code := { maxStack := 3, maxLocals := 19, code := prog_51_method_1_code, exceptionTable := #[], attributes := #[] }
def k2m0 : Method := { name := "<init>", desc := "(JZJJJJJJJLjava/lang/String;)V", sig := { parameters := [.long, .boolean, .long, .long, .long, .long, .long, .long, .long, (.object "java/lang/String")], returnType := none }, accessFlags := 0, code := some k2c0 }
def k2c1 : Code := { maxStack := 4, maxLocals := 1, code := prog_51_method_2_code, exceptionTable := #[], attributes := #[] }
def k2m1 : Method := { name := "passes", desc := "()Z", sig := { parameters := [], returnType := some .boolean }, accessFlags := 1, code := some k2c1 }
def k2c2 : Code := { maxStack := 4, maxLocals := 1, code := prog_51_method_3_code, exceptionTable := #[], attributes := #[] }
def k2m2 : Method := { name := "findings", desc := "()J", sig := { parameters := [], returnType := some .long }, accessFlags := 1, code := some k2c2 }
/-- com/example/no_wait_scheduler/nowaitscheduler/verify/Summary -/
def k2 : Class := { plain "com/example/no_wait_scheduler/nowaitscheduler/verify/Summary" (some 0) with
  accessFlags := 49
  interfaces := #[]
  cf := some (fileOf pool2 8 #[] #[{ accessFlags := 0, nameIndex := 5, descriptorIndex := 80, attributes := #[] }, { accessFlags := 1, nameIndex := 83, descriptorIndex := 84, attributes := #[] }, { accessFlags := 1, nameIndex := 51, descriptorIndex := 52, attributes := #[] }] 49 2 #[] #[{ accessFlags := 18, nameIndex := 11, descriptorIndex := 12, attributes := #[] }, { accessFlags := 18, nameIndex := 15, descriptorIndex := 16, attributes := #[] }, { accessFlags := 18, nameIndex := 19, descriptorIndex := 12, attributes := #[] }, { accessFlags := 18, nameIndex := 22, descriptorIndex := 12, attributes := #[] }, { accessFlags := 18, nameIndex := 25, descriptorIndex := 12, attributes := #[] }, { accessFlags := 18, nameIndex := 28, descriptorIndex := 12, attributes := #[] }, { accessFlags := 18, nameIndex := 31, descriptorIndex := 12, attributes := #[] }, { accessFlags := 18, nameIndex := 34, descriptorIndex := 12, attributes := #[] }, { accessFlags := 18, nameIndex := 37, descriptorIndex := 12, attributes := #[] }, { accessFlags := 18, nameIndex := 40, descriptorIndex := 41, attributes := #[] }])
  fields := #[{ name := "frames", type := .long, accessFlags := 18, slot := 0, constantValue := 0 }, { name := "fixedPlacement", type := .boolean, accessFlags := 18, slot := 1, constantValue := 0 }, { name := "conflicts", type := .long, accessFlags := 18, slot := 2, constantValue := 0 }, { name := "early", type := .long, accessFlags := 18, slot := 3, constantValue := 0 }, { name := "order", type := .long, accessFlags := 18, slot := 4, constantValue := 0 }, { name := "window", type := .long, accessFlags := 18, slot := 5, constantValue := 0 }, { name := "missing", type := .long, accessFlags := 18, slot := 6, constantValue := 0 }, { name := "waitingNs", type := .long, accessFlags := 18, slot := 7, constantValue := 0 }, { name := "flowspanNs", type := .long, accessFlags := 18, slot := 8, constantValue := 0 }, { name := "firstFinding", type := (.object "java/lang/String"), accessFlags := 18, slot := 9, constantValue := 0 }]
  methods := #[k2m0, k2m1, k2m2]
  instanceTypes := #[.long, .boolean, .long, .long, .long, .long, .long, .long, .long, (.object "java/lang/String")]
  staticTypes := #[]
  resolved := Array.replicate 129 none
  statics := none }

def pool3 : Array CpInfo := pool [(1, .class_ 2), (0, u "java/io/Serializable"), (0, .class_ 4), (0, u "java/lang/Object")] 2

/-- java/io/Serializable -/
def k3 : Class := { plain "java/io/Serializable" (some 0) with
  accessFlags := 1537
  interfaces := #[]
  cf := some (fileOf pool3 1 #[] #[] 1537 3 #[] #[])
  fields := #[]
  methods := #[]
  instanceTypes := #[]
  staticTypes := #[]
  resolved := Array.replicate 7 none
  statics := none }

def pool4 : Array CpInfo := pool [(1, .class_ 2), (0, u "java/lang/Comparable"), (0, .class_ 4), (0, u "java/lang/Object")] 7

/-- java/lang/Comparable -/
def k4 : Class := { plain "java/lang/Comparable" (some 0) with
  accessFlags := 1537
  interfaces := #[]
  cf := some (fileOf pool4 1 #[] #[] 1537 3 #[] #[])
  fields := #[]
  methods := #[]
  instanceTypes := #[]
  staticTypes := #[]
  resolved := Array.replicate 12 none
  statics := none }

def pool5 : Array CpInfo := pool [(2, .class_ 4), (1, u "java/lang/CharSequence"), (42, .class_ 48), (0, u "java/lang/CharSequence$1CodePointIterator"), (10, .class_ 60), (0, u "java/lang/CharSequence$1CharIterator"), (5, .class_ 67), (0, u "java/lang/Object")] 63

/-- java/lang/CharSequence -/
def k5 : Class := { plain "java/lang/CharSequence" (some 0) with
  accessFlags := 1537
  interfaces := #[]
  cf := some (fileOf pool5 2 #[.nestMembers #[47, 59]] #[] 1537 66 #[] #[])
  fields := #[]
  methods := #[]
  instanceTypes := #[]
  staticTypes := #[]
  resolved := Array.replicate 131 none
  statics := none }

def pool6 : Array CpInfo := pool [(1, .class_ 2), (0, u "java/lang/constant/Constable"), (0, .class_ 4), (0, u "java/lang/Object")] 6

/-- java/lang/constant/Constable -/
def k6 : Class := { plain "java/lang/constant/Constable" (some 0) with
  accessFlags := 1537
  interfaces := #[]
  cf := some (fileOf pool6 1 #[] #[] 1537 3 #[] #[])
  fields := #[]
  methods := #[]
  instanceTypes := #[]
  staticTypes := #[]
  resolved := Array.replicate 11 none
  statics := none }

def pool7 : Array CpInfo := pool [(1, .class_ 2), (0, u "java/lang/constant/ConstantDesc"), (0, .class_ 4), (0, u "java/lang/Object")] 32

/-- java/lang/constant/ConstantDesc -/
def k7 : Class := { plain "java/lang/constant/ConstantDesc" (some 0) with
  accessFlags := 1537
  interfaces := #[]
  cf := some (fileOf pool7 1 #[] #[] 1537 3 #[] #[])
  fields := #[]
  methods := #[]
  instanceTypes := #[]
  staticTypes := #[]
  resolved := Array.replicate 37 none
  statics := none }

def pool8 : Array CpInfo := pool [(1, .methodref 2 3), (0, .class_ 4), (0, .nameAndType 5 6), (0, u "java/lang/Object"), (0, u "<init>"), (0, u "()V"), (2, .fieldref 10 11), (0, .class_ 12), (0, .nameAndType 13 14), (0, u "java/lang/String"), (0, u "value"), (0, u "[B"), (0, .fieldref 10 16), (0, .nameAndType 17 18), (0, u "coder"), (0, u "B"), (2, u "hash"), (0, u "I"), (2, u "hashIsZero"), (0, u "Z"), (11, .fieldref 10 39), (0, .nameAndType 40 26), (0, u "COMPACT_STRINGS"), (12, u "toBytes"), (53, .class_ 109), (1, u "java/lang/StringLatin1"), (99, .methodref 10 210), (0, .nameAndType 5 211), (0, u "([BB)V"), (157, u "(C)Z"), (205, .class_ 576), (0, u "java/lang/CharSequence"), (22, u "CASE_INSENSITIVE_ORDER"), (0, u "Ljava/util/Comparator;"), (181, u "valueOf"), (0, u "(C)Ljava/lang/String;"), (231, .methodref 107 1016), (0, .nameAndType 1017 369), (0, u "canEncode"), (0, .methodref 107 1019), (0, .nameAndType 53 1020), (0, u "(C)[B"), (80, u "serialPersistentFields"), (0, u "[Ljava/io/ObjectStreamField;"), (0, .class_ 1104), (0, u "java/lang/String$CaseInsensitiveComparator"), (1, .class_ 1107), (0, u "java/io/Serializable"), (0, .class_ 1109), (0, u "java/lang/Comparable"), (0, .class_ 1111), (0, u "java/lang/constant/Constable"), (0, .class_ 1113), (0, u "java/lang/constant/ConstantDesc"), (2, u "serialVersionUID"), (0, u "J"), (3, u "REPL"), (0, u "C"), (2, u "LATIN1"), (1, u "UTF16")] 323

def k8m0 : Method := { name := "<init>", desc := "()V", sig := { parameters := [], returnType := none }, accessFlags := 1, code := none }
def k8c1 : Code := { maxStack := 4, maxLocals := 1, code := jdk_42_method_139_code, exceptionTable := #[], attributes := #[] }
def k8m1 : Method := { name := "valueOf", desc := "(C)Ljava/lang/String;", sig := { parameters := [.char], returnType := some (.object "java/lang/String") }, accessFlags := 9, code := some k8c1 }
def k8c2 : Code := { maxStack := 2, maxLocals := 3, code := jdk_42_method_151_code, exceptionTable := #[], attributes := #[] }
def k8m2 : Method := { name := "<init>", desc := "([BB)V", sig := { parameters := [(.array .byte), .byte], returnType := none }, accessFlags := 0, code := some k8c2 }
/-- java/lang/String -/
def k8 : Class := { plain "java/lang/String" (some 0) with
  accessFlags := 49
  interfaces := #[3, 4, 5, 6, 7]
  cf := some (fileOf pool8 10 #[.nestMembers #[1103]] #[{ accessFlags := 1, nameIndex := 5, descriptorIndex := 6, attributes := #[] }, { accessFlags := 9, nameIndex := 782, descriptorIndex := 783, attributes := #[] }, { accessFlags := 0, nameIndex := 5, descriptorIndex := 211, attributes := #[] }] 49 2 #[1106, 1108, 575, 1110, 1112] #[{ accessFlags := 18, nameIndex := 13, descriptorIndex := 14, attributes := #[] }, { accessFlags := 18, nameIndex := 17, descriptorIndex := 18, attributes := #[] }, { accessFlags := 2, nameIndex := 21, descriptorIndex := 22, attributes := #[] }, { accessFlags := 2, nameIndex := 25, descriptorIndex := 26, attributes := #[] }, { accessFlags := 26, nameIndex := 1116, descriptorIndex := 1117, attributes := #[] }, { accessFlags := 24, nameIndex := 40, descriptorIndex := 26, attributes := #[] }, { accessFlags := 26, nameIndex := 1101, descriptorIndex := 1102, attributes := #[] }, { accessFlags := 26, nameIndex := 1121, descriptorIndex := 1122, attributes := #[] }, { accessFlags := 25, nameIndex := 599, descriptorIndex := 600, attributes := #[] }, { accessFlags := 24, nameIndex := 1125, descriptorIndex := 18, attributes := #[] }, { accessFlags := 24, nameIndex := 1127, descriptorIndex := 18, attributes := #[] }])
  fields := #[{ name := "value", type := (.array .byte), accessFlags := 18, slot := 0, constantValue := 0 }, { name := "coder", type := .byte, accessFlags := 18, slot := 1, constantValue := 0 }, { name := "hash", type := .int, accessFlags := 2, slot := 2, constantValue := 0 }, { name := "hashIsZero", type := .boolean, accessFlags := 2, slot := 3, constantValue := 0 }, { name := "serialVersionUID", type := .long, accessFlags := 26, slot := 0, constantValue := 0 }, { name := "COMPACT_STRINGS", type := .boolean, accessFlags := 24, slot := 1, constantValue := 0 }, { name := "serialPersistentFields", type := (.array (.object "java/io/ObjectStreamField")), accessFlags := 26, slot := 2, constantValue := 0 }, { name := "REPL", type := .char, accessFlags := 26, slot := 3, constantValue := 0 }, { name := "CASE_INSENSITIVE_ORDER", type := (.object "java/util/Comparator"), accessFlags := 25, slot := 4, constantValue := 0 }, { name := "LATIN1", type := .byte, accessFlags := 24, slot := 5, constantValue := 0 }, { name := "UTF16", type := .byte, accessFlags := 24, slot := 6, constantValue := 0 }]
  methods := #[k8m0, k8m1, k8m2]
  instanceTypes := #[(.array .byte), .byte, .int, .boolean]
  staticTypes := #[.long, .boolean, (.array (.object "java/io/ObjectStreamField")), .char, (.object "java/util/Comparator"), .byte, .byte]
  resolved := Array.replicate 1451 none
  statics := some 0 }

def pool9 : Array CpInfo := pool [(4, .class_ 6), (1, u "java/lang/Object"), (0, u "<init>"), (0, u "()V"), (5, .class_ 16), (1, u "java/lang/StringLatin1"), (73, u "canEncode"), (14, u "(C)Z"), (15, u "$assertionsDisabled"), (0, u "Z"), (98, .class_ 223), (1, u "java/lang/StringLatin1$LinesSpliterator"), (156, u "toBytes"), (1, u "(C)[B"), (7, .class_ 391), (0, u "java/lang/StringLatin1$CharsSpliterator")] 3

def k9m0 : Method := { name := "<init>", desc := "()V", sig := { parameters := [], returnType := none }, accessFlags := 0, code := none }
def k9c1 : Code := { maxStack := 2, maxLocals := 1, code := jdk_43_method_3_code, exceptionTable := #[], attributes := #[] }
def k9m1 : Method := { name := "canEncode", desc := "(C)Z", sig := { parameters := [.char], returnType := some .boolean }, accessFlags := 9, code := some k9c1 }
def k9c2 : Code := { maxStack := 4, maxLocals := 1, code := jdk_43_method_46_code, exceptionTable := #[], attributes := #[] }
def k9m2 : Method := { name := "toBytes", desc := "(C)[B", sig := { parameters := [.char], returnType := some (.array .byte) }, accessFlags := 9, code := some k9c2 }
/-- java/lang/StringLatin1 -/
def k9 : Class := { plain "java/lang/StringLatin1" (some 0) with
  accessFlags := 48
  interfaces := #[]
  cf := some (fileOf pool9 14 #[.nestMembers #[390, 221]] #[{ accessFlags := 0, nameIndex := 7, descriptorIndex := 8, attributes := #[] }, { accessFlags := 9, nameIndex := 90, descriptorIndex := 105, attributes := #[] }, { accessFlags := 9, nameIndex := 380, descriptorIndex := 382, attributes := #[] }] 48 4 #[] #[{ accessFlags := 4120, nameIndex := 121, descriptorIndex := 122, attributes := #[] }])
  fields := #[{ name := "$assertionsDisabled", type := .boolean, accessFlags := 4120, slot := 0, constantValue := 0 }]
  methods := #[k9m0, k9m1, k9m2]
  instanceTypes := #[]
  staticTypes := #[.boolean]
  resolved := Array.replicate 395 none
  statics := none }

def pool10 : Array CpInfo := pool [(2, .class_ 4), (1, u "java/lang/Object"), (0, u "<init>"), (0, u "()V"), (17, .class_ 26), (1, u "jdk/internal/util/Preconditions"), (28, .class_ 56), (0, u "jdk/internal/util/Preconditions$4"), (57, .class_ 115), (0, u "jdk/internal/util/Preconditions$1"), (7, u "SIOOBE_FORMATTER"), (0, u "Ljava/util/function/BiFunction;"), (0, .class_ 126), (0, u "jdk/internal/util/Preconditions$2"), (3, u "AIOOBE_FORMATTER"), (0, .class_ 132), (0, u "jdk/internal/util/Preconditions$3"), (3, u "IOOBE_FORMATTER")] 57

def k10m0 : Method := { name := "<init>", desc := "()V", sig := { parameters := [], returnType := none }, accessFlags := 1, code := none }
/-- jdk/internal/util/Preconditions -/
def k10 : Class := { plain "jdk/internal/util/Preconditions" (some 0) with
  accessFlags := 33
  interfaces := #[]
  cf := some (fileOf pool10 24 #[.nestMembers #[55, 131, 125, 114]] #[{ accessFlags := 1, nameIndex := 5, descriptorIndex := 6, attributes := #[] }] 33 2 #[] #[{ accessFlags := 25, nameIndex := 123, descriptorIndex := 124, attributes := #[] }, { accessFlags := 25, nameIndex := 130, descriptorIndex := 124, attributes := #[] }, { accessFlags := 25, nameIndex := 136, descriptorIndex := 124, attributes := #[] }])
  fields := #[{ name := "SIOOBE_FORMATTER", type := (.object "java/util/function/BiFunction"), accessFlags := 25, slot := 0, constantValue := 0 }, { name := "AIOOBE_FORMATTER", type := (.object "java/util/function/BiFunction"), accessFlags := 25, slot := 1, constantValue := 0 }, { name := "IOOBE_FORMATTER", type := (.object "java/util/function/BiFunction"), accessFlags := 25, slot := 2, constantValue := 0 }]
  methods := #[k10m0]
  instanceTypes := #[]
  staticTypes := #[(.object "java/util/function/BiFunction"), (.object "java/util/function/BiFunction"), (.object "java/util/function/BiFunction")]
  resolved := Array.replicate 194 none
  statics := some 1 }

def pool11 : Array CpInfo := pool [(9, u "<init>"), (6, .class_ 18), (1, u "java/lang/Object"), (0, u "()V"), (1, .class_ 23), (1, u "jdk/internal/util/ArraysSupport"), (0, u "LOG2_ARRAY_LONG_INDEX_SCALE"), (0, u "I"), (2, u "U"), (0, u "Ljdk/internal/misc/Unsafe;"), (8, u "BIG_ENDIAN"), (0, u "Z"), (8, u "LOG2_BYTE_BIT_SIZE"), (4, u "LOG2_ARRAY_INT_INDEX_SCALE"), (54, u "JLA"), (0, u "Ljdk/internal/access/JavaLangAccess;"), (11, u "LOG2_ARRAY_BOOLEAN_INDEX_SCALE"), (9, u "LOG2_ARRAY_BYTE_INDEX_SCALE"), (5, u "LOG2_ARRAY_CHAR_INDEX_SCALE"), (5, u "LOG2_ARRAY_SHORT_INDEX_SCALE"), (18, u "LOG2_ARRAY_FLOAT_INDEX_SCALE"), (24, u "LOG2_ARRAY_DOUBLE_INDEX_SCALE"), (89, u "T_BOOLEAN"), (2, u "T_CHAR"), (1, u "T_FLOAT"), (1, u "T_DOUBLE"), (1, u "T_BYTE"), (1, u "T_SHORT"), (1, u "T_INT"), (1, u "T_LONG"), (1, u "SOFT_MAX_ARRAY_LENGTH")] 83

def k11m0 : Method := { name := "<init>", desc := "()V", sig := { parameters := [], returnType := none }, accessFlags := 2, code := none }
/-- jdk/internal/util/ArraysSupport -/
def k11 : Class := { plain "jdk/internal/util/ArraysSupport" (some 0) with
  accessFlags := 33
  interfaces := #[]
  cf := some (fileOf pool11 21 #[] #[{ accessFlags := 2, nameIndex := 9, descriptorIndex := 19, attributes := #[] }] 33 16 #[] #[{ accessFlags := 24, nameIndex := 28, descriptorIndex := 29, attributes := #[] }, { accessFlags := 26, nameIndex := 38, descriptorIndex := 39, attributes := #[] }, { accessFlags := 25, nameIndex := 121, descriptorIndex := 25, attributes := #[] }, { accessFlags := 25, nameIndex := 131, descriptorIndex := 25, attributes := #[] }, { accessFlags := 25, nameIndex := 137, descriptorIndex := 25, attributes := #[] }, { accessFlags := 25, nameIndex := 143, descriptorIndex := 25, attributes := #[] }, { accessFlags := 25, nameIndex := 53, descriptorIndex := 25, attributes := #[] }, { accessFlags := 25, nameIndex := 24, descriptorIndex := 25, attributes := #[] }, { accessFlags := 25, nameIndex := 162, descriptorIndex := 25, attributes := #[] }, { accessFlags := 25, nameIndex := 187, descriptorIndex := 25, attributes := #[] }, { accessFlags := 26, nameIndex := 48, descriptorIndex := 25, attributes := #[] }, { accessFlags := 25, nameIndex := 277, descriptorIndex := 25, attributes := #[] }, { accessFlags := 25, nameIndex := 280, descriptorIndex := 25, attributes := #[] }, { accessFlags := 25, nameIndex := 282, descriptorIndex := 25, attributes := #[] }, { accessFlags := 25, nameIndex := 284, descriptorIndex := 25, attributes := #[] }, { accessFlags := 25, nameIndex := 286, descriptorIndex := 25, attributes := #[] }, { accessFlags := 25, nameIndex := 288, descriptorIndex := 25, attributes := #[] }, { accessFlags := 25, nameIndex := 290, descriptorIndex := 25, attributes := #[] }, { accessFlags := 25, nameIndex := 292, descriptorIndex := 25, attributes := #[] }, { accessFlags := 26, nameIndex := 108, descriptorIndex := 109, attributes := #[] }, { accessFlags := 25, nameIndex := 294, descriptorIndex := 25, attributes := #[] }])
  fields := #[{ name := "U", type := (.object "jdk/internal/misc/Unsafe"), accessFlags := 24, slot := 0, constantValue := 0 }, { name := "BIG_ENDIAN", type := .boolean, accessFlags := 26, slot := 1, constantValue := 0 }, { name := "LOG2_ARRAY_BOOLEAN_INDEX_SCALE", type := .int, accessFlags := 25, slot := 2, constantValue := 0 }, { name := "LOG2_ARRAY_BYTE_INDEX_SCALE", type := .int, accessFlags := 25, slot := 3, constantValue := 0 }, { name := "LOG2_ARRAY_CHAR_INDEX_SCALE", type := .int, accessFlags := 25, slot := 4, constantValue := 0 }, { name := "LOG2_ARRAY_SHORT_INDEX_SCALE", type := .int, accessFlags := 25, slot := 5, constantValue := 0 }, { name := "LOG2_ARRAY_INT_INDEX_SCALE", type := .int, accessFlags := 25, slot := 6, constantValue := 0 }, { name := "LOG2_ARRAY_LONG_INDEX_SCALE", type := .int, accessFlags := 25, slot := 7, constantValue := 0 }, { name := "LOG2_ARRAY_FLOAT_INDEX_SCALE", type := .int, accessFlags := 25, slot := 8, constantValue := 0 }, { name := "LOG2_ARRAY_DOUBLE_INDEX_SCALE", type := .int, accessFlags := 25, slot := 9, constantValue := 0 }, { name := "LOG2_BYTE_BIT_SIZE", type := .int, accessFlags := 26, slot := 10, constantValue := 0 }, { name := "T_BOOLEAN", type := .int, accessFlags := 25, slot := 11, constantValue := 0 }, { name := "T_CHAR", type := .int, accessFlags := 25, slot := 12, constantValue := 0 }, { name := "T_FLOAT", type := .int, accessFlags := 25, slot := 13, constantValue := 0 }, { name := "T_DOUBLE", type := .int, accessFlags := 25, slot := 14, constantValue := 0 }, { name := "T_BYTE", type := .int, accessFlags := 25, slot := 15, constantValue := 0 }, { name := "T_SHORT", type := .int, accessFlags := 25, slot := 16, constantValue := 0 }, { name := "T_INT", type := .int, accessFlags := 25, slot := 17, constantValue := 0 }, { name := "T_LONG", type := .int, accessFlags := 25, slot := 18, constantValue := 0 }, { name := "JLA", type := (.object "jdk/internal/access/JavaLangAccess"), accessFlags := 26, slot := 19, constantValue := 0 }, { name := "SOFT_MAX_ARRAY_LENGTH", type := .int, accessFlags := 25, slot := 20, constantValue := 0 }]
  methods := #[k11m0]
  instanceTypes := #[]
  staticTypes := #[(.object "jdk/internal/misc/Unsafe"), .boolean, .int, .int, .int, .int, .int, .int, .int, .int, .int, .int, .int, .int, .int, .int, .int, .int, .int, (.object "jdk/internal/access/JavaLangAccess"), .int]
  resolved := Array.replicate 378 none
  statics := none }

def pool12 : Array CpInfo := pool [(1, u "java/lang/Cloneable"), (0, .class_ 1), (0, u "java/lang/Object"), (0, .class_ 3)] 3

/-- java/lang/Cloneable -/
def k12 : Class := { plain "java/lang/Cloneable" (some 0) with
  accessFlags := 1537
  interfaces := #[]
  cf := some (fileOf pool12 2 #[] #[] 1537 4 #[] #[])
  fields := #[]
  methods := #[]
  instanceTypes := #[]
  staticTypes := #[]
  resolved := Array.replicate 8 none
  statics := none }

/-- the primitive byte -/
def k13 : Class := { plain "byte" none with kind := .primitive 'B', accessFlags := 0x411 }
/-- [B -/
def k14 : Class := { plain "[B" (some 0) with kind := .array 13 .byte, interfaces := #[12, 3], accessFlags := 1041 }

/-- the primitive int -/
def k15 : Class := { plain "int" none with kind := .primitive 'I', accessFlags := 0x411 }
/-- [I -/
def k16 : Class := { plain "[I" (some 0) with kind := .array 15 .int, interfaces := #[12, 3], accessFlags := 1041 }

def heap : Heap := #[{ cls := 8, slots := #[.long 0, .int 1, .null, .int 0, .null, .int 0, .int 0], vm := .statics 8 },
  { cls := 10, slots := #[.null, .null, .null], vm := .statics 10 }]
def classes : Array Class := #[k0, k1, k2, k3, k4, k5, k6, k7, k8, k9, k10, k11, k12, k13, k14, k15, k16]
def interned : List (Array UInt16 × Addr) := []
def slotsUsed : Nat := 10
def theMethod : MethodId := ⟨1, 2⟩
def args0 : Array Value := #[.int 5, .long 5, .long 5, .long 5, .long 5, .long 5]
def aboutOver (below : List Frame) : State where
  vm := { classes := classes, interned := interned.toArray }
  heap := heap
  slotsUsed := slotsUsed
  threads := #[{ frames := .invoking theMethod args0 :: below }]
def below0 : List Frame := [.native { method := ⟨0, 0⟩, args := #[] }]
def about1 : State := aboutOver below0
def p0 : Program := .bare "" "" ""
def e0 : Env := launch0.env 0 0 0
theorem w_frames : about1.frames = Frame.invoking theMethod args0 :: below0 := rfl
set_option maxRecDepth 65536 in
theorem w_args : argsFit about1.vm theMethod args0 = true := by decide +kernel
set_option maxRecDepth 65536 in
theorem w_heap : heapFits about1 = true := by decide +kernel
set_option maxRecDepth 65536 in
theorem w_runnable : about1.curStatus? = some .runnable := by decide +kernel
set_option maxRecDepth 65536 in
theorem w_alone : about1.alone = true := by decide +kernel
set_option maxRecDepth 65536 in
theorem w_named : about1.methodNamed? x = some theMethod := by decide +kernel
set_option maxRecDepth 65536 in
theorem w_hears : about1.hears theMethod below0 = true := by decide +kernel
set_option maxRecDepth 65536 in
theorem w_ripe : about1.ripe theMethod args0 below0 = true := by decide +kernel
theorem w_running : about1.status = .running := rfl
set_option maxRecDepth 65536 in
theorem w_room : about1.hasRoom e0.platform room_1 = true :=
  launch0.hasRoom_least _ room_1 (by decide +kernel) (by decide +kernel) (by decide +kernel) (by decide +kernel) (by decide +kernel) (by decide +kernel)
theorem allAtoms_all (ts : List Jvm.Cond) (a : Array Jvm.Value) (st : Jvm.State) : (allAtoms ts).before a st = ts.all (fun c => c.before a st) := by
  induction ts with
  | nil => rfl
  | cons c t ih =>
    show (Jvm.Cond.and c (allAtoms t)).before a st = _
    rw [Jvm.Cond.before_and, ih, List.all_cons]
def words1 : List Jvm.Cond := Jvm.Cond.code x code maxLocals ret :: tables_1
/-- a 'code' word, met by the world's own term for the bytes: nothing is compared byte by byte -/
theorem code_word {y : MethodName} {bytes : ByteArray} {mx : Nat} {rt : Option FieldType} {a : Array Value} {s : State} {m : MethodId} {meth : Method} {c : Code} (h1 : s.methodNamed? y = some m) (h2 : s.vm.method? m = some meth) (h3 : meth.code = some c) (h4 : c.code = bytes)
    (h5 : (c.maxLocals == mx && c.exceptionTable.isEmpty && decide (c.maxStack ≤ mostOperands) && decide (meth.sig.returnType = rt) && !meth.locks && decide (parseMethodDescriptor y.desc = some meth.sig)) = true) : (Jvm.Cond.code y bytes mx rt).before a s = true := by
  simp only [Bool.and_eq_true, beq_iff_eq, Bool.not_eq_true', decide_eq_true_eq] at h5
  obtain ⟨⟨⟨⟨⟨g1, g2⟩, g3⟩, g4⟩, g5⟩, g6⟩ := h5
  simp [Cond.before, Cond.holds, Cond.value, h1, h2, h3, h4, g1, g2, g3, g4, g5, g6]
def isCode : Jvm.Cond → Bool
  | .code _ _ _ _ => true
  | _ => false
theorem all_split {L : List Jvm.Cond} {P : Jvm.Cond → Bool} (h1 : L.all (fun c => isCode c || P c) = true) (h2 : ∀ c ∈ L.filter isCode, P c = true) : L.all P = true := by
  refine List.all_eq_true.mpr fun c hc => ?_
  have h := List.all_eq_true.mp h1 c hc
  rcases Bool.eq_false_or_eq_true (isCode c) with hi | hi
  · exact h2 c (List.mem_filter.mpr ⟨hc, hi⟩)
  · simpa [hi] using h
set_option maxRecDepth 65536 in
theorem w_c0 : (Jvm.Cond.code x code maxLocals ret).before args0 about1 = true := code_word (m := ⟨1, 2⟩) (meth := k1m2) (c := k1c2) (by decide +kernel) rfl rfl rfl (by decide +kernel)
set_option maxRecDepth 65536 in
theorem w_c1 : (Jvm.Cond.code ({ cls := "com/example/no_wait_scheduler/nowaitscheduler/verify/SummaryPassesPinLaw", name := "count", desc := "(IIJ)J" } : Jvm.MethodName) method_2_code (4 : Nat) (Option.some Jvm.ClassFile.FieldType.long)).before args0 about1 = true := code_word (m := ⟨1, 1⟩) (meth := k1m1) (c := k1c1) (by decide +kernel) rfl rfl rfl (by decide +kernel)
set_option maxRecDepth 65536 in
theorem w_c2 : (Jvm.Cond.code ({ cls := "com/example/no_wait_scheduler/nowaitscheduler/verify/Summary", name := "<init>", desc := "(JZJJJJJJJLjava/lang/String;)V" } : Jvm.MethodName) prog_51_method_1_code (19 : Nat) (Option.none : Option Jvm.ClassFile.FieldType)).before args0 about1 = true := code_word (m := ⟨2, 0⟩) (meth := k2m0) (c := k2c0) (by decide +kernel) rfl rfl rfl (by decide +kernel)
set_option maxRecDepth 65536 in
theorem w_c3 : (Jvm.Cond.code ({ cls := "java/lang/Object", name := "<init>", desc := "()V" } : Jvm.MethodName) object_method_1_code (1 : Nat) (Option.none : Option Jvm.ClassFile.FieldType)).before args0 about1 = true := code_word (m := ⟨0, 0⟩) (meth := k0m0) (c := k0c0) (by decide +kernel) rfl rfl rfl (by decide +kernel)
set_option maxRecDepth 65536 in
theorem w_c4 : (Jvm.Cond.code ({ cls := "com/example/no_wait_scheduler/nowaitscheduler/verify/Summary", name := "passes", desc := "()Z" } : Jvm.MethodName) prog_51_method_2_code (1 : Nat) (Option.some Jvm.ClassFile.FieldType.boolean)).before args0 about1 = true := code_word (m := ⟨2, 1⟩) (meth := k2m1) (c := k2c1) (by decide +kernel) rfl rfl rfl (by decide +kernel)
set_option maxRecDepth 65536 in
theorem w_c5 : (Jvm.Cond.code ({ cls := "com/example/no_wait_scheduler/nowaitscheduler/verify/Summary", name := "findings", desc := "()J" } : Jvm.MethodName) prog_51_method_3_code (1 : Nat) (Option.some Jvm.ClassFile.FieldType.long)).before args0 about1 = true := code_word (m := ⟨2, 2⟩) (meth := k2m2) (c := k2c2) (by decide +kernel) rfl rfl rfl (by decide +kernel)
set_option maxRecDepth 65536 in
theorem w_c6 : (Jvm.Cond.code ({ cls := "java/lang/String", name := "valueOf", desc := "(C)Ljava/lang/String;" } : Jvm.MethodName) jdk_42_method_139_code (1 : Nat) (Option.some (Jvm.ClassFile.FieldType.object "java/lang/String"))).before args0 about1 = true := code_word (m := ⟨8, 1⟩) (meth := k8m1) (c := k8c1) (by decide +kernel) rfl rfl rfl (by decide +kernel)
set_option maxRecDepth 65536 in
theorem w_c7 : (Jvm.Cond.code ({ cls := "java/lang/StringLatin1", name := "canEncode", desc := "(C)Z" } : Jvm.MethodName) jdk_43_method_3_code (1 : Nat) (Option.some Jvm.ClassFile.FieldType.boolean)).before args0 about1 = true := code_word (m := ⟨9, 1⟩) (meth := k9m1) (c := k9c1) (by decide +kernel) rfl rfl rfl (by decide +kernel)
set_option maxRecDepth 65536 in
theorem w_c8 : (Jvm.Cond.code ({ cls := "java/lang/StringLatin1", name := "toBytes", desc := "(C)[B" } : Jvm.MethodName) jdk_43_method_46_code (1 : Nat) (Option.some (Jvm.ClassFile.FieldType.array Jvm.ClassFile.FieldType.byte))).before args0 about1 = true := code_word (m := ⟨9, 2⟩) (meth := k9m2) (c := k9c2) (by decide +kernel) rfl rfl rfl (by decide +kernel)
set_option maxRecDepth 65536 in
theorem w_c9 : (Jvm.Cond.code ({ cls := "java/lang/String", name := "<init>", desc := "([BB)V" } : Jvm.MethodName) jdk_42_method_151_code (3 : Nat) (Option.none : Option Jvm.ClassFile.FieldType)).before args0 about1 = true := code_word (m := ⟨8, 2⟩) (meth := k8m2) (c := k8c2) (by decide +kernel) rfl rfl rfl (by decide +kernel)
def codes1 : List Jvm.Cond := [Jvm.Cond.code x code maxLocals ret, Jvm.Cond.code ({ cls := "com/example/no_wait_scheduler/nowaitscheduler/verify/SummaryPassesPinLaw", name := "count", desc := "(IIJ)J" } : Jvm.MethodName) method_2_code (4 : Nat) (Option.some Jvm.ClassFile.FieldType.long), Jvm.Cond.code ({ cls := "com/example/no_wait_scheduler/nowaitscheduler/verify/Summary", name := "<init>", desc := "(JZJJJJJJJLjava/lang/String;)V" } : Jvm.MethodName) prog_51_method_1_code (19 : Nat) (Option.none : Option Jvm.ClassFile.FieldType), Jvm.Cond.code ({ cls := "java/lang/Object", name := "<init>", desc := "()V" } : Jvm.MethodName) object_method_1_code (1 : Nat) (Option.none : Option Jvm.ClassFile.FieldType), Jvm.Cond.code ({ cls := "com/example/no_wait_scheduler/nowaitscheduler/verify/Summary", name := "passes", desc := "()Z" } : Jvm.MethodName) prog_51_method_2_code (1 : Nat) (Option.some Jvm.ClassFile.FieldType.boolean), Jvm.Cond.code ({ cls := "com/example/no_wait_scheduler/nowaitscheduler/verify/Summary", name := "findings", desc := "()J" } : Jvm.MethodName) prog_51_method_3_code (1 : Nat) (Option.some Jvm.ClassFile.FieldType.long), Jvm.Cond.code ({ cls := "java/lang/String", name := "valueOf", desc := "(C)Ljava/lang/String;" } : Jvm.MethodName) jdk_42_method_139_code (1 : Nat) (Option.some (Jvm.ClassFile.FieldType.object "java/lang/String")), Jvm.Cond.code ({ cls := "java/lang/StringLatin1", name := "canEncode", desc := "(C)Z" } : Jvm.MethodName) jdk_43_method_3_code (1 : Nat) (Option.some Jvm.ClassFile.FieldType.boolean), Jvm.Cond.code ({ cls := "java/lang/StringLatin1", name := "toBytes", desc := "(C)[B" } : Jvm.MethodName) jdk_43_method_46_code (1 : Nat) (Option.some (Jvm.ClassFile.FieldType.array Jvm.ClassFile.FieldType.byte)), Jvm.Cond.code ({ cls := "java/lang/String", name := "<init>", desc := "([BB)V" } : Jvm.MethodName) jdk_42_method_151_code (3 : Nat) (Option.none : Option Jvm.ClassFile.FieldType)]
set_option maxRecDepth 65536 in
theorem codes_eq : words1.filter isCode = codes1 := rfl
theorem w_codes : ∀ c ∈ words1.filter isCode, c.before args0 about1 = true := by
  rw [codes_eq]
  intro c hc
  simp only [codes1, List.mem_cons, List.not_mem_nil, or_false] at hc
  rcases hc with rfl | rfl | rfl | rfl | rfl | rfl | rfl | rfl | rfl | rfl
  · exact w_c0
  · exact w_c1
  · exact w_c2
  · exact w_c3
  · exact w_c4
  · exact w_c5
  · exact w_c6
  · exact w_c7
  · exact w_c8
  · exact w_c9
set_option maxRecDepth 65536 in
theorem w_t1 : (words1.take 24).all (fun c => isCode c || c.before args0 about1) = true := by decide +kernel
set_option maxRecDepth 65536 in
theorem w_t2 : ((words1.drop 24).take 24).all (fun c => isCode c || c.before args0 about1) = true := by decide +kernel
set_option maxRecDepth 65536 in
theorem w_t3 : ((words1.drop 24).drop 24).all (fun c => isCode c || c.before args0 about1) = true := by decide +kernel
theorem w_tables : (allAtoms (Jvm.Cond.code x code maxLocals ret :: tables_1)).before args0 about1 = true := by
  rw [allAtoms_all]
  show words1.all (fun c => c.before args0 about1) = true
  refine all_split ?_ w_codes
  rw [← List.take_append_drop 24 words1, List.all_append, w_t1, ← List.take_append_drop 24 (words1.drop 24), List.all_append, w_t2, w_t3]
  rfl
set_option maxRecDepth 65536 in
theorem w_rest : rest_1_c.before args0 about1 = true := by decide +kernel
set_option maxRecDepth 65536 in
theorem w_case : (Jvm.Cond.and given_1 narrow_1).before args0 about1 = true := by decide +kernel
theorem w_applies : (headSpec (Jvm.Cond.code x code maxLocals ret :: tables_1) room_1).applies x e0.platform about1 = true :=
  (Spec.applies_iff w_frames).mpr ⟨w_running, w_runnable, w_alone, w_named, w_hears, w_ripe, w_room, w_tables⟩
theorem atStart : AtStart classFile x code maxLocals ret World_1 tables_1 room_1 Calls_1 rest_1 Pre_1 launch0 p0 e0 about1 theMethod args0 below0 :=
  ⟨lists_1, trivial, launch0.admits_env _ _ _, launch0.least_env, fairChoices_fair.cas, fairChoices_fair.clock, w_frames, w_args, w_heap, w_applies, trivial, w_rest, w_case⟩
end start1
theorem witness_1 : WitnessClaimed_1 := ⟨start1.p0, start1.e0, start1.about1, start1.theMethod, start1.args0, start1.below0, start1.atStart⟩
end Jvm.Pilot.@@N@@
