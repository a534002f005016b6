import JvmDerived
import JvmDerived.Pilot.@@N@@Statement
import JvmDerived.Pilot.@@N@@Code
set_option linter.unusedVariables false
set_option linter.unusedSimpArgs false
namespace Jvm.Own
open Sem ClassFile Op Lib Jvm.Stand Jvm.Free Jvm.LawKit Jvm.RoadKit
section Own
variable {p : Program} {l : Launch} {e : Env} {R : Room} {s : State} {m : MethodId} {args : Array Value} {below : List Frame} {meth : Method} {c : Code} {T : State} {locs : List Loc} {cells slots : Nat} {Q : Option Value → Heap → List Loc → Prop} {k n : Nat} {Z : State} {a0 : Array Value} {h h' h0 : Heap} {pc pc' : Nat} {Ls : Array Slot} {rest : List Value}
/-- from U the invocation comes to its end, returns, and Q holds there -/
def Till (p : Program) (e : Env) (below : List Frame) (s : State) (Q : Option Value → Heap → List Loc → Prop) (k n : Nat) (U : State) : Prop :=
  ∃ s₂ o, Steps p.tables e below U s₂ ∧ s₂.status = .running ∧ Ended s₂ below o ∧ ∃ v L, o = .returned v ∧ Q v s₂.heap L ∧ FrameEnd s o s₂ L k n
/-- a body's contract -/
def Ctr (l : Launch) (Z : State) (y : MethodName) (bytes : ByteArray) (maxL : Nat) (ret : Option FieldType) (rm : Room) (as : Array Value) (h : Heap) (Q : Option Value → Heap → List Loc → Prop) : Prop :=
  ∀ ws, MetFree l y (head1 (Jvm.Cond.code y bytes maxL ret :: ws) rm) (fun a U => a = as ∧ Z.Warmed39 U.vm ∧ U.heap = h) (fun _ _ _ _ _ => True) (fun _ U o U' => ∃ v L, o = .returned v ∧ Q v U'.heap L ∧ FrameEnd U o U' L rm.cells rm.slots)
theorem Till.pre {U V : State} (hs : ∀ t, Steps p.tables e below V t → Steps p.tables e below U t) (r : Till p e below s Q k n V) : Till p e below s Q k n U := by
  obtain ⟨s₂, o, h1, r⟩ := r; exact ⟨s₂, o, hs _ h1, r⟩
theorem Till.via {U V : State} (hs : Steps p.tables e below U V) (r : Till p e below s Q k n V) : Till p e below s Q k n U := by
  obtain ⟨s₂, o, h1, r⟩ := r; exact ⟨s₂, o, hs.trans h1, r⟩
theorem Till.cast {g g' : JFrame} (q : g = g') (r : Till p e below s Q k n (T.setTop g')) : Till p e below s Q k n (T.setTop g) := q ▸ r
theorem Ctr.of {y : MethodName} {bytes : ByteArray} {maxL : Nat} {ret : Option FieldType} {rm : Room} {as : Array Value} (hp : plainFor y = true)
    (body : ∀ p e s m below meth c s₁, p.tables.exec = Jvm.exec → c.code = bytes → c.maxLocals = maxL → s.vm.findClass y.cls = some m.cls → meth.name = y.name → meth.sig.returnType = ret → meth.locks = false → Z.Warmed39 s.vm → s₁.heap = h →
      Stand p l e rm s m as below meth c s₁ [] 0 0 → Till p e below s Q rm.cells rm.slots (s₁.setTop (entryFrame m as maxL))) : Ctr l Z y bytes maxL ret rm as h Q := by
  intro ws
  refine MetFree.of_bodySF hp hisR ?_
  intro p e s m args below meth c s₁ Bd hml hP hK
  obtain ⟨rfl, hZ, hh⟩ := hP
  exact body p e s m below meth c s₁ Bd.exec Bd.bytes hml (findClass_of_methodNamed Bd.named) (name_of_methodNamed Bd.named Bd.method).1 Bd.returns Bd.notSynchronized hZ (by rw [← hh, Bd.state]; rfl) (Stand.of_body Bd)
/-! branches -/
theorem Till.icmp {cd : ClassFile.Cond} {x y : Int32} {o : Int} (h : At T m c below) (hx : p.tables.exec = Jvm.exec) (hd : decode c.code pc = .ok (.if_icmp cd o, 3)) (ho : 0 ≤ (pc : Int) + o) (hp : ((pc : Int) + o).toNat = pc')
    (r1 : if_icmp.holds cd x y = true → Till p e below s Q k n (T.setTop (mkF m pc' Ls rest))) (r2 : if_icmp.holds cd x y = false → Till p e below s Q k n (T.setTop (mkF m (pc + 3) Ls rest))) : Till p e below s Q k n (T.setTop (mkF m pc Ls (.int y :: .int x :: rest))) := by
  cases hb : if_icmp.holds cd x y with
  | true => exact Till.pre (fun _ hr => XS.icmpYes h hx rfl (pc0 := pc) (pc' := pc') rfl hd rfl hb ho hp hr) (r1 hb)
  | false => exact Till.pre (fun _ hr => XS.icmpNo h hx rfl hd rfl hb hr) (r2 hb)
theorem Till.ifc {cd : ClassFile.Cond} {x : Int32} {o : Int} (h : At T m c below) (hx : p.tables.exec = Jvm.exec) (hd : decode c.code pc = .ok (.ifCond cd o, 3)) (ho : 0 ≤ (pc : Int) + o) (hp : ((pc : Int) + o).toNat = pc')
    (r1 : if_icmp.holds cd x 0 = true → Till p e below s Q k n (T.setTop (mkF m pc' Ls rest))) (r2 : if_icmp.holds cd x 0 = false → Till p e below s Q k n (T.setTop (mkF m (pc + 3) Ls rest))) : Till p e below s Q k n (T.setTop (mkF m pc Ls (.int x :: rest))) := by
  cases hb : if_icmp.holds cd x 0 with
  | true => exact Till.pre (fun _ hr => XS.ifYes h hx rfl (pc0 := pc) (pc' := pc') rfl hd rfl ((if0 _ _).trans hb) ho hp hr) (r1 hb)
  | false => exact Till.pre (fun _ hr => XS.ifNo h hx rfl hd rfl ((if0 _ _).trans hb) hr) (r2 hb)
theorem hEq {x y : Int32} : (if_icmp.holds .eq x y = true → x = y) ∧ (if_icmp.holds .eq x y = false → ¬ x = y) ∧ (if_icmp.holds .ne x y = true → ¬ x = y) ∧ (if_icmp.holds .ne x y = false → x = y) := by
  by_cases q : x = y
  · obtain ⟨h1, h2⟩ := teq q; rw [h1, h2]; simp [q]
  · obtain ⟨h1, h2⟩ := feq q; rw [h1, h2]; simp [q]
theorem hLt {x y : Int32} : (if_icmp.holds .lt x y = true → x < y) ∧ (if_icmp.holds .lt x y = false → ¬ x < y) ∧ (if_icmp.holds .ge x y = true → ¬ x < y) ∧ (if_icmp.holds .ge x y = false → x < y) ∧ (if_icmp.holds .gt y x = true → x < y) ∧ (if_icmp.holds .gt y x = false → ¬ x < y) ∧ (if_icmp.holds .le y x = true → ¬ x < y) ∧ (if_icmp.holds .le y x = false → x < y) := by
  by_cases q : x < y
  · obtain ⟨h1, h2, h3, h4⟩ := tlt q; rw [h1, h2, h3, h4]; simp [q]
  · obtain ⟨h1, h2, h3, h4⟩ := flt q; rw [h1, h2, h3, h4]; simp [q]
theorem lEq {x y : Int64} : lcmpW x y = 0 ↔ x = y := by rw [lcW x y]; exact lc_eq x y
theorem lLt {x y : Int64} : lcmpW x y < 0 ↔ x < y := by rw [lcW x y]; exact lc_lt x y
theorem lGt {x y : Int64} : 0 < lcmpW x y ↔ y < x := by rw [lcW x y]; exact lc_gt x y
/-- Java's >>> on longs -/
def lsr (x : Int64) (y : Int32) : Int64 := (x.toUInt64 >>> (y &&& 0x3f).toInt64.toUInt64).toInt64
/-! returns -/
theorem Till.retI (X : Stand p l e R s m args below meth c T locs cells slots) (hx : p.tables.exec = Jvm.exec) (hret : meth.sig.returnType = some .int) (hlk : meth.locks = false) {z : Int32} (hd : decode c.code pc = .ok (.ireturn, 1)) (hk : cells ≤ k) (hn : slots ≤ n) (hq : Q (some (.int z)) T.heap locs) : Till p e below s Q k n (T.setTop (mkF m pc Ls (.int z :: rest))) := by
  obtain ⟨fs, hr, hrun, hended, hW, hsame⟩ := X.leave (v := some (.int z)) (fun q => by rw [hret] at q; cases q) hlk
  exact ⟨_, _, retOut X hx hret rfl (Or.inl ⟨rfl, Or.inl rfl, z, rfl⟩) hd hr, hrun, hended, _, _, rfl, hq, ⟨_, rfl⟩, hW, hsame.mono hk hn⟩
theorem Till.retZ (X : Stand p l e R s m args below meth c T locs cells slots) (hx : p.tables.exec = Jvm.exec) (hret : meth.sig.returnType = some .boolean) (hlk : meth.locks = false) {z w : Int32} (hd : decode c.code pc = .ok (.ireturn, 1)) (hk : cells ≤ k) (hn : slots ≤ n) (hz : z &&& 1 = w) (hq : Q (some (.int w)) T.heap locs) : Till p e below s Q k n (T.setTop (mkF m pc Ls (.int z :: rest))) := by
  subst hz
  obtain ⟨fs, hr, hrun, hended, hW, hsame⟩ := X.leave (v := some (.int (z &&& 1))) (fun q => by rw [hret] at q; cases q) hlk
  exact ⟨_, _, retN X hx (t := .boolean) hret (Or.inl rfl) hd hr, hrun, hended, _, _, rfl, hq, ⟨_, rfl⟩, hW, hsame.mono hk hn⟩
theorem Till.retJ (X : Stand p l e R s m args below meth c T locs cells slots) (hx : p.tables.exec = Jvm.exec) (hret : meth.sig.returnType = some .long) (hlk : meth.locks = false) {z : Int64} (hd : decode c.code pc = .ok (.lreturn, 1)) (hk : cells ≤ k) (hn : slots ≤ n) (hq : Q (some (.long z)) T.heap locs) : Till p e below s Q k n (T.setTop (mkF m pc Ls (.long z :: rest))) := by
  obtain ⟨fs, hr, hrun, hended, hW, hsame⟩ := X.leave (v := some (.long z)) (fun q => by rw [hret] at q; cases q) hlk
  exact ⟨_, _, retOut X hx hret rfl (Or.inr (Or.inl ⟨rfl, rfl, z, rfl⟩)) hd hr, hrun, hended, _, _, rfl, hq, ⟨_, rfl⟩, hW, hsame.mono hk hn⟩
theorem Till.retA (X : Stand p l e R s m args below meth c T locs cells slots) (hx : p.tables.exec = Jvm.exec) {t : FieldType} (hret : meth.sig.returnType = some t) (ht : t.isReference = true) (hlk : meth.locks = false) {w : Value} (hw : w.isRef = true) (hnw : narrow t w = w) (hd : decode c.code pc = .ok (.areturn, 1)) (hk : cells ≤ k) (hn : slots ≤ n) (hq : Q (some w) T.heap locs) : Till p e below s Q k n (T.setTop (mkF m pc Ls (w :: rest))) := by
  obtain ⟨fs, hr, hrun, hended, hW, hsame⟩ := X.leave (v := some w) (fun q => by rw [hret] at q; cases q) hlk
  exact ⟨_, _, retOut X hx hret hnw (Or.inr (Or.inr (Or.inr (Or.inr ⟨rfl, ht, hw⟩)))) hd hr, hrun, hended, _, _, rfl, hq, ⟨_, rfl⟩, hW, hsame.mono hk hn⟩
theorem Till.retV (X : Stand p l e R s m args below meth c T locs cells slots) (hx : p.tables.exec = Jvm.exec) (hret : meth.sig.returnType = none) (hlk : meth.locks = false) (hd : decode c.code pc = .ok (.return_, 1)) (hk : cells ≤ k) (hn : slots ≤ n) (hq : Q none T.heap locs) : Till p e below s Q k n (T.setTop (mkF m pc Ls [])) := by
  obtain ⟨fs, hr, hrun, hended, hW, hsame⟩ := X.leave (v := none) (fun _ => rfl) hlk
  exact ⟨_, _, X.returnOut hx hret hd hr, hrun, hended, _, _, rfl, hq, ⟨_, rfl⟩, hW, hsame.mono hk hn⟩
/-! the heap -/
theorem Till.getF (X : Stand p l e R s m args below meth c T locs cells slots) (hx : p.tables.exec = Jvm.exec) (hZ : Z.Warmed39 s.vm) {own O nm d : String} {index : Nat} (hown : s.vm.findClass own = some m.cls) (w : (Jvm.Cond.fieldLink own index O nm d).before a0 Z = true) (eT : T.heap = h) {a : Addr} {v : Value} (F : Fld Z h a O nm d v) (hd : decode c.code pc = .ok (.getfield index, 3))
    (r : ∀ T', Stand p l e R s m args below meth c T' locs cells slots → T'.heap = h → Till p e below s Q k n (T'.setTop (mkF m (pc + 3) Ls (v :: rest)))) : Till p e below s Q k n (T.setTop (mkF m pc Ls (.ref a :: rest))) := by
  obtain ⟨T', X', e', st⟩ := Jvm.RoadKit.getF X hx hZ hown (host := "") (Or.inl w) Via.refl eT F (g := mkF m pc Ls (.ref a :: rest)) rfl rfl hd
  exact Till.pre st (r T' X' e')
theorem Till.putF (X : Stand p l e R s m args below meth c T locs cells slots) (hx : p.tables.exec = Jvm.exec) (hZ : Z.Warmed39 s.vm) {own O nm d C : String} {index kk : Nat} {ty : FieldType} (hown : s.vm.findClass own = some m.cls) (w : (Jvm.Cond.fieldLink own index O nm d).before a0 Z = true) (eT : T.heap = h) {a : Addr} {v old : Value} (F : Fld Z h a O nm d old) (E : Exa Z h a C)
    (L : (Jvm.Cond.lays C O nm d).before a0 Z = true ∨ ((Jvm.Cond.laysFinal C O nm d).before a0 Z = true ∧ own = O ∧ meth.name = "<init>")) (wi : (Jvm.Cond.instantiable C kk).before a0 Z = true) (hty : parseFieldDescriptor d = some ty) (hn : narrow ty v = v) (hf : fits ty v = true) (hd : decode c.code pc = .ok (.putfield index, 3))
    (r : ∀ T' h', Stand p l e R s m args below meth c T' (locs ++ [⟨a, Jvm.RoadKit.slotOf Z O nm d⟩]) cells slots → T'.heap = h' → Wr h h' a (Jvm.RoadKit.slotOf Z O nm d) v → Till p e below s Q k n (T'.setTop (mkF m (pc + 3) Ls rest))) : Till p e below s Q k n (T.setTop (mkF m pc Ls (v :: .ref a :: rest))) := by
  obtain ⟨T', h', X', e', W, st⟩ := Jvm.RoadKit.putF X hx hZ hown (host := "") (Or.inl w) Via.refl eT F E L wi hty hn hf (g := mkF m pc Ls (v :: .ref a :: rest)) rfl rfl hd
  exact Till.pre st (r T' h' X' e' W)
theorem Till.newO (X : Stand p l e R s m args below meth c T locs cells slots) (hx : p.tables.exec = Jvm.exec) (hZ : Z.Warmed39 s.vm) {own C : String} {index sl : Nat} (hown : s.vm.findClass own = some m.cls) (w : (Jvm.Cond.classLink own index C).before a0 Z = true) (wi : (Jvm.Cond.instantiable C sl).before a0 Z = true) (wz : (Jvm.Cond.initialized C).before a0 Z = true) (eT : T.heap = h) (hd : decode c.code pc = .ok (.new index, 3)) (hc : cells + 1 ≤ R.cells) (hl : slots + sl ≤ R.slots)
    (r : ∀ T' h' b, b = h.size → Stand p l e R s m args below meth c T' locs (cells + 1) (slots + sl) → T'.heap = h' → Ext h h' → Exa Z h' b C → (∀ {O nm d : String} {ty : FieldType}, Laid Z a0 C O nm d → parseFieldDescriptor d = some ty → Fld Z h' b O nm d (defaultValue ty)) → Till p e below s Q k n (T'.setTop (mkF m (pc + 3) Ls (.ref b :: rest)))) : Till p e below s Q k n (T.setTop (mkF m pc Ls rest)) := by
  obtain ⟨T', h', X', e', E, A, D, -, st⟩ := Jvm.RoadKit.newO X hx hZ hown w wi wz eT (g := mkF m pc Ls rest) rfl hd hc hl
  exact Till.pre st (r T' h' _ rfl X' e' E A D)
theorem Till.initO (X : Stand p l e R s m args below meth c T locs cells slots) (hx : p.tables.exec = Jvm.exec) (hZ : Z.Warmed39 s.vm) {own : String} {idx : Nat} (hown : s.vm.findClass own = some m.cls) (w1 : (Jvm.Cond.methodLink own idx Lib.objectInit).before a0 Z = true) (w2 : (Jvm.Cond.instanceMethod Lib.objectInit).before a0 Z = true) (w3 : (Jvm.Cond.code Lib.objectInit ⟨#[0xb1]⟩ 1 none).before a0 Z = true) (eT : T.heap = h) (hsize : Ls.size = c.maxLocals) {a : Addr} (hd : decode c.code pc = .ok (.invokespecial idx, 3))
    (hf : 1 ≤ R.frames) {W : Nat} (hW : (rest.map fun v => v.category).sum ≤ W) (hl : W + 12 ≤ R.locals)
    (r : ∀ T', Stand p l e R s m args below meth c T' locs cells slots → T'.heap = h → Till p e below s Q k n (T'.setTop (mkF m (pc + 3) Ls rest))) : Till p e below s Q k n (T.setTop (mkF m pc Ls (.ref a :: rest))) := by
  obtain ⟨T', X', e', st⟩ := Jvm.RoadKit.initO X hx hZ hown w1 w2 w3 eT (g := mkF m pc Ls (.ref a :: rest)) rfl hsize rfl hd hf (W := W) (by show 2 * 0 + _ ≤ _; omega) hl
  exact Till.pre st (r T' X' e')
/-! arrays: what they hold, as a function of the place -/
def AR {α : Type} (ty : FieldType) (w : α → Value) (Z : State) (h : Heap) (a : Addr) (z : Int32) (f : Nat → α) : Prop := ∃ c : Cell, Arr Z h a c ty ∧ c.slots.size = z.toNatClampNeg ∧ ¬ z < 0 ∧ ∀ i, i < c.slots.size → c.slots[i]? = some (w (f i))
abbrev LA := @AR Int64 .long Value.long
abbrev IA := @AR Int32 .int Value.int
abbrev BA := @AR Int32 .byte Value.int
def oupd {α : Type} (f : Nat → α) (i : Nat) (v : α) : Nat → α := fun x => if x = i then v else f x
theorem upd_hit {α : Type} {f : Nat → α} {i j : Nat} {v : α} (q : j = i) : oupd f i v j = v := if_pos q
theorem upd_miss {α : Type} {f : Nat → α} {i j : Nat} {v : α} (q : ¬ j = i) : oupd f i v j = f j := if_neg q
section Ary
variable {α : Type} {ty : FieldType} {w : α → Value} {a b : Addr} {z j : Int32} {f : Nat → α} {ws : List Addr} {sl : Nat} {v : Value}
theorem AR.lt (A : AR ty w Z h a z f) : a < h.size := by obtain ⟨c, A, -⟩ := A; exact A.lt
theorem AR.pos (A : AR ty w Z h a z f) : ¬ z < 0 := by obtain ⟨c, -, -, q, -⟩ := A; exact q
theorem AR.ext (A : AR ty w Z h a z f) (E : Ext h h') : AR ty w Z h' a z f := by obtain ⟨c, A, r⟩ := A; exact ⟨c, A.ext E, r⟩
theorem AR.keep (A : AR ty w Z h a z f) (K : Keep h h' ws) (q : a ∉ ws) : AR ty w Z h' a z f := by obtain ⟨c, A, r⟩ := A; exact ⟨c, ⟨K.2.1 a c A.1 q, A.2⟩, r⟩
theorem AR.wr (A : AR ty w Z h a z f) (W : Wr h h' b sl v) (q : a ≠ b) : AR ty w Z h' a z f := by obtain ⟨c, A, r⟩ := A; exact ⟨c, A.other W q, r⟩
theorem AR.congr {g : Nat → α} (A : AR ty w Z h a z f) (q : ∀ i, i < z.toNatClampNeg → f i = g i) : AR ty w Z h a z g := by obtain ⟨c, A, S, N, H⟩ := A; exact ⟨c, A, S, N, fun i hi => by rw [H i hi, q i (S ▸ hi)]⟩
theorem AR.set {x : α} (A : AR ty w Z h a z f) (W : Wr h h' a j.toNatClampNeg (w x)) : AR ty w Z h' a z (oupd f j.toNatClampNeg x) := by
  obtain ⟨c, A, S, N, H⟩ := A
  refine ⟨_, A.same W, by rw [sz_set]; exact S, N, fun i hi => ?_⟩
  rw [sz_set] at hi
  by_cases u : i = j.toNatClampNeg
  · rw [upd_hit u]; subst u; simp [Cell.setSlot, hi]
  · rw [upd_miss u]; simp only [Cell.setSlot]; rw [Array.getElem?_setIfInBounds_ne (Ne.symm u)]; exact H i hi
theorem Till.newA {aty : ArrayType} {d0 : α} (X : Stand p l e R s m args below meth c T locs cells slots) (hx : p.tables.exec = Jvm.exec) (hZ : Z.Warmed39 s.vm) (wa : (Jvm.Cond.arrayClass (newarray.typeOf aty)).before a0 Z = true) (eT : T.heap = h) (hd : decode c.code pc = .ok (.newarray aty, 2)) (hdv : defaultValue (newarray.typeOf aty) = w d0) (hz : ¬ z < 0) (cap : Nat) (hcap : z.toNatClampNeg ≤ cap) (hb : cap * 8 ≤ 536870912) (hc : cells + 1 ≤ R.cells) (hl : slots + cap ≤ R.slots)
    (r : ∀ T' h' b, b = h.size → Stand p l e R s m args below meth c T' locs (cells + 1) (slots + cap) → T'.heap = h' → Ext h h' → AR (newarray.typeOf aty) w Z h' b z (fun _ => d0) → Till p e below s Q k n (T'.setTop (mkF m (pc + 2) Ls (.ref b :: rest)))) : Till p e below s Q k n (T.setTop (mkF m pc Ls (.int z :: rest))) := by
  obtain ⟨T', h', cA, X', e', E, A, st⟩ := newP X hx hZ wa eT (g := mkF m pc Ls (.int z :: rest)) rfl hd rfl hz (cap := cap) hcap hb hc hl
  exact Till.pre st (r T' h' _ rfl X' e' E ⟨_, A, sz_new _ _ _, hz, fun i hi => by rw [sz_new] at hi; simp [Jvm.RoadKit.newA, hi, hdv]⟩)
theorem Till.alen (A : AR ty w Z h a z f) (X : Stand p l e R s m args below meth c T locs cells slots) (hx : p.tables.exec = Jvm.exec) (hZ : Z.Warmed39 s.vm) (eT : T.heap = h) (hd : decode c.code pc = .ok (.arraylength, 1))
    (r : Till p e below s Q k n (T.setTop (mkF m (pc + 1) Ls (.int z :: rest)))) : Till p e below s Q k n (T.setTop (mkF m pc Ls (.ref a :: rest))) := by
  obtain ⟨c', A, S, N, H⟩ := A
  refine Till.pre (X.arraylength hx (by rw [eT]; exact A.1) (State.isArrayOf_alike hZ.alike A.2.1) (g := mkF m pc Ls (.ref a :: rest)) rfl rfl hd) ?_
  rw [len_of S N]; exact r
theorem AR.at (A : AR ty w Z h a z f) (h1 : ¬ j < 0) (h2 : j < z) : ∃ c : Cell, Arr Z h a c ty ∧ ¬ (j < 0 ∨ c.slots.size ≤ j.toNatClampNeg) ∧ c.slots[j.toNatClampNeg]? = some (w (f j.toNatClampNeg)) := by
  obtain ⟨c', A, S, N, H⟩ := A
  have hin := inb_of S ⟨h1, h2⟩
  exact ⟨c', A, hin, H _ (Nat.lt_of_not_le fun y => hin (Or.inr y))⟩
end Ary
section Acc
variable {a : Addr} {z j : Int32}
theorem Till.laload {f : Nat → Int64} (A : LA Z h a z f) (h1 : ¬ j < 0) (h2 : j < z) (X : Stand p l e R s m args below meth c T locs cells slots) (hx : p.tables.exec = Jvm.exec) (hZ : Z.Warmed39 s.vm) (eT : T.heap = h) (hd : decode c.code pc = .ok (.laload, 1))
    (r : Till p e below s Q k n (T.setTop (mkF m (pc + 1) Ls (.long (f j.toNatClampNeg) :: rest)))) : Till p e below s Q k n (T.setTop (mkF m pc Ls (.int j :: .ref a :: rest))) := by
  obtain ⟨c', A, hin, hv⟩ := A.at h1 h2
  exact Till.pre (X.laload hx (by rw [eT]; exact A.1) (State.isArrayOf_alike hZ.alike A.2.1) A.2.2 hin hv (g := mkF m pc Ls (.int j :: .ref a :: rest)) rfl rfl hd) r
theorem Till.iaload {f : Nat → Int32} (A : IA Z h a z f) (h1 : ¬ j < 0) (h2 : j < z) (X : Stand p l e R s m args below meth c T locs cells slots) (hx : p.tables.exec = Jvm.exec) (hZ : Z.Warmed39 s.vm) (eT : T.heap = h) (hd : decode c.code pc = .ok (.iaload, 1))
    (r : Till p e below s Q k n (T.setTop (mkF m (pc + 1) Ls (.int (f j.toNatClampNeg) :: rest)))) : Till p e below s Q k n (T.setTop (mkF m pc Ls (.int j :: .ref a :: rest))) := by
  obtain ⟨c', A, hin, hv⟩ := A.at h1 h2
  exact Till.pre (X.iaload hx (by rw [eT]; exact A.1) (State.isArrayOf_alike hZ.alike A.2.1) A.2.2 hin hv (g := mkF m pc Ls (.int j :: .ref a :: rest)) rfl rfl hd) r
theorem Till.baload {f : Nat → Int32} (A : BA Z h a z f) (h1 : ¬ j < 0) (h2 : j < z) (X : Stand p l e R s m args below meth c T locs cells slots) (hx : p.tables.exec = Jvm.exec) (hZ : Z.Warmed39 s.vm) (eT : T.heap = h) (hd : decode c.code pc = .ok (.baload, 1))
    (r : Till p e below s Q k n (T.setTop (mkF m (pc + 1) Ls (.int (f j.toNatClampNeg) :: rest)))) : Till p e below s Q k n (T.setTop (mkF m pc Ls (.int j :: .ref a :: rest))) := by
  obtain ⟨c', A, hin, hv⟩ := A.at h1 h2
  exact Till.pre (X.baloadBytes hx (by rw [eT]; exact A.1) (State.isArrayOf_alike hZ.alike A.2.1) A.2.2 hin hv (g := mkF m pc Ls (.int j :: .ref a :: rest)) rfl rfl hd) r
theorem Till.lastore {f : Nat → Int64} {x : Int64} (A : LA Z h a z f) (h1 : ¬ j < 0) (h2 : j < z) (X : Stand p l e R s m args below meth c T locs cells slots) (hx : p.tables.exec = Jvm.exec) (hZ : Z.Warmed39 s.vm) (eT : T.heap = h) (hd : decode c.code pc = .ok (.lastore, 1))
    (r : ∀ T' h', Stand p l e R s m args below meth c T' (locs ++ [⟨a, j.toNatClampNeg⟩]) cells slots → T'.heap = h' → Wr h h' a j.toNatClampNeg (.long x) → LA Z h' a z (oupd f j.toNatClampNeg x) → Till p e below s Q k n (T'.setTop (mkF m (pc + 1) Ls rest))) : Till p e below s Q k n (T.setTop (mkF m pc Ls (.long x :: .int j :: .ref a :: rest))) := by
  obtain ⟨c', A', hin, hv⟩ := A.at h1 h2
  obtain ⟨T', h', X', e', W, st⟩ := stJ X hx hZ eT A' hin (x := x) (g := mkF m pc Ls (.long x :: .int j :: .ref a :: rest)) rfl rfl hd
  exact Till.pre st (r T' h' X' e' W (AR.set A W))
theorem Till.iastore {f : Nat → Int32} {x : Int32} (A : IA Z h a z f) (h1 : ¬ j < 0) (h2 : j < z) (X : Stand p l e R s m args below meth c T locs cells slots) (hx : p.tables.exec = Jvm.exec) (hZ : Z.Warmed39 s.vm) (eT : T.heap = h) (hd : decode c.code pc = .ok (.iastore, 1))
    (r : ∀ T' h', Stand p l e R s m args below meth c T' (locs ++ [⟨a, j.toNatClampNeg⟩]) cells slots → T'.heap = h' → Wr h h' a j.toNatClampNeg (.int x) → IA Z h' a z (oupd f j.toNatClampNeg x) → Till p e below s Q k n (T'.setTop (mkF m (pc + 1) Ls rest))) : Till p e below s Q k n (T.setTop (mkF m pc Ls (.int x :: .int j :: .ref a :: rest))) := by
  obtain ⟨c', A', hin, hv⟩ := A.at h1 h2
  obtain ⟨T', h', X', e', W, st⟩ := stI X hx hZ eT A' hin (x := x) (g := mkF m pc Ls (.int x :: .int j :: .ref a :: rest)) rfl rfl hd
  exact Till.pre st (r T' h' X' e' W (AR.set A W))
theorem Till.bastore {f : Nat → Int32} {x : Int32} (A : BA Z h a z f) (h1 : ¬ j < 0) (h2 : j < z) (X : Stand p l e R s m args below meth c T locs cells slots) (hx : p.tables.exec = Jvm.exec) (hZ : Z.Warmed39 s.vm) (eT : T.heap = h) (hd : decode c.code pc = .ok (.bastore, 1))
    (r : ∀ T' h', Stand p l e R s m args below meth c T' (locs ++ [⟨a, j.toNatClampNeg⟩]) cells slots → T'.heap = h' → Wr h h' a j.toNatClampNeg (.int x.toInt8.toInt32) → BA Z h' a z (oupd f j.toNatClampNeg x.toInt8.toInt32) → Till p e below s Q k n (T'.setTop (mkF m (pc + 1) Ls rest))) : Till p e below s Q k n (T.setTop (mkF m pc Ls (.int x :: .int j :: .ref a :: rest))) := by
  obtain ⟨c', A', hin, hv⟩ := A.at h1 h2
  obtain ⟨T', h', X', e', W, st⟩ := stB X hx hZ eT A' hin (x := x) (g := mkF m pc Ls (.int x :: .int j :: .ref a :: rest)) rfl rfl hd
  exact Till.pre st (r T' h' X' e' W (AR.set A W))
end Acc
/-! calls -/
section Calls
variable {own : String} {index maxL : Nat} {y : MethodName} {bytes : ByteArray} {ret : Option FieldType} {rm : Room} {as : Array Value} {Qc : Option Value → Heap → List Loc → Prop} {W : Nat} {argsL st : List Value}
theorem Till.callS (C : Ctr l Z y bytes maxL ret rm as h Qc) (X : Stand p l e R s m args below meth c T locs cells slots) (hx : p.tables.exec = Jvm.exec) (hZ : Z.Warmed39 s.vm) (hown : s.vm.findClass own = some m.cls) (w1 : (Jvm.Cond.methodLink own index y).before a0 Z = true) (w2 : (Jvm.Cond.static y).before a0 Z = true) (w3 : (Jvm.Cond.initialized y.cls).before a0 Z = true) (w4 : (Jvm.Cond.code y bytes maxL ret).before a0 Z = true)
    (hy : y.cls ≠ "java/lang/invoke/MethodHandle" ∧ y.cls ≠ "java/lang/invoke/VarHandle") (hf : rm.frames + 1 ≤ R.frames) (hl : W + (maxL + 11) + rm.locals ≤ R.locals) (hsize : Ls.size = c.maxLocals) (hlen : ∀ sig, parseMethodDescriptor y.desc = some sig → argsL.length = sig.parameters.length) (has : argsL.toArray = as) (hst : st = argsL.reverse ++ rest) (hW : (rest.map fun v => v.category).sum ≤ W) (hd : decode c.code pc = .ok (.invokestatic index, 3)) (eT : T.heap = h) (hc : cells + rm.cells ≤ R.cells) (hs : slots + rm.slots ≤ R.slots)
    (r : ∀ v T' L, Stand p l e R s m args below meth c T' (locs ++ L) (cells + rm.cells) (slots + rm.slots) → Qc v T'.heap L → Till p e below s Q k n (T'.setTop (mkF m (pc + 3) Ls (v.toList ++ rest)))) : Till p e below s Q k n (T.setTop (mkF m pc Ls st)) := by
  obtain ⟨v, vm1, ⟨T', L', c', s'⟩, -, X', ⟨Lc, hQ, l1, y1, z1⟩, stp⟩ := Jvm.LawKit.callS X hx hown (mvT hZ w1) (mvT hZ w2) (mvT hZ w3) (mvT hZ w4) hy (backOf (W := W) (C []) hZ w4 w3 hf hl) (g := mkF m pc Ls st) rfl hsize (argsL := argsL) (rest := rest) hlen hst (by show 2 * 0 + _ ≤ _; omega) hd (fun _ _ => ⟨has, eT, hc, hs⟩)
  dsimp only [Pt.U, Pt.locs, Pt.cells, Pt.slots] at X' l1 y1 z1 stp hQ
  subst l1 y1 z1
  exact Till.pre stp (r v T' Lc X' hQ)
theorem Till.callC {a : Addr} (C : Ctr l Z y bytes maxL none rm as h Qc) (X : Stand p l e R s m args below meth c T locs cells slots) (hx : p.tables.exec = Jvm.exec) (hZ : Z.Warmed39 s.vm) (hown : s.vm.findClass own = some m.cls) (hy1 : y.name = "<init>") (w1 : (Jvm.Cond.methodLink own index y).before a0 Z = true) (w2 : (Jvm.Cond.instanceMethod y).before a0 Z = true) (w3 : (Jvm.Cond.initialized y.cls).before a0 Z = true) (w4 : (Jvm.Cond.code y bytes maxL none).before a0 Z = true)
    (hy : y.cls ≠ "java/lang/invoke/MethodHandle" ∧ y.cls ≠ "java/lang/invoke/VarHandle") (hf : rm.frames + 1 ≤ R.frames) (hl : W + (maxL + 11) + rm.locals ≤ R.locals) (hsize : Ls.size = c.maxLocals) (hlen : ∀ sig, parseMethodDescriptor y.desc = some sig → argsL.length = sig.parameters.length) (has : (.ref a :: argsL).toArray = as) (hst : st = argsL.reverse ++ .ref a :: rest) (hW : (rest.map fun v => v.category).sum ≤ W) (hd : decode c.code pc = .ok (.invokespecial index, 3)) (eT : T.heap = h) (hc : cells + rm.cells ≤ R.cells) (hs : slots + rm.slots ≤ R.slots)
    (r : ∀ v T' L, Stand p l e R s m args below meth c T' (locs ++ L) (cells + rm.cells) (slots + rm.slots) → Qc v T'.heap L → Till p e below s Q k n (T'.setTop (mkF m (pc + 3) Ls (v.toList ++ rest)))) : Till p e below s Q k n (T.setTop (mkF m pc Ls st)) := by
  obtain ⟨v, vm1, ⟨T', L', c', s'⟩, -, X', ⟨Lc, hQ, l1, y1, z1⟩, stp⟩ := X.specialBack hx hy1 hown (mvT hZ w1) (mvT hZ w2) (mvT hZ w4) hy (backOf (W := W) (C []) hZ w4 w3 hf hl) (g := mkF m pc Ls st) rfl hsize (Steps.refl _) (a := a) (argsL := argsL) (rest := rest) hlen hst (by show 2 * 0 + _ ≤ _; omega) hd (fun _ _ => ⟨has, eT, hc, hs⟩)
  dsimp only [Pt.U, Pt.locs, Pt.cells, Pt.slots] at X' l1 y1 z1 stp hQ
  subst l1 y1 z1
  exact Till.via stp (r v T' Lc X' hQ)
theorem Till.callV {a : Addr} (C : Ctr l Z y bytes maxL ret rm as h Qc) (E : Exa Z h a y.cls) (X : Stand p l e R s m args below meth c T locs cells slots) (hx : p.tables.exec = Jvm.exec) (hZ : Z.Warmed39 s.vm) (hown : s.vm.findClass own = some m.cls) (w1 : (Jvm.Cond.methodLink own index y).before a0 Z = true) (w5 : (Jvm.Cond.declares y).before a0 Z = true) (w6 : (Jvm.Cond.selects y.cls y y).before a0 Z = true) (w2 : (Jvm.Cond.instanceMethod y).before a0 Z = true) (w3 : (Jvm.Cond.initialized y.cls).before a0 Z = true) (w4 : (Jvm.Cond.code y bytes maxL ret).before a0 Z = true)
    (hy : y.cls ≠ "java/lang/invoke/MethodHandle" ∧ y.cls ≠ "java/lang/invoke/VarHandle") (hf : rm.frames + 1 ≤ R.frames) (hl : W + (maxL + 11) + rm.locals ≤ R.locals) (hsize : Ls.size = c.maxLocals) (hlen : ∀ sig, parseMethodDescriptor y.desc = some sig → argsL.length = sig.parameters.length) (has : (.ref a :: argsL).toArray = as) (hst : st = argsL.reverse ++ .ref a :: rest) (hW : (rest.map fun v => v.category).sum ≤ W) (hd : decode c.code pc = .ok (.invokevirtual index, 3)) (eT : T.heap = h) (hc : cells + rm.cells ≤ R.cells) (hs : slots + rm.slots ≤ R.slots)
    (r : ∀ v T' L, Stand p l e R s m args below meth c T' (locs ++ L) (cells + rm.cells) (slots + rm.slots) → Qc v T'.heap L → Till p e below s Q k n (T'.setTop (mkF m (pc + 3) Ls (v.toList ++ rest)))) : Till p e below s Q k n (T.setTop (mkF m pc Ls st)) := by
  obtain ⟨cq, kq, qa, qb, qc⟩ := isOf hZ eT E
  obtain ⟨v, vm1, ⟨T', L', c', s'⟩, -, X', ⟨Lc, hQ, l1, y1, z1⟩, stp⟩ := X.virtualBack hx (y := y) (z := y) hown (mvT hZ w1) (mvT hZ w5) (notFace_of_selects (args := #[]) (mvT hZ w6)) (mvT hZ w6) (mvT hZ w2) hy (backOf (W := W) (C []) hZ w4 w3 hf hl) qa qc (g := mkF m pc Ls st) rfl hsize (Steps.refl _) (argsL := argsL) (rest := rest) hlen hst (by show 2 * 0 + _ ≤ _; omega) hd (fun _ _ => ⟨has, eT, hc, hs⟩)
  dsimp only [Pt.U, Pt.locs, Pt.cells, Pt.slots] at X' l1 y1 z1 stp hQ
  subst l1 y1 z1
  exact Till.via stp (r v T' Lc X' hQ)
theorem Till.callP {a : Addr} {kk : Nat} (C : Ctr l Z y bytes maxL ret rm as h Qc) (E : Exa Z h a y.cls) (X : Stand p l e R s m args below meth c T locs cells slots) (hx : p.tables.exec = Jvm.exec) (hZ : Z.Warmed39 s.vm) (hown : s.vm.findClass own = some m.cls) (w1 : (Jvm.Cond.methodLink own index y).before a0 Z = true) (w2 : (Jvm.Cond.instanceMethod y).before a0 Z = true) (wp : (Jvm.Cond.privateMethod y).before a0 Z = true) (wi : (Jvm.Cond.instantiable y.cls kk).before a0 Z = true) (w3 : (Jvm.Cond.initialized y.cls).before a0 Z = true) (w4 : (Jvm.Cond.code y bytes maxL ret).before a0 Z = true)
    (hy : y.cls ≠ "java/lang/invoke/MethodHandle" ∧ y.cls ≠ "java/lang/invoke/VarHandle") (hf : rm.frames + 1 ≤ R.frames) (hl : W + (maxL + 11) + rm.locals ≤ R.locals) (hsize : Ls.size = c.maxLocals) (hlen : ∀ sig, parseMethodDescriptor y.desc = some sig → argsL.length = sig.parameters.length) (has : (.ref a :: argsL).toArray = as) (hst : st = argsL.reverse ++ .ref a :: rest) (hW : (rest.map fun v => v.category).sum ≤ W) (hd : decode c.code pc = .ok (.invokevirtual index, 3)) (eT : T.heap = h) (hc : cells + rm.cells ≤ R.cells) (hs : slots + rm.slots ≤ R.slots)
    (r : ∀ v T' L, Stand p l e R s m args below meth c T' (locs ++ L) (cells + rm.cells) (slots + rm.slots) → Qc v T'.heap L → Till p e below s Q k n (T'.setTop (mkF m (pc + 3) Ls (v.toList ++ rest)))) : Till p e below s Q k n (T.setTop (mkF m pc Ls st)) := by
  have wi' : (Jvm.Cond.instantiable y.cls kk).before args s = true := mvT hZ wi
  have w2' : (Jvm.Cond.instanceMethod y).before args s = true := mvT hZ w2
  obtain ⟨c2, k2, i1, i2, -, hniab, -, -⟩ := Cond.instantiable_spec wi'
  have hpr := Cond.privateMethod_at (mvP hZ wp (args := args))
  have hsel : (Jvm.Cond.selects y.cls y y).before args s = true := selects_self_of_private i1 i2 (Bool.or_eq_false_iff.mp hniab).1 hpr w2' hy
  obtain ⟨cell, hcell, hobj⟩ := E.cell
  obtain ⟨v, vm1, ⟨T', L', c', s'⟩, -, X', ⟨Lc, hQ, l1, y1, z1⟩, stp⟩ := X.privateBack hx hown (mvT hZ w1) w2' hsel hpr (mvT hZ w4) hy (backOf (W := W) (C []) hZ w4 w3 hf hl) (g := mkF m pc Ls st) rfl hsize (Steps.refl _) (a := a) (by rw [eT]; exact hcell) hobj (argsL := argsL) (rest := rest) hlen hst (by show 2 * 0 + _ ≤ _; omega) hd (fun _ _ => ⟨has, eT, hc, hs⟩)
  dsimp only [Pt.U, Pt.locs, Pt.cells, Pt.slots] at X' l1 y1 z1 stp hQ
  subst l1 y1 z1
  exact Till.via stp (r v T' Lc X' hQ)
end Calls
theorem Till.pop2L {x : Int64} (X : Stand p l e R s m args below meth c T locs cells slots) (hx : p.tables.exec = Jvm.exec) (hd : decode c.code pc = .ok (.pop2, 1)) (r : Till p e below s Q k n (T.setTop (mkF m (pc + 1) Ls rest))) : Till p e below s Q k n (T.setTop (mkF m pc Ls (.long x :: rest))) := by
  refine Till.pre (fun t hr => ?_) r
  show Steps p.tables e below (T.setTop { method := m, pc := pc, locals := Ls, stack := _ :: rest, locked := none }) _
  jvm_step X.here [X.here.top, hx, hd, Value.category]
  exact hr
end Own
end Jvm.Own
namespace Jvm.Pilot.@@N@@
open Jvm Jvm.ClassFile Sem Op Lib Jvm.Free Jvm.Stand Jvm.LawKit Jvm.RoadKit Bundle Jvm.Own Jvm.Pilot.@@N@@.Jvm.D
def Lot (Z : State) (h : Heap) (a : Addr) (x0 : Int64) : Prop := Exa Z h a "com/example/bondroll/bondroll/util/Lot" ∧ Fld Z h a "com/example/bondroll/bondroll/util/Lot" "state" "J" (.long x0)
theorem Lot.lt {Z : State} {h : Heap} {a : Addr} {x0 : Int64} (F : Lot Z h a x0) : a < h.size := F.1.lt
theorem Lot.ext {Z : State} {h h' : Heap} {a : Addr} {x0 : Int64} (F : Lot Z h a x0) (E : Ext h h') : Lot Z h' a x0 := ⟨F.1.ext E, F.2.ext E⟩
theorem Lot.keep {Z : State} {h h' : Heap} {a : Addr} {x0 : Int64} {ws : List Addr} (F : Lot Z h a x0) (K : Keep h h' ws) (q : a ∉ ws) : Lot Z h' a x0 := ⟨F.1.keep K, F.2.keep K q⟩
theorem Lot.wr {Z : State} {h h' : Heap} {a : Addr} {x0 : Int64} {b : Addr} {sl : Nat} {v : Value} (F : Lot Z h a x0) (W : Wr h h' b sl v) (q : a ≠ b) : Lot Z h' a x0 := ⟨F.1.wr W, F.2.other W (Or.inl q)⟩
theorem Lot.set_state {Z : State} {h h' : Heap} {a : Addr} {x0 : Int64} {y : Int64} {a0 : Array Value} (hw : ∀ d ∈ tables_1, d.before a0 Z = true) (F : Lot Z h a x0) (W : Wr h h' a (Jvm.RoadKit.slotOf Z "com/example/bondroll/bondroll/util/Lot" "state" "J") (.long y)) : Lot Z h' a y := ⟨F.1.wr W, F.2.same W⟩
theorem d1_0 : decode prog_66_method_1_code 0 = .ok (.aload_n 0, 1) := by decide +kernel
theorem d1_1 : decode prog_66_method_1_code 1 = .ok (.invokespecial 1, 3) := by decide +kernel
theorem d1_4 : decode prog_66_method_1_code 4 = .ok (.aload_n 0, 1) := by decide +kernel
theorem d1_5 : decode prog_66_method_1_code 5 = .ok (.lload_n 1, 1) := by decide +kernel
theorem d1_6 : decode prog_66_method_1_code 6 = .ok (.putfield 7, 3) := by decide +kernel
theorem d1_9 : decode prog_66_method_1_code 9 = .ok (.return_, 1) := by decide +kernel
theorem pn_1 : plainName "com/example/bondroll/bondroll/util/Lot" = true := by first | (simp [plainName, overriddenIn]; done) | decide +kernel
theorem ef_1 (m : MethodId) (a1 : Addr) (q2 : Int64) : entryFrame m #[(.ref a1), (.long q2)] 3 = mkF m 0 #[.val (.ref a1), .val (.long q2), .second] [] := by first | (simp [entryFrame, mkF, argsToLocals, Value.category]; done) | rfl
def Q1 (Z : State) (a1 : Addr) (q2 : Int64) (w1 : Int64) (h0 : Heap) (n0 : Nat) : Option Value → Heap → List Loc → Prop := fun v h L => v = none ∧ Fr n0 L ∧ Keep h0 h [a1] ∧ Lot Z h a1 q2
def room1 : Room := { frames := 1, cells := 0, slots := 0, locals := 12 }
set_option maxRecDepth 65536 in
set_option maxHeartbeats 40000000 in
theorem rm1 (l : Launch) (Z : State) (a0 : Array Value) (hw : ∀ d ∈ tables_1, d.before a0 Z = true) (a1 : Addr) (q2 : Int64) (w1 : Int64) (h0 : Heap) (n0 : Nat) (Zs : n0 ≤ h0.size) (R_a1 : Lot Z h0 a1 w1) (g_a1 : n0 ≤ a1) : Ctr l Z (⟨"com/example/bondroll/bondroll/util/Lot", "<init>", "(J)V"⟩ : MethodName) prog_66_method_1_code 3 none room1 #[(.ref a1), (.long q2)] h0 (Q1 Z a1 q2 w1 h0 n0) := by
  refine Ctr.of (plainFor_of_name pn_1) ?_
  intro p e s m below meth c s₁ hx hby hml hown hnm hret hlk hZ e0 X0
  have hown : s.vm.findClass "com/example/bondroll/bondroll/util/Lot" = some m.cls := hown
  have hml : c.maxLocals = 3 := hml
  have hnm : meth.name = "<init>" := hnm
  have hret : meth.sig.returnType = none := hret
  have N0 := Fr.nil n0
  refine Till.cast (ef_1 m a1 q2) ?_
  have Kp := Keep.refl h0 [a1]
  show Till p e below s (Q1 Z a1 q2 w1 h0 n0) room1.cells room1.slots (s₁.setTop (mkF m 0 #[.val (.ref a1), .val (.long q2), .second] []))
  refine Till.pre (fun _ hr => XS.aloadN X0.here hx rfl (hb hby d1_0) rfl rfl hr) ?_
  show Till p e below s (Q1 Z a1 q2 w1 h0 n0) room1.cells room1.slots (s₁.setTop (mkF m 1 #[.val (.ref a1), .val (.long q2), .second] [(.ref a1)]))
  refine Till.initO X0 hx hZ hown (hw _ (List.mem_of_getElem? (i := 6) rfl)) (hw _ (List.mem_of_getElem? (i := 7) rfl)) (hw _ (List.mem_of_getElem? (i := 8) rfl)) e0 (by rw [hml]; rfl) (hb hby d1_1) (by decide) (W := 0) (Nat.le_of_eq rfl) (by decide) (fun T1 X2 e3 => ?_)
  show Till p e below s (Q1 Z a1 q2 w1 h0 n0) room1.cells room1.slots (T1.setTop (mkF m 4 #[.val (.ref a1), .val (.long q2), .second] []))
  refine Till.pre (fun _ hr => XS.aloadN X2.here hx rfl (hb hby d1_4) rfl rfl hr) ?_
  show Till p e below s (Q1 Z a1 q2 w1 h0 n0) room1.cells room1.slots (T1.setTop (mkF m 5 #[.val (.ref a1), .val (.long q2), .second] [(.ref a1)]))
  refine Till.pre (fun _ hr => XS.lloadN X2.here hx rfl (hb hby d1_5) rfl hr) ?_
  show Till p e below s (Q1 Z a1 q2 w1 h0 n0) room1.cells room1.slots (T1.setTop (mkF m 6 #[.val (.ref a1), .val (.long q2), .second] [(.long q2), (.ref a1)]))
  refine Till.putF X2 hx hZ hown (hw _ (List.mem_of_getElem? (i := 9) rfl)) e3 R_a1.2 R_a1.1 (Or.inl (hw _ (List.mem_of_getElem? (i := 10) rfl))) (hw _ (List.mem_of_getElem? (i := 1) rfl)) (ty := .long) (by decide) rfl rfl (hb hby d1_6) (fun T4 h5 X6 e7 W8 => ?_)
  have N9 := Fr.snoc X6 N0 g_a1
  have Zs := Nat.le_trans Zs (Keep.of_wr W8).1
  have Kp := Kp.wr W8 (Or.inl (List.mem_of_getElem? (i := 0) rfl))
  have R_a1 := Lot.set_state hw R_a1 W8
  show Till p e below s (Q1 Z a1 q2 w1 h0 n0) room1.cells room1.slots (T4.setTop (mkF m 9 #[.val (.ref a1), .val (.long q2), .second] []))
  refine Till.retV X6 hx hret hlk (hb hby d1_9) (by decide) (by decide) ?_
  show (Q1 Z a1 q2 w1 h0 n0) _ T4.heap _
  rw [e7]
  exact ⟨rfl, N9, Kp, R_a1⟩
theorem d2_0 : decode prog_66_method_3_code 0 = .ok (.aload_n 0, 1) := by decide +kernel
theorem d2_1 : decode prog_66_method_3_code 1 = .ok (.dup, 1) := by decide +kernel
theorem d2_2 : decode prog_66_method_3_code 2 = .ok (.getfield 7, 3) := by decide +kernel
theorem d2_5 : decode prog_66_method_3_code 5 = .ok (.ldc2_w 32, 3) := by decide +kernel
theorem d2_8 : decode prog_66_method_3_code 8 = .ok (.ladd, 1) := by decide +kernel
theorem d2_9 : decode prog_66_method_3_code 9 = .ok (.putfield 7, 3) := by decide +kernel
theorem d2_12 : decode prog_66_method_3_code 12 = .ok (.aload_n 0, 1) := by decide +kernel
theorem d2_13 : decode prog_66_method_3_code 13 = .ok (.getfield 7, 3) := by decide +kernel
theorem d2_16 : decode prog_66_method_3_code 16 = .ok (.aload_n 0, 1) := by decide +kernel
theorem d2_17 : decode prog_66_method_3_code 17 = .ok (.getfield 7, 3) := by decide +kernel
theorem d2_20 : decode prog_66_method_3_code 20 = .ok (.bipush 30, 2) := by decide +kernel
theorem d2_22 : decode prog_66_method_3_code 22 = .ok (.lushr, 1) := by decide +kernel
theorem d2_23 : decode prog_66_method_3_code 23 = .ok (.lxor, 1) := by decide +kernel
theorem d2_24 : decode prog_66_method_3_code 24 = .ok (.ldc2_w 34, 3) := by decide +kernel
theorem d2_27 : decode prog_66_method_3_code 27 = .ok (.lmul, 1) := by decide +kernel
theorem d2_28 : decode prog_66_method_3_code 28 = .ok (.lstore_n 1, 1) := by decide +kernel
theorem d2_29 : decode prog_66_method_3_code 29 = .ok (.lload_n 1, 1) := by decide +kernel
theorem d2_30 : decode prog_66_method_3_code 30 = .ok (.lload_n 1, 1) := by decide +kernel
theorem d2_31 : decode prog_66_method_3_code 31 = .ok (.bipush 27, 2) := by decide +kernel
theorem d2_33 : decode prog_66_method_3_code 33 = .ok (.lushr, 1) := by decide +kernel
theorem d2_34 : decode prog_66_method_3_code 34 = .ok (.lxor, 1) := by decide +kernel
theorem d2_35 : decode prog_66_method_3_code 35 = .ok (.ldc2_w 36, 3) := by decide +kernel
theorem d2_38 : decode prog_66_method_3_code 38 = .ok (.lmul, 1) := by decide +kernel
theorem d2_39 : decode prog_66_method_3_code 39 = .ok (.lstore_n 1, 1) := by decide +kernel
theorem d2_40 : decode prog_66_method_3_code 40 = .ok (.lload_n 1, 1) := by decide +kernel
theorem d2_41 : decode prog_66_method_3_code 41 = .ok (.lload_n 1, 1) := by decide +kernel
theorem d2_42 : decode prog_66_method_3_code 42 = .ok (.bipush 31, 2) := by decide +kernel
theorem d2_44 : decode prog_66_method_3_code 44 = .ok (.lushr, 1) := by decide +kernel
theorem d2_45 : decode prog_66_method_3_code 45 = .ok (.lxor, 1) := by decide +kernel
theorem d2_46 : decode prog_66_method_3_code 46 = .ok (.lreturn, 1) := by decide +kernel
theorem ef_2 (m : MethodId) (a1 : Addr) : entryFrame m #[(.ref a1)] 3 = mkF m 0 #[.val (.ref a1), .unset, .unset] [] := by first | (simp [entryFrame, mkF, argsToLocals, Value.category]; done) | rfl
def fn2 (w1 : Int64) : Int64 := ((((((w1 + (-7046029254386353131 : Int64)) ^^^ (lsr (w1 + (-7046029254386353131 : Int64)) (30 : Int32))) * (-4658895280553007687 : Int64)) ^^^ (lsr (((w1 + (-7046029254386353131 : Int64)) ^^^ (lsr (w1 + (-7046029254386353131 : Int64)) (30 : Int32))) * (-4658895280553007687 : Int64)) (27 : Int32))) * (-7723592293110705685 : Int64)) ^^^ (lsr (((((w1 + (-7046029254386353131 : Int64)) ^^^ (lsr (w1 + (-7046029254386353131 : Int64)) (30 : Int32))) * (-4658895280553007687 : Int64)) ^^^ (lsr (((w1 + (-7046029254386353131 : Int64)) ^^^ (lsr (w1 + (-7046029254386353131 : Int64)) (30 : Int32))) * (-4658895280553007687 : Int64)) (27 : Int32))) * (-7723592293110705685 : Int64)) (31 : Int32)))
def Q2 (Z : State) (a1 : Addr) (w1 : Int64) (h0 : Heap) (n0 : Nat) : Option Value → Heap → List Loc → Prop := fun v h L => v = some (.long (fn2 w1)) ∧ Fr n0 L ∧ Keep h0 h [a1] ∧ Lot Z h a1 (w1 + (-7046029254386353131 : Int64))
def room2 : Room := { frames := 0, cells := 0, slots := 0, locals := 0 }
set_option maxRecDepth 65536 in
set_option maxHeartbeats 40000000 in
theorem rm2 (l : Launch) (Z : State) (a0 : Array Value) (hw : ∀ d ∈ tables_1, d.before a0 Z = true) (a1 : Addr) (w1 : Int64) (h0 : Heap) (n0 : Nat) (Zs : n0 ≤ h0.size) (R_a1 : Lot Z h0 a1 w1) (g_a1 : n0 ≤ a1) : Ctr l Z (⟨"com/example/bondroll/bondroll/util/Lot", "next", "()J"⟩ : MethodName) prog_66_method_3_code 3 (some .long) room2 #[(.ref a1)] h0 (Q2 Z a1 w1 h0 n0) := by
  refine Ctr.of (plainFor_of_name pn_1) ?_
  intro p e s m below meth c s₁ hx hby hml hown hnm hret hlk hZ e0 X0
  have hown : s.vm.findClass "com/example/bondroll/bondroll/util/Lot" = some m.cls := hown
  have hml : c.maxLocals = 3 := hml
  have hnm : meth.name = "next" := hnm
  have hret : meth.sig.returnType = (some .long) := hret
  have N0 := Fr.nil n0
  refine Till.cast (ef_2 m a1) ?_
  have Kp := Keep.refl h0 [a1]
  show Till p e below s (Q2 Z a1 w1 h0 n0) room2.cells room2.slots (s₁.setTop (mkF m 0 #[.val (.ref a1), .unset, .unset] []))
  refine Till.pre (fun _ hr => XS.aloadN X0.here hx rfl (hb hby d2_0) rfl rfl hr) ?_
  show Till p e below s (Q2 Z a1 w1 h0 n0) room2.cells room2.slots (s₁.setTop (mkF m 1 #[.val (.ref a1), .unset, .unset] [(.ref a1)]))
  refine Till.pre (fun _ hr => XS.dup X0.here hx rfl (hb hby d2_1) rfl rfl hr) ?_
  show Till p e below s (Q2 Z a1 w1 h0 n0) room2.cells room2.slots (s₁.setTop (mkF m 2 #[.val (.ref a1), .unset, .unset] [(.ref a1), (.ref a1)]))
  refine Till.getF X0 hx hZ hown (hw _ (List.mem_of_getElem? (i := 9) rfl)) e0 R_a1.2 (hb hby d2_2) (fun T1 X2 e3 => ?_)
  show Till p e below s (Q2 Z a1 w1 h0 n0) room2.cells room2.slots (T1.setTop (mkF m 5 #[.val (.ref a1), .unset, .unset] [(.long w1), (.ref a1)]))
  refine Till.pre (X2.ldc2Long hx hown (mvT hZ (hw _ (List.mem_of_getElem? (i := 16) rfl))) (g := (mkF m 5 #[.val (.ref a1), .unset, .unset] [(.long w1), (.ref a1)])) rfl (hb hby d2_5)) ?_
  show Till p e below s (Q2 Z a1 w1 h0 n0) room2.cells room2.slots (T1.setTop (mkF m 8 #[.val (.ref a1), .unset, .unset] [(.long (-7046029254386353131 : Int64)), (.long w1), (.ref a1)]))
  refine Till.pre (fun _ hr => XS.ladd X2.here hx rfl (hb hby d2_8) rfl hr) ?_
  show Till p e below s (Q2 Z a1 w1 h0 n0) room2.cells room2.slots (T1.setTop (mkF m 9 #[.val (.ref a1), .unset, .unset] [(.long (w1 + (-7046029254386353131 : Int64))), (.ref a1)]))
  refine Till.putF X2 hx hZ hown (hw _ (List.mem_of_getElem? (i := 9) rfl)) e3 R_a1.2 R_a1.1 (Or.inl (hw _ (List.mem_of_getElem? (i := 10) rfl))) (hw _ (List.mem_of_getElem? (i := 1) rfl)) (ty := .long) (by decide) rfl rfl (hb hby d2_9) (fun T4 h5 X6 e7 W8 => ?_)
  have N9 := Fr.snoc X6 N0 g_a1
  have Zs := Nat.le_trans Zs (Keep.of_wr W8).1
  have Kp := Kp.wr W8 (Or.inl (List.mem_of_getElem? (i := 0) rfl))
  have R_a1 := Lot.set_state hw R_a1 W8
  show Till p e below s (Q2 Z a1 w1 h0 n0) room2.cells room2.slots (T4.setTop (mkF m 12 #[.val (.ref a1), .unset, .unset] []))
  refine Till.pre (fun _ hr => XS.aloadN X6.here hx rfl (hb hby d2_12) rfl rfl hr) ?_
  show Till p e below s (Q2 Z a1 w1 h0 n0) room2.cells room2.slots (T4.setTop (mkF m 13 #[.val (.ref a1), .unset, .unset] [(.ref a1)]))
  refine Till.getF X6 hx hZ hown (hw _ (List.mem_of_getElem? (i := 9) rfl)) e7 R_a1.2 (hb hby d2_13) (fun T10 X11 e12 => ?_)
  show Till p e below s (Q2 Z a1 w1 h0 n0) room2.cells room2.slots (T10.setTop (mkF m 16 #[.val (.ref a1), .unset, .unset] [(.long (w1 + (-7046029254386353131 : Int64)))]))
  refine Till.pre (fun _ hr => XS.aloadN X11.here hx rfl (hb hby d2_16) rfl rfl hr) ?_
  show Till p e below s (Q2 Z a1 w1 h0 n0) room2.cells room2.slots (T10.setTop (mkF m 17 #[.val (.ref a1), .unset, .unset] [(.ref a1), (.long (w1 + (-7046029254386353131 : Int64)))]))
  refine Till.getF X11 hx hZ hown (hw _ (List.mem_of_getElem? (i := 9) rfl)) e12 R_a1.2 (hb hby d2_17) (fun T13 X14 e15 => ?_)
  show Till p e below s (Q2 Z a1 w1 h0 n0) room2.cells room2.slots (T13.setTop (mkF m 20 #[.val (.ref a1), .unset, .unset] [(.long (w1 + (-7046029254386353131 : Int64))), (.long (w1 + (-7046029254386353131 : Int64)))]))
  refine Till.pre (fun _ hr => XS.bipush X14.here hx rfl (hb hby d2_20) hr) ?_
  show Till p e below s (Q2 Z a1 w1 h0 n0) room2.cells room2.slots (T13.setTop (mkF m 22 #[.val (.ref a1), .unset, .unset] [(.int (30 : Int32)), (.long (w1 + (-7046029254386353131 : Int64))), (.long (w1 + (-7046029254386353131 : Int64)))]))
  refine Till.pre (fun _ hr => XS.lushr X14.here hx rfl (hb hby d2_22) rfl hr) ?_
  show Till p e below s (Q2 Z a1 w1 h0 n0) room2.cells room2.slots (T13.setTop (mkF m 23 #[.val (.ref a1), .unset, .unset] [(.long (lsr (w1 + (-7046029254386353131 : Int64)) (30 : Int32))), (.long (w1 + (-7046029254386353131 : Int64)))]))
  refine Till.pre (fun _ hr => XS.lxor X14.here hx rfl (hb hby d2_23) rfl hr) ?_
  show Till p e below s (Q2 Z a1 w1 h0 n0) room2.cells room2.slots (T13.setTop (mkF m 24 #[.val (.ref a1), .unset, .unset] [(.long ((w1 + (-7046029254386353131 : Int64)) ^^^ (lsr (w1 + (-7046029254386353131 : Int64)) (30 : Int32))))]))
  refine Till.pre (X14.ldc2Long hx hown (mvT hZ (hw _ (List.mem_of_getElem? (i := 17) rfl))) (g := (mkF m 24 #[.val (.ref a1), .unset, .unset] [(.long ((w1 + (-7046029254386353131 : Int64)) ^^^ (lsr (w1 + (-7046029254386353131 : Int64)) (30 : Int32))))])) rfl (hb hby d2_24)) ?_
  show Till p e below s (Q2 Z a1 w1 h0 n0) room2.cells room2.slots (T13.setTop (mkF m 27 #[.val (.ref a1), .unset, .unset] [(.long (-4658895280553007687 : Int64)), (.long ((w1 + (-7046029254386353131 : Int64)) ^^^ (lsr (w1 + (-7046029254386353131 : Int64)) (30 : Int32))))]))
  refine Till.pre (fun _ hr => XS.lmul X14.here hx rfl (hb hby d2_27) rfl hr) ?_
  show Till p e below s (Q2 Z a1 w1 h0 n0) room2.cells room2.slots (T13.setTop (mkF m 28 #[.val (.ref a1), .unset, .unset] [(.long (((w1 + (-7046029254386353131 : Int64)) ^^^ (lsr (w1 + (-7046029254386353131 : Int64)) (30 : Int32))) * (-4658895280553007687 : Int64)))]))
  refine Till.pre (fun _ hr => XS.lstoreN X14.here hx rfl (hb hby d2_28) rfl (l' := #[.val (.ref a1), .val (.long (((w1 + (-7046029254386353131 : Int64)) ^^^ (lsr (w1 + (-7046029254386353131 : Int64)) (30 : Int32))) * (-4658895280553007687 : Int64))), .second]) rfl hr) ?_
  show Till p e below s (Q2 Z a1 w1 h0 n0) room2.cells room2.slots (T13.setTop (mkF m 29 #[.val (.ref a1), .val (.long (((w1 + (-7046029254386353131 : Int64)) ^^^ (lsr (w1 + (-7046029254386353131 : Int64)) (30 : Int32))) * (-4658895280553007687 : Int64))), .second] []))
  refine Till.pre (fun _ hr => XS.lloadN X14.here hx rfl (hb hby d2_29) rfl hr) ?_
  show Till p e below s (Q2 Z a1 w1 h0 n0) room2.cells room2.slots (T13.setTop (mkF m 30 #[.val (.ref a1), .val (.long (((w1 + (-7046029254386353131 : Int64)) ^^^ (lsr (w1 + (-7046029254386353131 : Int64)) (30 : Int32))) * (-4658895280553007687 : Int64))), .second] [(.long (((w1 + (-7046029254386353131 : Int64)) ^^^ (lsr (w1 + (-7046029254386353131 : Int64)) (30 : Int32))) * (-4658895280553007687 : Int64)))]))
  refine Till.pre (fun _ hr => XS.lloadN X14.here hx rfl (hb hby d2_30) rfl hr) ?_
  show Till p e below s (Q2 Z a1 w1 h0 n0) room2.cells room2.slots (T13.setTop (mkF m 31 #[.val (.ref a1), .val (.long (((w1 + (-7046029254386353131 : Int64)) ^^^ (lsr (w1 + (-7046029254386353131 : Int64)) (30 : Int32))) * (-4658895280553007687 : Int64))), .second] [(.long (((w1 + (-7046029254386353131 : Int64)) ^^^ (lsr (w1 + (-7046029254386353131 : Int64)) (30 : Int32))) * (-4658895280553007687 : Int64))), (.long (((w1 + (-7046029254386353131 : Int64)) ^^^ (lsr (w1 + (-7046029254386353131 : Int64)) (30 : Int32))) * (-4658895280553007687 : Int64)))]))
  refine Till.pre (fun _ hr => XS.bipush X14.here hx rfl (hb hby d2_31) hr) ?_
  show Till p e below s (Q2 Z a1 w1 h0 n0) room2.cells room2.slots (T13.setTop (mkF m 33 #[.val (.ref a1), .val (.long (((w1 + (-7046029254386353131 : Int64)) ^^^ (lsr (w1 + (-7046029254386353131 : Int64)) (30 : Int32))) * (-4658895280553007687 : Int64))), .second] [(.int (27 : Int32)), (.long (((w1 + (-7046029254386353131 : Int64)) ^^^ (lsr (w1 + (-7046029254386353131 : Int64)) (30 : Int32))) * (-4658895280553007687 : Int64))), (.long (((w1 + (-7046029254386353131 : Int64)) ^^^ (lsr (w1 + (-7046029254386353131 : Int64)) (30 : Int32))) * (-4658895280553007687 : Int64)))]))
  refine Till.pre (fun _ hr => XS.lushr X14.here hx rfl (hb hby d2_33) rfl hr) ?_
  show Till p e below s (Q2 Z a1 w1 h0 n0) room2.cells room2.slots (T13.setTop (mkF m 34 #[.val (.ref a1), .val (.long (((w1 + (-7046029254386353131 : Int64)) ^^^ (lsr (w1 + (-7046029254386353131 : Int64)) (30 : Int32))) * (-4658895280553007687 : Int64))), .second] [(.long (lsr (((w1 + (-7046029254386353131 : Int64)) ^^^ (lsr (w1 + (-7046029254386353131 : Int64)) (30 : Int32))) * (-4658895280553007687 : Int64)) (27 : Int32))), (.long (((w1 + (-7046029254386353131 : Int64)) ^^^ (lsr (w1 + (-7046029254386353131 : Int64)) (30 : Int32))) * (-4658895280553007687 : Int64)))]))
  refine Till.pre (fun _ hr => XS.lxor X14.here hx rfl (hb hby d2_34) rfl hr) ?_
  show Till p e below s (Q2 Z a1 w1 h0 n0) room2.cells room2.slots (T13.setTop (mkF m 35 #[.val (.ref a1), .val (.long (((w1 + (-7046029254386353131 : Int64)) ^^^ (lsr (w1 + (-7046029254386353131 : Int64)) (30 : Int32))) * (-4658895280553007687 : Int64))), .second] [(.long ((((w1 + (-7046029254386353131 : Int64)) ^^^ (lsr (w1 + (-7046029254386353131 : Int64)) (30 : Int32))) * (-4658895280553007687 : Int64)) ^^^ (lsr (((w1 + (-7046029254386353131 : Int64)) ^^^ (lsr (w1 + (-7046029254386353131 : Int64)) (30 : Int32))) * (-4658895280553007687 : Int64)) (27 : Int32))))]))
  refine Till.pre (X14.ldc2Long hx hown (mvT hZ (hw _ (List.mem_of_getElem? (i := 18) rfl))) (g := (mkF m 35 #[.val (.ref a1), .val (.long (((w1 + (-7046029254386353131 : Int64)) ^^^ (lsr (w1 + (-7046029254386353131 : Int64)) (30 : Int32))) * (-4658895280553007687 : Int64))), .second] [(.long ((((w1 + (-7046029254386353131 : Int64)) ^^^ (lsr (w1 + (-7046029254386353131 : Int64)) (30 : Int32))) * (-4658895280553007687 : Int64)) ^^^ (lsr (((w1 + (-7046029254386353131 : Int64)) ^^^ (lsr (w1 + (-7046029254386353131 : Int64)) (30 : Int32))) * (-4658895280553007687 : Int64)) (27 : Int32))))])) rfl (hb hby d2_35)) ?_
  show Till p e below s (Q2 Z a1 w1 h0 n0) room2.cells room2.slots (T13.setTop (mkF m 38 #[.val (.ref a1), .val (.long (((w1 + (-7046029254386353131 : Int64)) ^^^ (lsr (w1 + (-7046029254386353131 : Int64)) (30 : Int32))) * (-4658895280553007687 : Int64))), .second] [(.long (-7723592293110705685 : Int64)), (.long ((((w1 + (-7046029254386353131 : Int64)) ^^^ (lsr (w1 + (-7046029254386353131 : Int64)) (30 : Int32))) * (-4658895280553007687 : Int64)) ^^^ (lsr (((w1 + (-7046029254386353131 : Int64)) ^^^ (lsr (w1 + (-7046029254386353131 : Int64)) (30 : Int32))) * (-4658895280553007687 : Int64)) (27 : Int32))))]))
  refine Till.pre (fun _ hr => XS.lmul X14.here hx rfl (hb hby d2_38) rfl hr) ?_
  show Till p e below s (Q2 Z a1 w1 h0 n0) room2.cells room2.slots (T13.setTop (mkF m 39 #[.val (.ref a1), .val (.long (((w1 + (-7046029254386353131 : Int64)) ^^^ (lsr (w1 + (-7046029254386353131 : Int64)) (30 : Int32))) * (-4658895280553007687 : Int64))), .second] [(.long (((((w1 + (-7046029254386353131 : Int64)) ^^^ (lsr (w1 + (-7046029254386353131 : Int64)) (30 : Int32))) * (-4658895280553007687 : Int64)) ^^^ (lsr (((w1 + (-7046029254386353131 : Int64)) ^^^ (lsr (w1 + (-7046029254386353131 : Int64)) (30 : Int32))) * (-4658895280553007687 : Int64)) (27 : Int32))) * (-7723592293110705685 : Int64)))]))
  refine Till.pre (fun _ hr => XS.lstoreN X14.here hx rfl (hb hby d2_39) rfl (l' := #[.val (.ref a1), .val (.long (((((w1 + (-7046029254386353131 : Int64)) ^^^ (lsr (w1 + (-7046029254386353131 : Int64)) (30 : Int32))) * (-4658895280553007687 : Int64)) ^^^ (lsr (((w1 + (-7046029254386353131 : Int64)) ^^^ (lsr (w1 + (-7046029254386353131 : Int64)) (30 : Int32))) * (-4658895280553007687 : Int64)) (27 : Int32))) * (-7723592293110705685 : Int64))), .second]) rfl hr) ?_
  show Till p e below s (Q2 Z a1 w1 h0 n0) room2.cells room2.slots (T13.setTop (mkF m 40 #[.val (.ref a1), .val (.long (((((w1 + (-7046029254386353131 : Int64)) ^^^ (lsr (w1 + (-7046029254386353131 : Int64)) (30 : Int32))) * (-4658895280553007687 : Int64)) ^^^ (lsr (((w1 + (-7046029254386353131 : Int64)) ^^^ (lsr (w1 + (-7046029254386353131 : Int64)) (30 : Int32))) * (-4658895280553007687 : Int64)) (27 : Int32))) * (-7723592293110705685 : Int64))), .second] []))
  refine Till.pre (fun _ hr => XS.lloadN X14.here hx rfl (hb hby d2_40) rfl hr) ?_
  show Till p e below s (Q2 Z a1 w1 h0 n0) room2.cells room2.slots (T13.setTop (mkF m 41 #[.val (.ref a1), .val (.long (((((w1 + (-7046029254386353131 : Int64)) ^^^ (lsr (w1 + (-7046029254386353131 : Int64)) (30 : Int32))) * (-4658895280553007687 : Int64)) ^^^ (lsr (((w1 + (-7046029254386353131 : Int64)) ^^^ (lsr (w1 + (-7046029254386353131 : Int64)) (30 : Int32))) * (-4658895280553007687 : Int64)) (27 : Int32))) * (-7723592293110705685 : Int64))), .second] [(.long (((((w1 + (-7046029254386353131 : Int64)) ^^^ (lsr (w1 + (-7046029254386353131 : Int64)) (30 : Int32))) * (-4658895280553007687 : Int64)) ^^^ (lsr (((w1 + (-7046029254386353131 : Int64)) ^^^ (lsr (w1 + (-7046029254386353131 : Int64)) (30 : Int32))) * (-4658895280553007687 : Int64)) (27 : Int32))) * (-7723592293110705685 : Int64)))]))
  refine Till.pre (fun _ hr => XS.lloadN X14.here hx rfl (hb hby d2_41) rfl hr) ?_
  show Till p e below s (Q2 Z a1 w1 h0 n0) room2.cells room2.slots (T13.setTop (mkF m 42 #[.val (.ref a1), .val (.long (((((w1 + (-7046029254386353131 : Int64)) ^^^ (lsr (w1 + (-7046029254386353131 : Int64)) (30 : Int32))) * (-4658895280553007687 : Int64)) ^^^ (lsr (((w1 + (-7046029254386353131 : Int64)) ^^^ (lsr (w1 + (-7046029254386353131 : Int64)) (30 : Int32))) * (-4658895280553007687 : Int64)) (27 : Int32))) * (-7723592293110705685 : Int64))), .second] [(.long (((((w1 + (-7046029254386353131 : Int64)) ^^^ (lsr (w1 + (-7046029254386353131 : Int64)) (30 : Int32))) * (-4658895280553007687 : Int64)) ^^^ (lsr (((w1 + (-7046029254386353131 : Int64)) ^^^ (lsr (w1 + (-7046029254386353131 : Int64)) (30 : Int32))) * (-4658895280553007687 : Int64)) (27 : Int32))) * (-7723592293110705685 : Int64))), (.long (((((w1 + (-7046029254386353131 : Int64)) ^^^ (lsr (w1 + (-7046029254386353131 : Int64)) (30 : Int32))) * (-4658895280553007687 : Int64)) ^^^ (lsr (((w1 + (-7046029254386353131 : Int64)) ^^^ (lsr (w1 + (-7046029254386353131 : Int64)) (30 : Int32))) * (-4658895280553007687 : Int64)) (27 : Int32))) * (-7723592293110705685 : Int64)))]))
  refine Till.pre (fun _ hr => XS.bipush X14.here hx rfl (hb hby d2_42) hr) ?_
  show Till p e below s (Q2 Z a1 w1 h0 n0) room2.cells room2.slots (T13.setTop (mkF m 44 #[.val (.ref a1), .val (.long (((((w1 + (-7046029254386353131 : Int64)) ^^^ (lsr (w1 + (-7046029254386353131 : Int64)) (30 : Int32))) * (-4658895280553007687 : Int64)) ^^^ (lsr (((w1 + (-7046029254386353131 : Int64)) ^^^ (lsr (w1 + (-7046029254386353131 : Int64)) (30 : Int32))) * (-4658895280553007687 : Int64)) (27 : Int32))) * (-7723592293110705685 : Int64))), .second] [(.int (31 : Int32)), (.long (((((w1 + (-7046029254386353131 : Int64)) ^^^ (lsr (w1 + (-7046029254386353131 : Int64)) (30 : Int32))) * (-4658895280553007687 : Int64)) ^^^ (lsr (((w1 + (-7046029254386353131 : Int64)) ^^^ (lsr (w1 + (-7046029254386353131 : Int64)) (30 : Int32))) * (-4658895280553007687 : Int64)) (27 : Int32))) * (-7723592293110705685 : Int64))), (.long (((((w1 + (-7046029254386353131 : Int64)) ^^^ (lsr (w1 + (-7046029254386353131 : Int64)) (30 : Int32))) * (-4658895280553007687 : Int64)) ^^^ (lsr (((w1 + (-7046029254386353131 : Int64)) ^^^ (lsr (w1 + (-7046029254386353131 : Int64)) (30 : Int32))) * (-4658895280553007687 : Int64)) (27 : Int32))) * (-7723592293110705685 : Int64)))]))
  refine Till.pre (fun _ hr => XS.lushr X14.here hx rfl (hb hby d2_44) rfl hr) ?_
  show Till p e below s (Q2 Z a1 w1 h0 n0) room2.cells room2.slots (T13.setTop (mkF m 45 #[.val (.ref a1), .val (.long (((((w1 + (-7046029254386353131 : Int64)) ^^^ (lsr (w1 + (-7046029254386353131 : Int64)) (30 : Int32))) * (-4658895280553007687 : Int64)) ^^^ (lsr (((w1 + (-7046029254386353131 : Int64)) ^^^ (lsr (w1 + (-7046029254386353131 : Int64)) (30 : Int32))) * (-4658895280553007687 : Int64)) (27 : Int32))) * (-7723592293110705685 : Int64))), .second] [(.long (lsr (((((w1 + (-7046029254386353131 : Int64)) ^^^ (lsr (w1 + (-7046029254386353131 : Int64)) (30 : Int32))) * (-4658895280553007687 : Int64)) ^^^ (lsr (((w1 + (-7046029254386353131 : Int64)) ^^^ (lsr (w1 + (-7046029254386353131 : Int64)) (30 : Int32))) * (-4658895280553007687 : Int64)) (27 : Int32))) * (-7723592293110705685 : Int64)) (31 : Int32))), (.long (((((w1 + (-7046029254386353131 : Int64)) ^^^ (lsr (w1 + (-7046029254386353131 : Int64)) (30 : Int32))) * (-4658895280553007687 : Int64)) ^^^ (lsr (((w1 + (-7046029254386353131 : Int64)) ^^^ (lsr (w1 + (-7046029254386353131 : Int64)) (30 : Int32))) * (-4658895280553007687 : Int64)) (27 : Int32))) * (-7723592293110705685 : Int64)))]))
  refine Till.pre (fun _ hr => XS.lxor X14.here hx rfl (hb hby d2_45) rfl hr) ?_
  show Till p e below s (Q2 Z a1 w1 h0 n0) room2.cells room2.slots (T13.setTop (mkF m 46 #[.val (.ref a1), .val (.long (((((w1 + (-7046029254386353131 : Int64)) ^^^ (lsr (w1 + (-7046029254386353131 : Int64)) (30 : Int32))) * (-4658895280553007687 : Int64)) ^^^ (lsr (((w1 + (-7046029254386353131 : Int64)) ^^^ (lsr (w1 + (-7046029254386353131 : Int64)) (30 : Int32))) * (-4658895280553007687 : Int64)) (27 : Int32))) * (-7723592293110705685 : Int64))), .second] [(.long ((((((w1 + (-7046029254386353131 : Int64)) ^^^ (lsr (w1 + (-7046029254386353131 : Int64)) (30 : Int32))) * (-4658895280553007687 : Int64)) ^^^ (lsr (((w1 + (-7046029254386353131 : Int64)) ^^^ (lsr (w1 + (-7046029254386353131 : Int64)) (30 : Int32))) * (-4658895280553007687 : Int64)) (27 : Int32))) * (-7723592293110705685 : Int64)) ^^^ (lsr (((((w1 + (-7046029254386353131 : Int64)) ^^^ (lsr (w1 + (-7046029254386353131 : Int64)) (30 : Int32))) * (-4658895280553007687 : Int64)) ^^^ (lsr (((w1 + (-7046029254386353131 : Int64)) ^^^ (lsr (w1 + (-7046029254386353131 : Int64)) (30 : Int32))) * (-4658895280553007687 : Int64)) (27 : Int32))) * (-7723592293110705685 : Int64)) (31 : Int32))))]))
  refine Till.retJ X14 hx hret hlk (hb hby d2_46) (by decide) (by decide) ?_
  show (Q2 Z a1 w1 h0 n0) _ T13.heap _
  rw [e15]
  exact ⟨rfl, N9, Kp, R_a1⟩
theorem d3_0 : decode method_2_code 0 = .ok (.lload_n 0, 1) := by decide +kernel
theorem d3_1 : decode method_2_code 1 = .ok (.lload_n 0, 1) := by decide +kernel
theorem d3_2 : decode method_2_code 2 = .ok (.bipush 31, 2) := by decide +kernel
theorem d3_4 : decode method_2_code 4 = .ok (.lushr, 1) := by decide +kernel
theorem d3_5 : decode method_2_code 5 = .ok (.lxor, 1) := by decide +kernel
theorem d3_6 : decode method_2_code 6 = .ok (.lload_n 0, 1) := by decide +kernel
theorem d3_7 : decode method_2_code 7 = .ok (.bipush 62, 2) := by decide +kernel
theorem d3_9 : decode method_2_code 9 = .ok (.lushr, 1) := by decide +kernel
theorem d3_10 : decode method_2_code 10 = .ok (.lxor, 1) := by decide +kernel
theorem d3_11 : decode method_2_code 11 = .ok (.ldc2_w 7, 3) := by decide +kernel
theorem d3_14 : decode method_2_code 14 = .ok (.lmul, 1) := by decide +kernel
theorem d3_15 : decode method_2_code 15 = .ok (.lstore_n 0, 1) := by decide +kernel
theorem d3_16 : decode method_2_code 16 = .ok (.lload_n 0, 1) := by decide +kernel
theorem d3_17 : decode method_2_code 17 = .ok (.lload_n 0, 1) := by decide +kernel
theorem d3_18 : decode method_2_code 18 = .ok (.bipush 27, 2) := by decide +kernel
theorem d3_20 : decode method_2_code 20 = .ok (.lushr, 1) := by decide +kernel
theorem d3_21 : decode method_2_code 21 = .ok (.lxor, 1) := by decide +kernel
theorem d3_22 : decode method_2_code 22 = .ok (.lload_n 0, 1) := by decide +kernel
theorem d3_23 : decode method_2_code 23 = .ok (.bipush 54, 2) := by decide +kernel
theorem d3_25 : decode method_2_code 25 = .ok (.lushr, 1) := by decide +kernel
theorem d3_26 : decode method_2_code 26 = .ok (.lxor, 1) := by decide +kernel
theorem d3_27 : decode method_2_code 27 = .ok (.ldc2_w 9, 3) := by decide +kernel
theorem d3_30 : decode method_2_code 30 = .ok (.lmul, 1) := by decide +kernel
theorem d3_31 : decode method_2_code 31 = .ok (.lstore_n 0, 1) := by decide +kernel
theorem d3_32 : decode method_2_code 32 = .ok (.lload_n 0, 1) := by decide +kernel
theorem d3_33 : decode method_2_code 33 = .ok (.lload_n 0, 1) := by decide +kernel
theorem d3_34 : decode method_2_code 34 = .ok (.bipush 30, 2) := by decide +kernel
theorem d3_36 : decode method_2_code 36 = .ok (.lushr, 1) := by decide +kernel
theorem d3_37 : decode method_2_code 37 = .ok (.lxor, 1) := by decide +kernel
theorem d3_38 : decode method_2_code 38 = .ok (.lload_n 0, 1) := by decide +kernel
theorem d3_39 : decode method_2_code 39 = .ok (.bipush 60, 2) := by decide +kernel
theorem d3_41 : decode method_2_code 41 = .ok (.lushr, 1) := by decide +kernel
theorem d3_42 : decode method_2_code 42 = .ok (.lxor, 1) := by decide +kernel
theorem d3_43 : decode method_2_code 43 = .ok (.lreturn, 1) := by decide +kernel
theorem pn_3 : plainName "com/example/bondroll/bondroll/util/LotNextPinLaw" = true := by first | (simp [plainName, overriddenIn]; done) | decide +kernel
theorem ef_3 (m : MethodId) (q1 : Int64) : entryFrame m #[(.long q1)] 2 = mkF m 0 #[.val (.long q1), .second] [] := by first | (simp [entryFrame, mkF, argsToLocals, Value.category]; done) | rfl
def fn3 (q1 : Int64) : Int64 := ((((((((q1 ^^^ (lsr q1 (31 : Int32))) ^^^ (lsr q1 (62 : Int32))) * (3573116690164977347 : Int64)) ^^^ (lsr (((q1 ^^^ (lsr q1 (31 : Int32))) ^^^ (lsr q1 (62 : Int32))) * (3573116690164977347 : Int64)) (27 : Int32))) ^^^ (lsr (((q1 ^^^ (lsr q1 (31 : Int32))) ^^^ (lsr q1 (62 : Int32))) * (3573116690164977347 : Int64)) (54 : Int32))) * (-7575587736534282103 : Int64)) ^^^ (lsr ((((((q1 ^^^ (lsr q1 (31 : Int32))) ^^^ (lsr q1 (62 : Int32))) * (3573116690164977347 : Int64)) ^^^ (lsr (((q1 ^^^ (lsr q1 (31 : Int32))) ^^^ (lsr q1 (62 : Int32))) * (3573116690164977347 : Int64)) (27 : Int32))) ^^^ (lsr (((q1 ^^^ (lsr q1 (31 : Int32))) ^^^ (lsr q1 (62 : Int32))) * (3573116690164977347 : Int64)) (54 : Int32))) * (-7575587736534282103 : Int64)) (30 : Int32))) ^^^ (lsr ((((((q1 ^^^ (lsr q1 (31 : Int32))) ^^^ (lsr q1 (62 : Int32))) * (3573116690164977347 : Int64)) ^^^ (lsr (((q1 ^^^ (lsr q1 (31 : Int32))) ^^^ (lsr q1 (62 : Int32))) * (3573116690164977347 : Int64)) (27 : Int32))) ^^^ (lsr (((q1 ^^^ (lsr q1 (31 : Int32))) ^^^ (lsr q1 (62 : Int32))) * (3573116690164977347 : Int64)) (54 : Int32))) * (-7575587736534282103 : Int64)) (60 : Int32)))
def Q3 (Z : State) (q1 : Int64) (h0 : Heap) (n0 : Nat) : Option Value → Heap → List Loc → Prop := fun v h L => v = some (Value.long (fn3 q1)) ∧ Fr n0 L ∧ h = h0
def room3 : Room := { frames := 0, cells := 0, slots := 0, locals := 0 }
set_option maxRecDepth 65536 in
set_option maxHeartbeats 40000000 in
theorem rm3 (l : Launch) (Z : State) (a0 : Array Value) (hw : ∀ d ∈ tables_1, d.before a0 Z = true) (q1 : Int64) (h0 : Heap) (n0 : Nat)  : Ctr l Z (⟨"com/example/bondroll/bondroll/util/LotNextPinLaw", "unmix", "(J)J"⟩ : MethodName) method_2_code 2 (some .long) room3 #[(.long q1)] h0 (Q3 Z q1 h0 n0) := by
  refine Ctr.of (plainFor_of_name pn_3) ?_
  intro p e s m below meth c s₁ hx hby hml hown hnm hret hlk hZ e0 X0
  have hown : s.vm.findClass "com/example/bondroll/bondroll/util/LotNextPinLaw" = some m.cls := hown
  have hml : c.maxLocals = 2 := hml
  have hnm : meth.name = "unmix" := hnm
  have hret : meth.sig.returnType = (some .long) := hret
  have N0 := Fr.nil n0
  refine Till.cast (ef_3 m q1) ?_
  show Till p e below s (Q3 Z q1 h0 n0) room3.cells room3.slots (s₁.setTop (mkF m 0 #[.val (.long q1), .second] []))
  refine Till.pre (fun _ hr => XS.lloadN X0.here hx rfl (hb hby d3_0) rfl hr) ?_
  show Till p e below s (Q3 Z q1 h0 n0) room3.cells room3.slots (s₁.setTop (mkF m 1 #[.val (.long q1), .second] [(.long q1)]))
  refine Till.pre (fun _ hr => XS.lloadN X0.here hx rfl (hb hby d3_1) rfl hr) ?_
  show Till p e below s (Q3 Z q1 h0 n0) room3.cells room3.slots (s₁.setTop (mkF m 2 #[.val (.long q1), .second] [(.long q1), (.long q1)]))
  refine Till.pre (fun _ hr => XS.bipush X0.here hx rfl (hb hby d3_2) hr) ?_
  show Till p e below s (Q3 Z q1 h0 n0) room3.cells room3.slots (s₁.setTop (mkF m 4 #[.val (.long q1), .second] [(.int (31 : Int32)), (.long q1), (.long q1)]))
  refine Till.pre (fun _ hr => XS.lushr X0.here hx rfl (hb hby d3_4) rfl hr) ?_
  show Till p e below s (Q3 Z q1 h0 n0) room3.cells room3.slots (s₁.setTop (mkF m 5 #[.val (.long q1), .second] [(.long (lsr q1 (31 : Int32))), (.long q1)]))
  refine Till.pre (fun _ hr => XS.lxor X0.here hx rfl (hb hby d3_5) rfl hr) ?_
  show Till p e below s (Q3 Z q1 h0 n0) room3.cells room3.slots (s₁.setTop (mkF m 6 #[.val (.long q1), .second] [(.long (q1 ^^^ (lsr q1 (31 : Int32))))]))
  refine Till.pre (fun _ hr => XS.lloadN X0.here hx rfl (hb hby d3_6) rfl hr) ?_
  show Till p e below s (Q3 Z q1 h0 n0) room3.cells room3.slots (s₁.setTop (mkF m 7 #[.val (.long q1), .second] [(.long q1), (.long (q1 ^^^ (lsr q1 (31 : Int32))))]))
  refine Till.pre (fun _ hr => XS.bipush X0.here hx rfl (hb hby d3_7) hr) ?_
  show Till p e below s (Q3 Z q1 h0 n0) room3.cells room3.slots (s₁.setTop (mkF m 9 #[.val (.long q1), .second] [(.int (62 : Int32)), (.long q1), (.long (q1 ^^^ (lsr q1 (31 : Int32))))]))
  refine Till.pre (fun _ hr => XS.lushr X0.here hx rfl (hb hby d3_9) rfl hr) ?_
  show Till p e below s (Q3 Z q1 h0 n0) room3.cells room3.slots (s₁.setTop (mkF m 10 #[.val (.long q1), .second] [(.long (lsr q1 (62 : Int32))), (.long (q1 ^^^ (lsr q1 (31 : Int32))))]))
  refine Till.pre (fun _ hr => XS.lxor X0.here hx rfl (hb hby d3_10) rfl hr) ?_
  show Till p e below s (Q3 Z q1 h0 n0) room3.cells room3.slots (s₁.setTop (mkF m 11 #[.val (.long q1), .second] [(.long ((q1 ^^^ (lsr q1 (31 : Int32))) ^^^ (lsr q1 (62 : Int32))))]))
  refine Till.pre (X0.ldc2Long hx hown (mvT hZ (hw _ (List.mem_of_getElem? (i := 23) rfl))) (g := (mkF m 11 #[.val (.long q1), .second] [(.long ((q1 ^^^ (lsr q1 (31 : Int32))) ^^^ (lsr q1 (62 : Int32))))])) rfl (hb hby d3_11)) ?_
  show Till p e below s (Q3 Z q1 h0 n0) room3.cells room3.slots (s₁.setTop (mkF m 14 #[.val (.long q1), .second] [(.long (3573116690164977347 : Int64)), (.long ((q1 ^^^ (lsr q1 (31 : Int32))) ^^^ (lsr q1 (62 : Int32))))]))
  refine Till.pre (fun _ hr => XS.lmul X0.here hx rfl (hb hby d3_14) rfl hr) ?_
  show Till p e below s (Q3 Z q1 h0 n0) room3.cells room3.slots (s₁.setTop (mkF m 15 #[.val (.long q1), .second] [(.long (((q1 ^^^ (lsr q1 (31 : Int32))) ^^^ (lsr q1 (62 : Int32))) * (3573116690164977347 : Int64)))]))
  refine Till.pre (fun _ hr => XS.lstoreN X0.here hx rfl (hb hby d3_15) rfl (l' := #[.val (.long (((q1 ^^^ (lsr q1 (31 : Int32))) ^^^ (lsr q1 (62 : Int32))) * (3573116690164977347 : Int64))), .second]) rfl hr) ?_
  show Till p e below s (Q3 Z q1 h0 n0) room3.cells room3.slots (s₁.setTop (mkF m 16 #[.val (.long (((q1 ^^^ (lsr q1 (31 : Int32))) ^^^ (lsr q1 (62 : Int32))) * (3573116690164977347 : Int64))), .second] []))
  refine Till.pre (fun _ hr => XS.lloadN X0.here hx rfl (hb hby d3_16) rfl hr) ?_
  show Till p e below s (Q3 Z q1 h0 n0) room3.cells room3.slots (s₁.setTop (mkF m 17 #[.val (.long (((q1 ^^^ (lsr q1 (31 : Int32))) ^^^ (lsr q1 (62 : Int32))) * (3573116690164977347 : Int64))), .second] [(.long (((q1 ^^^ (lsr q1 (31 : Int32))) ^^^ (lsr q1 (62 : Int32))) * (3573116690164977347 : Int64)))]))
  refine Till.pre (fun _ hr => XS.lloadN X0.here hx rfl (hb hby d3_17) rfl hr) ?_
  show Till p e below s (Q3 Z q1 h0 n0) room3.cells room3.slots (s₁.setTop (mkF m 18 #[.val (.long (((q1 ^^^ (lsr q1 (31 : Int32))) ^^^ (lsr q1 (62 : Int32))) * (3573116690164977347 : Int64))), .second] [(.long (((q1 ^^^ (lsr q1 (31 : Int32))) ^^^ (lsr q1 (62 : Int32))) * (3573116690164977347 : Int64))), (.long (((q1 ^^^ (lsr q1 (31 : Int32))) ^^^ (lsr q1 (62 : Int32))) * (3573116690164977347 : Int64)))]))
  refine Till.pre (fun _ hr => XS.bipush X0.here hx rfl (hb hby d3_18) hr) ?_
  show Till p e below s (Q3 Z q1 h0 n0) room3.cells room3.slots (s₁.setTop (mkF m 20 #[.val (.long (((q1 ^^^ (lsr q1 (31 : Int32))) ^^^ (lsr q1 (62 : Int32))) * (3573116690164977347 : Int64))), .second] [(.int (27 : Int32)), (.long (((q1 ^^^ (lsr q1 (31 : Int32))) ^^^ (lsr q1 (62 : Int32))) * (3573116690164977347 : Int64))), (.long (((q1 ^^^ (lsr q1 (31 : Int32))) ^^^ (lsr q1 (62 : Int32))) * (3573116690164977347 : Int64)))]))
  refine Till.pre (fun _ hr => XS.lushr X0.here hx rfl (hb hby d3_20) rfl hr) ?_
  show Till p e below s (Q3 Z q1 h0 n0) room3.cells room3.slots (s₁.setTop (mkF m 21 #[.val (.long (((q1 ^^^ (lsr q1 (31 : Int32))) ^^^ (lsr q1 (62 : Int32))) * (3573116690164977347 : Int64))), .second] [(.long (lsr (((q1 ^^^ (lsr q1 (31 : Int32))) ^^^ (lsr q1 (62 : Int32))) * (3573116690164977347 : Int64)) (27 : Int32))), (.long (((q1 ^^^ (lsr q1 (31 : Int32))) ^^^ (lsr q1 (62 : Int32))) * (3573116690164977347 : Int64)))]))
  refine Till.pre (fun _ hr => XS.lxor X0.here hx rfl (hb hby d3_21) rfl hr) ?_
  show Till p e below s (Q3 Z q1 h0 n0) room3.cells room3.slots (s₁.setTop (mkF m 22 #[.val (.long (((q1 ^^^ (lsr q1 (31 : Int32))) ^^^ (lsr q1 (62 : Int32))) * (3573116690164977347 : Int64))), .second] [(.long ((((q1 ^^^ (lsr q1 (31 : Int32))) ^^^ (lsr q1 (62 : Int32))) * (3573116690164977347 : Int64)) ^^^ (lsr (((q1 ^^^ (lsr q1 (31 : Int32))) ^^^ (lsr q1 (62 : Int32))) * (3573116690164977347 : Int64)) (27 : Int32))))]))
  refine Till.pre (fun _ hr => XS.lloadN X0.here hx rfl (hb hby d3_22) rfl hr) ?_
  show Till p e below s (Q3 Z q1 h0 n0) room3.cells room3.slots (s₁.setTop (mkF m 23 #[.val (.long (((q1 ^^^ (lsr q1 (31 : Int32))) ^^^ (lsr q1 (62 : Int32))) * (3573116690164977347 : Int64))), .second] [(.long (((q1 ^^^ (lsr q1 (31 : Int32))) ^^^ (lsr q1 (62 : Int32))) * (3573116690164977347 : Int64))), (.long ((((q1 ^^^ (lsr q1 (31 : Int32))) ^^^ (lsr q1 (62 : Int32))) * (3573116690164977347 : Int64)) ^^^ (lsr (((q1 ^^^ (lsr q1 (31 : Int32))) ^^^ (lsr q1 (62 : Int32))) * (3573116690164977347 : Int64)) (27 : Int32))))]))
  refine Till.pre (fun _ hr => XS.bipush X0.here hx rfl (hb hby d3_23) hr) ?_
  show Till p e below s (Q3 Z q1 h0 n0) room3.cells room3.slots (s₁.setTop (mkF m 25 #[.val (.long (((q1 ^^^ (lsr q1 (31 : Int32))) ^^^ (lsr q1 (62 : Int32))) * (3573116690164977347 : Int64))), .second] [(.int (54 : Int32)), (.long (((q1 ^^^ (lsr q1 (31 : Int32))) ^^^ (lsr q1 (62 : Int32))) * (3573116690164977347 : Int64))), (.long ((((q1 ^^^ (lsr q1 (31 : Int32))) ^^^ (lsr q1 (62 : Int32))) * (3573116690164977347 : Int64)) ^^^ (lsr (((q1 ^^^ (lsr q1 (31 : Int32))) ^^^ (lsr q1 (62 : Int32))) * (3573116690164977347 : Int64)) (27 : Int32))))]))
  refine Till.pre (fun _ hr => XS.lushr X0.here hx rfl (hb hby d3_25) rfl hr) ?_
  show Till p e below s (Q3 Z q1 h0 n0) room3.cells room3.slots (s₁.setTop (mkF m 26 #[.val (.long (((q1 ^^^ (lsr q1 (31 : Int32))) ^^^ (lsr q1 (62 : Int32))) * (3573116690164977347 : Int64))), .second] [(.long (lsr (((q1 ^^^ (lsr q1 (31 : Int32))) ^^^ (lsr q1 (62 : Int32))) * (3573116690164977347 : Int64)) (54 : Int32))), (.long ((((q1 ^^^ (lsr q1 (31 : Int32))) ^^^ (lsr q1 (62 : Int32))) * (3573116690164977347 : Int64)) ^^^ (lsr (((q1 ^^^ (lsr q1 (31 : Int32))) ^^^ (lsr q1 (62 : Int32))) * (3573116690164977347 : Int64)) (27 : Int32))))]))
  refine Till.pre (fun _ hr => XS.lxor X0.here hx rfl (hb hby d3_26) rfl hr) ?_
  show Till p e below s (Q3 Z q1 h0 n0) room3.cells room3.slots (s₁.setTop (mkF m 27 #[.val (.long (((q1 ^^^ (lsr q1 (31 : Int32))) ^^^ (lsr q1 (62 : Int32))) * (3573116690164977347 : Int64))), .second] [(.long (((((q1 ^^^ (lsr q1 (31 : Int32))) ^^^ (lsr q1 (62 : Int32))) * (3573116690164977347 : Int64)) ^^^ (lsr (((q1 ^^^ (lsr q1 (31 : Int32))) ^^^ (lsr q1 (62 : Int32))) * (3573116690164977347 : Int64)) (27 : Int32))) ^^^ (lsr (((q1 ^^^ (lsr q1 (31 : Int32))) ^^^ (lsr q1 (62 : Int32))) * (3573116690164977347 : Int64)) (54 : Int32))))]))
  refine Till.pre (X0.ldc2Long hx hown (mvT hZ (hw _ (List.mem_of_getElem? (i := 24) rfl))) (g := (mkF m 27 #[.val (.long (((q1 ^^^ (lsr q1 (31 : Int32))) ^^^ (lsr q1 (62 : Int32))) * (3573116690164977347 : Int64))), .second] [(.long (((((q1 ^^^ (lsr q1 (31 : Int32))) ^^^ (lsr q1 (62 : Int32))) * (3573116690164977347 : Int64)) ^^^ (lsr (((q1 ^^^ (lsr q1 (31 : Int32))) ^^^ (lsr q1 (62 : Int32))) * (3573116690164977347 : Int64)) (27 : Int32))) ^^^ (lsr (((q1 ^^^ (lsr q1 (31 : Int32))) ^^^ (lsr q1 (62 : Int32))) * (3573116690164977347 : Int64)) (54 : Int32))))])) rfl (hb hby d3_27)) ?_
  show Till p e below s (Q3 Z q1 h0 n0) room3.cells room3.slots (s₁.setTop (mkF m 30 #[.val (.long (((q1 ^^^ (lsr q1 (31 : Int32))) ^^^ (lsr q1 (62 : Int32))) * (3573116690164977347 : Int64))), .second] [(.long (-7575587736534282103 : Int64)), (.long (((((q1 ^^^ (lsr q1 (31 : Int32))) ^^^ (lsr q1 (62 : Int32))) * (3573116690164977347 : Int64)) ^^^ (lsr (((q1 ^^^ (lsr q1 (31 : Int32))) ^^^ (lsr q1 (62 : Int32))) * (3573116690164977347 : Int64)) (27 : Int32))) ^^^ (lsr (((q1 ^^^ (lsr q1 (31 : Int32))) ^^^ (lsr q1 (62 : Int32))) * (3573116690164977347 : Int64)) (54 : Int32))))]))
  refine Till.pre (fun _ hr => XS.lmul X0.here hx rfl (hb hby d3_30) rfl hr) ?_
  show Till p e below s (Q3 Z q1 h0 n0) room3.cells room3.slots (s₁.setTop (mkF m 31 #[.val (.long (((q1 ^^^ (lsr q1 (31 : Int32))) ^^^ (lsr q1 (62 : Int32))) * (3573116690164977347 : Int64))), .second] [(.long ((((((q1 ^^^ (lsr q1 (31 : Int32))) ^^^ (lsr q1 (62 : Int32))) * (3573116690164977347 : Int64)) ^^^ (lsr (((q1 ^^^ (lsr q1 (31 : Int32))) ^^^ (lsr q1 (62 : Int32))) * (3573116690164977347 : Int64)) (27 : Int32))) ^^^ (lsr (((q1 ^^^ (lsr q1 (31 : Int32))) ^^^ (lsr q1 (62 : Int32))) * (3573116690164977347 : Int64)) (54 : Int32))) * (-7575587736534282103 : Int64)))]))
  refine Till.pre (fun _ hr => XS.lstoreN X0.here hx rfl (hb hby d3_31) rfl (l' := #[.val (.long ((((((q1 ^^^ (lsr q1 (31 : Int32))) ^^^ (lsr q1 (62 : Int32))) * (3573116690164977347 : Int64)) ^^^ (lsr (((q1 ^^^ (lsr q1 (31 : Int32))) ^^^ (lsr q1 (62 : Int32))) * (3573116690164977347 : Int64)) (27 : Int32))) ^^^ (lsr (((q1 ^^^ (lsr q1 (31 : Int32))) ^^^ (lsr q1 (62 : Int32))) * (3573116690164977347 : Int64)) (54 : Int32))) * (-7575587736534282103 : Int64))), .second]) rfl hr) ?_
  show Till p e below s (Q3 Z q1 h0 n0) room3.cells room3.slots (s₁.setTop (mkF m 32 #[.val (.long ((((((q1 ^^^ (lsr q1 (31 : Int32))) ^^^ (lsr q1 (62 : Int32))) * (3573116690164977347 : Int64)) ^^^ (lsr (((q1 ^^^ (lsr q1 (31 : Int32))) ^^^ (lsr q1 (62 : Int32))) * (3573116690164977347 : Int64)) (27 : Int32))) ^^^ (lsr (((q1 ^^^ (lsr q1 (31 : Int32))) ^^^ (lsr q1 (62 : Int32))) * (3573116690164977347 : Int64)) (54 : Int32))) * (-7575587736534282103 : Int64))), .second] []))
  refine Till.pre (fun _ hr => XS.lloadN X0.here hx rfl (hb hby d3_32) rfl hr) ?_
  show Till p e below s (Q3 Z q1 h0 n0) room3.cells room3.slots (s₁.setTop (mkF m 33 #[.val (.long ((((((q1 ^^^ (lsr q1 (31 : Int32))) ^^^ (lsr q1 (62 : Int32))) * (3573116690164977347 : Int64)) ^^^ (lsr (((q1 ^^^ (lsr q1 (31 : Int32))) ^^^ (lsr q1 (62 : Int32))) * (3573116690164977347 : Int64)) (27 : Int32))) ^^^ (lsr (((q1 ^^^ (lsr q1 (31 : Int32))) ^^^ (lsr q1 (62 : Int32))) * (3573116690164977347 : Int64)) (54 : Int32))) * (-7575587736534282103 : Int64))), .second] [(.long ((((((q1 ^^^ (lsr q1 (31 : Int32))) ^^^ (lsr q1 (62 : Int32))) * (3573116690164977347 : Int64)) ^^^ (lsr (((q1 ^^^ (lsr q1 (31 : Int32))) ^^^ (lsr q1 (62 : Int32))) * (3573116690164977347 : Int64)) (27 : Int32))) ^^^ (lsr (((q1 ^^^ (lsr q1 (31 : Int32))) ^^^ (lsr q1 (62 : Int32))) * (3573116690164977347 : Int64)) (54 : Int32))) * (-7575587736534282103 : Int64)))]))
  refine Till.pre (fun _ hr => XS.lloadN X0.here hx rfl (hb hby d3_33) rfl hr) ?_
  show Till p e below s (Q3 Z q1 h0 n0) room3.cells room3.slots (s₁.setTop (mkF m 34 #[.val (.long ((((((q1 ^^^ (lsr q1 (31 : Int32))) ^^^ (lsr q1 (62 : Int32))) * (3573116690164977347 : Int64)) ^^^ (lsr (((q1 ^^^ (lsr q1 (31 : Int32))) ^^^ (lsr q1 (62 : Int32))) * (3573116690164977347 : Int64)) (27 : Int32))) ^^^ (lsr (((q1 ^^^ (lsr q1 (31 : Int32))) ^^^ (lsr q1 (62 : Int32))) * (3573116690164977347 : Int64)) (54 : Int32))) * (-7575587736534282103 : Int64))), .second] [(.long ((((((q1 ^^^ (lsr q1 (31 : Int32))) ^^^ (lsr q1 (62 : Int32))) * (3573116690164977347 : Int64)) ^^^ (lsr (((q1 ^^^ (lsr q1 (31 : Int32))) ^^^ (lsr q1 (62 : Int32))) * (3573116690164977347 : Int64)) (27 : Int32))) ^^^ (lsr (((q1 ^^^ (lsr q1 (31 : Int32))) ^^^ (lsr q1 (62 : Int32))) * (3573116690164977347 : Int64)) (54 : Int32))) * (-7575587736534282103 : Int64))), (.long ((((((q1 ^^^ (lsr q1 (31 : Int32))) ^^^ (lsr q1 (62 : Int32))) * (3573116690164977347 : Int64)) ^^^ (lsr (((q1 ^^^ (lsr q1 (31 : Int32))) ^^^ (lsr q1 (62 : Int32))) * (3573116690164977347 : Int64)) (27 : Int32))) ^^^ (lsr (((q1 ^^^ (lsr q1 (31 : Int32))) ^^^ (lsr q1 (62 : Int32))) * (3573116690164977347 : Int64)) (54 : Int32))) * (-7575587736534282103 : Int64)))]))
  refine Till.pre (fun _ hr => XS.bipush X0.here hx rfl (hb hby d3_34) hr) ?_
  show Till p e below s (Q3 Z q1 h0 n0) room3.cells room3.slots (s₁.setTop (mkF m 36 #[.val (.long ((((((q1 ^^^ (lsr q1 (31 : Int32))) ^^^ (lsr q1 (62 : Int32))) * (3573116690164977347 : Int64)) ^^^ (lsr (((q1 ^^^ (lsr q1 (31 : Int32))) ^^^ (lsr q1 (62 : Int32))) * (3573116690164977347 : Int64)) (27 : Int32))) ^^^ (lsr (((q1 ^^^ (lsr q1 (31 : Int32))) ^^^ (lsr q1 (62 : Int32))) * (3573116690164977347 : Int64)) (54 : Int32))) * (-7575587736534282103 : Int64))), .second] [(.int (30 : Int32)), (.long ((((((q1 ^^^ (lsr q1 (31 : Int32))) ^^^ (lsr q1 (62 : Int32))) * (3573116690164977347 : Int64)) ^^^ (lsr (((q1 ^^^ (lsr q1 (31 : Int32))) ^^^ (lsr q1 (62 : Int32))) * (3573116690164977347 : Int64)) (27 : Int32))) ^^^ (lsr (((q1 ^^^ (lsr q1 (31 : Int32))) ^^^ (lsr q1 (62 : Int32))) * (3573116690164977347 : Int64)) (54 : Int32))) * (-7575587736534282103 : Int64))), (.long ((((((q1 ^^^ (lsr q1 (31 : Int32))) ^^^ (lsr q1 (62 : Int32))) * (3573116690164977347 : Int64)) ^^^ (lsr (((q1 ^^^ (lsr q1 (31 : Int32))) ^^^ (lsr q1 (62 : Int32))) * (3573116690164977347 : Int64)) (27 : Int32))) ^^^ (lsr (((q1 ^^^ (lsr q1 (31 : Int32))) ^^^ (lsr q1 (62 : Int32))) * (3573116690164977347 : Int64)) (54 : Int32))) * (-7575587736534282103 : Int64)))]))
  refine Till.pre (fun _ hr => XS.lushr X0.here hx rfl (hb hby d3_36) rfl hr) ?_
  show Till p e below s (Q3 Z q1 h0 n0) room3.cells room3.slots (s₁.setTop (mkF m 37 #[.val (.long ((((((q1 ^^^ (lsr q1 (31 : Int32))) ^^^ (lsr q1 (62 : Int32))) * (3573116690164977347 : Int64)) ^^^ (lsr (((q1 ^^^ (lsr q1 (31 : Int32))) ^^^ (lsr q1 (62 : Int32))) * (3573116690164977347 : Int64)) (27 : Int32))) ^^^ (lsr (((q1 ^^^ (lsr q1 (31 : Int32))) ^^^ (lsr q1 (62 : Int32))) * (3573116690164977347 : Int64)) (54 : Int32))) * (-7575587736534282103 : Int64))), .second] [(.long (lsr ((((((q1 ^^^ (lsr q1 (31 : Int32))) ^^^ (lsr q1 (62 : Int32))) * (3573116690164977347 : Int64)) ^^^ (lsr (((q1 ^^^ (lsr q1 (31 : Int32))) ^^^ (lsr q1 (62 : Int32))) * (3573116690164977347 : Int64)) (27 : Int32))) ^^^ (lsr (((q1 ^^^ (lsr q1 (31 : Int32))) ^^^ (lsr q1 (62 : Int32))) * (3573116690164977347 : Int64)) (54 : Int32))) * (-7575587736534282103 : Int64)) (30 : Int32))), (.long ((((((q1 ^^^ (lsr q1 (31 : Int32))) ^^^ (lsr q1 (62 : Int32))) * (3573116690164977347 : Int64)) ^^^ (lsr (((q1 ^^^ (lsr q1 (31 : Int32))) ^^^ (lsr q1 (62 : Int32))) * (3573116690164977347 : Int64)) (27 : Int32))) ^^^ (lsr (((q1 ^^^ (lsr q1 (31 : Int32))) ^^^ (lsr q1 (62 : Int32))) * (3573116690164977347 : Int64)) (54 : Int32))) * (-7575587736534282103 : Int64)))]))
  refine Till.pre (fun _ hr => XS.lxor X0.here hx rfl (hb hby d3_37) rfl hr) ?_
  show Till p e below s (Q3 Z q1 h0 n0) room3.cells room3.slots (s₁.setTop (mkF m 38 #[.val (.long ((((((q1 ^^^ (lsr q1 (31 : Int32))) ^^^ (lsr q1 (62 : Int32))) * (3573116690164977347 : Int64)) ^^^ (lsr (((q1 ^^^ (lsr q1 (31 : Int32))) ^^^ (lsr q1 (62 : Int32))) * (3573116690164977347 : Int64)) (27 : Int32))) ^^^ (lsr (((q1 ^^^ (lsr q1 (31 : Int32))) ^^^ (lsr q1 (62 : Int32))) * (3573116690164977347 : Int64)) (54 : Int32))) * (-7575587736534282103 : Int64))), .second] [(.long (((((((q1 ^^^ (lsr q1 (31 : Int32))) ^^^ (lsr q1 (62 : Int32))) * (3573116690164977347 : Int64)) ^^^ (lsr (((q1 ^^^ (lsr q1 (31 : Int32))) ^^^ (lsr q1 (62 : Int32))) * (3573116690164977347 : Int64)) (27 : Int32))) ^^^ (lsr (((q1 ^^^ (lsr q1 (31 : Int32))) ^^^ (lsr q1 (62 : Int32))) * (3573116690164977347 : Int64)) (54 : Int32))) * (-7575587736534282103 : Int64)) ^^^ (lsr ((((((q1 ^^^ (lsr q1 (31 : Int32))) ^^^ (lsr q1 (62 : Int32))) * (3573116690164977347 : Int64)) ^^^ (lsr (((q1 ^^^ (lsr q1 (31 : Int32))) ^^^ (lsr q1 (62 : Int32))) * (3573116690164977347 : Int64)) (27 : Int32))) ^^^ (lsr (((q1 ^^^ (lsr q1 (31 : Int32))) ^^^ (lsr q1 (62 : Int32))) * (3573116690164977347 : Int64)) (54 : Int32))) * (-7575587736534282103 : Int64)) (30 : Int32))))]))
  refine Till.pre (fun _ hr => XS.lloadN X0.here hx rfl (hb hby d3_38) rfl hr) ?_
  show Till p e below s (Q3 Z q1 h0 n0) room3.cells room3.slots (s₁.setTop (mkF m 39 #[.val (.long ((((((q1 ^^^ (lsr q1 (31 : Int32))) ^^^ (lsr q1 (62 : Int32))) * (3573116690164977347 : Int64)) ^^^ (lsr (((q1 ^^^ (lsr q1 (31 : Int32))) ^^^ (lsr q1 (62 : Int32))) * (3573116690164977347 : Int64)) (27 : Int32))) ^^^ (lsr (((q1 ^^^ (lsr q1 (31 : Int32))) ^^^ (lsr q1 (62 : Int32))) * (3573116690164977347 : Int64)) (54 : Int32))) * (-7575587736534282103 : Int64))), .second] [(.long ((((((q1 ^^^ (lsr q1 (31 : Int32))) ^^^ (lsr q1 (62 : Int32))) * (3573116690164977347 : Int64)) ^^^ (lsr (((q1 ^^^ (lsr q1 (31 : Int32))) ^^^ (lsr q1 (62 : Int32))) * (3573116690164977347 : Int64)) (27 : Int32))) ^^^ (lsr (((q1 ^^^ (lsr q1 (31 : Int32))) ^^^ (lsr q1 (62 : Int32))) * (3573116690164977347 : Int64)) (54 : Int32))) * (-7575587736534282103 : Int64))), (.long (((((((q1 ^^^ (lsr q1 (31 : Int32))) ^^^ (lsr q1 (62 : Int32))) * (3573116690164977347 : Int64)) ^^^ (lsr (((q1 ^^^ (lsr q1 (31 : Int32))) ^^^ (lsr q1 (62 : Int32))) * (3573116690164977347 : Int64)) (27 : Int32))) ^^^ (lsr (((q1 ^^^ (lsr q1 (31 : Int32))) ^^^ (lsr q1 (62 : Int32))) * (3573116690164977347 : Int64)) (54 : Int32))) * (-7575587736534282103 : Int64)) ^^^ (lsr ((((((q1 ^^^ (lsr q1 (31 : Int32))) ^^^ (lsr q1 (62 : Int32))) * (3573116690164977347 : Int64)) ^^^ (lsr (((q1 ^^^ (lsr q1 (31 : Int32))) ^^^ (lsr q1 (62 : Int32))) * (3573116690164977347 : Int64)) (27 : Int32))) ^^^ (lsr (((q1 ^^^ (lsr q1 (31 : Int32))) ^^^ (lsr q1 (62 : Int32))) * (3573116690164977347 : Int64)) (54 : Int32))) * (-7575587736534282103 : Int64)) (30 : Int32))))]))
  refine Till.pre (fun _ hr => XS.bipush X0.here hx rfl (hb hby d3_39) hr) ?_
  show Till p e below s (Q3 Z q1 h0 n0) room3.cells room3.slots (s₁.setTop (mkF m 41 #[.val (.long ((((((q1 ^^^ (lsr q1 (31 : Int32))) ^^^ (lsr q1 (62 : Int32))) * (3573116690164977347 : Int64)) ^^^ (lsr (((q1 ^^^ (lsr q1 (31 : Int32))) ^^^ (lsr q1 (62 : Int32))) * (3573116690164977347 : Int64)) (27 : Int32))) ^^^ (lsr (((q1 ^^^ (lsr q1 (31 : Int32))) ^^^ (lsr q1 (62 : Int32))) * (3573116690164977347 : Int64)) (54 : Int32))) * (-7575587736534282103 : Int64))), .second] [(.int (60 : Int32)), (.long ((((((q1 ^^^ (lsr q1 (31 : Int32))) ^^^ (lsr q1 (62 : Int32))) * (3573116690164977347 : Int64)) ^^^ (lsr (((q1 ^^^ (lsr q1 (31 : Int32))) ^^^ (lsr q1 (62 : Int32))) * (3573116690164977347 : Int64)) (27 : Int32))) ^^^ (lsr (((q1 ^^^ (lsr q1 (31 : Int32))) ^^^ (lsr q1 (62 : Int32))) * (3573116690164977347 : Int64)) (54 : Int32))) * (-7575587736534282103 : Int64))), (.long (((((((q1 ^^^ (lsr q1 (31 : Int32))) ^^^ (lsr q1 (62 : Int32))) * (3573116690164977347 : Int64)) ^^^ (lsr (((q1 ^^^ (lsr q1 (31 : Int32))) ^^^ (lsr q1 (62 : Int32))) * (3573116690164977347 : Int64)) (27 : Int32))) ^^^ (lsr (((q1 ^^^ (lsr q1 (31 : Int32))) ^^^ (lsr q1 (62 : Int32))) * (3573116690164977347 : Int64)) (54 : Int32))) * (-7575587736534282103 : Int64)) ^^^ (lsr ((((((q1 ^^^ (lsr q1 (31 : Int32))) ^^^ (lsr q1 (62 : Int32))) * (3573116690164977347 : Int64)) ^^^ (lsr (((q1 ^^^ (lsr q1 (31 : Int32))) ^^^ (lsr q1 (62 : Int32))) * (3573116690164977347 : Int64)) (27 : Int32))) ^^^ (lsr (((q1 ^^^ (lsr q1 (31 : Int32))) ^^^ (lsr q1 (62 : Int32))) * (3573116690164977347 : Int64)) (54 : Int32))) * (-7575587736534282103 : Int64)) (30 : Int32))))]))
  refine Till.pre (fun _ hr => XS.lushr X0.here hx rfl (hb hby d3_41) rfl hr) ?_
  show Till p e below s (Q3 Z q1 h0 n0) room3.cells room3.slots (s₁.setTop (mkF m 42 #[.val (.long ((((((q1 ^^^ (lsr q1 (31 : Int32))) ^^^ (lsr q1 (62 : Int32))) * (3573116690164977347 : Int64)) ^^^ (lsr (((q1 ^^^ (lsr q1 (31 : Int32))) ^^^ (lsr q1 (62 : Int32))) * (3573116690164977347 : Int64)) (27 : Int32))) ^^^ (lsr (((q1 ^^^ (lsr q1 (31 : Int32))) ^^^ (lsr q1 (62 : Int32))) * (3573116690164977347 : Int64)) (54 : Int32))) * (-7575587736534282103 : Int64))), .second] [(.long (lsr ((((((q1 ^^^ (lsr q1 (31 : Int32))) ^^^ (lsr q1 (62 : Int32))) * (3573116690164977347 : Int64)) ^^^ (lsr (((q1 ^^^ (lsr q1 (31 : Int32))) ^^^ (lsr q1 (62 : Int32))) * (3573116690164977347 : Int64)) (27 : Int32))) ^^^ (lsr (((q1 ^^^ (lsr q1 (31 : Int32))) ^^^ (lsr q1 (62 : Int32))) * (3573116690164977347 : Int64)) (54 : Int32))) * (-7575587736534282103 : Int64)) (60 : Int32))), (.long (((((((q1 ^^^ (lsr q1 (31 : Int32))) ^^^ (lsr q1 (62 : Int32))) * (3573116690164977347 : Int64)) ^^^ (lsr (((q1 ^^^ (lsr q1 (31 : Int32))) ^^^ (lsr q1 (62 : Int32))) * (3573116690164977347 : Int64)) (27 : Int32))) ^^^ (lsr (((q1 ^^^ (lsr q1 (31 : Int32))) ^^^ (lsr q1 (62 : Int32))) * (3573116690164977347 : Int64)) (54 : Int32))) * (-7575587736534282103 : Int64)) ^^^ (lsr ((((((q1 ^^^ (lsr q1 (31 : Int32))) ^^^ (lsr q1 (62 : Int32))) * (3573116690164977347 : Int64)) ^^^ (lsr (((q1 ^^^ (lsr q1 (31 : Int32))) ^^^ (lsr q1 (62 : Int32))) * (3573116690164977347 : Int64)) (27 : Int32))) ^^^ (lsr (((q1 ^^^ (lsr q1 (31 : Int32))) ^^^ (lsr q1 (62 : Int32))) * (3573116690164977347 : Int64)) (54 : Int32))) * (-7575587736534282103 : Int64)) (30 : Int32))))]))
  refine Till.pre (fun _ hr => XS.lxor X0.here hx rfl (hb hby d3_42) rfl hr) ?_
  show Till p e below s (Q3 Z q1 h0 n0) room3.cells room3.slots (s₁.setTop (mkF m 43 #[.val (.long ((((((q1 ^^^ (lsr q1 (31 : Int32))) ^^^ (lsr q1 (62 : Int32))) * (3573116690164977347 : Int64)) ^^^ (lsr (((q1 ^^^ (lsr q1 (31 : Int32))) ^^^ (lsr q1 (62 : Int32))) * (3573116690164977347 : Int64)) (27 : Int32))) ^^^ (lsr (((q1 ^^^ (lsr q1 (31 : Int32))) ^^^ (lsr q1 (62 : Int32))) * (3573116690164977347 : Int64)) (54 : Int32))) * (-7575587736534282103 : Int64))), .second] [(.long ((((((((q1 ^^^ (lsr q1 (31 : Int32))) ^^^ (lsr q1 (62 : Int32))) * (3573116690164977347 : Int64)) ^^^ (lsr (((q1 ^^^ (lsr q1 (31 : Int32))) ^^^ (lsr q1 (62 : Int32))) * (3573116690164977347 : Int64)) (27 : Int32))) ^^^ (lsr (((q1 ^^^ (lsr q1 (31 : Int32))) ^^^ (lsr q1 (62 : Int32))) * (3573116690164977347 : Int64)) (54 : Int32))) * (-7575587736534282103 : Int64)) ^^^ (lsr ((((((q1 ^^^ (lsr q1 (31 : Int32))) ^^^ (lsr q1 (62 : Int32))) * (3573116690164977347 : Int64)) ^^^ (lsr (((q1 ^^^ (lsr q1 (31 : Int32))) ^^^ (lsr q1 (62 : Int32))) * (3573116690164977347 : Int64)) (27 : Int32))) ^^^ (lsr (((q1 ^^^ (lsr q1 (31 : Int32))) ^^^ (lsr q1 (62 : Int32))) * (3573116690164977347 : Int64)) (54 : Int32))) * (-7575587736534282103 : Int64)) (30 : Int32))) ^^^ (lsr ((((((q1 ^^^ (lsr q1 (31 : Int32))) ^^^ (lsr q1 (62 : Int32))) * (3573116690164977347 : Int64)) ^^^ (lsr (((q1 ^^^ (lsr q1 (31 : Int32))) ^^^ (lsr q1 (62 : Int32))) * (3573116690164977347 : Int64)) (27 : Int32))) ^^^ (lsr (((q1 ^^^ (lsr q1 (31 : Int32))) ^^^ (lsr q1 (62 : Int32))) * (3573116690164977347 : Int64)) (54 : Int32))) * (-7575587736534282103 : Int64)) (60 : Int32))))]))
  refine Till.retJ X0 hx hret hlk (hb hby d3_43) (by decide) (by decide) ?_
  exact ⟨rfl, N0, e0⟩
theorem own_lsr (y : Int64) (k : Int32) (n : Nat) (h : ((k &&& 0x3f).toInt64.toUInt64.toBitVec % 64).toNat = n) : (lsr y k).toBitVec = y.toBitVec >>> n := by
  subst h
  show (y.toUInt64 >>> (k &&& 0x3f).toInt64.toUInt64).toBitVec = _
  rw [UInt64.toBitVec_shiftRight]; rfl
theorem own_xb (b : BitVec 64) (n : Nat) (h : 64 ≤ n + (n + n)) : ((b ^^^ b >>> n) ^^^ (b ^^^ b >>> n) >>> n) ^^^ (b ^^^ b >>> n) >>> (n + n) = b := by
  rw [BitVec.ushiftRight_xor_distrib, BitVec.ushiftRight_xor_distrib, ← BitVec.shiftRight_add, ← BitVec.shiftRight_add, BitVec.ushiftRight_eq_zero h, BitVec.xor_zero]
  generalize b >>> n = c
  generalize b >>> (n + n) = d
  rw [BitVec.xor_assoc, BitVec.xor_assoc, BitVec.xor_assoc, BitVec.xor_self, BitVec.xor_zero, BitVec.xor_self, BitVec.xor_zero]
theorem own_xs (x : Int64) (k k2 : Int32) (n : Nat) (h1 : ((k &&& 0x3f).toInt64.toUInt64.toBitVec % 64).toNat = n) (h2 : ((k2 &&& 0x3f).toInt64.toUInt64.toBitVec % 64).toNat = n + n) (h : 64 ≤ n + (n + n)) : ((x ^^^ lsr x k) ^^^ lsr (x ^^^ lsr x k) k) ^^^ lsr (x ^^^ lsr x k) k2 = x := by
  apply Int64.toBitVec_inj.mp
  rw [Int64.toBitVec_xor, Int64.toBitVec_xor, own_lsr _ k n h1, own_lsr _ k2 (n + n) h2, Int64.toBitVec_xor, own_lsr _ k n h1]
  exact own_xb _ _ h
theorem own_mul (x c d : Int64) (h : c * d = 1) : (x * c) * d = x := by rw [Int64.mul_assoc, h, Int64.mul_one]
theorem own_un (w : Int64) : fn3 (fn2 w) = w + (-7046029254386353131 : Int64) := by
  unfold fn2 fn3
  generalize w + (-7046029254386353131 : Int64) = g
  generalize h1 : (g ^^^ lsr g (30 : Int32)) * (-4658895280553007687 : Int64) = z1
  generalize h2 : (z1 ^^^ lsr z1 (27 : Int32)) * (-7723592293110705685 : Int64) = z2
  rw [own_xs z2 31 62 31 (by decide) (by decide) (by decide), ← h2, own_mul _ _ _ (by decide), own_xs z1 27 54 27 (by decide) (by decide) (by decide), ← h1, own_mul _ _ _ (by decide), own_xs g 30 60 30 (by decide) (by decide) (by decide)]
theorem own_un2 (w : Int64) : fn3 (fn2 (w + (-7046029254386353131 : Int64))) = w + (4354685564936845354 : Int64) := by
  rw [own_un, Int64.add_assoc]; rfl
theorem pd0_0 : parseMethodDescriptor "()J" = some ⟨[], some .long⟩ := by decide +kernel
theorem pd0_2 : parseMethodDescriptor "(J)J" = some ⟨[.long], some .long⟩ := by decide +kernel
theorem pd0_3 : parseMethodDescriptor "(J)V" = some ⟨[.long], none⟩ := by decide +kernel
theorem ef_0 (m : MethodId) (q1 : Int64) : entryFrame m #[(.long q1)] maxLocals = mkF m 0 #[.val (.long q1), .second, .unset, .unset, .unset, .unset, .unset] [] := by first | (simp [entryFrame, mkF, argsToLocals, Value.category, maxLocals]; done) | rfl
def Q0 (Z : State) (q1 : Int64) (h0 : Heap) (n0 : Nat) : Option Value → Heap → List Loc → Prop := fun v h L => v = some (.int 1) ∧ Fr n0 L
set_option maxRecDepth 65536 in
set_option maxHeartbeats 40000000 in
theorem rm0 (l : Launch) (Z : State) (a0 : Array Value) (hw : ∀ d ∈ tables_1, d.before a0 Z = true) (q1 : Int64) (h0 : Heap) (n0 : Nat) (Zs : n0 ≤ h0.size) : Ctr l Z x code maxLocals ret room_1 #[(.long q1)] h0 (Q0 Z q1 h0 n0) := by
  refine Ctr.of (plainFor_of_name pn_3) ?_
  intro p e s m below meth c s₁ hx hby hml hown hnm hret hlk hZ e0 X0
  have hown : s.vm.findClass "com/example/bondroll/bondroll/util/LotNextPinLaw" = some m.cls := hown
  have hml : c.maxLocals = 7 := hml
  have hnm : meth.name = "law" := hnm
  have hret : meth.sig.returnType = (some .boolean) := hret
  have N0 := Fr.nil n0
  refine Till.cast (ef_0 m q1) ?_
  show Till p e below s (Q0 Z q1 h0 n0) room_1.cells room_1.slots (s₁.setTop (mkF m 0 #[.val (.long q1), .second, .unset, .unset, .unset, .unset, .unset] []))
  refine Till.newO X0 hx hZ hown (hw _ (List.mem_of_getElem? (i := 0) rfl)) (hw _ (List.mem_of_getElem? (i := 1) rfl)) (hw _ (List.mem_of_getElem? (i := 2) rfl)) e0 (hb hby at_0) (by decide) (by decide) (fun T1 h2 b3 g4 X5 e6 E7 A8 D9 => ?_)
  have g_b3 : n0 ≤ b3 := Nat.le_trans Zs (Nat.le_of_eq g4.symm)
  have Zs := Nat.le_trans Zs E7.1
  have R_b3 : Lot Z h2 b3 (0 : Int64) := ⟨A8, D9 (Or.inl (hw _ (List.mem_of_getElem? (i := 10) rfl))) (ty := .long) (by decide)⟩
  show Till p e below s (Q0 Z q1 h0 n0) room_1.cells room_1.slots (T1.setTop (mkF m 3 #[.val (.long q1), .second, .unset, .unset, .unset, .unset, .unset] [(.ref b3)]))
  refine Till.pre (fun _ hr => XS.dup X5.here hx rfl (hb hby at_3) rfl rfl hr) ?_
  show Till p e below s (Q0 Z q1 h0 n0) room_1.cells room_1.slots (T1.setTop (mkF m 4 #[.val (.long q1), .second, .unset, .unset, .unset, .unset, .unset] [(.ref b3), (.ref b3)]))
  refine Till.pre (fun _ hr => XS.lloadN X5.here hx rfl (hb hby at_4) rfl hr) ?_
  show Till p e below s (Q0 Z q1 h0 n0) room_1.cells room_1.slots (T1.setTop (mkF m 5 #[.val (.long q1), .second, .unset, .unset, .unset, .unset, .unset] [(.long q1), (.ref b3), (.ref b3)]))
  refine Till.callC (rm1 l Z a0 hw b3 q1 (0 : Int64) h2 n0 Zs R_b3 g_b3) X5 hx hZ hown rfl (hw _ (List.mem_of_getElem? (i := 3) rfl)) (hw _ (List.mem_of_getElem? (i := 4) rfl)) (hw _ (List.mem_of_getElem? (i := 2) rfl)) (hw _ (List.mem_of_getElem? (i := 5) rfl)) (by decide) (by decide) (W := 1) (by decide) (by rw [hml]; rfl) (a := b3) (argsL := [(.long q1)]) (rest := [(.ref b3)]) (lenOf pd0_3 rfl) rfl rfl (Nat.le_of_eq rfl) (hb hby at_5) e6 (by decide) (by decide) ?_
  rintro _ T10 L11 X12 ⟨rfl, N13, K14, q15⟩
  have N13 := Fr.app N0 N13
  have Zs := Nat.le_trans Zs K14.1
  have R_b3 : Lot Z T10.heap b3 q1 := q15
  show Till p e below s (Q0 Z q1 h0 n0) room_1.cells room_1.slots (T10.setTop (mkF m 8 #[.val (.long q1), .second, .unset, .unset, .unset, .unset, .unset] [(.ref b3)]))
  refine Till.pre (fun _ hr => XS.astoreN X12.here hx rfl (hb hby at_8) rfl rfl (l' := #[.val (.long q1), .second, .val (.ref b3), .unset, .unset, .unset, .unset]) rfl hr) ?_
  show Till p e below s (Q0 Z q1 h0 n0) room_1.cells room_1.slots (T10.setTop (mkF m 9 #[.val (.long q1), .second, .val (.ref b3), .unset, .unset, .unset, .unset] []))
  refine Till.pre (fun _ hr => XS.aloadN X12.here hx rfl (hb hby at_9) rfl rfl hr) ?_
  show Till p e below s (Q0 Z q1 h0 n0) room_1.cells room_1.slots (T10.setTop (mkF m 10 #[.val (.long q1), .second, .val (.ref b3), .unset, .unset, .unset, .unset] [(.ref b3)]))
  refine Till.callV (rm2 l Z a0 hw b3 q1 T10.heap n0 Zs R_b3 g_b3) R_b3.1 X12 hx hZ hown (hw _ (List.mem_of_getElem? (i := 11) rfl)) (hw _ (List.mem_of_getElem? (i := 12) rfl)) (hw _ (List.mem_of_getElem? (i := 14) rfl)) (hw _ (List.mem_of_getElem? (i := 13) rfl)) (hw _ (List.mem_of_getElem? (i := 2) rfl)) (hw _ (List.mem_of_getElem? (i := 15) rfl)) (by decide) (by decide) (W := 0) (by decide) (by rw [hml]; rfl) (a := b3) (argsL := []) (rest := []) (lenOf pd0_0 rfl) rfl rfl (Nat.le_of_eq rfl) (hb hby at_10) rfl (by decide) (by decide) ?_
  rintro _ T16 L17 X18 ⟨rfl, N19, K20, q21⟩
  have N19 := Fr.app N13 N19
  have Zs := Nat.le_trans Zs K20.1
  have R_b3 : Lot Z T16.heap b3 (q1 + (-7046029254386353131 : Int64)) := q21
  show Till p e below s (Q0 Z q1 h0 n0) room_1.cells room_1.slots (T16.setTop (mkF m 13 #[.val (.long q1), .second, .val (.ref b3), .unset, .unset, .unset, .unset] [(.long (fn2 q1))]))
  refine Till.pre (fun _ hr => XS.lstoreN X18.here hx rfl (hb hby at_13) rfl (l' := #[.val (.long q1), .second, .val (.ref b3), .val (.long (fn2 q1)), .second, .unset, .unset]) rfl hr) ?_
  show Till p e below s (Q0 Z q1 h0 n0) room_1.cells room_1.slots (T16.setTop (mkF m 14 #[.val (.long q1), .second, .val (.ref b3), .val (.long (fn2 q1)), .second, .unset, .unset] []))
  refine Till.pre (fun _ hr => XS.aloadN X18.here hx rfl (hb hby at_14) rfl rfl hr) ?_
  show Till p e below s (Q0 Z q1 h0 n0) room_1.cells room_1.slots (T16.setTop (mkF m 15 #[.val (.long q1), .second, .val (.ref b3), .val (.long (fn2 q1)), .second, .unset, .unset] [(.ref b3)]))
  refine Till.callV (rm2 l Z a0 hw b3 (q1 + (-7046029254386353131 : Int64)) T16.heap n0 Zs R_b3 g_b3) R_b3.1 X18 hx hZ hown (hw _ (List.mem_of_getElem? (i := 11) rfl)) (hw _ (List.mem_of_getElem? (i := 12) rfl)) (hw _ (List.mem_of_getElem? (i := 14) rfl)) (hw _ (List.mem_of_getElem? (i := 13) rfl)) (hw _ (List.mem_of_getElem? (i := 2) rfl)) (hw _ (List.mem_of_getElem? (i := 15) rfl)) (by decide) (by decide) (W := 0) (by decide) (by rw [hml]; rfl) (a := b3) (argsL := []) (rest := []) (lenOf pd0_0 rfl) rfl rfl (Nat.le_of_eq rfl) (hb hby at_15) rfl (by decide) (by decide) ?_
  rintro _ T22 L23 X24 ⟨rfl, N25, K26, q27⟩
  have N25 := Fr.app N19 N25
  have Zs := Nat.le_trans Zs K26.1
  have R_b3 : Lot Z T22.heap b3 ((q1 + (-7046029254386353131 : Int64)) + (-7046029254386353131 : Int64)) := q27
  show Till p e below s (Q0 Z q1 h0 n0) room_1.cells room_1.slots (T22.setTop (mkF m 18 #[.val (.long q1), .second, .val (.ref b3), .val (.long (fn2 q1)), .second, .unset, .unset] [(.long (fn2 (q1 + (-7046029254386353131 : Int64))))]))
  refine Till.pre (fun _ hr => XS.lstore X24.here hx rfl (hb hby at_18) rfl (l' := #[.val (.long q1), .second, .val (.ref b3), .val (.long (fn2 q1)), .second, .val (.long (fn2 (q1 + (-7046029254386353131 : Int64)))), .second]) rfl hr) ?_
  show Till p e below s (Q0 Z q1 h0 n0) room_1.cells room_1.slots (T22.setTop (mkF m 20 #[.val (.long q1), .second, .val (.ref b3), .val (.long (fn2 q1)), .second, .val (.long (fn2 (q1 + (-7046029254386353131 : Int64)))), .second] []))
  refine Till.pre (fun _ hr => XS.lloadN X24.here hx rfl (hb hby at_20) rfl hr) ?_
  show Till p e below s (Q0 Z q1 h0 n0) room_1.cells room_1.slots (T22.setTop (mkF m 21 #[.val (.long q1), .second, .val (.ref b3), .val (.long (fn2 q1)), .second, .val (.long (fn2 (q1 + (-7046029254386353131 : Int64)))), .second] [(.long (fn2 q1))]))
  refine Till.callS (rm3 l Z a0 hw (fn2 q1) T22.heap n0) X24 hx hZ hown (hw _ (List.mem_of_getElem? (i := 19) rfl)) (hw _ (List.mem_of_getElem? (i := 20) rfl)) (hw _ (List.mem_of_getElem? (i := 21) rfl)) (hw _ (List.mem_of_getElem? (i := 22) rfl)) (by decide) (by decide) (W := 0) (by decide) (by rw [hml]; rfl) (argsL := [(.long (fn2 q1))]) (rest := []) (lenOf pd0_2 rfl) rfl rfl (Nat.le_of_eq rfl) (hb hby at_21) rfl (by decide) (by decide) ?_
  rintro _ T28 L29 X30 ⟨rfl, N31, e32⟩
  have N31 := Fr.app N25 N31
  show Till p e below s (Q0 Z q1 h0 n0) room_1.cells room_1.slots (T28.setTop (mkF m 24 #[.val (.long q1), .second, .val (.ref b3), .val (.long (fn2 q1)), .second, .val (.long (fn2 (q1 + (-7046029254386353131 : Int64)))), .second] [(.long (fn3 (fn2 q1)))]))
  refine Till.pre (fun _ hr => XS.lloadN X30.here hx rfl (hb hby at_24) rfl hr) ?_
  show Till p e below s (Q0 Z q1 h0 n0) room_1.cells room_1.slots (T28.setTop (mkF m 25 #[.val (.long q1), .second, .val (.ref b3), .val (.long (fn2 q1)), .second, .val (.long (fn2 (q1 + (-7046029254386353131 : Int64)))), .second] [(.long q1), (.long (fn3 (fn2 q1)))]))
  refine Till.pre (X30.ldc2Long hx hown (mvT hZ (hw _ (List.mem_of_getElem? (i := 25) rfl))) (g := (mkF m 25 #[.val (.long q1), .second, .val (.ref b3), .val (.long (fn2 q1)), .second, .val (.long (fn2 (q1 + (-7046029254386353131 : Int64)))), .second] [(.long q1), (.long (fn3 (fn2 q1)))])) rfl (hb hby at_25)) ?_
  show Till p e below s (Q0 Z q1 h0 n0) room_1.cells room_1.slots (T28.setTop (mkF m 28 #[.val (.long q1), .second, .val (.ref b3), .val (.long (fn2 q1)), .second, .val (.long (fn2 (q1 + (-7046029254386353131 : Int64)))), .second] [(.long (-7046029254386353131 : Int64)), (.long q1), (.long (fn3 (fn2 q1)))]))
  refine Till.pre (fun _ hr => XS.ladd X30.here hx rfl (hb hby at_28) rfl hr) ?_
  show Till p e below s (Q0 Z q1 h0 n0) room_1.cells room_1.slots (T28.setTop (mkF m 29 #[.val (.long q1), .second, .val (.ref b3), .val (.long (fn2 q1)), .second, .val (.long (fn2 (q1 + (-7046029254386353131 : Int64)))), .second] [(.long (q1 + (-7046029254386353131 : Int64))), (.long (fn3 (fn2 q1)))]))
  refine Till.pre (fun _ hr => XS.lcmp X30.here hx rfl (hb hby at_29) rfl hr) ?_
  show Till p e below s (Q0 Z q1 h0 n0) room_1.cells room_1.slots (T28.setTop (mkF m 30 #[.val (.long q1), .second, .val (.ref b3), .val (.long (fn2 q1)), .second, .val (.long (fn2 (q1 + (-7046029254386353131 : Int64)))), .second] [(.int (lcmpW (fn3 (fn2 q1)) (q1 + (-7046029254386353131 : Int64))))]))
  have J52_44 : ∀ (T40 : State) (L41 : List Loc) (X42 : Stand p l e room_1 s m #[(.long q1)] below meth c T40 L41 1 1) (N43 : Fr n0 L41) (e44 : T40.heap = T22.heap) (v52s0 : Int32) (hv52s0 : v52s0 = (if ((fn3 (fn2 q1)) = (q1 + (-7046029254386353131 : Int64))) then (if ((fn3 (fn2 (q1 + (-7046029254386353131 : Int64)))) = (q1 + (4354685564936845354 : Int64))) then (1 : Int32) else (0 : Int32)) else (0 : Int32))), Till p e below s (Q0 Z q1 h0 n0) room_1.cells room_1.slots (T40.setTop (mkF m 52 #[.val (.long q1), .second, .val (.ref b3), .val (.long (fn2 q1)), .second, .val (.long (fn2 (q1 + (-7046029254386353131 : Int64)))), .second] [(.int v52s0)])) := by
    intro T40 L41 X42 N43 e44 v52s0 hv52s0
    show Till p e below s (Q0 Z q1 h0 n0) room_1.cells room_1.slots (T40.setTop (mkF m 52 #[.val (.long q1), .second, .val (.ref b3), .val (.long (fn2 q1)), .second, .val (.long (fn2 (q1 + (-7046029254386353131 : Int64)))), .second] [(.int v52s0)]))
    refine Till.retZ (w := (1 : Int32)) X42 hx hret hlk (hb hby at_52) (by decide) (by decide) (by rw [hv52s0, if_pos (own_un q1), if_pos (own_un2 q1)]; decide) ?_
    exact ⟨rfl, N43⟩
  refine Till.ifc (pc' := 51) X30.here hx (hb hby at_30) (by decide) (by decide) (fun q => ?_) (fun q => ?_)
  · have hc33 := (mt lEq.mpr (hEq.2.2.1 q))
    show Till p e below s (Q0 Z q1 h0 n0) room_1.cells room_1.slots (T28.setTop (mkF m 51 #[.val (.long q1), .second, .val (.ref b3), .val (.long (fn2 q1)), .second, .val (.long (fn2 (q1 + (-7046029254386353131 : Int64)))), .second] []))
    refine Till.pre (fun _ hr => XS.iconst X30.here hx rfl (hb hby at_51) hr) ?_
    show Till p e below s (Q0 Z q1 h0 n0) room_1.cells room_1.slots (T28.setTop (mkF m 52 #[.val (.long q1), .second, .val (.ref b3), .val (.long (fn2 q1)), .second, .val (.long (fn2 (q1 + (-7046029254386353131 : Int64)))), .second] [(.int (0 : Int32))]))
    exact J52_44 _ _ X30 N31 e32 _ (Eq.symm (if_neg hc33))
  · have hc33 := (lEq.mp (hEq.2.2.2 q))
    show Till p e below s (Q0 Z q1 h0 n0) room_1.cells room_1.slots (T28.setTop (mkF m 33 #[.val (.long q1), .second, .val (.ref b3), .val (.long (fn2 q1)), .second, .val (.long (fn2 (q1 + (-7046029254386353131 : Int64)))), .second] []))
    refine Till.pre (fun _ hr => XS.lload X30.here hx rfl (hb hby at_33) rfl hr) ?_
    show Till p e below s (Q0 Z q1 h0 n0) room_1.cells room_1.slots (T28.setTop (mkF m 35 #[.val (.long q1), .second, .val (.ref b3), .val (.long (fn2 q1)), .second, .val (.long (fn2 (q1 + (-7046029254386353131 : Int64)))), .second] [(.long (fn2 (q1 + (-7046029254386353131 : Int64))))]))
    refine Till.callS (rm3 l Z a0 hw (fn2 (q1 + (-7046029254386353131 : Int64))) T22.heap n0) X30 hx hZ hown (hw _ (List.mem_of_getElem? (i := 19) rfl)) (hw _ (List.mem_of_getElem? (i := 20) rfl)) (hw _ (List.mem_of_getElem? (i := 21) rfl)) (hw _ (List.mem_of_getElem? (i := 22) rfl)) (by decide) (by decide) (W := 0) (by decide) (by rw [hml]; rfl) (argsL := [(.long (fn2 (q1 + (-7046029254386353131 : Int64))))]) (rest := []) (lenOf pd0_2 rfl) rfl rfl (Nat.le_of_eq rfl) (hb hby at_35) e32 (by decide) (by decide) ?_
    rintro _ T34 L35 X36 ⟨rfl, N37, e38⟩
    have N37 := Fr.app N31 N37
    show Till p e below s (Q0 Z q1 h0 n0) room_1.cells room_1.slots (T34.setTop (mkF m 38 #[.val (.long q1), .second, .val (.ref b3), .val (.long (fn2 q1)), .second, .val (.long (fn2 (q1 + (-7046029254386353131 : Int64)))), .second] [(.long (fn3 (fn2 (q1 + (-7046029254386353131 : Int64)))))]))
    refine Till.pre (fun _ hr => XS.lloadN X36.here hx rfl (hb hby at_38) rfl hr) ?_
    show Till p e below s (Q0 Z q1 h0 n0) room_1.cells room_1.slots (T34.setTop (mkF m 39 #[.val (.long q1), .second, .val (.ref b3), .val (.long (fn2 q1)), .second, .val (.long (fn2 (q1 + (-7046029254386353131 : Int64)))), .second] [(.long q1), (.long (fn3 (fn2 (q1 + (-7046029254386353131 : Int64)))))]))
    refine Till.pre (X36.ldc2Long hx hown (mvT hZ (hw _ (List.mem_of_getElem? (i := 26) rfl))) (g := (mkF m 39 #[.val (.long q1), .second, .val (.ref b3), .val (.long (fn2 q1)), .second, .val (.long (fn2 (q1 + (-7046029254386353131 : Int64)))), .second] [(.long q1), (.long (fn3 (fn2 (q1 + (-7046029254386353131 : Int64)))))])) rfl (hb hby at_39)) ?_
    show Till p e below s (Q0 Z q1 h0 n0) room_1.cells room_1.slots (T34.setTop (mkF m 42 #[.val (.long q1), .second, .val (.ref b3), .val (.long (fn2 q1)), .second, .val (.long (fn2 (q1 + (-7046029254386353131 : Int64)))), .second] [(.long (4354685564936845354 : Int64)), (.long q1), (.long (fn3 (fn2 (q1 + (-7046029254386353131 : Int64)))))]))
    refine Till.pre (fun _ hr => XS.ladd X36.here hx rfl (hb hby at_42) rfl hr) ?_
    show Till p e below s (Q0 Z q1 h0 n0) room_1.cells room_1.slots (T34.setTop (mkF m 43 #[.val (.long q1), .second, .val (.ref b3), .val (.long (fn2 q1)), .second, .val (.long (fn2 (q1 + (-7046029254386353131 : Int64)))), .second] [(.long (q1 + (4354685564936845354 : Int64))), (.long (fn3 (fn2 (q1 + (-7046029254386353131 : Int64)))))]))
    refine Till.pre (fun _ hr => XS.lcmp X36.here hx rfl (hb hby at_43) rfl hr) ?_
    show Till p e below s (Q0 Z q1 h0 n0) room_1.cells room_1.slots (T34.setTop (mkF m 44 #[.val (.long q1), .second, .val (.ref b3), .val (.long (fn2 q1)), .second, .val (.long (fn2 (q1 + (-7046029254386353131 : Int64)))), .second] [(.int (lcmpW (fn3 (fn2 (q1 + (-7046029254386353131 : Int64)))) (q1 + (4354685564936845354 : Int64))))]))
    refine Till.ifc (pc' := 51) X36.here hx (hb hby at_44) (by decide) (by decide) (fun q => ?_) (fun q => ?_)
    · have hc39 := (mt lEq.mpr (hEq.2.2.1 q))
      show Till p e below s (Q0 Z q1 h0 n0) room_1.cells room_1.slots (T34.setTop (mkF m 51 #[.val (.long q1), .second, .val (.ref b3), .val (.long (fn2 q1)), .second, .val (.long (fn2 (q1 + (-7046029254386353131 : Int64)))), .second] []))
      refine Till.pre (fun _ hr => XS.iconst X36.here hx rfl (hb hby at_51) hr) ?_
      show Till p e below s (Q0 Z q1 h0 n0) room_1.cells room_1.slots (T34.setTop (mkF m 52 #[.val (.long q1), .second, .val (.ref b3), .val (.long (fn2 q1)), .second, .val (.long (fn2 (q1 + (-7046029254386353131 : Int64)))), .second] [(.int (0 : Int32))]))
      exact J52_44 _ _ X36 N37 e38 _ (Eq.symm ((if_pos hc33).trans (if_neg hc39)))
    · have hc39 := (lEq.mp (hEq.2.2.2 q))
      show Till p e below s (Q0 Z q1 h0 n0) room_1.cells room_1.slots (T34.setTop (mkF m 47 #[.val (.long q1), .second, .val (.ref b3), .val (.long (fn2 q1)), .second, .val (.long (fn2 (q1 + (-7046029254386353131 : Int64)))), .second] []))
      refine Till.pre (fun _ hr => XS.iconst X36.here hx rfl (hb hby at_47) hr) ?_
      show Till p e below s (Q0 Z q1 h0 n0) room_1.cells room_1.slots (T34.setTop (mkF m 48 #[.val (.long q1), .second, .val (.ref b3), .val (.long (fn2 q1)), .second, .val (.long (fn2 (q1 + (-7046029254386353131 : Int64)))), .second] [(.int (1 : Int32))]))
      refine Till.pre (fun _ hr => XS.goto X36.here hx rfl (pc0 := 48) (pc' := 52) rfl (hb hby at_48) (by decide) (by decide) hr) ?_
      show Till p e below s (Q0 Z q1 h0 n0) room_1.cells room_1.slots (T34.setTop (mkF m 52 #[.val (.long q1), .second, .val (.ref b3), .val (.long (fn2 q1)), .second, .val (.long (fn2 (q1 + (-7046029254386353131 : Int64)))), .second] [(.int (1 : Int32))]))
      exact J52_44 _ _ X36 N37 e38 _ (Eq.symm ((if_pos hc33).trans (if_pos hc39)))
set_option maxRecDepth 65536 in
set_option maxHeartbeats 40000000 in
theorem comes_1 {Post : Tables → Env → Array Value → State → Outcome → State → Prop} (hpost : ∀ tb e args s v u, (limb_1_1.after args s (.returned v) u = true ∧ limb_1_2.after args s (.returned v) u = true ∧ True) → FrameEnd s (.returned v) u (Jvm.fieldLocs frame_1_writes args s ++ Jvm.arrayLocs frame_1_arrays args s ++ Jvm.staticLocs frame_1_statics s) 16 128 → Post tb e args s (.returned v) u) :
    ArmFor flags0 classFile x code maxLocals ret World_1 tables_1 room_1 Calls_1 rest_1 Pre_1 Post := by
  intro l hfl _ _ p e ha hc hk s m args below hf hA hF happ hP
  obtain ⟨hcalls, hrest, hpre⟩ := hP
  obtain ⟨-, -, -, hnamed, -, -, -, hat⟩ := (Spec.applies_iff hf).mp happ
  obtain ⟨hg, hn⟩ := and_e (Cond.before_iff.mp (show (Jvm.Cond.and given_1 narrow_1).before args s = true from hpre))
  obtain ⟨h1, hg⟩ := and_e hg
  have k0 := hg
  obtain ⟨w0, rfl⟩ : ∃ w0 : Value, args = #[w0] := by
    have hs : args.size = 1 := by simpa [Cond.value, given_1] using h1
    obtain ⟨L⟩ := args
    match L, hs with
    | [w0], _ => exact ⟨w0, rfl⟩
  have hw := fun d (hd : d ∈ tables_1) => atoms_spec (ws := Jvm.Cond.code x code maxLocals ret :: tables_1) hat d (List.mem_cons_of_mem _ hd)
  obtain ⟨i0, ei0⟩ := isL_v k0
  obtain rfl : w0 = (.long i0) := Option.some.inj ei0
  obtain ⟨n, o, h1, h2, h3, _, L, rfl, ⟨rfl, N⟩, hq⟩ := rm0 l s _ hw i0 s.heap s.heap.size (Nat.le_refl _) tables_1 p e ha hc hk s m _ below hf ((Spec.applies_iff_loose hf).mp happ).1 ⟨rfl, State.Warmed39.refl s, rfl⟩ trivial
  refine ⟨n, _, h1, h2, h3, hpost _ _ _ _ _ _ ⟨Cond.after_iff.mpr rfl, Cond.after_iff.mpr (eq_i res_at (Term.int_eval (1)) rfl), trivial⟩ ⟨hq.1, hq.2.1, (hq.2.2.sift fun y hy => Or.inr (N y hy)).mono (by decide) (by decide)⟩⟩
theorem main_1_1 : Claimed_1_1 := comes_1 fun _ _ _ _ _ _ h hF => ⟨h.1, hF⟩
theorem main_1_2 : Claimed_1_2 := comes_1 fun _ _ _ _ _ _ h hF => ⟨h.2.1, hF⟩
end Jvm.Pilot.@@N@@
namespace Jvm.Pilot.@@N@@
open Jvm Jvm.ClassFile Sem Op Lib Jvm.Free Jvm.Stand Jvm.Pilot.@@N@@.Jvm.D
/-! MADE BY PROGRAM (witnessworld.py) out of the Statement's table words and the real class files: 9 classes; the members and pool entries that the words name. The judged class is class 1, her method 2. -/
namespace start1
open Jvm.ClassFile
def u (s : String) : CpInfo := .utf8 (stringToUtf16 s)
/-- a pool by its gaps: so many unusable entries, then the entry; so many at the end -/
def gap : Nat → List CpInfo → List CpInfo
  | 0, r => r
  | n + 1, r => .unusable :: gap n r
def poolList (es : List (Nat × CpInfo)) (last : Nat) : List CpInfo := es.foldr (fun e r => gap e.1 (e.2 :: r)) (gap last [])
def pool (es : List (Nat × CpInfo)) (last : Nat) : Array CpInfo := ⟨poolList es last⟩
def fileOf (pool : Array CpInfo) (this : Nat) (attrs : Array Attribute := #[]) (ms : Array MethodInfo := #[]) (fl : Nat := 33) (sup : Nat := 0) (ifs : Array Nat := #[]) (fds : Array FieldInfo := #[]) : ClassFile where
  minorVersion := 0
  majorVersion := 65
  constantPool := pool
  accessFlags := fl
  thisClass := this
  superClass := sup
  interfaces := ifs
  fields := fds
  methods := ms
  attributes := attrs
def plain (name : String) (sup : Option ClassId) : Class where
  name := name
  kind := .ordinary
  loader := none
  accessFlags := 33
  super := sup
  interfaces := #[]
  cf := none
  fields := #[]
  methods := #[]
  instanceTypes := #[]
  staticTypes := #[]
  resolved := #[]
  callSites := []
  init := .initialized
  statics := none
  mirror := none

def pool0 : Array CpInfo := pool [(5, u "<init>"), (0, u "()V"), (1, .class_ 10), (1, u "java/lang/Object")] 113

def k0c0 : Code := { maxStack := 0, maxLocals := 1, code := object_method_1_code, exceptionTable := #[], attributes := #[] }
def k0m0 : Method := { name := "<init>", desc := "()V", sig := { parameters := [], returnType := none }, accessFlags := 1, code := some k0c0 }
/-- java/lang/Object -/
def k0 : Class := { plain "java/lang/Object" none with
  accessFlags := 33
  interfaces := #[]
  cf := some (fileOf pool0 8 #[] #[{ accessFlags := 1, nameIndex := 5, descriptorIndex := 6, attributes := #[] }] 33 0 #[] #[])
  fields := #[]
  methods := #[k0m0]
  instanceTypes := #[]
  staticTypes := #[]
  resolved := Array.replicate 124 none
  statics := none }

def pool1 : Array CpInfo := pool [(2, .class_ 4), (1, u "java/lang/Object"), (0, u "<init>"), (0, u "()V"), (0, .long 3573116690164977347), (1, .long 10871156337175269513), (1, .class_ 12), (0, u "com/example/bondroll/bondroll/util/Lot"), (0, .methodref 11 14), (0, .nameAndType 5 15), (0, u "(J)V"), (0, .methodref 11 17), (0, .nameAndType 18 19), (0, u "next"), (0, u "()J"), (0, .methodref 21 22), (0, .class_ 23), (0, .nameAndType 24 25), (0, u "com/example/bondroll/bondroll/util/LotNextPinLaw"), (0, u "unmix"), (0, u "(J)J"), (0, .long 11400714819323198485), (1, .long 4354685564936845354), (1, u "GAMMA"), (0, u "J"), (3, u "law"), (0, u "(J)Z")] 3

def k1m0 : Method := { name := "<init>", desc := "()V", sig := { parameters := [], returnType := none }, accessFlags := 1, code := none }
def k1c1 : Code := { maxStack := 5, maxLocals := 2, code := method_2_code, exceptionTable := #[], attributes := #[] }
def k1m1 : Method := { name := "unmix", desc := "(J)J", sig := { parameters := [.long], returnType := some .long }, accessFlags := 10, code := some k1c1 }
def k1c2 : Code := { maxStack := 6, maxLocals := 7, code := code, exceptionTable := #[], attributes := #[] }
def k1m2 : Method := { name := "law", desc := "(J)Z", sig := { parameters := [.long], returnType := some .boolean }, accessFlags := 9, code := some k1c2 }
/-- com/example/bondroll/bondroll/util/LotNextPinLaw -/
def k1 : Class := { plain "com/example/bondroll/bondroll/util/LotNextPinLaw" (some 0) with
  accessFlags := 49
  interfaces := #[]
  cf := some (fileOf pool1 21 #[] #[{ accessFlags := 1, nameIndex := 5, descriptorIndex := 6, attributes := #[] }, { accessFlags := 10, nameIndex := 24, descriptorIndex := 25, attributes := #[] }, { accessFlags := 9, nameIndex := 35, descriptorIndex := 36, attributes := #[] }] 49 2 #[] #[{ accessFlags := 26, nameIndex := 30, descriptorIndex := 31, attributes := #[] }])
  fields := #[{ name := "GAMMA", type := .long, accessFlags := 26, slot := 0, constantValue := 0 }]
  methods := #[k1m0, k1m1, k1m2]
  instanceTypes := #[]
  staticTypes := #[.long]
  resolved := Array.replicate 40 none
  statics := none }

def pool2 : Array CpInfo := pool [(1, .methodref 2 3), (0, .class_ 4), (0, .nameAndType 5 6), (0, u "java/lang/Object"), (0, u "<init>"), (0, u "()V"), (0, .fieldref 8 9), (0, .class_ 10), (0, .nameAndType 11 12), (0, u "com/example/bondroll/bondroll/util/Lot"), (0, u "state"), (0, u "J"), (19, .long 11400714819323198485), (1, .long 13787848793156543929), (1, .long 10723151780598845931), (3, u "next"), (0, u "()J"), (0, u "(J)V")] 24

def k2c0 : Code := { maxStack := 3, maxLocals := 3, code := prog_66_method_1_code, exceptionTable := #[], attributes := #[] }
def k2m0 : Method := { name := "<init>", desc := "(J)V", sig := { parameters := [.long], returnType := none }, accessFlags := 1, code := some k2c0 }
def k2c1 : Code := { maxStack := 5, maxLocals := 3, code := prog_66_method_3_code, exceptionTable := #[], attributes := #[] }
def k2m1 : Method := { name := "next", desc := "()J", sig := { parameters := [], returnType := some .long }, accessFlags := 0, code := some k2c1 }
/-- com/example/bondroll/bondroll/util/Lot -/
def k2 : Class := { plain "com/example/bondroll/bondroll/util/Lot" (some 0) with
  accessFlags := 49
  interfaces := #[]
  cf := some (fileOf pool2 8 #[] #[{ accessFlags := 1, nameIndex := 5, descriptorIndex := 42, attributes := #[] }, { accessFlags := 0, nameIndex := 40, descriptorIndex := 41, attributes := #[] }] 49 2 #[] #[{ accessFlags := 2, nameIndex := 11, descriptorIndex := 12, attributes := #[] }])
  fields := #[{ name := "state", type := .long, accessFlags := 2, slot := 0, constantValue := 0 }]
  methods := #[k2m0, k2m1]
  instanceTypes := #[.long]
  staticTypes := #[]
  resolved := Array.replicate 67 none
  statics := none }

def pool3 : Array CpInfo := pool [(1, u "java/lang/Cloneable"), (0, .class_ 1), (0, u "java/lang/Object"), (0, .class_ 3)] 3

/-- java/lang/Cloneable -/
def k3 : Class := { plain "java/lang/Cloneable" (some 0) with
  accessFlags := 1537
  interfaces := #[]
  cf := some (fileOf pool3 2 #[] #[] 1537 4 #[] #[])
  fields := #[]
  methods := #[]
  instanceTypes := #[]
  staticTypes := #[]
  resolved := Array.replicate 8 none
  statics := none }

def pool4 : Array CpInfo := pool [(1, u "java/io/Serializable"), (0, .class_ 1), (0, u "java/lang/Object"), (0, .class_ 3)] 3

/-- java/io/Serializable -/
def k4 : Class := { plain "java/io/Serializable" (some 0) with
  accessFlags := 1537
  interfaces := #[]
  cf := some (fileOf pool4 2 #[] #[] 1537 4 #[] #[])
  fields := #[]
  methods := #[]
  instanceTypes := #[]
  staticTypes := #[]
  resolved := Array.replicate 8 none
  statics := none }

/-- the primitive byte -/
def k5 : Class := { plain "byte" none with kind := .primitive 'B', accessFlags := 0x411 }
/-- [B -/
def k6 : Class := { plain "[B" (some 0) with kind := .array 5 .byte, interfaces := #[3, 4], accessFlags := 1041 }

/-- the primitive int -/
def k7 : Class := { plain "int" none with kind := .primitive 'I', accessFlags := 0x411 }
/-- [I -/
def k8 : Class := { plain "[I" (some 0) with kind := .array 7 .int, interfaces := #[3, 4], accessFlags := 1041 }

def heap : Heap := #[]
def classes : Array Class := #[k0, k1, k2, k3, k4, k5, k6, k7, k8]
def interned : List (Array UInt16 × Addr) := []
def slotsUsed : Nat := 0
def theMethod : MethodId := ⟨1, 2⟩
def args0 : Array Value := #[.long 5]
def aboutOver (below : List Frame) : State where
  vm := { classes := classes, interned := interned.toArray }
  heap := heap
  slotsUsed := slotsUsed
  threads := #[{ frames := .invoking theMethod args0 :: below }]
def below0 : List Frame := [.native { method := ⟨0, 0⟩, args := #[] }]
def about1 : State := aboutOver below0
def p0 : Program := .bare "" "" ""
def e0 : Env := launch0.env 0 0 0
theorem w_frames : about1.frames = Frame.invoking theMethod args0 :: below0 := rfl
set_option maxRecDepth 65536 in
theorem w_args : argsFit about1.vm theMethod args0 = true := by decide +kernel
set_option maxRecDepth 65536 in
theorem w_heap : heapFits about1 = true := by decide +kernel
set_option maxRecDepth 65536 in
theorem w_runnable : about1.curStatus? = some .runnable := by decide +kernel
set_option maxRecDepth 65536 in
theorem w_alone : about1.alone = true := by decide +kernel
set_option maxRecDepth 65536 in
theorem w_named : about1.methodNamed? x = some theMethod := by decide +kernel
set_option maxRecDepth 65536 in
theorem w_hears : about1.hears theMethod below0 = true := by decide +kernel
set_option maxRecDepth 65536 in
theorem w_ripe : about1.ripe theMethod args0 below0 = true := by decide +kernel
theorem w_running : about1.status = .running := rfl
set_option maxRecDepth 65536 in
theorem w_room : about1.hasRoom e0.platform room_1 = true :=
  launch0.hasRoom_least _ room_1 (by decide +kernel) (by decide +kernel) (by decide +kernel) (by decide +kernel) (by decide +kernel) (by decide +kernel)
theorem allAtoms_all (ts : List Jvm.Cond) (a : Array Jvm.Value) (st : Jvm.State) : (allAtoms ts).before a st = ts.all (fun c => c.before a st) := by
  induction ts with
  | nil => rfl
  | cons c t ih =>
    show (Jvm.Cond.and c (allAtoms t)).before a st = _
    rw [Jvm.Cond.before_and, ih, List.all_cons]
def words1 : List Jvm.Cond := Jvm.Cond.code x code maxLocals ret :: tables_1
/-- a 'code' word, met by the world's own term for the bytes: nothing is compared byte by byte -/
theorem code_word {y : MethodName} {bytes : ByteArray} {mx : Nat} {rt : Option FieldType} {a : Array Value} {s : State} {m : MethodId} {meth : Method} {c : Code} (h1 : s.methodNamed? y = some m) (h2 : s.vm.method? m = some meth) (h3 : meth.code = some c) (h4 : c.code = bytes)
    (h5 : (c.maxLocals == mx && c.exceptionTable.isEmpty && decide (c.maxStack ≤ mostOperands) && decide (meth.sig.returnType = rt) && !meth.locks && decide (parseMethodDescriptor y.desc = some meth.sig)) = true) : (Jvm.Cond.code y bytes mx rt).before a s = true := by
  simp only [Bool.and_eq_true, beq_iff_eq, Bool.not_eq_true', decide_eq_true_eq] at h5
  obtain ⟨⟨⟨⟨⟨g1, g2⟩, g3⟩, g4⟩, g5⟩, g6⟩ := h5
  simp [Cond.before, Cond.holds, Cond.value, h1, h2, h3, h4, g1, g2, g3, g4, g5, g6]
def isCode : Jvm.Cond → Bool
  | .code _ _ _ _ => true
  | _ => false
theorem all_split {L : List Jvm.Cond} {P : Jvm.Cond → Bool} (h1 : L.all (fun c => isCode c || P c) = true) (h2 : ∀ c ∈ L.filter isCode, P c = true) : L.all P = true := by
  refine List.all_eq_true.mpr fun c hc => ?_
  have h := List.all_eq_true.mp h1 c hc
  rcases Bool.eq_false_or_eq_true (isCode c) with hi | hi
  · exact h2 c (List.mem_filter.mpr ⟨hc, hi⟩)
  · simpa [hi] using h
set_option maxRecDepth 65536 in
theorem w_c0 : (Jvm.Cond.code x code maxLocals ret).before args0 about1 = true := code_word (m := ⟨1, 2⟩) (meth := k1m2) (c := k1c2) (by decide +kernel) rfl rfl rfl (by decide +kernel)
set_option maxRecDepth 65536 in
theorem w_c1 : (Jvm.Cond.code ({ cls := "com/example/bondroll/bondroll/util/Lot", name := "<init>", desc := "(J)V" } : Jvm.MethodName) prog_66_method_1_code (3 : Nat) (Option.none : Option Jvm.ClassFile.FieldType)).before args0 about1 = true := code_word (m := ⟨2, 0⟩) (meth := k2m0) (c := k2c0) (by decide +kernel) rfl rfl rfl (by decide +kernel)
set_option maxRecDepth 65536 in
theorem w_c2 : (Jvm.Cond.code ({ cls := "java/lang/Object", name := "<init>", desc := "()V" } : Jvm.MethodName) object_method_1_code (1 : Nat) (Option.none : Option Jvm.ClassFile.FieldType)).before args0 about1 = true := code_word (m := ⟨0, 0⟩) (meth := k0m0) (c := k0c0) (by decide +kernel) rfl rfl rfl (by decide +kernel)
set_option maxRecDepth 65536 in
theorem w_c3 : (Jvm.Cond.code ({ cls := "com/example/bondroll/bondroll/util/Lot", name := "next", desc := "()J" } : Jvm.MethodName) prog_66_method_3_code (3 : Nat) (Option.some Jvm.ClassFile.FieldType.long)).before args0 about1 = true := code_word (m := ⟨2, 1⟩) (meth := k2m1) (c := k2c1) (by decide +kernel) rfl rfl rfl (by decide +kernel)
set_option maxRecDepth 65536 in
theorem w_c4 : (Jvm.Cond.code ({ cls := "com/example/bondroll/bondroll/util/LotNextPinLaw", name := "unmix", desc := "(J)J" } : Jvm.MethodName) method_2_code (2 : Nat) (Option.some Jvm.ClassFile.FieldType.long)).before args0 about1 = true := code_word (m := ⟨1, 1⟩) (meth := k1m1) (c := k1c1) (by decide +kernel) rfl rfl rfl (by decide +kernel)
def codes1 : List Jvm.Cond := [Jvm.Cond.code x code maxLocals ret, Jvm.Cond.code ({ cls := "com/example/bondroll/bondroll/util/Lot", name := "<init>", desc := "(J)V" } : Jvm.MethodName) prog_66_method_1_code (3 : Nat) (Option.none : Option Jvm.ClassFile.FieldType), Jvm.Cond.code ({ cls := "java/lang/Object", name := "<init>", desc := "()V" } : Jvm.MethodName) object_method_1_code (1 : Nat) (Option.none : Option Jvm.ClassFile.FieldType), Jvm.Cond.code ({ cls := "com/example/bondroll/bondroll/util/Lot", name := "next", desc := "()J" } : Jvm.MethodName) prog_66_method_3_code (3 : Nat) (Option.some Jvm.ClassFile.FieldType.long), Jvm.Cond.code ({ cls := "com/example/bondroll/bondroll/util/LotNextPinLaw", name := "unmix", desc := "(J)J" } : Jvm.MethodName) method_2_code (2 : Nat) (Option.some Jvm.ClassFile.FieldType.long)]
set_option maxRecDepth 65536 in
theorem codes_eq : words1.filter isCode = codes1 := rfl
theorem w_codes : ∀ c ∈ words1.filter isCode, c.before args0 about1 = true := by
  rw [codes_eq]
  intro c hc
  simp only [codes1, List.mem_cons, List.not_mem_nil, or_false] at hc
  rcases hc with rfl | rfl | rfl | rfl | rfl
  · exact w_c0
  · exact w_c1
  · exact w_c2
  · exact w_c3
  · exact w_c4
set_option maxRecDepth 65536 in
theorem w_t1 : (words1.take 24).all (fun c => isCode c || c.before args0 about1) = true := by decide +kernel
set_option maxRecDepth 65536 in
theorem w_t2 : (words1.drop 24).all (fun c => isCode c || c.before args0 about1) = true := by decide +kernel
theorem w_tables : (allAtoms (Jvm.Cond.code x code maxLocals ret :: tables_1)).before args0 about1 = true := by
  rw [allAtoms_all]
  show words1.all (fun c => c.before args0 about1) = true
  refine all_split ?_ w_codes
  rw [← List.take_append_drop 24 words1, List.all_append, w_t1, w_t2]
  rfl
set_option maxRecDepth 65536 in
theorem w_case : (Jvm.Cond.and given_1 narrow_1).before args0 about1 = true := by decide +kernel
theorem w_applies : (headSpec (Jvm.Cond.code x code maxLocals ret :: tables_1) room_1).applies x e0.platform about1 = true :=
  (Spec.applies_iff w_frames).mpr ⟨w_running, w_runnable, w_alone, w_named, w_hears, w_ripe, w_room, w_tables⟩
theorem atStart : AtStart classFile x code maxLocals ret World_1 tables_1 room_1 Calls_1 rest_1 Pre_1 launch0 p0 e0 about1 theMethod args0 below0 :=
  ⟨lists_1, trivial, launch0.admits_env _ _ _, launch0.least_env, fairChoices_fair.cas, fairChoices_fair.clock, w_frames, w_args, w_heap, w_applies, trivial, trivial, w_case⟩
end start1
theorem witness_1 : WitnessClaimed_1 := ⟨start1.p0, start1.e0, start1.about1, start1.theMethod, start1.args0, start1.below0, start1.atStart⟩
end Jvm.Pilot.@@N@@
