import JvmDerived
import JvmDerived.Pilot.@@N@@Statement
import JvmDerived.Pilot.@@N@@Code
set_option linter.unusedVariables false
set_option linter.unusedSimpArgs false
namespace Jvm.Own
open Sem ClassFile Op Lib Jvm.Stand Jvm.Free Jvm.LawKit Jvm.RoadKit
section Own
variable {p : Program} {l : Launch} {e : Env} {R : Room} {s : State} {m : MethodId} {args : Array Value} {below : List Frame} {meth : Method} {c : Code} {T : State} {locs : List Loc} {cells slots : Nat} {Q : Option Value → Heap → List Loc → Prop} {k n : Nat} {Z : State} {a0 : Array Value} {h h' h0 : Heap} {pc pc' : Nat} {Ls : Array Slot} {rest : List Value}
/-- from U the invocation comes to its end, returns, and Q holds there -/
def Till (p : Program) (e : Env) (below : List Frame) (s : State) (Q : Option Value → Heap → List Loc → Prop) (k n : Nat) (U : State) : Prop :=
  ∃ s₂ o, Steps p.tables e below U s₂ ∧ s₂.status = .running ∧ Ended s₂ below o ∧ ∃ v L, o = .returned v ∧ Q v s₂.heap L ∧ FrameEnd s o s₂ L k n
/-- a body's contract -/
def Ctr (l : Launch) (Z : State) (y : MethodName) (bytes : ByteArray) (maxL : Nat) (ret : Option FieldType) (rm : Room) (as : Array Value) (h : Heap) (Q : Option Value → Heap → List Loc → Prop) : Prop :=
  ∀ ws, MetFree l y (head1 (Jvm.Cond.code y bytes maxL ret :: ws) rm) (fun a U => a = as ∧ Z.Warmed39 U.vm ∧ U.heap = h) (fun _ _ _ _ _ => True) (fun _ U o U' => ∃ v L, o = .returned v ∧ Q v U'.heap L ∧ FrameEnd U o U' L rm.cells rm.slots)
theorem Till.pre {U V : State} (hs : ∀ t, Steps p.tables e below V t → Steps p.tables e below U t) (r : Till p e below s Q k n V) : Till p e below s Q k n U := by
  obtain ⟨s₂, o, h1, r⟩ := r; exact ⟨s₂, o, hs _ h1, r⟩
theorem Till.via {U V : State} (hs : Steps p.tables e below U V) (r : Till p e below s Q k n V) : Till p e below s Q k n U := by
  obtain ⟨s₂, o, h1, r⟩ := r; exact ⟨s₂, o, hs.trans h1, r⟩
theorem Till.cast {g g' : JFrame} (q : g = g') (r : Till p e below s Q k n (T.setTop g')) : Till p e below s Q k n (T.setTop g) := q ▸ r
theorem Ctr.of {y : MethodName} {bytes : ByteArray} {maxL : Nat} {ret : Option FieldType} {rm : Room} {as : Array Value} (hp : plainFor y = true)
    (body : ∀ p e s m below meth c s₁, p.tables.exec = Jvm.exec → c.code = bytes → c.maxLocals = maxL → s.vm.findClass y.cls = some m.cls → meth.name = y.name → meth.sig.returnType = ret → meth.locks = false → Z.Warmed39 s.vm → s₁.heap = h →
      Stand p l e rm s m as below meth c s₁ [] 0 0 → Till p e below s Q rm.cells rm.slots (s₁.setTop (entryFrame m as maxL))) : Ctr l Z y bytes maxL ret rm as h Q := by
  intro ws
  refine MetFree.of_bodySF hp hisR ?_
  intro p e s m args below meth c s₁ Bd hml hP hK
  obtain ⟨rfl, hZ, hh⟩ := hP
  exact body p e s m below meth c s₁ Bd.exec Bd.bytes hml (findClass_of_methodNamed Bd.named) (name_of_methodNamed Bd.named Bd.method).1 Bd.returns Bd.notSynchronized hZ (by rw [← hh, Bd.state]; rfl) (Stand.of_body Bd)
/-! branches -/
theorem Till.icmp {cd : ClassFile.Cond} {x y : Int32} {o : Int} (h : At T m c below) (hx : p.tables.exec = Jvm.exec) (hd : decode c.code pc = .ok (.if_icmp cd o, 3)) (ho : 0 ≤ (pc : Int) + o) (hp : ((pc : Int) + o).toNat = pc')
    (r1 : if_icmp.holds cd x y = true → Till p e below s Q k n (T.setTop (mkF m pc' Ls rest))) (r2 : if_icmp.holds cd x y = false → Till p e below s Q k n (T.setTop (mkF m (pc + 3) Ls rest))) : Till p e below s Q k n (T.setTop (mkF m pc Ls (.int y :: .int x :: rest))) := by
  cases hb : if_icmp.holds cd x y with
  | true => exact Till.pre (fun _ hr => XS.icmpYes h hx rfl (pc0 := pc) (pc' := pc') rfl hd rfl hb ho hp hr) (r1 hb)
  | false => exact Till.pre (fun _ hr => XS.icmpNo h hx rfl hd rfl hb hr) (r2 hb)
theorem Till.ifc {cd : ClassFile.Cond} {x : Int32} {o : Int} (h : At T m c below) (hx : p.tables.exec = Jvm.exec) (hd : decode c.code pc = .ok (.ifCond cd o, 3)) (ho : 0 ≤ (pc : Int) + o) (hp : ((pc : Int) + o).toNat = pc')
    (r1 : if_icmp.holds cd x 0 = true → Till p e below s Q k n (T.setTop (mkF m pc' Ls rest))) (r2 : if_icmp.holds cd x 0 = false → Till p e below s Q k n (T.setTop (mkF m (pc + 3) Ls rest))) : Till p e below s Q k n (T.setTop (mkF m pc Ls (.int x :: rest))) := by
  cases hb : if_icmp.holds cd x 0 with
  | true => exact Till.pre (fun _ hr => XS.ifYes h hx rfl (pc0 := pc) (pc' := pc') rfl hd rfl ((if0 _ _).trans hb) ho hp hr) (r1 hb)
  | false => exact Till.pre (fun _ hr => XS.ifNo h hx rfl hd rfl ((if0 _ _).trans hb) hr) (r2 hb)
theorem hEq {x y : Int32} : (if_icmp.holds .eq x y = true → x = y) ∧ (if_icmp.holds .eq x y = false → ¬ x = y) ∧ (if_icmp.holds .ne x y = true → ¬ x = y) ∧ (if_icmp.holds .ne x y = false → x = y) := by
  by_cases q : x = y
  · obtain ⟨h1, h2⟩ := teq q; rw [h1, h2]; simp [q]
  · obtain ⟨h1, h2⟩ := feq q; rw [h1, h2]; simp [q]
theorem hLt {x y : Int32} : (if_icmp.holds .lt x y = true → x < y) ∧ (if_icmp.holds .lt x y = false → ¬ x < y) ∧ (if_icmp.holds .ge x y = true → ¬ x < y) ∧ (if_icmp.holds .ge x y = false → x < y) ∧ (if_icmp.holds .gt y x = true → x < y) ∧ (if_icmp.holds .gt y x = false → ¬ x < y) ∧ (if_icmp.holds .le y x = true → ¬ x < y) ∧ (if_icmp.holds .le y x = false → x < y) := by
  by_cases q : x < y
  · obtain ⟨h1, h2, h3, h4⟩ := tlt q; rw [h1, h2, h3, h4]; simp [q]
  · obtain ⟨h1, h2, h3, h4⟩ := flt q; rw [h1, h2, h3, h4]; simp [q]
theorem lEq {x y : Int64} : lcmpW x y = 0 ↔ x = y := by rw [lcW x y]; exact lc_eq x y
theorem lLt {x y : Int64} : lcmpW x y < 0 ↔ x < y := by rw [lcW x y]; exact lc_lt x y
theorem lGt {x y : Int64} : 0 < lcmpW x y ↔ y < x := by rw [lcW x y]; exact lc_gt x y
/-- Java's >>> on longs -/
def lsr (x : Int64) (y : Int32) : Int64 := (x.toUInt64 >>> (y &&& 0x3f).toInt64.toUInt64).toInt64
/-! returns -/
theorem Till.retI (X : Stand p l e R s m args below meth c T locs cells slots) (hx : p.tables.exec = Jvm.exec) (hret : meth.sig.returnType = some .int) (hlk : meth.locks = false) {z : Int32} (hd : decode c.code pc = .ok (.ireturn, 1)) (hk : cells ≤ k) (hn : slots ≤ n) (hq : Q (some (.int z)) T.heap locs) : Till p e below s Q k n (T.setTop (mkF m pc Ls (.int z :: rest))) := by
  obtain ⟨fs, hr, hrun, hended, hW, hsame⟩ := X.leave (v := some (.int z)) (fun q => by rw [hret] at q; cases q) hlk
  exact ⟨_, _, retOut X hx hret rfl (Or.inl ⟨rfl, Or.inl rfl, z, rfl⟩) hd hr, hrun, hended, _, _, rfl, hq, ⟨_, rfl⟩, hW, hsame.mono hk hn⟩
theorem Till.retZ (X : Stand p l e R s m args below meth c T locs cells slots) (hx : p.tables.exec = Jvm.exec) (hret : meth.sig.returnType = some .boolean) (hlk : meth.locks = false) {z w : Int32} (hd : decode c.code pc = .ok (.ireturn, 1)) (hk : cells ≤ k) (hn : slots ≤ n) (hz : z &&& 1 = w) (hq : Q (some (.int w)) T.heap locs) : Till p e below s Q k n (T.setTop (mkF m pc Ls (.int z :: rest))) := by
  subst hz
  obtain ⟨fs, hr, hrun, hended, hW, hsame⟩ := X.leave (v := some (.int (z &&& 1))) (fun q => by rw [hret] at q; cases q) hlk
  exact ⟨_, _, retN X hx (t := .boolean) hret (Or.inl rfl) hd hr, hrun, hended, _, _, rfl, hq, ⟨_, rfl⟩, hW, hsame.mono hk hn⟩
theorem Till.retJ (X : Stand p l e R s m args below meth c T locs cells slots) (hx : p.tables.exec = Jvm.exec) (hret : meth.sig.returnType = some .long) (hlk : meth.locks = false) {z : Int64} (hd : decode c.code pc = .ok (.lreturn, 1)) (hk : cells ≤ k) (hn : slots ≤ n) (hq : Q (some (.long z)) T.heap locs) : Till p e below s Q k n (T.setTop (mkF m pc Ls (.long z :: rest))) := by
  obtain ⟨fs, hr, hrun, hended, hW, hsame⟩ := X.leave (v := some (.long z)) (fun q => by rw [hret] at q; cases q) hlk
  exact ⟨_, _, retOut X hx hret rfl (Or.inr (Or.inl ⟨rfl, rfl, z, rfl⟩)) hd hr, hrun, hended, _, _, rfl, hq, ⟨_, rfl⟩, hW, hsame.mono hk hn⟩
theorem Till.retA (X : Stand p l e R s m args below meth c T locs cells slots) (hx : p.tables.exec = Jvm.exec) {t : FieldType} (hret : meth.sig.returnType = some t) (ht : t.isReference = true) (hlk : meth.locks = false) {w : Value} (hw : w.isRef = true) (hnw : narrow t w = w) (hd : decode c.code pc = .ok (.areturn, 1)) (hk : cells ≤ k) (hn : slots ≤ n) (hq : Q (some w) T.heap locs) : Till p e below s Q k n (T.setTop (mkF m pc Ls (w :: rest))) := by
  obtain ⟨fs, hr, hrun, hended, hW, hsame⟩ := X.leave (v := some w) (fun q => by rw [hret] at q; cases q) hlk
  exact ⟨_, _, retOut X hx hret hnw (Or.inr (Or.inr (Or.inr (Or.inr ⟨rfl, ht, hw⟩)))) hd hr, hrun, hended, _, _, rfl, hq, ⟨_, rfl⟩, hW, hsame.mono hk hn⟩
theorem Till.retV (X : Stand p l e R s m args below meth c T locs cells slots) (hx : p.tables.exec = Jvm.exec) (hret : meth.sig.returnType = none) (hlk : meth.locks = false) (hd : decode c.code pc = .ok (.return_, 1)) (hk : cells ≤ k) (hn : slots ≤ n) (hq : Q none T.heap locs) : Till p e below s Q k n (T.setTop (mkF m pc Ls [])) := by
  obtain ⟨fs, hr, hrun, hended, hW, hsame⟩ := X.leave (v := none) (fun _ => rfl) hlk
  exact ⟨_, _, X.returnOut hx hret hd hr, hrun, hended, _, _, rfl, hq, ⟨_, rfl⟩, hW, hsame.mono hk hn⟩
/-! the heap -/
theorem Till.getF (X : Stand p l e R s m args below meth c T locs cells slots) (hx : p.tables.exec = Jvm.exec) (hZ : Z.Warmed39 s.vm) {own O nm d : String} {index : Nat} (hown : s.vm.findClass own = some m.cls) (w : (Jvm.Cond.fieldLink own index O nm d).before a0 Z = true) (eT : T.heap = h) {a : Addr} {v : Value} (F : Fld Z h a O nm d v) (hd : decode c.code pc = .ok (.getfield index, 3))
    (r : ∀ T', Stand p l e R s m args below meth c T' locs cells slots → T'.heap = h → Till p e below s Q k n (T'.setTop (mkF m (pc + 3) Ls (v :: rest)))) : Till p e below s Q k n (T.setTop (mkF m pc Ls (.ref a :: rest))) := by
  obtain ⟨T', X', e', st⟩ := Jvm.RoadKit.getF X hx hZ hown (host := "") (Or.inl w) Via.refl eT F (g := mkF m pc Ls (.ref a :: rest)) rfl rfl hd
  exact Till.pre st (r T' X' e')
theorem Till.putF (X : Stand p l e R s m args below meth c T locs cells slots) (hx : p.tables.exec = Jvm.exec) (hZ : Z.Warmed39 s.vm) {own O nm d C : String} {index kk : Nat} {ty : FieldType} (hown : s.vm.findClass own = some m.cls) (w : (Jvm.Cond.fieldLink own index O nm d).before a0 Z = true) (eT : T.heap = h) {a : Addr} {v old : Value} (F : Fld Z h a O nm d old) (E : Exa Z h a C)
    (L : (Jvm.Cond.lays C O nm d).before a0 Z = true ∨ ((Jvm.Cond.laysFinal C O nm d).before a0 Z = true ∧ own = O ∧ meth.name = "<init>")) (wi : (Jvm.Cond.instantiable C kk).before a0 Z = true) (hty : parseFieldDescriptor d = some ty) (hn : narrow ty v = v) (hf : fits ty v = true) (hd : decode c.code pc = .ok (.putfield index, 3))
    (r : ∀ T' h', Stand p l e R s m args below meth c T' (locs ++ [⟨a, Jvm.RoadKit.slotOf Z O nm d⟩]) cells slots → T'.heap = h' → Wr h h' a (Jvm.RoadKit.slotOf Z O nm d) v → Till p e below s Q k n (T'.setTop (mkF m (pc + 3) Ls rest))) : Till p e below s Q k n (T.setTop (mkF m pc Ls (v :: .ref a :: rest))) := by
  obtain ⟨T', h', X', e', W, st⟩ := Jvm.RoadKit.putF X hx hZ hown (host := "") (Or.inl w) Via.refl eT F E L wi hty hn hf (g := mkF m pc Ls (v :: .ref a :: rest)) rfl rfl hd
  exact Till.pre st (r T' h' X' e' W)
theorem Till.newO (X : Stand p l e R s m args below meth c T locs cells slots) (hx : p.tables.exec = Jvm.exec) (hZ : Z.Warmed39 s.vm) {own C : String} {index sl : Nat} (hown : s.vm.findClass own = some m.cls) (w : (Jvm.Cond.classLink own index C).before a0 Z = true) (wi : (Jvm.Cond.instantiable C sl).before a0 Z = true) (wz : (Jvm.Cond.initialized C).before a0 Z = true) (eT : T.heap = h) (hd : decode c.code pc = .ok (.new index, 3)) (hc : cells + 1 ≤ R.cells) (hl : slots + sl ≤ R.slots)
    (r : ∀ T' h' b, b = h.size → Stand p l e R s m args below meth c T' locs (cells + 1) (slots + sl) → T'.heap = h' → Ext h h' → Exa Z h' b C → (∀ {O nm d : String} {ty : FieldType}, Laid Z a0 C O nm d → parseFieldDescriptor d = some ty → Fld Z h' b O nm d (defaultValue ty)) → Till p e below s Q k n (T'.setTop (mkF m (pc + 3) Ls (.ref b :: rest)))) : Till p e below s Q k n (T.setTop (mkF m pc Ls rest)) := by
  obtain ⟨T', h', X', e', E, A, D, -, st⟩ := Jvm.RoadKit.newO X hx hZ hown w wi wz eT (g := mkF m pc Ls rest) rfl hd hc hl
  exact Till.pre st (r T' h' _ rfl X' e' E A D)
theorem Till.initO (X : Stand p l e R s m args below meth c T locs cells slots) (hx : p.tables.exec = Jvm.exec) (hZ : Z.Warmed39 s.vm) {own : String} {idx : Nat} (hown : s.vm.findClass own = some m.cls) (w1 : (Jvm.Cond.methodLink own idx Lib.objectInit).before a0 Z = true) (w2 : (Jvm.Cond.instanceMethod Lib.objectInit).before a0 Z = true) (w3 : (Jvm.Cond.code Lib.objectInit ⟨#[0xb1]⟩ 1 none).before a0 Z = true) (eT : T.heap = h) (hsize : Ls.size = c.maxLocals) {a : Addr} (hd : decode c.code pc = .ok (.invokespecial idx, 3))
    (hf : 1 ≤ R.frames) {W : Nat} (hW : (rest.map fun v => v.category).sum ≤ W) (hl : W + 12 ≤ R.locals)
    (r : ∀ T', Stand p l e R s m args below meth c T' locs cells slots → T'.heap = h → Till p e below s Q k n (T'.setTop (mkF m (pc + 3) Ls rest))) : Till p e below s Q k n (T.setTop (mkF m pc Ls (.ref a :: rest))) := by
  obtain ⟨T', X', e', st⟩ := Jvm.RoadKit.initO X hx hZ hown w1 w2 w3 eT (g := mkF m pc Ls (.ref a :: rest)) rfl hsize rfl hd hf (W := W) (by show 2 * 0 + _ ≤ _; omega) hl
  exact Till.pre st (r T' X' e')
/-! arrays: what they hold, as a function of the place -/
def AR {α : Type} (ty : FieldType) (w : α → Value) (Z : State) (h : Heap) (a : Addr) (z : Int32) (f : Nat → α) : Prop := ∃ c : Cell, Arr Z h a c ty ∧ c.slots.size = z.toNatClampNeg ∧ ¬ z < 0 ∧ ∀ i, i < c.slots.size → c.slots[i]? = some (w (f i))
abbrev LA := @AR Int64 .long Value.long
abbrev IA := @AR Int32 .int Value.int
abbrev BA := @AR Int32 .byte Value.int
def oupd {α : Type} (f : Nat → α) (i : Nat) (v : α) : Nat → α := fun x => if x = i then v else f x
theorem upd_hit {α : Type} {f : Nat → α} {i j : Nat} {v : α} (q : j = i) : oupd f i v j = v := if_pos q
theorem upd_miss {α : Type} {f : Nat → α} {i j : Nat} {v : α} (q : ¬ j = i) : oupd f i v j = f j := if_neg q
section Ary
variable {α : Type} {ty : FieldType} {w : α → Value} {a b : Addr} {z j : Int32} {f : Nat → α} {ws : List Addr} {sl : Nat} {v : Value}
theorem AR.lt (A : AR ty w Z h a z f) : a < h.size := by obtain ⟨c, A, -⟩ := A; exact A.lt
theorem AR.pos (A : AR ty w Z h a z f) : ¬ z < 0 := by obtain ⟨c, -, -, q, -⟩ := A; exact q
theorem AR.ext (A : AR ty w Z h a z f) (E : Ext h h') : AR ty w Z h' a z f := by obtain ⟨c, A, r⟩ := A; exact ⟨c, A.ext E, r⟩
theorem AR.keep (A : AR ty w Z h a z f) (K : Keep h h' ws) (q : a ∉ ws) : AR ty w Z h' a z f := by obtain ⟨c, A, r⟩ := A; exact ⟨c, ⟨K.2.1 a c A.1 q, A.2⟩, r⟩
theorem AR.wr (A : AR ty w Z h a z f) (W : Wr h h' b sl v) (q : a ≠ b) : AR ty w Z h' a z f := by obtain ⟨c, A, r⟩ := A; exact ⟨c, A.other W q, r⟩
theorem AR.congr {g : Nat → α} (A : AR ty w Z h a z f) (q : ∀ i, i < z.toNatClampNeg → f i = g i) : AR ty w Z h a z g := by obtain ⟨c, A, S, N, H⟩ := A; exact ⟨c, A, S, N, fun i hi => by rw [H i hi, q i (S ▸ hi)]⟩
theorem AR.set {x : α} (A : AR ty w Z h a z f) (W : Wr h h' a j.toNatClampNeg (w x)) : AR ty w Z h' a z (oupd f j.toNatClampNeg x) := by
  obtain ⟨c, A, S, N, H⟩ := A
  refine ⟨_, A.same W, by rw [sz_set]; exact S, N, fun i hi => ?_⟩
  rw [sz_set] at hi
  by_cases u : i = j.toNatClampNeg
  · rw [upd_hit u]; subst u; simp [Cell.setSlot, hi]
  · rw [upd_miss u]; simp only [Cell.setSlot]; rw [Array.getElem?_setIfInBounds_ne (Ne.symm u)]; exact H i hi
theorem Till.newA {aty : ArrayType} {d0 : α} (X : Stand p l e R s m args below meth c T locs cells slots) (hx : p.tables.exec = Jvm.exec) (hZ : Z.Warmed39 s.vm) (wa : (Jvm.Cond.arrayClass (newarray.typeOf aty)).before a0 Z = true) (eT : T.heap = h) (hd : decode c.code pc = .ok (.newarray aty, 2)) (hdv : defaultValue (newarray.typeOf aty) = w d0) (hz : ¬ z < 0) (cap : Nat) (hcap : z.toNatClampNeg ≤ cap) (hb : cap * 8 ≤ 536870912) (hc : cells + 1 ≤ R.cells) (hl : slots + cap ≤ R.slots)
    (r : ∀ T' h' b, b = h.size → Stand p l e R s m args below meth c T' locs (cells + 1) (slots + cap) → T'.heap = h' → Ext h h' → AR (newarray.typeOf aty) w Z h' b z (fun _ => d0) → Till p e below s Q k n (T'.setTop (mkF m (pc + 2) Ls (.ref b :: rest)))) : Till p e below s Q k n (T.setTop (mkF m pc Ls (.int z :: rest))) := by
  obtain ⟨T', h', cA, X', e', E, A, st⟩ := newP X hx hZ wa eT (g := mkF m pc Ls (.int z :: rest)) rfl hd rfl hz (cap := cap) hcap hb hc hl
  exact Till.pre st (r T' h' _ rfl X' e' E ⟨_, A, sz_new _ _ _, hz, fun i hi => by rw [sz_new] at hi; simp [Jvm.RoadKit.newA, hi, hdv]⟩)
theorem Till.alen (A : AR ty w Z h a z f) (X : Stand p l e R s m args below meth c T locs cells slots) (hx : p.tables.exec = Jvm.exec) (hZ : Z.Warmed39 s.vm) (eT : T.heap = h) (hd : decode c.code pc = .ok (.arraylength, 1))
    (r : Till p e below s Q k n (T.setTop (mkF m (pc + 1) Ls (.int z :: rest)))) : Till p e below s Q k n (T.setTop (mkF m pc Ls (.ref a :: rest))) := by
  obtain ⟨c', A, S, N, H⟩ := A
  refine Till.pre (X.arraylength hx (by rw [eT]; exact A.1) (State.isArrayOf_alike hZ.alike A.2.1) (g := mkF m pc Ls (.ref a :: rest)) rfl rfl hd) ?_
  rw [len_of S N]; exact r
theorem AR.at (A : AR ty w Z h a z f) (h1 : ¬ j < 0) (h2 : j < z) : ∃ c : Cell, Arr Z h a c ty ∧ ¬ (j < 0 ∨ c.slots.size ≤ j.toNatClampNeg) ∧ c.slots[j.toNatClampNeg]? = some (w (f j.toNatClampNeg)) := by
  obtain ⟨c', A, S, N, H⟩ := A
  have hin := inb_of S ⟨h1, h2⟩
  exact ⟨c', A, hin, H _ (Nat.lt_of_not_le fun y => hin (Or.inr y))⟩
end Ary
section Acc
variable {a : Addr} {z j : Int32}
theorem Till.laload {f : Nat → Int64} (A : LA Z h a z f) (h1 : ¬ j < 0) (h2 : j < z) (X : Stand p l e R s m args below meth c T locs cells slots) (hx : p.tables.exec = Jvm.exec) (hZ : Z.Warmed39 s.vm) (eT : T.heap = h) (hd : decode c.code pc = .ok (.laload, 1))
    (r : Till p e below s Q k n (T.setTop (mkF m (pc + 1) Ls (.long (f j.toNatClampNeg) :: rest)))) : Till p e below s Q k n (T.setTop (mkF m pc Ls (.int j :: .ref a :: rest))) := by
  obtain ⟨c', A, hin, hv⟩ := A.at h1 h2
  exact Till.pre (X.laload hx (by rw [eT]; exact A.1) (State.isArrayOf_alike hZ.alike A.2.1) A.2.2 hin hv (g := mkF m pc Ls (.int j :: .ref a :: rest)) rfl rfl hd) r
theorem Till.iaload {f : Nat → Int32} (A : IA Z h a z f) (h1 : ¬ j < 0) (h2 : j < z) (X : Stand p l e R s m args below meth c T locs cells slots) (hx : p.tables.exec = Jvm.exec) (hZ : Z.Warmed39 s.vm) (eT : T.heap = h) (hd : decode c.code pc = .ok (.iaload, 1))
    (r : Till p e below s Q k n (T.setTop (mkF m (pc + 1) Ls (.int (f j.toNatClampNeg) :: rest)))) : Till p e below s Q k n (T.setTop (mkF m pc Ls (.int j :: .ref a :: rest))) := by
  obtain ⟨c', A, hin, hv⟩ := A.at h1 h2
  exact Till.pre (X.iaload hx (by rw [eT]; exact A.1) (State.isArrayOf_alike hZ.alike A.2.1) A.2.2 hin hv (g := mkF m pc Ls (.int j :: .ref a :: rest)) rfl rfl hd) r
theorem Till.baload {f : Nat → Int32} (A : BA Z h a z f) (h1 : ¬ j < 0) (h2 : j < z) (X : Stand p l e R s m args below meth c T locs cells slots) (hx : p.tables.exec = Jvm.exec) (hZ : Z.Warmed39 s.vm) (eT : T.heap = h) (hd : decode c.code pc = .ok (.baload, 1))
    (r : Till p e below s Q k n (T.setTop (mkF m (pc + 1) Ls (.int (f j.toNatClampNeg) :: rest)))) : Till p e below s Q k n (T.setTop (mkF m pc Ls (.int j :: .ref a :: rest))) := by
  obtain ⟨c', A, hin, hv⟩ := A.at h1 h2
  exact Till.pre (X.baloadBytes hx (by rw [eT]; exact A.1) (State.isArrayOf_alike hZ.alike A.2.1) A.2.2 hin hv (g := mkF m pc Ls (.int j :: .ref a :: rest)) rfl rfl hd) r
theorem Till.lastore {f : Nat → Int64} {x : Int64} (A : LA Z h a z f) (h1 : ¬ j < 0) (h2 : j < z) (X : Stand p l e R s m args below meth c T locs cells slots) (hx : p.tables.exec = Jvm.exec) (hZ : Z.Warmed39 s.vm) (eT : T.heap = h) (hd : decode c.code pc = .ok (.lastore, 1))
    (r : ∀ T' h', Stand p l e R s m args below meth c T' (locs ++ [⟨a, j.toNatClampNeg⟩]) cells slots → T'.heap = h' → Wr h h' a j.toNatClampNeg (.long x) → LA Z h' a z (oupd f j.toNatClampNeg x) → Till p e below s Q k n (T'.setTop (mkF m (pc + 1) Ls rest))) : Till p e below s Q k n (T.setTop (mkF m pc Ls (.long x :: .int j :: .ref a :: rest))) := by
  obtain ⟨c', A', hin, hv⟩ := A.at h1 h2
  obtain ⟨T', h', X', e', W, st⟩ := stJ X hx hZ eT A' hin (x := x) (g := mkF m pc Ls (.long x :: .int j :: .ref a :: rest)) rfl rfl hd
  exact Till.pre st (r T' h' X' e' W (AR.set A W))
theorem Till.iastore {f : Nat → Int32} {x : Int32} (A : IA Z h a z f) (h1 : ¬ j < 0) (h2 : j < z) (X : Stand p l e R s m args below meth c T locs cells slots) (hx : p.tables.exec = Jvm.exec) (hZ : Z.Warmed39 s.vm) (eT : T.heap = h) (hd : decode c.code pc = .ok (.iastore, 1))
    (r : ∀ T' h', Stand p l e R s m args below meth c T' (locs ++ [⟨a, j.toNatClampNeg⟩]) cells slots → T'.heap = h' → Wr h h' a j.toNatClampNeg (.int x) → IA Z h' a z (oupd f j.toNatClampNeg x) → Till p e below s Q k n (T'.setTop (mkF m (pc + 1) Ls rest))) : Till p e below s Q k n (T.setTop (mkF m pc Ls (.int x :: .int j :: .ref a :: rest))) := by
  obtain ⟨c', A', hin, hv⟩ := A.at h1 h2
  obtain ⟨T', h', X', e', W, st⟩ := stI X hx hZ eT A' hin (x := x) (g := mkF m pc Ls (.int x :: .int j :: .ref a :: rest)) rfl rfl hd
  exact Till.pre st (r T' h' X' e' W (AR.set A W))
theorem Till.bastore {f : Nat → Int32} {x : Int32} (A : BA Z h a z f) (h1 : ¬ j < 0) (h2 : j < z) (X : Stand p l e R s m args below meth c T locs cells slots) (hx : p.tables.exec = Jvm.exec) (hZ : Z.Warmed39 s.vm) (eT : T.heap = h) (hd : decode c.code pc = .ok (.bastore, 1))
    (r : ∀ T' h', Stand p l e R s m args below meth c T' (locs ++ [⟨a, j.toNatClampNeg⟩]) cells slots → T'.heap = h' → Wr h h' a j.toNatClampNeg (.int x.toInt8.toInt32) → BA Z h' a z (oupd f j.toNatClampNeg x.toInt8.toInt32) → Till p e below s Q k n (T'.setTop (mkF m (pc + 1) Ls rest))) : Till p e below s Q k n (T.setTop (mkF m pc Ls (.int x :: .int j :: .ref a :: rest))) := by
  obtain ⟨c', A', hin, hv⟩ := A.at h1 h2
  obtain ⟨T', h', X', e', W, st⟩ := stB X hx hZ eT A' hin (x := x) (g := mkF m pc Ls (.int x :: .int j :: .ref a :: rest)) rfl rfl hd
  exact Till.pre st (r T' h' X' e' W (AR.set A W))
end Acc
/-! calls -/
section Calls
variable {own : String} {index maxL : Nat} {y : MethodName} {bytes : ByteArray} {ret : Option FieldType} {rm : Room} {as : Array Value} {Qc : Option Value → Heap → List Loc → Prop} {W : Nat} {argsL st : List Value}
theorem Till.callS (C : Ctr l Z y bytes maxL ret rm as h Qc) (X : Stand p l e R s m args below meth c T locs cells slots) (hx : p.tables.exec = Jvm.exec) (hZ : Z.Warmed39 s.vm) (hown : s.vm.findClass own = some m.cls) (w1 : (Jvm.Cond.methodLink own index y).before a0 Z = true) (w2 : (Jvm.Cond.static y).before a0 Z = true) (w3 : (Jvm.Cond.initialized y.cls).before a0 Z = true) (w4 : (Jvm.Cond.code y bytes maxL ret).before a0 Z = true)
    (hy : y.cls ≠ "java/lang/invoke/MethodHandle" ∧ y.cls ≠ "java/lang/invoke/VarHandle") (hf : rm.frames + 1 ≤ R.frames) (hl : W + (maxL + 11) + rm.locals ≤ R.locals) (hsize : Ls.size = c.maxLocals) (hlen : ∀ sig, parseMethodDescriptor y.desc = some sig → argsL.length = sig.parameters.length) (has : argsL.toArray = as) (hst : st = argsL.reverse ++ rest) (hW : (rest.map fun v => v.category).sum ≤ W) (hd : decode c.code pc = .ok (.invokestatic index, 3)) (eT : T.heap = h) (hc : cells + rm.cells ≤ R.cells) (hs : slots + rm.slots ≤ R.slots)
    (r : ∀ v T' L, Stand p l e R s m args below meth c T' (locs ++ L) (cells + rm.cells) (slots + rm.slots) → Qc v T'.heap L → Till p e below s Q k n (T'.setTop (mkF m (pc + 3) Ls (v.toList ++ rest)))) : Till p e below s Q k n (T.setTop (mkF m pc Ls st)) := by
  obtain ⟨v, vm1, ⟨T', L', c', s'⟩, -, X', ⟨Lc, hQ, l1, y1, z1⟩, stp⟩ := Jvm.LawKit.callS X hx hown (mvT hZ w1) (mvT hZ w2) (mvT hZ w3) (mvT hZ w4) hy (backOf (W := W) (C []) hZ w4 w3 hf hl) (g := mkF m pc Ls st) rfl hsize (argsL := argsL) (rest := rest) hlen hst (by show 2 * 0 + _ ≤ _; omega) hd (fun _ _ => ⟨has, eT, hc, hs⟩)
  dsimp only [Pt.U, Pt.locs, Pt.cells, Pt.slots] at X' l1 y1 z1 stp hQ
  subst l1 y1 z1
  exact Till.pre stp (r v T' Lc X' hQ)
theorem Till.callC {a : Addr} (C : Ctr l Z y bytes maxL none rm as h Qc) (X : Stand p l e R s m args below meth c T locs cells slots) (hx : p.tables.exec = Jvm.exec) (hZ : Z.Warmed39 s.vm) (hown : s.vm.findClass own = some m.cls) (hy1 : y.name = "<init>") (w1 : (Jvm.Cond.methodLink own index y).before a0 Z = true) (w2 : (Jvm.Cond.instanceMethod y).before a0 Z = true) (w3 : (Jvm.Cond.initialized y.cls).before a0 Z = true) (w4 : (Jvm.Cond.code y bytes maxL none).before a0 Z = true)
    (hy : y.cls ≠ "java/lang/invoke/MethodHandle" ∧ y.cls ≠ "java/lang/invoke/VarHandle") (hf : rm.frames + 1 ≤ R.frames) (hl : W + (maxL + 11) + rm.locals ≤ R.locals) (hsize : Ls.size = c.maxLocals) (hlen : ∀ sig, parseMethodDescriptor y.desc = some sig → argsL.length = sig.parameters.length) (has : (.ref a :: argsL).toArray = as) (hst : st = argsL.reverse ++ .ref a :: rest) (hW : (rest.map fun v => v.category).sum ≤ W) (hd : decode c.code pc = .ok (.invokespecial index, 3)) (eT : T.heap = h) (hc : cells + rm.cells ≤ R.cells) (hs : slots + rm.slots ≤ R.slots)
    (r : ∀ v T' L, Stand p l e R s m args below meth c T' (locs ++ L) (cells + rm.cells) (slots + rm.slots) → Qc v T'.heap L → Till p e below s Q k n (T'.setTop (mkF m (pc + 3) Ls (v.toList ++ rest)))) : Till p e below s Q k n (T.setTop (mkF m pc Ls st)) := by
  obtain ⟨v, vm1, ⟨T', L', c', s'⟩, -, X', ⟨Lc, hQ, l1, y1, z1⟩, stp⟩ := X.specialBack hx hy1 hown (mvT hZ w1) (mvT hZ w2) (mvT hZ w4) hy (backOf (W := W) (C []) hZ w4 w3 hf hl) (g := mkF m pc Ls st) rfl hsize (Steps.refl _) (a := a) (argsL := argsL) (rest := rest) hlen hst (by show 2 * 0 + _ ≤ _; omega) hd (fun _ _ => ⟨has, eT, hc, hs⟩)
  dsimp only [Pt.U, Pt.locs, Pt.cells, Pt.slots] at X' l1 y1 z1 stp hQ
  subst l1 y1 z1
  exact Till.via stp (r v T' Lc X' hQ)
theorem Till.callV {a : Addr} (C : Ctr l Z y bytes maxL ret rm as h Qc) (E : Exa Z h a y.cls) (X : Stand p l e R s m args below meth c T locs cells slots) (hx : p.tables.exec = Jvm.exec) (hZ : Z.Warmed39 s.vm) (hown : s.vm.findClass own = some m.cls) (w1 : (Jvm.Cond.methodLink own index y).before a0 Z = true) (w5 : (Jvm.Cond.declares y).before a0 Z = true) (w6 : (Jvm.Cond.selects y.cls y y).before a0 Z = true) (w2 : (Jvm.Cond.instanceMethod y).before a0 Z = true) (w3 : (Jvm.Cond.initialized y.cls).before a0 Z = true) (w4 : (Jvm.Cond.code y bytes maxL ret).before a0 Z = true)
    (hy : y.cls ≠ "java/lang/invoke/MethodHandle" ∧ y.cls ≠ "java/lang/invoke/VarHandle") (hf : rm.frames + 1 ≤ R.frames) (hl : W + (maxL + 11) + rm.locals ≤ R.locals) (hsize : Ls.size = c.maxLocals) (hlen : ∀ sig, parseMethodDescriptor y.desc = some sig → argsL.length = sig.parameters.length) (has : (.ref a :: argsL).toArray = as) (hst : st = argsL.reverse ++ .ref a :: rest) (hW : (rest.map fun v => v.category).sum ≤ W) (hd : decode c.code pc = .ok (.invokevirtual index, 3)) (eT : T.heap = h) (hc : cells + rm.cells ≤ R.cells) (hs : slots + rm.slots ≤ R.slots)
    (r : ∀ v T' L, Stand p l e R s m args below meth c T' (locs ++ L) (cells + rm.cells) (slots + rm.slots) → Qc v T'.heap L → Till p e below s Q k n (T'.setTop (mkF m (pc + 3) Ls (v.toList ++ rest)))) : Till p e below s Q k n (T.setTop (mkF m pc Ls st)) := by
  obtain ⟨cq, kq, qa, qb, qc⟩ := isOf hZ eT E
  obtain ⟨v, vm1, ⟨T', L', c', s'⟩, -, X', ⟨Lc, hQ, l1, y1, z1⟩, stp⟩ := X.virtualBack hx (y := y) (z := y) hown (mvT hZ w1) (mvT hZ w5) (notFace_of_selects (args := #[]) (mvT hZ w6)) (mvT hZ w6) (mvT hZ w2) hy (backOf (W := W) (C []) hZ w4 w3 hf hl) qa qc (g := mkF m pc Ls st) rfl hsize (Steps.refl _) (argsL := argsL) (rest := rest) hlen hst (by show 2 * 0 + _ ≤ _; omega) hd (fun _ _ => ⟨has, eT, hc, hs⟩)
  dsimp only [Pt.U, Pt.locs, Pt.cells, Pt.slots] at X' l1 y1 z1 stp hQ
  subst l1 y1 z1
  exact Till.via stp (r v T' Lc X' hQ)
theorem Till.callP {a : Addr} {kk : Nat} (C : Ctr l Z y bytes maxL ret rm as h Qc) (E : Exa Z h a y.cls) (X : Stand p l e R s m args below meth c T locs cells slots) (hx : p.tables.exec = Jvm.exec) (hZ : Z.Warmed39 s.vm) (hown : s.vm.findClass own = some m.cls) (w1 : (Jvm.Cond.methodLink own index y).before a0 Z = true) (w2 : (Jvm.Cond.instanceMethod y).before a0 Z = true) (wp : (Jvm.Cond.privateMethod y).before a0 Z = true) (wi : (Jvm.Cond.instantiable y.cls kk).before a0 Z = true) (w3 : (Jvm.Cond.initialized y.cls).before a0 Z = true) (w4 : (Jvm.Cond.code y bytes maxL ret).before a0 Z = true)
    (hy : y.cls ≠ "java/lang/invoke/MethodHandle" ∧ y.cls ≠ "java/lang/invoke/VarHandle") (hf : rm.frames + 1 ≤ R.frames) (hl : W + (maxL + 11) + rm.locals ≤ R.locals) (hsize : Ls.size = c.maxLocals) (hlen : ∀ sig, parseMethodDescriptor y.desc = some sig → argsL.length = sig.parameters.length) (has : (.ref a :: argsL).toArray = as) (hst : st = argsL.reverse ++ .ref a :: rest) (hW : (rest.map fun v => v.category).sum ≤ W) (hd : decode c.code pc = .ok (.invokevirtual index, 3)) (eT : T.heap = h) (hc : cells + rm.cells ≤ R.cells) (hs : slots + rm.slots ≤ R.slots)
    (r : ∀ v T' L, Stand p l e R s m args below meth c T' (locs ++ L) (cells + rm.cells) (slots + rm.slots) → Qc v T'.heap L → Till p e below s Q k n (T'.setTop (mkF m (pc + 3) Ls (v.toList ++ rest)))) : Till p e below s Q k n (T.setTop (mkF m pc Ls st)) := by
  have wi' : (Jvm.Cond.instantiable y.cls kk).before args s = true := mvT hZ wi
  have w2' : (Jvm.Cond.instanceMethod y).before args s = true := mvT hZ w2
  obtain ⟨c2, k2, i1, i2, -, hniab, -, -⟩ := Cond.instantiable_spec wi'
  have hpr := Cond.privateMethod_at (mvP hZ wp (args := args))
  have hsel : (Jvm.Cond.selects y.cls y y).before args s = true := selects_self_of_private i1 i2 (Bool.or_eq_false_iff.mp hniab).1 hpr w2' hy
  obtain ⟨cell, hcell, hobj⟩ := E.cell
  obtain ⟨v, vm1, ⟨T', L', c', s'⟩, -, X', ⟨Lc, hQ, l1, y1, z1⟩, stp⟩ := X.privateBack hx hown (mvT hZ w1) w2' hsel hpr (mvT hZ w4) hy (backOf (W := W) (C []) hZ w4 w3 hf hl) (g := mkF m pc Ls st) rfl hsize (Steps.refl _) (a := a) (by rw [eT]; exact hcell) hobj (argsL := argsL) (rest := rest) hlen hst (by show 2 * 0 + _ ≤ _; omega) hd (fun _ _ => ⟨has, eT, hc, hs⟩)
  dsimp only [Pt.U, Pt.locs, Pt.cells, Pt.slots] at X' l1 y1 z1 stp hQ
  subst l1 y1 z1
  exact Till.via stp (r v T' Lc X' hQ)
end Calls
theorem Till.pop2L {x : Int64} (X : Stand p l e R s m args below meth c T locs cells slots) (hx : p.tables.exec = Jvm.exec) (hd : decode c.code pc = .ok (.pop2, 1)) (r : Till p e below s Q k n (T.setTop (mkF m (pc + 1) Ls rest))) : Till p e below s Q k n (T.setTop (mkF m pc Ls (.long x :: rest))) := by
  refine Till.pre (fun t hr => ?_) r
  show Steps p.tables e below (T.setTop { method := m, pc := pc, locals := Ls, stack := _ :: rest, locked := none }) _
  jvm_step X.here [X.here.top, hx, hd, Value.category]
  exact hr
end Own
end Jvm.Own
namespace Jvm.Pilot.@@N@@
open Jvm Jvm.ClassFile Sem Op Lib Jvm.Free Jvm.Stand Jvm.LawKit Jvm.RoadKit Bundle Jvm.Own Jvm.Pilot.@@N@@.Jvm.D
def Lot (Z : State) (h : Heap) (a : Addr) (x0 : Int64) : Prop := Exa Z h a "com/example/bondroll/bondroll/util/Lot" ∧ Fld Z h a "com/example/bondroll/bondroll/util/Lot" "state" "J" (.long x0)
theorem Lot.lt {Z : State} {h : Heap} {a : Addr} {x0 : Int64} (F : Lot Z h a x0) : a < h.size := F.1.lt
theorem Lot.ext {Z : State} {h h' : Heap} {a : Addr} {x0 : Int64} (F : Lot Z h a x0) (E : Ext h h') : Lot Z h' a x0 := ⟨F.1.ext E, F.2.ext E⟩
theorem Lot.keep {Z : State} {h h' : Heap} {a : Addr} {x0 : Int64} {ws : List Addr} (F : Lot Z h a x0) (K : Keep h h' ws) (q : a ∉ ws) : Lot Z h' a x0 := ⟨F.1.keep K, F.2.keep K q⟩
theorem Lot.wr {Z : State} {h h' : Heap} {a : Addr} {x0 : Int64} {b : Addr} {sl : Nat} {v : Value} (F : Lot Z h a x0) (W : Wr h h' b sl v) (q : a ≠ b) : Lot Z h' a x0 := ⟨F.1.wr W, F.2.other W (Or.inl q)⟩
theorem Lot.set_state {Z : State} {h h' : Heap} {a : Addr} {x0 : Int64} {y : Int64} {a0 : Array Value} (hw : ∀ d ∈ tables_1, d.before a0 Z = true) (F : Lot Z h a x0) (W : Wr h h' a (Jvm.RoadKit.slotOf Z "com/example/bondroll/bondroll/util/Lot" "state" "J") (.long y)) : Lot Z h' a y := ⟨F.1.wr W, F.2.same W⟩
theorem own_ax {x y : Int64} (h : -9223372036854775808 ≤ x.toInt + y.toInt ∧ x.toInt + y.toInt < 9223372036854775808) : ¬ (((x ^^^ (x + y)) &&& (y ^^^ (x + y))) < (0 : Int64)) := by
  have hr := c_ladd x y
  have rr := rng64 (x + y)
  have e : (x + y).toInt = x.toInt + y.toInt := by omega
  generalize x + y = r at *
  have a1 := c_xorSL x r
  have a2 := c_xorSL y r
  have a3 := c_andSL (x ^^^ r) (y ^^^ r)
  rw [Int64.lt_iff_toInt_lt, show (0 : Int64).toInt = 0 from rfl]
  rcases Int.lt_or_le x.toInt 0 with h1 | h1 <;> rcases Int.lt_or_le y.toInt 0 with h2 | h2 <;> rcases Int.lt_or_le r.toInt 0 with h3 | h3 <;> simp only [h1, h2, h3, true_implies] at a1 a2 a3 <;> omega
theorem own_lsr (y : Int64) (k : Int32) (n : Nat) (h : ((k &&& 0x3f).toInt64.toUInt64.toBitVec % 64).toNat = n) : (lsr y k).toBitVec = y.toBitVec >>> n := by
  subst h
  show (y.toUInt64 >>> (k &&& 0x3f).toInt64.toUInt64).toBitVec = _
  rw [UInt64.toBitVec_shiftRight]; rfl
theorem own_xb (b : BitVec 64) (n : Nat) (h : 64 ≤ n + (n + n)) : ((b ^^^ b >>> n) ^^^ (b ^^^ b >>> n) >>> n) ^^^ (b ^^^ b >>> n) >>> (n + n) = b := by
  rw [BitVec.ushiftRight_xor_distrib, BitVec.ushiftRight_xor_distrib, ← BitVec.shiftRight_add, ← BitVec.shiftRight_add, BitVec.ushiftRight_eq_zero h, BitVec.xor_zero]
  generalize b >>> n = c
  generalize b >>> (n + n) = d
  rw [BitVec.xor_assoc, BitVec.xor_assoc, BitVec.xor_assoc, BitVec.xor_self, BitVec.xor_zero, BitVec.xor_self, BitVec.xor_zero]
theorem own_xs (x : Int64) (k k2 : Int32) (n : Nat) (h1 : ((k &&& 0x3f).toInt64.toUInt64.toBitVec % 64).toNat = n) (h2 : ((k2 &&& 0x3f).toInt64.toUInt64.toBitVec % 64).toNat = n + n) (h : 64 ≤ n + (n + n)) : ((x ^^^ lsr x k) ^^^ lsr (x ^^^ lsr x k) k) ^^^ lsr (x ^^^ lsr x k) k2 = x := by
  apply Int64.toBitVec_inj.mp
  rw [Int64.toBitVec_xor, Int64.toBitVec_xor, own_lsr _ k n h1, own_lsr _ k2 (n + n) h2, Int64.toBitVec_xor, own_lsr _ k n h1]
  exact own_xb _ _ h
theorem own_mul (x c d : Int64) (h : c * d = 1) : (x * c) * d = x := by rw [Int64.mul_assoc, h, Int64.mul_one]
theorem d1_0 : decode prog_66_method_1_code 0 = .ok (.aload_n 0, 1) := by decide +kernel
theorem d1_1 : decode prog_66_method_1_code 1 = .ok (.invokespecial 1, 3) := by decide +kernel
theorem d1_4 : decode prog_66_method_1_code 4 = .ok (.aload_n 0, 1) := by decide +kernel
theorem d1_5 : decode prog_66_method_1_code 5 = .ok (.lload_n 1, 1) := by decide +kernel
theorem d1_6 : decode prog_66_method_1_code 6 = .ok (.putfield 7, 3) := by decide +kernel
theorem d1_9 : decode prog_66_method_1_code 9 = .ok (.return_, 1) := by decide +kernel
theorem pn_1 : plainName "com/example/bondroll/bondroll/util/Lot" = true := by first | (simp [plainName, overriddenIn]; done) | decide +kernel
theorem ef_1 (m : MethodId) (a1 : Addr) (q2 : Int64) : entryFrame m #[(.ref a1), (.long q2)] 3 = mkF m 0 #[.val (.ref a1), .val (.long q2), .second] [] := by first | (simp [entryFrame, mkF, argsToLocals, Value.category]; done) | rfl
def Q1 (Z : State) (a1 : Addr) (q2 : Int64) (w1 : Int64) (h0 : Heap) (n0 : Nat) : Option Value → Heap → List Loc → Prop := fun v h L => v = none ∧ Fr n0 L ∧ Keep h0 h [a1] ∧ Lot Z h a1 q2
def room1 : Room := { frames := 1, cells := 0, slots := 0, locals := 12 }
set_option maxRecDepth 65536 in
set_option maxHeartbeats 40000000 in
theorem rm1 (l : Launch) (Z : State) (a0 : Array Value) (hw : ∀ d ∈ tables_1, d.before a0 Z = true) (a1 : Addr) (q2 : Int64) (w1 : Int64) (h0 : Heap) (n0 : Nat) (Zs : n0 ≤ h0.size) (R_a1 : Lot Z h0 a1 w1) (g_a1 : n0 ≤ a1) : Ctr l Z (⟨"com/example/bondroll/bondroll/util/Lot", "<init>", "(J)V"⟩ : MethodName) prog_66_method_1_code 3 none room1 #[(.ref a1), (.long q2)] h0 (Q1 Z a1 q2 w1 h0 n0) := by
  refine Ctr.of (plainFor_of_name pn_1) ?_
  intro p e s m below meth c s₁ hx hby hml hown hnm hret hlk hZ e0 X0
  have hown : s.vm.findClass "com/example/bondroll/bondroll/util/Lot" = some m.cls := hown
  have hml : c.maxLocals = 3 := hml
  have hnm : meth.name = "<init>" := hnm
  have hret : meth.sig.returnType = none := hret
  have N0 := Fr.nil n0
  refine Till.cast (ef_1 m a1 q2) ?_
  have Kp := Keep.refl h0 [a1]
  show Till p e below s (Q1 Z a1 q2 w1 h0 n0) room1.cells room1.slots (s₁.setTop (mkF m 0 #[.val (.ref a1), .val (.long q2), .second] []))
  refine Till.pre (fun _ hr => XS.aloadN X0.here hx rfl (hb hby d1_0) rfl rfl hr) ?_
  show Till p e below s (Q1 Z a1 q2 w1 h0 n0) room1.cells room1.slots (s₁.setTop (mkF m 1 #[.val (.ref a1), .val (.long q2), .second] [(.ref a1)]))
  refine Till.initO X0 hx hZ hown (hw _ (List.mem_of_getElem? (i := 8) rfl)) (hw _ (List.mem_of_getElem? (i := 9) rfl)) (hw _ (List.mem_of_getElem? (i := 10) rfl)) e0 (by rw [hml]; rfl) (hb hby d1_1) (by decide) (W := 0) (Nat.le_of_eq rfl) (by decide) (fun T1 X2 e3 => ?_)
  show Till p e below s (Q1 Z a1 q2 w1 h0 n0) room1.cells room1.slots (T1.setTop (mkF m 4 #[.val (.ref a1), .val (.long q2), .second] []))
  refine Till.pre (fun _ hr => XS.aloadN X2.here hx rfl (hb hby d1_4) rfl rfl hr) ?_
  show Till p e below s (Q1 Z a1 q2 w1 h0 n0) room1.cells room1.slots (T1.setTop (mkF m 5 #[.val (.ref a1), .val (.long q2), .second] [(.ref a1)]))
  refine Till.pre (fun _ hr => XS.lloadN X2.here hx rfl (hb hby d1_5) rfl hr) ?_
  show Till p e below s (Q1 Z a1 q2 w1 h0 n0) room1.cells room1.slots (T1.setTop (mkF m 6 #[.val (.ref a1), .val (.long q2), .second] [(.long q2), (.ref a1)]))
  refine Till.putF X2 hx hZ hown (hw _ (List.mem_of_getElem? (i := 11) rfl)) e3 R_a1.2 R_a1.1 (Or.inl (hw _ (List.mem_of_getElem? (i := 12) rfl))) (hw _ (List.mem_of_getElem? (i := 3) rfl)) (ty := .long) (by decide) rfl rfl (hb hby d1_6) (fun T4 h5 X6 e7 W8 => ?_)
  have N9 := Fr.snoc X6 N0 g_a1
  have Zs := Nat.le_trans Zs (Keep.of_wr W8).1
  have Kp := Kp.wr W8 (Or.inl (List.mem_of_getElem? (i := 0) rfl))
  have R_a1 := Lot.set_state hw R_a1 W8
  show Till p e below s (Q1 Z a1 q2 w1 h0 n0) room1.cells room1.slots (T4.setTop (mkF m 9 #[.val (.ref a1), .val (.long q2), .second] []))
  refine Till.retV X6 hx hret hlk (hb hby d1_9) (by decide) (by decide) ?_
  show (Q1 Z a1 q2 w1 h0 n0) _ T4.heap _
  rw [e7]
  exact ⟨rfl, N9, Kp, R_a1⟩
theorem d5_0 : decode prog_66_method_3_code 0 = .ok (.aload_n 0, 1) := by decide +kernel
theorem d5_1 : decode prog_66_method_3_code 1 = .ok (.dup, 1) := by decide +kernel
theorem d5_2 : decode prog_66_method_3_code 2 = .ok (.getfield 7, 3) := by decide +kernel
theorem d5_5 : decode prog_66_method_3_code 5 = .ok (.ldc2_w 32, 3) := by decide +kernel
theorem d5_8 : decode prog_66_method_3_code 8 = .ok (.ladd, 1) := by decide +kernel
theorem d5_9 : decode prog_66_method_3_code 9 = .ok (.putfield 7, 3) := by decide +kernel
theorem d5_12 : decode prog_66_method_3_code 12 = .ok (.aload_n 0, 1) := by decide +kernel
theorem d5_13 : decode prog_66_method_3_code 13 = .ok (.getfield 7, 3) := by decide +kernel
theorem d5_16 : decode prog_66_method_3_code 16 = .ok (.aload_n 0, 1) := by decide +kernel
theorem d5_17 : decode prog_66_method_3_code 17 = .ok (.getfield 7, 3) := by decide +kernel
theorem d5_20 : decode prog_66_method_3_code 20 = .ok (.bipush 30, 2) := by decide +kernel
theorem d5_22 : decode prog_66_method_3_code 22 = .ok (.lushr, 1) := by decide +kernel
theorem d5_23 : decode prog_66_method_3_code 23 = .ok (.lxor, 1) := by decide +kernel
theorem d5_24 : decode prog_66_method_3_code 24 = .ok (.ldc2_w 34, 3) := by decide +kernel
theorem d5_27 : decode prog_66_method_3_code 27 = .ok (.lmul, 1) := by decide +kernel
theorem d5_28 : decode prog_66_method_3_code 28 = .ok (.lstore_n 1, 1) := by decide +kernel
theorem d5_29 : decode prog_66_method_3_code 29 = .ok (.lload_n 1, 1) := by decide +kernel
theorem d5_30 : decode prog_66_method_3_code 30 = .ok (.lload_n 1, 1) := by decide +kernel
theorem d5_31 : decode prog_66_method_3_code 31 = .ok (.bipush 27, 2) := by decide +kernel
theorem d5_33 : decode prog_66_method_3_code 33 = .ok (.lushr, 1) := by decide +kernel
theorem d5_34 : decode prog_66_method_3_code 34 = .ok (.lxor, 1) := by decide +kernel
theorem d5_35 : decode prog_66_method_3_code 35 = .ok (.ldc2_w 36, 3) := by decide +kernel
theorem d5_38 : decode prog_66_method_3_code 38 = .ok (.lmul, 1) := by decide +kernel
theorem d5_39 : decode prog_66_method_3_code 39 = .ok (.lstore_n 1, 1) := by decide +kernel
theorem d5_40 : decode prog_66_method_3_code 40 = .ok (.lload_n 1, 1) := by decide +kernel
theorem d5_41 : decode prog_66_method_3_code 41 = .ok (.lload_n 1, 1) := by decide +kernel
theorem d5_42 : decode prog_66_method_3_code 42 = .ok (.bipush 31, 2) := by decide +kernel
theorem d5_44 : decode prog_66_method_3_code 44 = .ok (.lushr, 1) := by decide +kernel
theorem d5_45 : decode prog_66_method_3_code 45 = .ok (.lxor, 1) := by decide +kernel
theorem d5_46 : decode prog_66_method_3_code 46 = .ok (.lreturn, 1) := by decide +kernel
theorem ef_5 (m : MethodId) (a1 : Addr) : entryFrame m #[(.ref a1)] 3 = mkF m 0 #[.val (.ref a1), .unset, .unset] [] := by first | (simp [entryFrame, mkF, argsToLocals, Value.category]; done) | rfl
def fn5 (w1 : Int64) : Int64 := ((((((w1 + (-7046029254386353131 : Int64)) ^^^ (lsr (w1 + (-7046029254386353131 : Int64)) (30 : Int32))) * (-4658895280553007687 : Int64)) ^^^ (lsr (((w1 + (-7046029254386353131 : Int64)) ^^^ (lsr (w1 + (-7046029254386353131 : Int64)) (30 : Int32))) * (-4658895280553007687 : Int64)) (27 : Int32))) * (-7723592293110705685 : Int64)) ^^^ (lsr (((((w1 + (-7046029254386353131 : Int64)) ^^^ (lsr (w1 + (-7046029254386353131 : Int64)) (30 : Int32))) * (-4658895280553007687 : Int64)) ^^^ (lsr (((w1 + (-7046029254386353131 : Int64)) ^^^ (lsr (w1 + (-7046029254386353131 : Int64)) (30 : Int32))) * (-4658895280553007687 : Int64)) (27 : Int32))) * (-7723592293110705685 : Int64)) (31 : Int32)))
def Q5 (Z : State) (a1 : Addr) (w1 : Int64) (h0 : Heap) (n0 : Nat) : Option Value → Heap → List Loc → Prop := fun v h L => v = some (.long (fn5 w1)) ∧ Fr n0 L ∧ Keep h0 h [a1] ∧ Lot Z h a1 (w1 + (-7046029254386353131 : Int64))
def room5 : Room := { frames := 0, cells := 0, slots := 0, locals := 0 }
set_option maxRecDepth 65536 in
set_option maxHeartbeats 40000000 in
theorem rm5 (l : Launch) (Z : State) (a0 : Array Value) (hw : ∀ d ∈ tables_1, d.before a0 Z = true) (a1 : Addr) (w1 : Int64) (h0 : Heap) (n0 : Nat) (Zs : n0 ≤ h0.size) (R_a1 : Lot Z h0 a1 w1) (g_a1 : n0 ≤ a1) : Ctr l Z (⟨"com/example/bondroll/bondroll/util/Lot", "next", "()J"⟩ : MethodName) prog_66_method_3_code 3 (some .long) room5 #[(.ref a1)] h0 (Q5 Z a1 w1 h0 n0) := by
  refine Ctr.of (plainFor_of_name pn_1) ?_
  intro p e s m below meth c s₁ hx hby hml hown hnm hret hlk hZ e0 X0
  have hown : s.vm.findClass "com/example/bondroll/bondroll/util/Lot" = some m.cls := hown
  have hml : c.maxLocals = 3 := hml
  have hnm : meth.name = "next" := hnm
  have hret : meth.sig.returnType = (some .long) := hret
  have N0 := Fr.nil n0
  refine Till.cast (ef_5 m a1) ?_
  have Kp := Keep.refl h0 [a1]
  show Till p e below s (Q5 Z a1 w1 h0 n0) room5.cells room5.slots (s₁.setTop (mkF m 0 #[.val (.ref a1), .unset, .unset] []))
  refine Till.pre (fun _ hr => XS.aloadN X0.here hx rfl (hb hby d5_0) rfl rfl hr) ?_
  show Till p e below s (Q5 Z a1 w1 h0 n0) room5.cells room5.slots (s₁.setTop (mkF m 1 #[.val (.ref a1), .unset, .unset] [(.ref a1)]))
  refine Till.pre (fun _ hr => XS.dup X0.here hx rfl (hb hby d5_1) rfl rfl hr) ?_
  show Till p e below s (Q5 Z a1 w1 h0 n0) room5.cells room5.slots (s₁.setTop (mkF m 2 #[.val (.ref a1), .unset, .unset] [(.ref a1), (.ref a1)]))
  refine Till.getF X0 hx hZ hown (hw _ (List.mem_of_getElem? (i := 11) rfl)) e0 R_a1.2 (hb hby d5_2) (fun T1 X2 e3 => ?_)
  show Till p e below s (Q5 Z a1 w1 h0 n0) room5.cells room5.slots (T1.setTop (mkF m 5 #[.val (.ref a1), .unset, .unset] [(.long w1), (.ref a1)]))
  refine Till.pre (X2.ldc2Long hx hown (mvT hZ (hw _ (List.mem_of_getElem? (i := 31) rfl))) (g := (mkF m 5 #[.val (.ref a1), .unset, .unset] [(.long w1), (.ref a1)])) rfl (hb hby d5_5)) ?_
  show Till p e below s (Q5 Z a1 w1 h0 n0) room5.cells room5.slots (T1.setTop (mkF m 8 #[.val (.ref a1), .unset, .unset] [(.long (-7046029254386353131 : Int64)), (.long w1), (.ref a1)]))
  refine Till.pre (fun _ hr => XS.ladd X2.here hx rfl (hb hby d5_8) rfl hr) ?_
  show Till p e below s (Q5 Z a1 w1 h0 n0) room5.cells room5.slots (T1.setTop (mkF m 9 #[.val (.ref a1), .unset, .unset] [(.long (w1 + (-7046029254386353131 : Int64))), (.ref a1)]))
  refine Till.putF X2 hx hZ hown (hw _ (List.mem_of_getElem? (i := 11) rfl)) e3 R_a1.2 R_a1.1 (Or.inl (hw _ (List.mem_of_getElem? (i := 12) rfl))) (hw _ (List.mem_of_getElem? (i := 3) rfl)) (ty := .long) (by decide) rfl rfl (hb hby d5_9) (fun T4 h5 X6 e7 W8 => ?_)
  have N9 := Fr.snoc X6 N0 g_a1
  have Zs := Nat.le_trans Zs (Keep.of_wr W8).1
  have Kp := Kp.wr W8 (Or.inl (List.mem_of_getElem? (i := 0) rfl))
  have R_a1 := Lot.set_state hw R_a1 W8
  show Till p e below s (Q5 Z a1 w1 h0 n0) room5.cells room5.slots (T4.setTop (mkF m 12 #[.val (.ref a1), .unset, .unset] []))
  refine Till.pre (fun _ hr => XS.aloadN X6.here hx rfl (hb hby d5_12) rfl rfl hr) ?_
  show Till p e below s (Q5 Z a1 w1 h0 n0) room5.cells room5.slots (T4.setTop (mkF m 13 #[.val (.ref a1), .unset, .unset] [(.ref a1)]))
  refine Till.getF X6 hx hZ hown (hw _ (List.mem_of_getElem? (i := 11) rfl)) e7 R_a1.2 (hb hby d5_13) (fun T10 X11 e12 => ?_)
  show Till p e below s (Q5 Z a1 w1 h0 n0) room5.cells room5.slots (T10.setTop (mkF m 16 #[.val (.ref a1), .unset, .unset] [(.long (w1 + (-7046029254386353131 : Int64)))]))
  refine Till.pre (fun _ hr => XS.aloadN X11.here hx rfl (hb hby d5_16) rfl rfl hr) ?_
  show Till p e below s (Q5 Z a1 w1 h0 n0) room5.cells room5.slots (T10.setTop (mkF m 17 #[.val (.ref a1), .unset, .unset] [(.ref a1), (.long (w1 + (-7046029254386353131 : Int64)))]))
  refine Till.getF X11 hx hZ hown (hw _ (List.mem_of_getElem? (i := 11) rfl)) e12 R_a1.2 (hb hby d5_17) (fun T13 X14 e15 => ?_)
  show Till p e below s (Q5 Z a1 w1 h0 n0) room5.cells room5.slots (T13.setTop (mkF m 20 #[.val (.ref a1), .unset, .unset] [(.long (w1 + (-7046029254386353131 : Int64))), (.long (w1 + (-7046029254386353131 : Int64)))]))
  refine Till.pre (fun _ hr => XS.bipush X14.here hx rfl (hb hby d5_20) hr) ?_
  show Till p e below s (Q5 Z a1 w1 h0 n0) room5.cells room5.slots (T13.setTop (mkF m 22 #[.val (.ref a1), .unset, .unset] [(.int (30 : Int32)), (.long (w1 + (-7046029254386353131 : Int64))), (.long (w1 + (-7046029254386353131 : Int64)))]))
  refine Till.pre (fun _ hr => XS.lushr X14.here hx rfl (hb hby d5_22) rfl hr) ?_
  show Till p e below s (Q5 Z a1 w1 h0 n0) room5.cells room5.slots (T13.setTop (mkF m 23 #[.val (.ref a1), .unset, .unset] [(.long (lsr (w1 + (-7046029254386353131 : Int64)) (30 : Int32))), (.long (w1 + (-7046029254386353131 : Int64)))]))
  refine Till.pre (fun _ hr => XS.lxor X14.here hx rfl (hb hby d5_23) rfl hr) ?_
  show Till p e below s (Q5 Z a1 w1 h0 n0) room5.cells room5.slots (T13.setTop (mkF m 24 #[.val (.ref a1), .unset, .unset] [(.long ((w1 + (-7046029254386353131 : Int64)) ^^^ (lsr (w1 + (-7046029254386353131 : Int64)) (30 : Int32))))]))
  refine Till.pre (X14.ldc2Long hx hown (mvT hZ (hw _ (List.mem_of_getElem? (i := 32) rfl))) (g := (mkF m 24 #[.val (.ref a1), .unset, .unset] [(.long ((w1 + (-7046029254386353131 : Int64)) ^^^ (lsr (w1 + (-7046029254386353131 : Int64)) (30 : Int32))))])) rfl (hb hby d5_24)) ?_
  show Till p e below s (Q5 Z a1 w1 h0 n0) room5.cells room5.slots (T13.setTop (mkF m 27 #[.val (.ref a1), .unset, .unset] [(.long (-4658895280553007687 : Int64)), (.long ((w1 + (-7046029254386353131 : Int64)) ^^^ (lsr (w1 + (-7046029254386353131 : Int64)) (30 : Int32))))]))
  refine Till.pre (fun _ hr => XS.lmul X14.here hx rfl (hb hby d5_27) rfl hr) ?_
  show Till p e below s (Q5 Z a1 w1 h0 n0) room5.cells room5.slots (T13.setTop (mkF m 28 #[.val (.ref a1), .unset, .unset] [(.long (((w1 + (-7046029254386353131 : Int64)) ^^^ (lsr (w1 + (-7046029254386353131 : Int64)) (30 : Int32))) * (-4658895280553007687 : Int64)))]))
  refine Till.pre (fun _ hr => XS.lstoreN X14.here hx rfl (hb hby d5_28) rfl (l' := #[.val (.ref a1), .val (.long (((w1 + (-7046029254386353131 : Int64)) ^^^ (lsr (w1 + (-7046029254386353131 : Int64)) (30 : Int32))) * (-4658895280553007687 : Int64))), .second]) rfl hr) ?_
  show Till p e below s (Q5 Z a1 w1 h0 n0) room5.cells room5.slots (T13.setTop (mkF m 29 #[.val (.ref a1), .val (.long (((w1 + (-7046029254386353131 : Int64)) ^^^ (lsr (w1 + (-7046029254386353131 : Int64)) (30 : Int32))) * (-4658895280553007687 : Int64))), .second] []))
  refine Till.pre (fun _ hr => XS.lloadN X14.here hx rfl (hb hby d5_29) rfl hr) ?_
  show Till p e below s (Q5 Z a1 w1 h0 n0) room5.cells room5.slots (T13.setTop (mkF m 30 #[.val (.ref a1), .val (.long (((w1 + (-7046029254386353131 : Int64)) ^^^ (lsr (w1 + (-7046029254386353131 : Int64)) (30 : Int32))) * (-4658895280553007687 : Int64))), .second] [(.long (((w1 + (-7046029254386353131 : Int64)) ^^^ (lsr (w1 + (-7046029254386353131 : Int64)) (30 : Int32))) * (-4658895280553007687 : Int64)))]))
  refine Till.pre (fun _ hr => XS.lloadN X14.here hx rfl (hb hby d5_30) rfl hr) ?_
  show Till p e below s (Q5 Z a1 w1 h0 n0) room5.cells room5.slots (T13.setTop (mkF m 31 #[.val (.ref a1), .val (.long (((w1 + (-7046029254386353131 : Int64)) ^^^ (lsr (w1 + (-7046029254386353131 : Int64)) (30 : Int32))) * (-4658895280553007687 : Int64))), .second] [(.long (((w1 + (-7046029254386353131 : Int64)) ^^^ (lsr (w1 + (-7046029254386353131 : Int64)) (30 : Int32))) * (-4658895280553007687 : Int64))), (.long (((w1 + (-7046029254386353131 : Int64)) ^^^ (lsr (w1 + (-7046029254386353131 : Int64)) (30 : Int32))) * (-4658895280553007687 : Int64)))]))
  refine Till.pre (fun _ hr => XS.bipush X14.here hx rfl (hb hby d5_31) hr) ?_
  show Till p e below s (Q5 Z a1 w1 h0 n0) room5.cells room5.slots (T13.setTop (mkF m 33 #[.val (.ref a1), .val (.long (((w1 + (-7046029254386353131 : Int64)) ^^^ (lsr (w1 + (-7046029254386353131 : Int64)) (30 : Int32))) * (-4658895280553007687 : Int64))), .second] [(.int (27 : Int32)), (.long (((w1 + (-7046029254386353131 : Int64)) ^^^ (lsr (w1 + (-7046029254386353131 : Int64)) (30 : Int32))) * (-4658895280553007687 : Int64))), (.long (((w1 + (-7046029254386353131 : Int64)) ^^^ (lsr (w1 + (-7046029254386353131 : Int64)) (30 : Int32))) * (-4658895280553007687 : Int64)))]))
  refine Till.pre (fun _ hr => XS.lushr X14.here hx rfl (hb hby d5_33) rfl hr) ?_
  show Till p e below s (Q5 Z a1 w1 h0 n0) room5.cells room5.slots (T13.setTop (mkF m 34 #[.val (.ref a1), .val (.long (((w1 + (-7046029254386353131 : Int64)) ^^^ (lsr (w1 + (-7046029254386353131 : Int64)) (30 : Int32))) * (-4658895280553007687 : Int64))), .second] [(.long (lsr (((w1 + (-7046029254386353131 : Int64)) ^^^ (lsr (w1 + (-7046029254386353131 : Int64)) (30 : Int32))) * (-4658895280553007687 : Int64)) (27 : Int32))), (.long (((w1 + (-7046029254386353131 : Int64)) ^^^ (lsr (w1 + (-7046029254386353131 : Int64)) (30 : Int32))) * (-4658895280553007687 : Int64)))]))
  refine Till.pre (fun _ hr => XS.lxor X14.here hx rfl (hb hby d5_34) rfl hr) ?_
  show Till p e below s (Q5 Z a1 w1 h0 n0) room5.cells room5.slots (T13.setTop (mkF m 35 #[.val (.ref a1), .val (.long (((w1 + (-7046029254386353131 : Int64)) ^^^ (lsr (w1 + (-7046029254386353131 : Int64)) (30 : Int32))) * (-4658895280553007687 : Int64))), .second] [(.long ((((w1 + (-7046029254386353131 : Int64)) ^^^ (lsr (w1 + (-7046029254386353131 : Int64)) (30 : Int32))) * (-4658895280553007687 : Int64)) ^^^ (lsr (((w1 + (-7046029254386353131 : Int64)) ^^^ (lsr (w1 + (-7046029254386353131 : Int64)) (30 : Int32))) * (-4658895280553007687 : Int64)) (27 : Int32))))]))
  refine Till.pre (X14.ldc2Long hx hown (mvT hZ (hw _ (List.mem_of_getElem? (i := 33) rfl))) (g := (mkF m 35 #[.val (.ref a1), .val (.long (((w1 + (-7046029254386353131 : Int64)) ^^^ (lsr (w1 + (-7046029254386353131 : Int64)) (30 : Int32))) * (-4658895280553007687 : Int64))), .second] [(.long ((((w1 + (-7046029254386353131 : Int64)) ^^^ (lsr (w1 + (-7046029254386353131 : Int64)) (30 : Int32))) * (-4658895280553007687 : Int64)) ^^^ (lsr (((w1 + (-7046029254386353131 : Int64)) ^^^ (lsr (w1 + (-7046029254386353131 : Int64)) (30 : Int32))) * (-4658895280553007687 : Int64)) (27 : Int32))))])) rfl (hb hby d5_35)) ?_
  show Till p e below s (Q5 Z a1 w1 h0 n0) room5.cells room5.slots (T13.setTop (mkF m 38 #[.val (.ref a1), .val (.long (((w1 + (-7046029254386353131 : Int64)) ^^^ (lsr (w1 + (-7046029254386353131 : Int64)) (30 : Int32))) * (-4658895280553007687 : Int64))), .second] [(.long (-7723592293110705685 : Int64)), (.long ((((w1 + (-7046029254386353131 : Int64)) ^^^ (lsr (w1 + (-7046029254386353131 : Int64)) (30 : Int32))) * (-4658895280553007687 : Int64)) ^^^ (lsr (((w1 + (-7046029254386353131 : Int64)) ^^^ (lsr (w1 + (-7046029254386353131 : Int64)) (30 : Int32))) * (-4658895280553007687 : Int64)) (27 : Int32))))]))
  refine Till.pre (fun _ hr => XS.lmul X14.here hx rfl (hb hby d5_38) rfl hr) ?_
  show Till p e below s (Q5 Z a1 w1 h0 n0) room5.cells room5.slots (T13.setTop (mkF m 39 #[.val (.ref a1), .val (.long (((w1 + (-7046029254386353131 : Int64)) ^^^ (lsr (w1 + (-7046029254386353131 : Int64)) (30 : Int32))) * (-4658895280553007687 : Int64))), .second] [(.long (((((w1 + (-7046029254386353131 : Int64)) ^^^ (lsr (w1 + (-7046029254386353131 : Int64)) (30 : Int32))) * (-4658895280553007687 : Int64)) ^^^ (lsr (((w1 + (-7046029254386353131 : Int64)) ^^^ (lsr (w1 + (-7046029254386353131 : Int64)) (30 : Int32))) * (-4658895280553007687 : Int64)) (27 : Int32))) * (-7723592293110705685 : Int64)))]))
  refine Till.pre (fun _ hr => XS.lstoreN X14.here hx rfl (hb hby d5_39) rfl (l' := #[.val (.ref a1), .val (.long (((((w1 + (-7046029254386353131 : Int64)) ^^^ (lsr (w1 + (-7046029254386353131 : Int64)) (30 : Int32))) * (-4658895280553007687 : Int64)) ^^^ (lsr (((w1 + (-7046029254386353131 : Int64)) ^^^ (lsr (w1 + (-7046029254386353131 : Int64)) (30 : Int32))) * (-4658895280553007687 : Int64)) (27 : Int32))) * (-7723592293110705685 : Int64))), .second]) rfl hr) ?_
  show Till p e below s (Q5 Z a1 w1 h0 n0) room5.cells room5.slots (T13.setTop (mkF m 40 #[.val (.ref a1), .val (.long (((((w1 + (-7046029254386353131 : Int64)) ^^^ (lsr (w1 + (-7046029254386353131 : Int64)) (30 : Int32))) * (-4658895280553007687 : Int64)) ^^^ (lsr (((w1 + (-7046029254386353131 : Int64)) ^^^ (lsr (w1 + (-7046029254386353131 : Int64)) (30 : Int32))) * (-4658895280553007687 : Int64)) (27 : Int32))) * (-7723592293110705685 : Int64))), .second] []))
  refine Till.pre (fun _ hr => XS.lloadN X14.here hx rfl (hb hby d5_40) rfl hr) ?_
  show Till p e below s (Q5 Z a1 w1 h0 n0) room5.cells room5.slots (T13.setTop (mkF m 41 #[.val (.ref a1), .val (.long (((((w1 + (-7046029254386353131 : Int64)) ^^^ (lsr (w1 + (-7046029254386353131 : Int64)) (30 : Int32))) * (-4658895280553007687 : Int64)) ^^^ (lsr (((w1 + (-7046029254386353131 : Int64)) ^^^ (lsr (w1 + (-7046029254386353131 : Int64)) (30 : Int32))) * (-4658895280553007687 : Int64)) (27 : Int32))) * (-7723592293110705685 : Int64))), .second] [(.long (((((w1 + (-7046029254386353131 : Int64)) ^^^ (lsr (w1 + (-7046029254386353131 : Int64)) (30 : Int32))) * (-4658895280553007687 : Int64)) ^^^ (lsr (((w1 + (-7046029254386353131 : Int64)) ^^^ (lsr (w1 + (-7046029254386353131 : Int64)) (30 : Int32))) * (-4658895280553007687 : Int64)) (27 : Int32))) * (-7723592293110705685 : Int64)))]))
  refine Till.pre (fun _ hr => XS.lloadN X14.here hx rfl (hb hby d5_41) rfl hr) ?_
  show Till p e below s (Q5 Z a1 w1 h0 n0) room5.cells room5.slots (T13.setTop (mkF m 42 #[.val (.ref a1), .val (.long (((((w1 + (-7046029254386353131 : Int64)) ^^^ (lsr (w1 + (-7046029254386353131 : Int64)) (30 : Int32))) * (-4658895280553007687 : Int64)) ^^^ (lsr (((w1 + (-7046029254386353131 : Int64)) ^^^ (lsr (w1 + (-7046029254386353131 : Int64)) (30 : Int32))) * (-4658895280553007687 : Int64)) (27 : Int32))) * (-7723592293110705685 : Int64))), .second] [(.long (((((w1 + (-7046029254386353131 : Int64)) ^^^ (lsr (w1 + (-7046029254386353131 : Int64)) (30 : Int32))) * (-4658895280553007687 : Int64)) ^^^ (lsr (((w1 + (-7046029254386353131 : Int64)) ^^^ (lsr (w1 + (-7046029254386353131 : Int64)) (30 : Int32))) * (-4658895280553007687 : Int64)) (27 : Int32))) * (-7723592293110705685 : Int64))), (.long (((((w1 + (-7046029254386353131 : Int64)) ^^^ (lsr (w1 + (-7046029254386353131 : Int64)) (30 : Int32))) * (-4658895280553007687 : Int64)) ^^^ (lsr (((w1 + (-7046029254386353131 : Int64)) ^^^ (lsr (w1 + (-7046029254386353131 : Int64)) (30 : Int32))) * (-4658895280553007687 : Int64)) (27 : Int32))) * (-7723592293110705685 : Int64)))]))
  refine Till.pre (fun _ hr => XS.bipush X14.here hx rfl (hb hby d5_42) hr) ?_
  show Till p e below s (Q5 Z a1 w1 h0 n0) room5.cells room5.slots (T13.setTop (mkF m 44 #[.val (.ref a1), .val (.long (((((w1 + (-7046029254386353131 : Int64)) ^^^ (lsr (w1 + (-7046029254386353131 : Int64)) (30 : Int32))) * (-4658895280553007687 : Int64)) ^^^ (lsr (((w1 + (-7046029254386353131 : Int64)) ^^^ (lsr (w1 + (-7046029254386353131 : Int64)) (30 : Int32))) * (-4658895280553007687 : Int64)) (27 : Int32))) * (-7723592293110705685 : Int64))), .second] [(.int (31 : Int32)), (.long (((((w1 + (-7046029254386353131 : Int64)) ^^^ (lsr (w1 + (-7046029254386353131 : Int64)) (30 : Int32))) * (-4658895280553007687 : Int64)) ^^^ (lsr (((w1 + (-7046029254386353131 : Int64)) ^^^ (lsr (w1 + (-7046029254386353131 : Int64)) (30 : Int32))) * (-4658895280553007687 : Int64)) (27 : Int32))) * (-7723592293110705685 : Int64))), (.long (((((w1 + (-7046029254386353131 : Int64)) ^^^ (lsr (w1 + (-7046029254386353131 : Int64)) (30 : Int32))) * (-4658895280553007687 : Int64)) ^^^ (lsr (((w1 + (-7046029254386353131 : Int64)) ^^^ (lsr (w1 + (-7046029254386353131 : Int64)) (30 : Int32))) * (-4658895280553007687 : Int64)) (27 : Int32))) * (-7723592293110705685 : Int64)))]))
  refine Till.pre (fun _ hr => XS.lushr X14.here hx rfl (hb hby d5_44) rfl hr) ?_
  show Till p e below s (Q5 Z a1 w1 h0 n0) room5.cells room5.slots (T13.setTop (mkF m 45 #[.val (.ref a1), .val (.long (((((w1 + (-7046029254386353131 : Int64)) ^^^ (lsr (w1 + (-7046029254386353131 : Int64)) (30 : Int32))) * (-4658895280553007687 : Int64)) ^^^ (lsr (((w1 + (-7046029254386353131 : Int64)) ^^^ (lsr (w1 + (-7046029254386353131 : Int64)) (30 : Int32))) * (-4658895280553007687 : Int64)) (27 : Int32))) * (-7723592293110705685 : Int64))), .second] [(.long (lsr (((((w1 + (-7046029254386353131 : Int64)) ^^^ (lsr (w1 + (-7046029254386353131 : Int64)) (30 : Int32))) * (-4658895280553007687 : Int64)) ^^^ (lsr (((w1 + (-7046029254386353131 : Int64)) ^^^ (lsr (w1 + (-7046029254386353131 : Int64)) (30 : Int32))) * (-4658895280553007687 : Int64)) (27 : Int32))) * (-7723592293110705685 : Int64)) (31 : Int32))), (.long (((((w1 + (-7046029254386353131 : Int64)) ^^^ (lsr (w1 + (-7046029254386353131 : Int64)) (30 : Int32))) * (-4658895280553007687 : Int64)) ^^^ (lsr (((w1 + (-7046029254386353131 : Int64)) ^^^ (lsr (w1 + (-7046029254386353131 : Int64)) (30 : Int32))) * (-4658895280553007687 : Int64)) (27 : Int32))) * (-7723592293110705685 : Int64)))]))
  refine Till.pre (fun _ hr => XS.lxor X14.here hx rfl (hb hby d5_45) rfl hr) ?_
  show Till p e below s (Q5 Z a1 w1 h0 n0) room5.cells room5.slots (T13.setTop (mkF m 46 #[.val (.ref a1), .val (.long (((((w1 + (-7046029254386353131 : Int64)) ^^^ (lsr (w1 + (-7046029254386353131 : Int64)) (30 : Int32))) * (-4658895280553007687 : Int64)) ^^^ (lsr (((w1 + (-7046029254386353131 : Int64)) ^^^ (lsr (w1 + (-7046029254386353131 : Int64)) (30 : Int32))) * (-4658895280553007687 : Int64)) (27 : Int32))) * (-7723592293110705685 : Int64))), .second] [(.long ((((((w1 + (-7046029254386353131 : Int64)) ^^^ (lsr (w1 + (-7046029254386353131 : Int64)) (30 : Int32))) * (-4658895280553007687 : Int64)) ^^^ (lsr (((w1 + (-7046029254386353131 : Int64)) ^^^ (lsr (w1 + (-7046029254386353131 : Int64)) (30 : Int32))) * (-4658895280553007687 : Int64)) (27 : Int32))) * (-7723592293110705685 : Int64)) ^^^ (lsr (((((w1 + (-7046029254386353131 : Int64)) ^^^ (lsr (w1 + (-7046029254386353131 : Int64)) (30 : Int32))) * (-4658895280553007687 : Int64)) ^^^ (lsr (((w1 + (-7046029254386353131 : Int64)) ^^^ (lsr (w1 + (-7046029254386353131 : Int64)) (30 : Int32))) * (-4658895280553007687 : Int64)) (27 : Int32))) * (-7723592293110705685 : Int64)) (31 : Int32))))]))
  refine Till.retJ X14 hx hret hlk (hb hby d5_46) (by decide) (by decide) ?_
  show (Q5 Z a1 w1 h0 n0) _ T13.heap _
  rw [e15]
  exact ⟨rfl, N9, Kp, R_a1⟩
theorem d3_0 : decode jdk_29_method_25_code 0 = .ok (.lload_n 0, 1) := by decide +kernel
theorem d3_1 : decode jdk_29_method_25_code 1 = .ok (.lload_n 2, 1) := by decide +kernel
theorem d3_2 : decode jdk_29_method_25_code 2 = .ok (.ladd, 1) := by decide +kernel
theorem d3_3 : decode jdk_29_method_25_code 3 = .ok (.lstore 4, 2) := by decide +kernel
theorem d3_5 : decode jdk_29_method_25_code 5 = .ok (.lload_n 0, 1) := by decide +kernel
theorem d3_6 : decode jdk_29_method_25_code 6 = .ok (.lload 4, 2) := by decide +kernel
theorem d3_8 : decode jdk_29_method_25_code 8 = .ok (.lxor, 1) := by decide +kernel
theorem d3_9 : decode jdk_29_method_25_code 9 = .ok (.lload_n 2, 1) := by decide +kernel
theorem d3_10 : decode jdk_29_method_25_code 10 = .ok (.lload 4, 2) := by decide +kernel
theorem d3_12 : decode jdk_29_method_25_code 12 = .ok (.lxor, 1) := by decide +kernel
theorem d3_13 : decode jdk_29_method_25_code 13 = .ok (.land, 1) := by decide +kernel
theorem d3_14 : decode jdk_29_method_25_code 14 = .ok (.lconst 0, 1) := by decide +kernel
theorem d3_15 : decode jdk_29_method_25_code 15 = .ok (.lcmp, 1) := by decide +kernel
theorem d3_16 : decode jdk_29_method_25_code 16 = .ok (.ifCond .ge 13, 3) := by decide +kernel
theorem d3_29 : decode jdk_29_method_25_code 29 = .ok (.lload 4, 2) := by decide +kernel
theorem d3_31 : decode jdk_29_method_25_code 31 = .ok (.lreturn, 1) := by decide +kernel
theorem ef_3 (m : MethodId) (q1 : Int64) (q2 : Int64) : entryFrame m #[(.long q1), (.long q2)] 6 = mkF m 0 #[.val (.long q1), .second, .val (.long q2), .second, .unset, .unset] [] := by first | (simp [entryFrame, mkF, argsToLocals, Value.category]; done) | rfl
def Q3 (Z : State) (q1 : Int64) (q2 : Int64) (h0 : Heap) (n0 : Nat) : Option Value → Heap → List Loc → Prop := fun v h L => v = some (Value.long (q1 + q2)) ∧ Fr n0 L ∧ h = h0
def room3 : Room := { frames := 0, cells := 0, slots := 0, locals := 0 }
set_option maxRecDepth 65536 in
set_option maxHeartbeats 40000000 in
theorem rm3 (l : Launch) (Z : State) (a0 : Array Value) (hw : ∀ d ∈ tables_1, d.before a0 Z = true) (q1 : Int64) (q2 : Int64) (h0 : Heap) (n0 : Nat) (hov : -9223372036854775808 ≤ q1.toInt + q2.toInt ∧ q1.toInt + q2.toInt < 9223372036854775808) : Ctr l Z (⟨"java/lang/Math", "addExact", "(JJ)J"⟩ : MethodName) jdk_29_method_25_code 6 (some .long) room3 #[(.long q1), (.long q2)] h0 (Q3 Z q1 q2 h0 n0) := by
  refine Ctr.of (Jvm.Free.JP.mathPlain rfl (by decide +kernel)) ?_
  intro p e s m below meth c s₁ hx hby hml hown hnm hret hlk hZ e0 X0
  have hown : s.vm.findClass "java/lang/Math" = some m.cls := hown
  have hml : c.maxLocals = 6 := hml
  have hnm : meth.name = "addExact" := hnm
  have hret : meth.sig.returnType = (some .long) := hret
  have N0 := Fr.nil n0
  refine Till.cast (ef_3 m q1 q2) ?_
  show Till p e below s (Q3 Z q1 q2 h0 n0) room3.cells room3.slots (s₁.setTop (mkF m 0 #[.val (.long q1), .second, .val (.long q2), .second, .unset, .unset] []))
  refine Till.pre (fun _ hr => XS.lloadN X0.here hx rfl (hb hby d3_0) rfl hr) ?_
  show Till p e below s (Q3 Z q1 q2 h0 n0) room3.cells room3.slots (s₁.setTop (mkF m 1 #[.val (.long q1), .second, .val (.long q2), .second, .unset, .unset] [(.long q1)]))
  refine Till.pre (fun _ hr => XS.lloadN X0.here hx rfl (hb hby d3_1) rfl hr) ?_
  show Till p e below s (Q3 Z q1 q2 h0 n0) room3.cells room3.slots (s₁.setTop (mkF m 2 #[.val (.long q1), .second, .val (.long q2), .second, .unset, .unset] [(.long q2), (.long q1)]))
  refine Till.pre (fun _ hr => XS.ladd X0.here hx rfl (hb hby d3_2) rfl hr) ?_
  show Till p e below s (Q3 Z q1 q2 h0 n0) room3.cells room3.slots (s₁.setTop (mkF m 3 #[.val (.long q1), .second, .val (.long q2), .second, .unset, .unset] [(.long (q1 + q2))]))
  refine Till.pre (fun _ hr => XS.lstore X0.here hx rfl (hb hby d3_3) rfl (l' := #[.val (.long q1), .second, .val (.long q2), .second, .val (.long (q1 + q2)), .second]) rfl hr) ?_
  show Till p e below s (Q3 Z q1 q2 h0 n0) room3.cells room3.slots (s₁.setTop (mkF m 5 #[.val (.long q1), .second, .val (.long q2), .second, .val (.long (q1 + q2)), .second] []))
  refine Till.pre (fun _ hr => XS.lloadN X0.here hx rfl (hb hby d3_5) rfl hr) ?_
  show Till p e below s (Q3 Z q1 q2 h0 n0) room3.cells room3.slots (s₁.setTop (mkF m 6 #[.val (.long q1), .second, .val (.long q2), .second, .val (.long (q1 + q2)), .second] [(.long q1)]))
  refine Till.pre (fun _ hr => XS.lload X0.here hx rfl (hb hby d3_6) rfl hr) ?_
  show Till p e below s (Q3 Z q1 q2 h0 n0) room3.cells room3.slots (s₁.setTop (mkF m 8 #[.val (.long q1), .second, .val (.long q2), .second, .val (.long (q1 + q2)), .second] [(.long (q1 + q2)), (.long q1)]))
  refine Till.pre (fun _ hr => XS.lxor X0.here hx rfl (hb hby d3_8) rfl hr) ?_
  show Till p e below s (Q3 Z q1 q2 h0 n0) room3.cells room3.slots (s₁.setTop (mkF m 9 #[.val (.long q1), .second, .val (.long q2), .second, .val (.long (q1 + q2)), .second] [(.long (q1 ^^^ (q1 + q2)))]))
  refine Till.pre (fun _ hr => XS.lloadN X0.here hx rfl (hb hby d3_9) rfl hr) ?_
  show Till p e below s (Q3 Z q1 q2 h0 n0) room3.cells room3.slots (s₁.setTop (mkF m 10 #[.val (.long q1), .second, .val (.long q2), .second, .val (.long (q1 + q2)), .second] [(.long q2), (.long (q1 ^^^ (q1 + q2)))]))
  refine Till.pre (fun _ hr => XS.lload X0.here hx rfl (hb hby d3_10) rfl hr) ?_
  show Till p e below s (Q3 Z q1 q2 h0 n0) room3.cells room3.slots (s₁.setTop (mkF m 12 #[.val (.long q1), .second, .val (.long q2), .second, .val (.long (q1 + q2)), .second] [(.long (q1 + q2)), (.long q2), (.long (q1 ^^^ (q1 + q2)))]))
  refine Till.pre (fun _ hr => XS.lxor X0.here hx rfl (hb hby d3_12) rfl hr) ?_
  show Till p e below s (Q3 Z q1 q2 h0 n0) room3.cells room3.slots (s₁.setTop (mkF m 13 #[.val (.long q1), .second, .val (.long q2), .second, .val (.long (q1 + q2)), .second] [(.long (q2 ^^^ (q1 + q2))), (.long (q1 ^^^ (q1 + q2)))]))
  refine Till.pre (fun _ hr => XS.land X0.here hx rfl (hb hby d3_13) rfl hr) ?_
  show Till p e below s (Q3 Z q1 q2 h0 n0) room3.cells room3.slots (s₁.setTop (mkF m 14 #[.val (.long q1), .second, .val (.long q2), .second, .val (.long (q1 + q2)), .second] [(.long ((q1 ^^^ (q1 + q2)) &&& (q2 ^^^ (q1 + q2))))]))
  refine Till.pre (fun _ hr => XS.lconst X0.here hx rfl (hb hby d3_14) hr) ?_
  show Till p e below s (Q3 Z q1 q2 h0 n0) room3.cells room3.slots (s₁.setTop (mkF m 15 #[.val (.long q1), .second, .val (.long q2), .second, .val (.long (q1 + q2)), .second] [(.long (0 : Int64)), (.long ((q1 ^^^ (q1 + q2)) &&& (q2 ^^^ (q1 + q2))))]))
  refine Till.pre (fun _ hr => XS.lcmp X0.here hx rfl (hb hby d3_15) rfl hr) ?_
  show Till p e below s (Q3 Z q1 q2 h0 n0) room3.cells room3.slots (s₁.setTop (mkF m 16 #[.val (.long q1), .second, .val (.long q2), .second, .val (.long (q1 + q2)), .second] [(.int (lcmpW ((q1 ^^^ (q1 + q2)) &&& (q2 ^^^ (q1 + q2))) (0 : Int64)))]))
  refine Till.ifc (pc' := 29) X0.here hx (hb hby d3_16) (by decide) (by decide) (fun q => ?_) (fun q => absurd (lLt.mp (hLt.2.2.2.1 q)) (own_ax hov : ¬ (((q1 ^^^ (q1 + q2)) &&& (q2 ^^^ (q1 + q2))) < (0 : Int64))))
  show Till p e below s (Q3 Z q1 q2 h0 n0) room3.cells room3.slots (s₁.setTop (mkF m 29 #[.val (.long q1), .second, .val (.long q2), .second, .val (.long (q1 + q2)), .second] []))
  refine Till.pre (fun _ hr => XS.lload X0.here hx rfl (hb hby d3_29) rfl hr) ?_
  show Till p e below s (Q3 Z q1 q2 h0 n0) room3.cells room3.slots (s₁.setTop (mkF m 31 #[.val (.long q1), .second, .val (.long q2), .second, .val (.long (q1 + q2)), .second] [(.long (q1 + q2))]))
  refine Till.retJ X0 hx hret hlk (hb hby d3_31) (by decide) (by decide) ?_
  exact ⟨rfl, N0, e0⟩
def own_v (w : Int64) : Int64 := lsr (fn5 w) (1 : Int32)
def own_r (w n : Int64) : Int64 := own_v w - (own_v w / n) * n
def own_bad (w n : Int64) : Prop := (own_v w - own_r w n) + (n - (1 : Int64)) < (0 : Int64)
def own_uz1 (z : Int64) : Int64 := ((z ^^^ lsr z 31) ^^^ lsr z 62) * (3573116690164977347 : Int64)
def own_uz2 (z : Int64) : Int64 := ((z ^^^ lsr z 27) ^^^ lsr z 54) * (-7575587736534282103 : Int64)
def own_uz (z : Int64) : Int64 := (own_uz2 (own_uz1 z) ^^^ lsr (own_uz2 (own_uz1 z)) 30) ^^^ lsr (own_uz2 (own_uz1 z)) 60
theorem own_un (w : Int64) : own_uz (fn5 w) = w + (-7046029254386353131 : Int64) := by
  unfold fn5 own_uz
  generalize w + (-7046029254386353131 : Int64) = g
  generalize h1 : (g ^^^ lsr g (30 : Int32)) * (-4658895280553007687 : Int64) = z1
  generalize h2 : (z1 ^^^ lsr z1 (27 : Int32)) * (-7723592293110705685 : Int64) = z2
  have e1 : own_uz1 (z2 ^^^ lsr z2 (31 : Int32)) = z1 ^^^ lsr z1 (27 : Int32) := by
    unfold own_uz1
    rw [own_xs z2 31 62 31 (by decide) (by decide) (by decide), ← h2, own_mul _ _ _ (by decide)]
  have e2 : own_uz2 (z1 ^^^ lsr z1 (27 : Int32)) = g ^^^ lsr g (30 : Int32) := by
    unfold own_uz2
    rw [own_xs z1 27 54 27 (by decide) (by decide) (by decide), ← h1, own_mul _ _ _ (by decide)]
  rw [e1, e2, own_xs g 30 60 30 (by decide) (by decide) (by decide)]
theorem own_vr (w : Int64) : 0 ≤ (own_v w).toInt ∧ (own_v w).toInt = ((fn5 w).toInt % 18446744073709551616) / 2 := by
  have a := c_lushr (fn5 w) 1 1 (by decide) (by decide)
  have e : (own_v w).toInt = ((fn5 w).toInt % 18446744073709551616) / (2 ^ 1 : Nat) := a
  constructor <;> omega
theorem own_rr {w n : Int64} (hn : 1 ≤ n.toInt) : 0 ≤ (own_r w n).toInt ∧ (own_r w n).toInt < n.toInt := by
  have a := (c_lrem (own_v w) n n.toInt rfl).1 (own_vr w).1
  have e : (own_r w n).toInt = (own_v w).toInt % n.toInt := a
  rw [e]
  exact ⟨Int.emod_nonneg _ (by omega), Int.emod_lt_of_pos _ (by omega)⟩
theorem own_topI {F V R N A B C O Z : Int} (v : 0 ≤ V ∧ V = (F % 18446744073709551616) / 2) (r : 0 ≤ R ∧ R < N) (hn : 1 ≤ N ∧ N ≤ 21) (f : -9223372036854775808 ≤ F ∧ F < 9223372036854775808)
    (a : (A - (V - R)) % 18446744073709551616 = 0) (a' : -9223372036854775808 ≤ A ∧ A < 9223372036854775808) (b : (B - (N - O)) % 18446744073709551616 = 0) (b' : -9223372036854775808 ≤ B ∧ B < 9223372036854775808)
    (c : (C - (A + B)) % 18446744073709551616 = 0) (c' : -9223372036854775808 ≤ C ∧ C < 9223372036854775808) (hO : O = 1) (hZ : Z = 0) (h : C < Z) : -40 ≤ F ∧ F < 0 := by
  subst hO hZ
  have v2 : V < 9223372036854775808 := by omega
  have eA : A = V - R := by omega
  have eB : B = N - 1 := by omega
  have hC : 9223372036854775808 ≤ A + B := by omega
  have hV : 9223372036854775788 ≤ V := by omega
  clear a b c a' b' c' h eA eB hC
  omega
theorem own_top {w n : Int64} (hn : 1 ≤ n.toInt ∧ n.toInt ≤ 21) (h : own_bad w n) : -40 ≤ (fn5 w).toInt ∧ (fn5 w).toInt < 0 := by
  have h0 : (own_v w - own_r w n) + (n - (1 : Int64)) < (0 : Int64) := h
  exact own_topI (own_vr w) (own_rr (w := w) hn.1) hn (rng64 (fn5 w)) (c_lsub (own_v w) (own_r w n)) (rng64 _) (c_lsub n (1 : Int64)) (rng64 _) (c_ladd (own_v w - own_r w n) (n - (1 : Int64))) (rng64 _) (rfl : (1 : Int64).toInt = 1) (rfl : (0 : Int64).toInt = 0) (Int64.lt_iff_toInt_lt.mp h0)
def own_m1 (g : Int64) : Int64 := (g ^^^ lsr g (30 : Int32)) * (-4658895280553007687 : Int64)
def own_m2 (g : Int64) : Int64 := (g ^^^ lsr g (27 : Int32)) * (-7723592293110705685 : Int64)
def own_m3 (g : Int64) : Int64 := g ^^^ lsr g (31 : Int32)
theorem own_fs (w : Int64) : fn5 w = own_m3 (own_m2 (own_m1 (w + (-7046029254386353131 : Int64)))) := rfl
abbrev own_P : Nat := 18446744073709551616
def own_N1 (x : Nat) : Nat := ((x ^^^ x >>> 31) ^^^ x >>> 62) * 3573116690164977347 % own_P
def own_N2 (x : Nat) : Nat := ((x ^^^ x >>> 27) ^^^ x >>> 54) * 10871156337175269513 % own_P
def own_N3 (x : Nat) : Nat := (x ^^^ x >>> 30) ^^^ x >>> 60
def own_M0 (x : Nat) : Nat := (x + 11400714819323198485) % own_P
def own_M1 (x : Nat) : Nat := (x ^^^ x >>> 30) * 13787848793156543929 % own_P
def own_M2 (x : Nat) : Nat := (x ^^^ x >>> 27) * 10723151780598845931 % own_P
def own_M3 (x : Nat) : Nat := x ^^^ x >>> 31
theorem own_chk : ∀ j : Fin 40, own_M3 (own_M2 (own_M1 (own_M0 (own_N3 (own_N2 (own_N1 (18446744073709551615 - j.val))))))) < 18446744073709551576 := by decide +kernel
theorem own_ln (y : Int64) (k : Int32) (n : Nat) (h : ((k &&& 0x3f).toInt64.toUInt64.toBitVec % 64).toNat = n) : (lsr y k).toBitVec.toNat = y.toBitVec.toNat >>> n := by
  rw [own_lsr y k n h, BitVec.toNat_ushiftRight]
theorem own_xn (x y : Int64) : (x ^^^ y).toBitVec.toNat = x.toBitVec.toNat ^^^ y.toBitVec.toNat := by rw [Int64.toBitVec_xor, BitVec.toNat_xor]
theorem own_pn (x c : Int64) (C : Nat) (h : c.toBitVec.toNat = C) : (x * c).toBitVec.toNat = x.toBitVec.toNat * C % own_P := by rw [Int64.toBitVec_mul, BitVec.toNat_mul, h]
theorem own_an (x c : Int64) (C : Nat) (h : c.toBitVec.toNat = C) : (x + c).toBitVec.toNat = (x.toBitVec.toNat + C) % own_P := by rw [Int64.toBitVec_add, BitVec.toNat_add, h]
theorem own_q1 (z : Int64) : (own_uz1 z).toBitVec.toNat = own_N1 z.toBitVec.toNat := by
  unfold own_uz1 own_N1
  rw [own_pn _ _ 3573116690164977347 (by decide), own_xn, own_xn, own_ln z 31 31 (by decide), own_ln z 62 62 (by decide)]
theorem own_q2 (z : Int64) : (own_uz2 z).toBitVec.toNat = own_N2 z.toBitVec.toNat := by
  unfold own_uz2 own_N2
  rw [own_pn _ _ 10871156337175269513 (by decide), own_xn, own_xn, own_ln z 27 27 (by decide), own_ln z 54 54 (by decide)]
theorem own_q3 (z : Int64) : ((z ^^^ lsr z 30) ^^^ lsr z 60).toBitVec.toNat = own_N3 z.toBitVec.toNat := by
  unfold own_N3
  rw [own_xn, own_xn, own_ln z 30 30 (by decide), own_ln z 60 60 (by decide)]
theorem own_w1 (z : Int64) : (own_m1 z).toBitVec.toNat = own_M1 z.toBitVec.toNat := by
  unfold own_m1 own_M1
  rw [own_pn _ _ 13787848793156543929 (by decide), own_xn, own_ln z 30 30 (by decide)]
theorem own_w2 (z : Int64) : (own_m2 z).toBitVec.toNat = own_M2 z.toBitVec.toNat := by
  unfold own_m2 own_M2
  rw [own_pn _ _ 10723151780598845931 (by decide), own_xn, own_ln z 27 27 (by decide)]
theorem own_w3 (z : Int64) : (own_m3 z).toBitVec.toNat = own_M3 z.toBitVec.toNat := by
  unfold own_m3 own_M3
  rw [own_xn, own_ln z 31 31 (by decide)]
theorem own_tn {x : Int64} (h : -40 ≤ x.toInt ∧ x.toInt < 0) : 18446744073709551576 ≤ x.toBitVec.toNat ∧ x.toBitVec.toNat ≤ 18446744073709551615 := by
  have e : x.toInt = if 2 * x.toBitVec.toNat < 2 ^ 64 then (x.toBitVec.toNat : Int) else (x.toBitVec.toNat : Int) - ((2 ^ 64 : Nat) : Int) := BitVec.toInt_eq_toNat_cond _
  have l := x.toBitVec.isLt
  split at e <;> omega
theorem own_uq (w : Int64) : (w + (-7046029254386353131 : Int64)).toBitVec.toNat = own_N3 (own_N2 (own_N1 (fn5 w).toBitVec.toNat)) := by
  rw [← own_un]
  unfold own_uz
  rw [own_q3, own_q2, own_q1]
theorem own_next {w n : Int64} (h : own_bad w n) (hn : 1 ≤ n.toInt ∧ n.toInt ≤ 21) : ¬ own_bad (w + (-7046029254386353131 : Int64)) n := fun h2 => by
  have t1 := own_tn (own_top hn h)
  have t2 := own_tn (own_top hn h2)
  rw [own_fs (w + (-7046029254386353131 : Int64)), own_w3, own_w2, own_w1, own_an _ _ 11400714819323198485 (by decide), own_uq] at t2
  have q := own_chk ⟨18446744073709551615 - (fn5 w).toBitVec.toNat, by omega⟩
  have e : 18446744073709551615 - (18446744073709551615 - (fn5 w).toBitVec.toNat) = (fn5 w).toBitVec.toNat := by omega
  dsimp only at q
  rw [e] at q
  exact Nat.lt_irrefl _ (Nat.lt_of_le_of_lt t2.1 q)
theorem own_nz {n : Int64} (hn : 1 ≤ n.toInt ∧ n.toInt ≤ 21) : n ≠ 0 := fun e => by
  rw [e] at hn; exact absurd hn.1 (by decide)
theorem d4_0 : decode prog_66_method_4_code 0 = .ok (.aload_n 0, 1) := by decide +kernel
theorem d4_1 : decode prog_66_method_4_code 1 = .ok (.invokevirtual 38, 3) := by decide +kernel
theorem d4_4 : decode prog_66_method_4_code 4 = .ok (.iconst 1, 1) := by decide +kernel
theorem d4_5 : decode prog_66_method_4_code 5 = .ok (.lushr, 1) := by decide +kernel
theorem d4_6 : decode prog_66_method_4_code 6 = .ok (.lstore_n 3, 1) := by decide +kernel
theorem d4_7 : decode prog_66_method_4_code 7 = .ok (.lload_n 3, 1) := by decide +kernel
theorem d4_8 : decode prog_66_method_4_code 8 = .ok (.lload_n 1, 1) := by decide +kernel
theorem d4_9 : decode prog_66_method_4_code 9 = .ok (.lrem, 1) := by decide +kernel
theorem d4_10 : decode prog_66_method_4_code 10 = .ok (.lstore 5, 2) := by decide +kernel
theorem d4_12 : decode prog_66_method_4_code 12 = .ok (.lload_n 3, 1) := by decide +kernel
theorem d4_13 : decode prog_66_method_4_code 13 = .ok (.lload 5, 2) := by decide +kernel
theorem d4_15 : decode prog_66_method_4_code 15 = .ok (.lsub, 1) := by decide +kernel
theorem d4_16 : decode prog_66_method_4_code 16 = .ok (.lload_n 1, 1) := by decide +kernel
theorem d4_17 : decode prog_66_method_4_code 17 = .ok (.lconst 1, 1) := by decide +kernel
theorem d4_18 : decode prog_66_method_4_code 18 = .ok (.lsub, 1) := by decide +kernel
theorem d4_19 : decode prog_66_method_4_code 19 = .ok (.ladd, 1) := by decide +kernel
theorem d4_20 : decode prog_66_method_4_code 20 = .ok (.lconst 0, 1) := by decide +kernel
theorem d4_21 : decode prog_66_method_4_code 21 = .ok (.lcmp, 1) := by decide +kernel
theorem d4_22 : decode prog_66_method_4_code 22 = .ok (.ifCond .lt 6, 3) := by decide +kernel
theorem d4_25 : decode prog_66_method_4_code 25 = .ok (.lload 5, 2) := by decide +kernel
theorem d4_27 : decode prog_66_method_4_code 27 = .ok (.lreturn, 1) := by decide +kernel
theorem d4_28 : decode prog_66_method_4_code 28 = .ok (.goto (-28), 3) := by decide +kernel
theorem pd4_0 : parseMethodDescriptor "()J" = some ⟨[], some .long⟩ := by decide +kernel
theorem ef_4 (m : MethodId) (a1 : Addr) (q2 : Int64) : entryFrame m #[(.ref a1), (.long q2)] 7 = mkF m 0 #[.val (.ref a1), .val (.long q2), .second, .unset, .unset, .unset, .unset] [] := by first | (simp [entryFrame, mkF, argsToLocals, Value.category]; done) | rfl
def fn4 (q2 : Int64) (w1 : Int64) : Int64 := (if ((((lsr (fn5 w1) (1 : Int32)) - ((lsr (fn5 w1) (1 : Int32)) - ((lsr (fn5 w1) (1 : Int32)) / q2) * q2)) + (q2 - (1 : Int64))) < (0 : Int64)) then ((lsr (fn5 (w1 + (-7046029254386353131 : Int64))) (1 : Int32)) - ((lsr (fn5 (w1 + (-7046029254386353131 : Int64))) (1 : Int32)) / q2) * q2) else ((lsr (fn5 w1) (1 : Int32)) - ((lsr (fn5 w1) (1 : Int32)) / q2) * q2))
def Q4 (Z : State) (a1 : Addr) (q2 : Int64) (w1 : Int64) (h0 : Heap) (n0 : Nat) : Option Value → Heap → List Loc → Prop := fun v h L => v = some (.long (fn4 q2 w1)) ∧ Fr n0 L ∧ Keep h0 h [a1] ∧ Lot Z h a1 (if ((((lsr (fn5 w1) (1 : Int32)) - ((lsr (fn5 w1) (1 : Int32)) - ((lsr (fn5 w1) (1 : Int32)) / q2) * q2)) + (q2 - (1 : Int64))) < (0 : Int64)) then ((w1 + (-7046029254386353131 : Int64)) + (-7046029254386353131 : Int64)) else (w1 + (-7046029254386353131 : Int64)))
def room4 : Room := { frames := 1, cells := 0, slots := 0, locals := 14 }
set_option maxRecDepth 65536 in
set_option maxHeartbeats 40000000 in
theorem rm4 (l : Launch) (Z : State) (a0 : Array Value) (hw : ∀ d ∈ tables_1, d.before a0 Z = true) (a1 : Addr) (q2 : Int64) (w1 : Int64) (h0 : Heap) (n0 : Nat) (Zs : n0 ≤ h0.size) (R_a1 : Lot Z h0 a1 w1) (g_a1 : n0 ≤ a1) (hn : 1 ≤ q2.toInt ∧ q2.toInt ≤ 21) : Ctr l Z (⟨"com/example/bondroll/bondroll/util/Lot", "below", "(J)J"⟩ : MethodName) prog_66_method_4_code 7 (some .long) room4 #[(.ref a1), (.long q2)] h0 (Q4 Z a1 q2 w1 h0 n0) := by
  refine Ctr.of (plainFor_of_name pn_1) ?_
  intro p e s m below meth c s₁ hx hby hml hown hnm hret hlk hZ e0 X0
  have hown : s.vm.findClass "com/example/bondroll/bondroll/util/Lot" = some m.cls := hown
  have hml : c.maxLocals = 7 := hml
  have hnm : meth.name = "below" := hnm
  have hret : meth.sig.returnType = (some .long) := hret
  have N0 := Fr.nil n0
  refine Till.cast (ef_4 m a1 q2) ?_
  have Kp := Keep.refl h0 [a1]
  show Till p e below s (Q4 Z a1 q2 w1 h0 n0) room4.cells room4.slots (s₁.setTop (mkF m 0 #[.val (.ref a1), .val (.long q2), .second, .unset, .unset, .unset, .unset] []))
  refine Till.pre (fun _ hr => XS.aloadN X0.here hx rfl (hb hby d4_0) rfl rfl hr) ?_
  show Till p e below s (Q4 Z a1 q2 w1 h0 n0) room4.cells room4.slots (s₁.setTop (mkF m 1 #[.val (.ref a1), .val (.long q2), .second, .unset, .unset, .unset, .unset] [(.ref a1)]))
  refine Till.callV (rm5 l Z a0 hw a1 w1 h0 n0 Zs R_a1 g_a1) R_a1.1 X0 hx hZ hown (hw _ (List.mem_of_getElem? (i := 26) rfl)) (hw _ (List.mem_of_getElem? (i := 27) rfl)) (hw _ (List.mem_of_getElem? (i := 29) rfl)) (hw _ (List.mem_of_getElem? (i := 28) rfl)) (hw _ (List.mem_of_getElem? (i := 4) rfl)) (hw _ (List.mem_of_getElem? (i := 30) rfl)) (by decide) (by decide) (W := 0) (by decide) (by rw [hml]; rfl) (a := a1) (argsL := []) (rest := []) (lenOf pd4_0 rfl) rfl rfl (Nat.le_of_eq rfl) (hb hby d4_1) e0 (by decide) (by decide) ?_
  rintro _ T1 L2 X3 ⟨rfl, N4, K5, q6⟩
  have N4 := Fr.app N0 N4
  have Zs := Nat.le_trans Zs K5.1
  have Kp := Kp.trans K5 (allS (Or.inl (List.mem_of_getElem? (i := 0) rfl)) all0)
  have R_a1 : Lot Z T1.heap a1 (w1 + (-7046029254386353131 : Int64)) := q6
  show Till p e below s (Q4 Z a1 q2 w1 h0 n0) room4.cells room4.slots (T1.setTop (mkF m 4 #[.val (.ref a1), .val (.long q2), .second, .unset, .unset, .unset, .unset] [(.long (fn5 w1))]))
  refine Till.pre (fun _ hr => XS.iconst X3.here hx rfl (hb hby d4_4) hr) ?_
  show Till p e below s (Q4 Z a1 q2 w1 h0 n0) room4.cells room4.slots (T1.setTop (mkF m 5 #[.val (.ref a1), .val (.long q2), .second, .unset, .unset, .unset, .unset] [(.int (1 : Int32)), (.long (fn5 w1))]))
  refine Till.pre (fun _ hr => XS.lushr X3.here hx rfl (hb hby d4_5) rfl hr) ?_
  show Till p e below s (Q4 Z a1 q2 w1 h0 n0) room4.cells room4.slots (T1.setTop (mkF m 6 #[.val (.ref a1), .val (.long q2), .second, .unset, .unset, .unset, .unset] [(.long (lsr (fn5 w1) (1 : Int32)))]))
  refine Till.pre (fun _ hr => XS.lstoreN X3.here hx rfl (hb hby d4_6) rfl (l' := #[.val (.ref a1), .val (.long q2), .second, .val (.long (lsr (fn5 w1) (1 : Int32))), .second, .unset, .unset]) rfl hr) ?_
  show Till p e below s (Q4 Z a1 q2 w1 h0 n0) room4.cells room4.slots (T1.setTop (mkF m 7 #[.val (.ref a1), .val (.long q2), .second, .val (.long (lsr (fn5 w1) (1 : Int32))), .second, .unset, .unset] []))
  refine Till.pre (fun _ hr => XS.lloadN X3.here hx rfl (hb hby d4_7) rfl hr) ?_
  show Till p e below s (Q4 Z a1 q2 w1 h0 n0) room4.cells room4.slots (T1.setTop (mkF m 8 #[.val (.ref a1), .val (.long q2), .second, .val (.long (lsr (fn5 w1) (1 : Int32))), .second, .unset, .unset] [(.long (lsr (fn5 w1) (1 : Int32)))]))
  refine Till.pre (fun _ hr => XS.lloadN X3.here hx rfl (hb hby d4_8) rfl hr) ?_
  show Till p e below s (Q4 Z a1 q2 w1 h0 n0) room4.cells room4.slots (T1.setTop (mkF m 9 #[.val (.ref a1), .val (.long q2), .second, .val (.long (lsr (fn5 w1) (1 : Int32))), .second, .unset, .unset] [(.long q2), (.long (lsr (fn5 w1) (1 : Int32)))]))
  refine Till.pre (fun _ hr => XS.lrem X3.here hx rfl (hb hby d4_9) rfl (own_nz hn) hr) ?_
  show Till p e below s (Q4 Z a1 q2 w1 h0 n0) room4.cells room4.slots (T1.setTop (mkF m 10 #[.val (.ref a1), .val (.long q2), .second, .val (.long (lsr (fn5 w1) (1 : Int32))), .second, .unset, .unset] [(.long ((lsr (fn5 w1) (1 : Int32)) - ((lsr (fn5 w1) (1 : Int32)) / q2) * q2))]))
  refine Till.pre (fun _ hr => XS.lstore X3.here hx rfl (hb hby d4_10) rfl (l' := #[.val (.ref a1), .val (.long q2), .second, .val (.long (lsr (fn5 w1) (1 : Int32))), .second, .val (.long ((lsr (fn5 w1) (1 : Int32)) - ((lsr (fn5 w1) (1 : Int32)) / q2) * q2)), .second]) rfl hr) ?_
  show Till p e below s (Q4 Z a1 q2 w1 h0 n0) room4.cells room4.slots (T1.setTop (mkF m 12 #[.val (.ref a1), .val (.long q2), .second, .val (.long (lsr (fn5 w1) (1 : Int32))), .second, .val (.long ((lsr (fn5 w1) (1 : Int32)) - ((lsr (fn5 w1) (1 : Int32)) / q2) * q2)), .second] []))
  refine Till.pre (fun _ hr => XS.lloadN X3.here hx rfl (hb hby d4_12) rfl hr) ?_
  show Till p e below s (Q4 Z a1 q2 w1 h0 n0) room4.cells room4.slots (T1.setTop (mkF m 13 #[.val (.ref a1), .val (.long q2), .second, .val (.long (lsr (fn5 w1) (1 : Int32))), .second, .val (.long ((lsr (fn5 w1) (1 : Int32)) - ((lsr (fn5 w1) (1 : Int32)) / q2) * q2)), .second] [(.long (lsr (fn5 w1) (1 : Int32)))]))
  refine Till.pre (fun _ hr => XS.lload X3.here hx rfl (hb hby d4_13) rfl hr) ?_
  show Till p e below s (Q4 Z a1 q2 w1 h0 n0) room4.cells room4.slots (T1.setTop (mkF m 15 #[.val (.ref a1), .val (.long q2), .second, .val (.long (lsr (fn5 w1) (1 : Int32))), .second, .val (.long ((lsr (fn5 w1) (1 : Int32)) - ((lsr (fn5 w1) (1 : Int32)) / q2) * q2)), .second] [(.long ((lsr (fn5 w1) (1 : Int32)) - ((lsr (fn5 w1) (1 : Int32)) / q2) * q2)), (.long (lsr (fn5 w1) (1 : Int32)))]))
  refine Till.pre (fun _ hr => XS.lsub X3.here hx rfl (hb hby d4_15) rfl hr) ?_
  show Till p e below s (Q4 Z a1 q2 w1 h0 n0) room4.cells room4.slots (T1.setTop (mkF m 16 #[.val (.ref a1), .val (.long q2), .second, .val (.long (lsr (fn5 w1) (1 : Int32))), .second, .val (.long ((lsr (fn5 w1) (1 : Int32)) - ((lsr (fn5 w1) (1 : Int32)) / q2) * q2)), .second] [(.long ((lsr (fn5 w1) (1 : Int32)) - ((lsr (fn5 w1) (1 : Int32)) - ((lsr (fn5 w1) (1 : Int32)) / q2) * q2)))]))
  refine Till.pre (fun _ hr => XS.lloadN X3.here hx rfl (hb hby d4_16) rfl hr) ?_
  show Till p e below s (Q4 Z a1 q2 w1 h0 n0) room4.cells room4.slots (T1.setTop (mkF m 17 #[.val (.ref a1), .val (.long q2), .second, .val (.long (lsr (fn5 w1) (1 : Int32))), .second, .val (.long ((lsr (fn5 w1) (1 : Int32)) - ((lsr (fn5 w1) (1 : Int32)) / q2) * q2)), .second] [(.long q2), (.long ((lsr (fn5 w1) (1 : Int32)) - ((lsr (fn5 w1) (1 : Int32)) - ((lsr (fn5 w1) (1 : Int32)) / q2) * q2)))]))
  refine Till.pre (fun _ hr => XS.lconst X3.here hx rfl (hb hby d4_17) hr) ?_
  show Till p e below s (Q4 Z a1 q2 w1 h0 n0) room4.cells room4.slots (T1.setTop (mkF m 18 #[.val (.ref a1), .val (.long q2), .second, .val (.long (lsr (fn5 w1) (1 : Int32))), .second, .val (.long ((lsr (fn5 w1) (1 : Int32)) - ((lsr (fn5 w1) (1 : Int32)) / q2) * q2)), .second] [(.long (1 : Int64)), (.long q2), (.long ((lsr (fn5 w1) (1 : Int32)) - ((lsr (fn5 w1) (1 : Int32)) - ((lsr (fn5 w1) (1 : Int32)) / q2) * q2)))]))
  refine Till.pre (fun _ hr => XS.lsub X3.here hx rfl (hb hby d4_18) rfl hr) ?_
  show Till p e below s (Q4 Z a1 q2 w1 h0 n0) room4.cells room4.slots (T1.setTop (mkF m 19 #[.val (.ref a1), .val (.long q2), .second, .val (.long (lsr (fn5 w1) (1 : Int32))), .second, .val (.long ((lsr (fn5 w1) (1 : Int32)) - ((lsr (fn5 w1) (1 : Int32)) / q2) * q2)), .second] [(.long (q2 - (1 : Int64))), (.long ((lsr (fn5 w1) (1 : Int32)) - ((lsr (fn5 w1) (1 : Int32)) - ((lsr (fn5 w1) (1 : Int32)) / q2) * q2)))]))
  refine Till.pre (fun _ hr => XS.ladd X3.here hx rfl (hb hby d4_19) rfl hr) ?_
  show Till p e below s (Q4 Z a1 q2 w1 h0 n0) room4.cells room4.slots (T1.setTop (mkF m 20 #[.val (.ref a1), .val (.long q2), .second, .val (.long (lsr (fn5 w1) (1 : Int32))), .second, .val (.long ((lsr (fn5 w1) (1 : Int32)) - ((lsr (fn5 w1) (1 : Int32)) / q2) * q2)), .second] [(.long (((lsr (fn5 w1) (1 : Int32)) - ((lsr (fn5 w1) (1 : Int32)) - ((lsr (fn5 w1) (1 : Int32)) / q2) * q2)) + (q2 - (1 : Int64))))]))
  refine Till.pre (fun _ hr => XS.lconst X3.here hx rfl (hb hby d4_20) hr) ?_
  show Till p e below s (Q4 Z a1 q2 w1 h0 n0) room4.cells room4.slots (T1.setTop (mkF m 21 #[.val (.ref a1), .val (.long q2), .second, .val (.long (lsr (fn5 w1) (1 : Int32))), .second, .val (.long ((lsr (fn5 w1) (1 : Int32)) - ((lsr (fn5 w1) (1 : Int32)) / q2) * q2)), .second] [(.long (0 : Int64)), (.long (((lsr (fn5 w1) (1 : Int32)) - ((lsr (fn5 w1) (1 : Int32)) - ((lsr (fn5 w1) (1 : Int32)) / q2) * q2)) + (q2 - (1 : Int64))))]))
  refine Till.pre (fun _ hr => XS.lcmp X3.here hx rfl (hb hby d4_21) rfl hr) ?_
  show Till p e below s (Q4 Z a1 q2 w1 h0 n0) room4.cells room4.slots (T1.setTop (mkF m 22 #[.val (.ref a1), .val (.long q2), .second, .val (.long (lsr (fn5 w1) (1 : Int32))), .second, .val (.long ((lsr (fn5 w1) (1 : Int32)) - ((lsr (fn5 w1) (1 : Int32)) / q2) * q2)), .second] [(.int (lcmpW (((lsr (fn5 w1) (1 : Int32)) - ((lsr (fn5 w1) (1 : Int32)) - ((lsr (fn5 w1) (1 : Int32)) / q2) * q2)) + (q2 - (1 : Int64))) (0 : Int64)))]))
  have J25_17 : ∀ (T14 : State) (L15 : List Loc) (X16 : Stand p l e room4 s m #[(.ref a1), (.long q2)] below meth c T14 L15 0 0) (N17 : Fr n0 L15) (Zs : n0 ≤ T14.heap.size) (Kp : Keep h0 T14.heap [a1]) (v25l3 : Int64) (hv25l3 : v25l3 = (if ((((lsr (fn5 w1) (1 : Int32)) - ((lsr (fn5 w1) (1 : Int32)) - ((lsr (fn5 w1) (1 : Int32)) / q2) * q2)) + (q2 - (1 : Int64))) < (0 : Int64)) then (lsr (fn5 (w1 + (-7046029254386353131 : Int64))) (1 : Int32)) else (lsr (fn5 w1) (1 : Int32)))) (v25l5 : Int64) (hv25l5 : v25l5 = (if ((((lsr (fn5 w1) (1 : Int32)) - ((lsr (fn5 w1) (1 : Int32)) - ((lsr (fn5 w1) (1 : Int32)) / q2) * q2)) + (q2 - (1 : Int64))) < (0 : Int64)) then ((lsr (fn5 (w1 + (-7046029254386353131 : Int64))) (1 : Int32)) - ((lsr (fn5 (w1 + (-7046029254386353131 : Int64))) (1 : Int32)) / q2) * q2) else ((lsr (fn5 w1) (1 : Int32)) - ((lsr (fn5 w1) (1 : Int32)) / q2) * q2))) (v25f0_0 : Int64) (hv25f0_0 : v25f0_0 = (if ((((lsr (fn5 w1) (1 : Int32)) - ((lsr (fn5 w1) (1 : Int32)) - ((lsr (fn5 w1) (1 : Int32)) / q2) * q2)) + (q2 - (1 : Int64))) < (0 : Int64)) then ((w1 + (-7046029254386353131 : Int64)) + (-7046029254386353131 : Int64)) else (w1 + (-7046029254386353131 : Int64)))) (R_a1 : Lot Z T14.heap a1 v25f0_0), Till p e below s (Q4 Z a1 q2 w1 h0 n0) room4.cells room4.slots (T14.setTop (mkF m 25 #[.val (.ref a1), .val (.long q2), .second, .val (.long v25l3), .second, .val (.long v25l5), .second] [])) := by
    intro T14 L15 X16 N17 Zs Kp v25l3 hv25l3 v25l5 hv25l5 v25f0_0 hv25f0_0 R_a1
    show Till p e below s (Q4 Z a1 q2 w1 h0 n0) room4.cells room4.slots (T14.setTop (mkF m 25 #[.val (.ref a1), .val (.long q2), .second, .val (.long v25l3), .second, .val (.long v25l5), .second] []))
    refine Till.pre (fun _ hr => XS.lload X16.here hx rfl (hb hby d4_25) rfl hr) ?_
    show Till p e below s (Q4 Z a1 q2 w1 h0 n0) room4.cells room4.slots (T14.setTop (mkF m 27 #[.val (.ref a1), .val (.long q2), .second, .val (.long v25l3), .second, .val (.long v25l5), .second] [(.long v25l5)]))
    refine Till.retJ X16 hx hret hlk (hb hby d4_27) (by decide) (by decide) ?_
    subst hv25f0_0 hv25l5 hv25l3
    show (Q4 Z a1 q2 w1 h0 n0) _ T14.heap _
    exact ⟨rfl, N17, Kp, R_a1⟩
  refine Till.ifc (pc' := 28) X3.here hx (hb hby d4_22) (by decide) (by decide) (fun q => ?_) (fun q => ?_)
  · have hc7 := (lLt.mp (hLt.1 q))
    show Till p e below s (Q4 Z a1 q2 w1 h0 n0) room4.cells room4.slots (T1.setTop (mkF m 28 #[.val (.ref a1), .val (.long q2), .second, .val (.long (lsr (fn5 w1) (1 : Int32))), .second, .val (.long ((lsr (fn5 w1) (1 : Int32)) - ((lsr (fn5 w1) (1 : Int32)) / q2) * q2)), .second] []))
    refine Till.pre (fun _ hr => XS.goto X3.here hx rfl (pc0 := 28) (pc' := 0) rfl (hb hby d4_28) (by decide) (by decide) hr) ?_
    show Till p e below s (Q4 Z a1 q2 w1 h0 n0) room4.cells room4.slots (T1.setTop (mkF m 0 #[.val (.ref a1), .val (.long q2), .second, .val (.long (lsr (fn5 w1) (1 : Int32))), .second, .val (.long ((lsr (fn5 w1) (1 : Int32)) - ((lsr (fn5 w1) (1 : Int32)) / q2) * q2)), .second] []))
    refine Till.pre (fun _ hr => XS.aloadN X3.here hx rfl (hb hby d4_0) rfl rfl hr) ?_
    show Till p e below s (Q4 Z a1 q2 w1 h0 n0) room4.cells room4.slots (T1.setTop (mkF m 1 #[.val (.ref a1), .val (.long q2), .second, .val (.long (lsr (fn5 w1) (1 : Int32))), .second, .val (.long ((lsr (fn5 w1) (1 : Int32)) - ((lsr (fn5 w1) (1 : Int32)) / q2) * q2)), .second] [(.ref a1)]))
    refine Till.callV (rm5 l Z a0 hw a1 (w1 + (-7046029254386353131 : Int64)) T1.heap n0 Zs R_a1 g_a1) R_a1.1 X3 hx hZ hown (hw _ (List.mem_of_getElem? (i := 26) rfl)) (hw _ (List.mem_of_getElem? (i := 27) rfl)) (hw _ (List.mem_of_getElem? (i := 29) rfl)) (hw _ (List.mem_of_getElem? (i := 28) rfl)) (hw _ (List.mem_of_getElem? (i := 4) rfl)) (hw _ (List.mem_of_getElem? (i := 30) rfl)) (by decide) (by decide) (W := 0) (by decide) (by rw [hml]; rfl) (a := a1) (argsL := []) (rest := []) (lenOf pd4_0 rfl) rfl rfl (Nat.le_of_eq rfl) (hb hby d4_1) rfl (by decide) (by decide) ?_
    rintro _ T8 L9 X10 ⟨rfl, N11, K12, q13⟩
    have N11 := Fr.app N4 N11
    have Zs := Nat.le_trans Zs K12.1
    have Kp := Kp.trans K12 (allS (Or.inl (List.mem_of_getElem? (i := 0) rfl)) all0)
    have R_a1 : Lot Z T8.heap a1 ((w1 + (-7046029254386353131 : Int64)) + (-7046029254386353131 : Int64)) := q13
    show Till p e below s (Q4 Z a1 q2 w1 h0 n0) room4.cells room4.slots (T8.setTop (mkF m 4 #[.val (.ref a1), .val (.long q2), .second, .val (.long (lsr (fn5 w1) (1 : Int32))), .second, .val (.long ((lsr (fn5 w1) (1 : Int32)) - ((lsr (fn5 w1) (1 : Int32)) / q2) * q2)), .second] [(.long (fn5 (w1 + (-7046029254386353131 : Int64))))]))
    refine Till.pre (fun _ hr => XS.iconst X10.here hx rfl (hb hby d4_4) hr) ?_
    show Till p e below s (Q4 Z a1 q2 w1 h0 n0) room4.cells room4.slots (T8.setTop (mkF m 5 #[.val (.ref a1), .val (.long q2), .second, .val (.long (lsr (fn5 w1) (1 : Int32))), .second, .val (.long ((lsr (fn5 w1) (1 : Int32)) - ((lsr (fn5 w1) (1 : Int32)) / q2) * q2)), .second] [(.int (1 : Int32)), (.long (fn5 (w1 + (-7046029254386353131 : Int64))))]))
    refine Till.pre (fun _ hr => XS.lushr X10.here hx rfl (hb hby d4_5) rfl hr) ?_
    show Till p e below s (Q4 Z a1 q2 w1 h0 n0) room4.cells room4.slots (T8.setTop (mkF m 6 #[.val (.ref a1), .val (.long q2), .second, .val (.long (lsr (fn5 w1) (1 : Int32))), .second, .val (.long ((lsr (fn5 w1) (1 : Int32)) - ((lsr (fn5 w1) (1 : Int32)) / q2) * q2)), .second] [(.long (lsr (fn5 (w1 + (-7046029254386353131 : Int64))) (1 : Int32)))]))
    refine Till.pre (fun _ hr => XS.lstoreN X10.here hx rfl (hb hby d4_6) rfl (l' := #[.val (.ref a1), .val (.long q2), .second, .val (.long (lsr (fn5 (w1 + (-7046029254386353131 : Int64))) (1 : Int32))), .second, .val (.long ((lsr (fn5 w1) (1 : Int32)) - ((lsr (fn5 w1) (1 : Int32)) / q2) * q2)), .second]) rfl hr) ?_
    show Till p e below s (Q4 Z a1 q2 w1 h0 n0) room4.cells room4.slots (T8.setTop (mkF m 7 #[.val (.ref a1), .val (.long q2), .second, .val (.long (lsr (fn5 (w1 + (-7046029254386353131 : Int64))) (1 : Int32))), .second, .val (.long ((lsr (fn5 w1) (1 : Int32)) - ((lsr (fn5 w1) (1 : Int32)) / q2) * q2)), .second] []))
    refine Till.pre (fun _ hr => XS.lloadN X10.here hx rfl (hb hby d4_7) rfl hr) ?_
    show Till p e below s (Q4 Z a1 q2 w1 h0 n0) room4.cells room4.slots (T8.setTop (mkF m 8 #[.val (.ref a1), .val (.long q2), .second, .val (.long (lsr (fn5 (w1 + (-7046029254386353131 : Int64))) (1 : Int32))), .second, .val (.long ((lsr (fn5 w1) (1 : Int32)) - ((lsr (fn5 w1) (1 : Int32)) / q2) * q2)), .second] [(.long (lsr (fn5 (w1 + (-7046029254386353131 : Int64))) (1 : Int32)))]))
    refine Till.pre (fun _ hr => XS.lloadN X10.here hx rfl (hb hby d4_8) rfl hr) ?_
    show Till p e below s (Q4 Z a1 q2 w1 h0 n0) room4.cells room4.slots (T8.setTop (mkF m 9 #[.val (.ref a1), .val (.long q2), .second, .val (.long (lsr (fn5 (w1 + (-7046029254386353131 : Int64))) (1 : Int32))), .second, .val (.long ((lsr (fn5 w1) (1 : Int32)) - ((lsr (fn5 w1) (1 : Int32)) / q2) * q2)), .second] [(.long q2), (.long (lsr (fn5 (w1 + (-7046029254386353131 : Int64))) (1 : Int32)))]))
    refine Till.pre (fun _ hr => XS.lrem X10.here hx rfl (hb hby d4_9) rfl (own_nz hn) hr) ?_
    show Till p e below s (Q4 Z a1 q2 w1 h0 n0) room4.cells room4.slots (T8.setTop (mkF m 10 #[.val (.ref a1), .val (.long q2), .second, .val (.long (lsr (fn5 (w1 + (-7046029254386353131 : Int64))) (1 : Int32))), .second, .val (.long ((lsr (fn5 w1) (1 : Int32)) - ((lsr (fn5 w1) (1 : Int32)) / q2) * q2)), .second] [(.long ((lsr (fn5 (w1 + (-7046029254386353131 : Int64))) (1 : Int32)) - ((lsr (fn5 (w1 + (-7046029254386353131 : Int64))) (1 : Int32)) / q2) * q2))]))
    refine Till.pre (fun _ hr => XS.lstore X10.here hx rfl (hb hby d4_10) rfl (l' := #[.val (.ref a1), .val (.long q2), .second, .val (.long (lsr (fn5 (w1 + (-7046029254386353131 : Int64))) (1 : Int32))), .second, .val (.long ((lsr (fn5 (w1 + (-7046029254386353131 : Int64))) (1 : Int32)) - ((lsr (fn5 (w1 + (-7046029254386353131 : Int64))) (1 : Int32)) / q2) * q2)), .second]) rfl hr) ?_
    show Till p e below s (Q4 Z a1 q2 w1 h0 n0) room4.cells room4.slots (T8.setTop (mkF m 12 #[.val (.ref a1), .val (.long q2), .second, .val (.long (lsr (fn5 (w1 + (-7046029254386353131 : Int64))) (1 : Int32))), .second, .val (.long ((lsr (fn5 (w1 + (-7046029254386353131 : Int64))) (1 : Int32)) - ((lsr (fn5 (w1 + (-7046029254386353131 : Int64))) (1 : Int32)) / q2) * q2)), .second] []))
    refine Till.pre (fun _ hr => XS.lloadN X10.here hx rfl (hb hby d4_12) rfl hr) ?_
    show Till p e below s (Q4 Z a1 q2 w1 h0 n0) room4.cells room4.slots (T8.setTop (mkF m 13 #[.val (.ref a1), .val (.long q2), .second, .val (.long (lsr (fn5 (w1 + (-7046029254386353131 : Int64))) (1 : Int32))), .second, .val (.long ((lsr (fn5 (w1 + (-7046029254386353131 : Int64))) (1 : Int32)) - ((lsr (fn5 (w1 + (-7046029254386353131 : Int64))) (1 : Int32)) / q2) * q2)), .second] [(.long (lsr (fn5 (w1 + (-7046029254386353131 : Int64))) (1 : Int32)))]))
    refine Till.pre (fun _ hr => XS.lload X10.here hx rfl (hb hby d4_13) rfl hr) ?_
    show Till p e below s (Q4 Z a1 q2 w1 h0 n0) room4.cells room4.slots (T8.setTop (mkF m 15 #[.val (.ref a1), .val (.long q2), .second, .val (.long (lsr (fn5 (w1 + (-7046029254386353131 : Int64))) (1 : Int32))), .second, .val (.long ((lsr (fn5 (w1 + (-7046029254386353131 : Int64))) (1 : Int32)) - ((lsr (fn5 (w1 + (-7046029254386353131 : Int64))) (1 : Int32)) / q2) * q2)), .second] [(.long ((lsr (fn5 (w1 + (-7046029254386353131 : Int64))) (1 : Int32)) - ((lsr (fn5 (w1 + (-7046029254386353131 : Int64))) (1 : Int32)) / q2) * q2)), (.long (lsr (fn5 (w1 + (-7046029254386353131 : Int64))) (1 : Int32)))]))
    refine Till.pre (fun _ hr => XS.lsub X10.here hx rfl (hb hby d4_15) rfl hr) ?_
    show Till p e below s (Q4 Z a1 q2 w1 h0 n0) room4.cells room4.slots (T8.setTop (mkF m 16 #[.val (.ref a1), .val (.long q2), .second, .val (.long (lsr (fn5 (w1 + (-7046029254386353131 : Int64))) (1 : Int32))), .second, .val (.long ((lsr (fn5 (w1 + (-7046029254386353131 : Int64))) (1 : Int32)) - ((lsr (fn5 (w1 + (-7046029254386353131 : Int64))) (1 : Int32)) / q2) * q2)), .second] [(.long ((lsr (fn5 (w1 + (-7046029254386353131 : Int64))) (1 : Int32)) - ((lsr (fn5 (w1 + (-7046029254386353131 : Int64))) (1 : Int32)) - ((lsr (fn5 (w1 + (-7046029254386353131 : Int64))) (1 : Int32)) / q2) * q2)))]))
    refine Till.pre (fun _ hr => XS.lloadN X10.here hx rfl (hb hby d4_16) rfl hr) ?_
    show Till p e below s (Q4 Z a1 q2 w1 h0 n0) room4.cells room4.slots (T8.setTop (mkF m 17 #[.val (.ref a1), .val (.long q2), .second, .val (.long (lsr (fn5 (w1 + (-7046029254386353131 : Int64))) (1 : Int32))), .second, .val (.long ((lsr (fn5 (w1 + (-7046029254386353131 : Int64))) (1 : Int32)) - ((lsr (fn5 (w1 + (-7046029254386353131 : Int64))) (1 : Int32)) / q2) * q2)), .second] [(.long q2), (.long ((lsr (fn5 (w1 + (-7046029254386353131 : Int64))) (1 : Int32)) - ((lsr (fn5 (w1 + (-7046029254386353131 : Int64))) (1 : Int32)) - ((lsr (fn5 (w1 + (-7046029254386353131 : Int64))) (1 : Int32)) / q2) * q2)))]))
    refine Till.pre (fun _ hr => XS.lconst X10.here hx rfl (hb hby d4_17) hr) ?_
    show Till p e below s (Q4 Z a1 q2 w1 h0 n0) room4.cells room4.slots (T8.setTop (mkF m 18 #[.val (.ref a1), .val (.long q2), .second, .val (.long (lsr (fn5 (w1 + (-7046029254386353131 : Int64))) (1 : Int32))), .second, .val (.long ((lsr (fn5 (w1 + (-7046029254386353131 : Int64))) (1 : Int32)) - ((lsr (fn5 (w1 + (-7046029254386353131 : Int64))) (1 : Int32)) / q2) * q2)), .second] [(.long (1 : Int64)), (.long q2), (.long ((lsr (fn5 (w1 + (-7046029254386353131 : Int64))) (1 : Int32)) - ((lsr (fn5 (w1 + (-7046029254386353131 : Int64))) (1 : Int32)) - ((lsr (fn5 (w1 + (-7046029254386353131 : Int64))) (1 : Int32)) / q2) * q2)))]))
    refine Till.pre (fun _ hr => XS.lsub X10.here hx rfl (hb hby d4_18) rfl hr) ?_
    show Till p e below s (Q4 Z a1 q2 w1 h0 n0) room4.cells room4.slots (T8.setTop (mkF m 19 #[.val (.ref a1), .val (.long q2), .second, .val (.long (lsr (fn5 (w1 + (-7046029254386353131 : Int64))) (1 : Int32))), .second, .val (.long ((lsr (fn5 (w1 + (-7046029254386353131 : Int64))) (1 : Int32)) - ((lsr (fn5 (w1 + (-7046029254386353131 : Int64))) (1 : Int32)) / q2) * q2)), .second] [(.long (q2 - (1 : Int64))), (.long ((lsr (fn5 (w1 + (-7046029254386353131 : Int64))) (1 : Int32)) - ((lsr (fn5 (w1 + (-7046029254386353131 : Int64))) (1 : Int32)) - ((lsr (fn5 (w1 + (-7046029254386353131 : Int64))) (1 : Int32)) / q2) * q2)))]))
    refine Till.pre (fun _ hr => XS.ladd X10.here hx rfl (hb hby d4_19) rfl hr) ?_
    show Till p e below s (Q4 Z a1 q2 w1 h0 n0) room4.cells room4.slots (T8.setTop (mkF m 20 #[.val (.ref a1), .val (.long q2), .second, .val (.long (lsr (fn5 (w1 + (-7046029254386353131 : Int64))) (1 : Int32))), .second, .val (.long ((lsr (fn5 (w1 + (-7046029254386353131 : Int64))) (1 : Int32)) - ((lsr (fn5 (w1 + (-7046029254386353131 : Int64))) (1 : Int32)) / q2) * q2)), .second] [(.long (((lsr (fn5 (w1 + (-7046029254386353131 : Int64))) (1 : Int32)) - ((lsr (fn5 (w1 + (-7046029254386353131 : Int64))) (1 : Int32)) - ((lsr (fn5 (w1 + (-7046029254386353131 : Int64))) (1 : Int32)) / q2) * q2)) + (q2 - (1 : Int64))))]))
    refine Till.pre (fun _ hr => XS.lconst X10.here hx rfl (hb hby d4_20) hr) ?_
    show Till p e below s (Q4 Z a1 q2 w1 h0 n0) room4.cells room4.slots (T8.setTop (mkF m 21 #[.val (.ref a1), .val (.long q2), .second, .val (.long (lsr (fn5 (w1 + (-7046029254386353131 : Int64))) (1 : Int32))), .second, .val (.long ((lsr (fn5 (w1 + (-7046029254386353131 : Int64))) (1 : Int32)) - ((lsr (fn5 (w1 + (-7046029254386353131 : Int64))) (1 : Int32)) / q2) * q2)), .second] [(.long (0 : Int64)), (.long (((lsr (fn5 (w1 + (-7046029254386353131 : Int64))) (1 : Int32)) - ((lsr (fn5 (w1 + (-7046029254386353131 : Int64))) (1 : Int32)) - ((lsr (fn5 (w1 + (-7046029254386353131 : Int64))) (1 : Int32)) / q2) * q2)) + (q2 - (1 : Int64))))]))
    refine Till.pre (fun _ hr => XS.lcmp X10.here hx rfl (hb hby d4_21) rfl hr) ?_
    show Till p e below s (Q4 Z a1 q2 w1 h0 n0) room4.cells room4.slots (T8.setTop (mkF m 22 #[.val (.ref a1), .val (.long q2), .second, .val (.long (lsr (fn5 (w1 + (-7046029254386353131 : Int64))) (1 : Int32))), .second, .val (.long ((lsr (fn5 (w1 + (-7046029254386353131 : Int64))) (1 : Int32)) - ((lsr (fn5 (w1 + (-7046029254386353131 : Int64))) (1 : Int32)) / q2) * q2)), .second] [(.int (lcmpW (((lsr (fn5 (w1 + (-7046029254386353131 : Int64))) (1 : Int32)) - ((lsr (fn5 (w1 + (-7046029254386353131 : Int64))) (1 : Int32)) - ((lsr (fn5 (w1 + (-7046029254386353131 : Int64))) (1 : Int32)) / q2) * q2)) + (q2 - (1 : Int64))) (0 : Int64)))]))
    refine Till.ifc (pc' := 28) X10.here hx (hb hby d4_22) (by decide) (by decide) (fun q => absurd (lLt.mp (hLt.1 q)) (own_next hc7 hn : ¬ ((((lsr (fn5 (w1 + (-7046029254386353131 : Int64))) (1 : Int32)) - ((lsr (fn5 (w1 + (-7046029254386353131 : Int64))) (1 : Int32)) - ((lsr (fn5 (w1 + (-7046029254386353131 : Int64))) (1 : Int32)) / q2) * q2)) + (q2 - (1 : Int64))) < (0 : Int64)))) (fun q => ?_)
    show Till p e below s (Q4 Z a1 q2 w1 h0 n0) room4.cells room4.slots (T8.setTop (mkF m 25 #[.val (.ref a1), .val (.long q2), .second, .val (.long (lsr (fn5 (w1 + (-7046029254386353131 : Int64))) (1 : Int32))), .second, .val (.long ((lsr (fn5 (w1 + (-7046029254386353131 : Int64))) (1 : Int32)) - ((lsr (fn5 (w1 + (-7046029254386353131 : Int64))) (1 : Int32)) / q2) * q2)), .second] []))
    exact J25_17 _ _ X10 N11 Zs Kp _ (Eq.symm (if_pos hc7)) _ (Eq.symm (if_pos hc7)) _ (Eq.symm (if_pos hc7)) R_a1
  · have hc7 := (mt lLt.mpr (hLt.2.1 q))
    show Till p e below s (Q4 Z a1 q2 w1 h0 n0) room4.cells room4.slots (T1.setTop (mkF m 25 #[.val (.ref a1), .val (.long q2), .second, .val (.long (lsr (fn5 w1) (1 : Int32))), .second, .val (.long ((lsr (fn5 w1) (1 : Int32)) - ((lsr (fn5 w1) (1 : Int32)) / q2) * q2)), .second] []))
    exact J25_17 _ _ X3 N4 Zs Kp _ (Eq.symm (if_neg hc7)) _ (Eq.symm (if_neg hc7)) _ (Eq.symm (if_neg hc7)) R_a1
theorem own_blr {w n : Int64} (hn : 1 ≤ n.toInt ∧ n.toInt ≤ 21) : 0 ≤ (fn4 n w).toInt ∧ (fn4 n w).toInt < n.toInt := by
  unfold fn4
  split
  · exact own_rr (w := w + (-7046029254386353131 : Int64)) hn.1
  · exact own_rr (w := w) hn.1
theorem own_blg {w n : Int64} (hn : 1 ≤ n.toInt ∧ n.toInt ≤ 21) : ¬ own_bad w n → fn4 n w = own_r w n := fun h => if_neg h
def own_tot (g : Nat → Int64) : Int64 := (g 0 + g 1) + g 2
def own_gs (g : Nat → Int64) : Prop := (0 ≤ (g 0).toInt ∧ (g 0).toInt ≤ 7) ∧ (0 ≤ (g 1).toInt ∧ (g 1).toInt ≤ 7) ∧ (0 ≤ (g 2).toInt ∧ (g 2).toInt ≤ 7)
def own_rest : Nat → (Nat → Int64) → Int
  | 0, g => (g 0).toInt + (g 1).toInt + (g 2).toInt
  | 1, g => (g 1).toInt + (g 2).toInt
  | 2, g => (g 2).toInt
  | _, _ => 0
def own_first (g : Nat → Int64) (f : Nat) : Prop := (f = 0 ∧ 0 < (g 0).toInt) ∨ (f = 1 ∧ (g 0).toInt = 0 ∧ 0 < (g 1).toInt) ∨ (f = 2 ∧ (g 0).toInt = 0 ∧ (g 1).toInt = 0 ∧ 0 < (g 2).toInt)
def own_I (i : Nat) (g : Nat → Int64) (cnt w0 k rem left W : Int64) (d : Nat → Int64) : Prop :=
  (0 ≤ k.toInt ∧ k.toInt ≤ (g i).toInt) ∧ ((0 ≤ (d 0).toInt ∧ (d 0).toInt ≤ (g 0).toInt) ∧ (0 ≤ (d 1).toInt ∧ (d 1).toInt ≤ (g 1).toInt) ∧ (0 ≤ (d 2).toInt ∧ (d 2).toInt ≤ (g 2).toInt)) ∧ (d i).toInt ≤ k.toInt ∧ (i < 1 → (d 1).toInt = 0) ∧ (i < 2 → (d 2).toInt = 0) ∧
  (d 0).toInt + (d 1).toInt + (d 2).toInt + left.toInt = cnt.toInt ∧ 0 ≤ left.toInt ∧ (left.toInt = 0 ∨ (rem.toInt = own_rest i g - k.toInt ∧ left.toInt ≤ rem.toInt)) ∧
  ((W = w0 ∧ left = cnt ∧ (cnt.toInt = 0 ∨ (own_rest 0 g = own_rest i g ∧ k.toInt = 0))) ∨ (∀ f, own_first g f → f ≤ i ∧ (¬ own_bad w0 (own_tot g) → ((own_r w0 (own_tot g)).toInt < cnt.toInt → 1 ≤ (d f).toInt) ∧ (¬ (own_r w0 (own_tot g)).toInt < cnt.toInt → (d f).toInt ≤ (g f).toInt - 1 ∧ (f = i → (d f).toInt ≤ k.toInt - 1)))))
def own_post (g : Nat → Int64) (cnt w0 : Int64) (d : Nat → Int64) : Prop :=
  ((0 ≤ (d 0).toInt ∧ (d 0).toInt ≤ (g 0).toInt) ∧ (0 ≤ (d 1).toInt ∧ (d 1).toInt ≤ (g 1).toInt) ∧ (0 ≤ (d 2).toInt ∧ (d 2).toInt ≤ (g 2).toInt)) ∧ (d 0).toInt + (d 1).toInt + (d 2).toInt = cnt.toInt ∧
  ∀ f, own_first g f → ¬ own_bad w0 (own_tot g) → ((own_r w0 (own_tot g)).toInt < cnt.toInt → 1 ≤ (d f).toInt) ∧ (¬ (own_r w0 (own_tot g)).toInt < cnt.toInt → (d f).toInt ≤ (g f).toInt - 1)
theorem own_add {a b : Int64} {A B : Int} (ha : 0 ≤ a.toInt ∧ a.toInt ≤ A) (hb : 0 ≤ b.toInt ∧ b.toInt ≤ B) (h : A + B < 1000) : (a + b).toInt = a.toInt + b.toInt := by
  have := c_ladd a b
  have := rng64 (a + b)
  omega
theorem own_tt {g : Nat → Int64} (G : own_gs g) : (own_tot g).toInt = own_rest 0 g := by
  have a := own_add G.1 G.2.1 (by decide)
  have b := own_add (a := g 0 + g 1) (A := 14) (by have := G.1; have := G.2.1; omega) G.2.2 (by decide)
  show ((g 0 + g 1) + g 2).toInt = (g 0).toInt + (g 1).toInt + (g 2).toInt
  omega
theorem own_tt' {g : Nat → Int64} : (((0 : Int64) + (g 0)) + (g 1)) + (g 2) = own_tot g := by
  show _ = (g 0 + g 1) + g 2
  rw [Int64.zero_add]
theorem own_sum0 {g : Nat → Int64} (G : own_gs g) : -9223372036854775808 ≤ (0 : Int64).toInt + (g 0).toInt ∧ (0 : Int64).toInt + (g 0).toInt < 9223372036854775808 := by
  have := G.1
  have e : (0 : Int64).toInt = 0 := rfl
  omega
theorem own_sum1 {g : Nat → Int64} (G : own_gs g) : -9223372036854775808 ≤ ((0 : Int64) + (g 0)).toInt + (g 1).toInt ∧ ((0 : Int64) + (g 0)).toInt + (g 1).toInt < 9223372036854775808 := by
  rw [Int64.zero_add]
  have := G.1
  have := G.2.1
  omega
theorem own_sum2 {g : Nat → Int64} (G : own_gs g) : -9223372036854775808 ≤ (((0 : Int64) + (g 0)) + (g 1)).toInt + (g 2).toInt ∧ (((0 : Int64) + (g 0)) + (g 1)).toInt + (g 2).toInt < 9223372036854775808 := by
  rw [Int64.zero_add]
  have a := own_add G.1 G.2.1 (by decide)
  have := G.1
  have := G.2.1
  have := G.2.2
  omega
theorem own_c0 {c : Int64} {K : Int} (h : 0 ≤ c.toInt ∧ c.toInt ≤ K) : ¬ c < (0 : Int64) := fun q => by
  have : c.toInt < 0 := Int64.lt_iff_toInt_lt.mp q
  omega
theorem own_c1 {g : Nat → Int64} {c : Int64} (G : own_gs g) (h : 0 ≤ c.toInt ∧ c.toInt ≤ own_rest 0 g) : ¬ ((((0 : Int64) + (g 0)) + (g 1)) + (g 2)) < c := fun q => by
  rw [own_tt', Int64.lt_iff_toInt_lt, own_tt G] at q
  omega
theorem own_I0 {g : Nat → Int64} {c w : Int64} (G : own_gs g) (h : 0 ≤ c.toInt ∧ c.toInt ≤ own_rest 0 g) : own_I 0 g c w (0 : Int64) ((((0 : Int64) + (g 0)) + (g 1)) + (g 2)) c w (fun _ => (0 : Int64)) := by
  obtain ⟨g1, g2, g3⟩ := G
  have e : (0 : Int64).toInt = 0 := rfl
  have t : ((((0 : Int64) + (g 0)) + (g 1)) + (g 2)).toInt = own_rest 0 g := by rw [own_tt']; exact own_tt ⟨g1, g2, g3⟩
  have z0 : 0 ≤ (0 : Int64).toInt := Int.le_of_eq e.symm
  have zg : ∀ {x : Int}, 0 ≤ x → (0 : Int64).toInt ≤ x := fun q => by rw [e]; exact q
  have zs : (0 : Int64).toInt + (0 : Int64).toInt + (0 : Int64).toInt + c.toInt = c.toInt := by omega
  generalize (((0 : Int64) + (g 0)) + (g 1)) + (g 2) = tot at *
  exact ⟨⟨z0, zg g1.1⟩, ⟨⟨z0, zg g1.1⟩, ⟨z0, zg g2.1⟩, ⟨z0, zg g3.1⟩⟩, Int.le_refl _, fun _ => e, fun _ => e, zs, h.1, Or.inr ⟨by omega, by omega⟩, Or.inl ⟨rfl, rfl, Or.inr ⟨rfl, e⟩⟩⟩
theorem own_mu {G k : Int64} {fuel : Nat} (hm : (G.toInt - k.toInt).toNat < fuel + 1) (h : k < G) : (G.toInt - (k + (1 : Int64)).toInt).toNat < fuel := by
  have := Int64.lt_iff_toInt_lt.mp h
  have := c_ladd k 1
  have := rng64 (k + 1)
  have := rng64 k
  have := rng64 G
  have e : (1 : Int64).toInt = 1 := rfl
  omega
theorem own_step {i : Nat} (hi : i < 3) {g d : Nat → Int64} {cnt w0 k rem left W : Int64} (G : own_gs g) (I : own_I i g cnt w0 k rem left W d) (h1 : k < g i) (h2 : (0 : Int64) < left) : (1 ≤ rem.toInt ∧ rem.toInt ≤ 21) ∧ ∀ (x W' : Int64), (0 ≤ x.toInt ∧ x.toInt < rem.toInt) → (¬ own_bad W rem → x = own_r W rem) →
    ((x < left → own_I i g cnt w0 (k + (1 : Int64)) (rem - (1 : Int64)) (left - (1 : Int64)) W' (oupd d i ((d i) + (1 : Int64)))) ∧ (¬ x < left → own_I i g cnt w0 (k + (1 : Int64)) (rem - (1 : Int64)) left W' d)) := by
  have k1 := Int64.lt_iff_toInt_lt.mp h1
  have k2 : 0 < left.toInt := Int64.lt_iff_toInt_lt.mp h2
  obtain ⟨⟨a1, a2⟩, ⟨⟨b1, b2⟩, ⟨b3, b4⟩, ⟨b5, b6⟩⟩, c1, c2, c3, s1, s2, s3, P⟩ := I
  have G' := G
  obtain ⟨⟨g1, g2⟩, ⟨g3, g4⟩, ⟨g5, g6⟩⟩ := G
  have s4 : rem.toInt = own_rest i g - k.toInt ∧ left.toInt ≤ rem.toInt := by
    rcases s3 with h | h
    · omega
    · exact h
  have hr : own_rest i g ≤ 21 ∧ (g i).toInt ≤ own_rest i g ∧ (d i).toInt ≤ 7 := by
    rcases (show i = 0 ∨ i = 1 ∨ i = 2 by omega) with rfl | rfl | rfl <;> simp only [own_rest] <;> omega
  refine ⟨by omega, fun x W' hx hg => ?_⟩
  have e1 : (1 : Int64).toInt = 1 := rfl
  have n1 : (k + (1 : Int64)).toInt = k.toInt + 1 := by have := c_ladd k 1; have := rng64 (k + 1); omega
  have n2 : (rem - (1 : Int64)).toInt = rem.toInt - 1 := by have := c_lsub rem 1; have := rng64 (rem - 1); omega
  have n3 : (left - (1 : Int64)).toInt = left.toInt - 1 := by have := c_lsub left 1; have := rng64 (left - 1); omega
  have n4 : (d i + (1 : Int64)).toInt = (d i).toInt + 1 := by have := c_ladd (d i) 1; have := rng64 (d i + 1); have := rng64 (d i); omega
  generalize k + (1 : Int64) = k' at *
  generalize rem - (1 : Int64) = rem' at *
  generalize left - (1 : Int64) = left' at *
  generalize d i + (1 : Int64) = di' at *
  have key : (∀ f, own_first g f → f = i ∧ k.toInt = 0 ∧ (¬ own_bad w0 (own_tot g) → x.toInt = (own_r w0 (own_tot g)).toInt ∧ left.toInt = cnt.toInt)) ∨ (∀ f, own_first g f → f ≤ i ∧ (¬ own_bad w0 (own_tot g) → ((own_r w0 (own_tot g)).toInt < cnt.toInt → 1 ≤ (d f).toInt) ∧ (¬ (own_r w0 (own_tot g)).toInt < cnt.toInt → (d f).toInt ≤ (g f).toInt - 1 ∧ (f = i → (d f).toInt ≤ k.toInt - 1)))) := by
    rcases P with ⟨eW, eL, eC⟩ | B
    · left
      have eC' : own_rest 0 g = own_rest i g ∧ k.toInt = 0 := by
        rcases eC with h | h
        · rw [← eL] at h; omega
        · exact h
      have er0 : rem.toInt = own_rest 0 g := by omega
      have er : rem = own_tot g := Int64.toInt_inj.mp (er0.trans (own_tt G').symm)
      intro f hf
      refine ⟨?_, eC'.2, fun hb => ?_⟩
      · rcases (show i = 0 ∨ i = 1 ∨ i = 2 by omega) with rfl | rfl | rfl <;> simp only [own_rest] at eC' <;> rcases hf with ⟨rfl, h⟩ | ⟨rfl, h, h'⟩ | ⟨rfl, h, h', h''⟩ <;> omega
      · rw [hg (by rw [eW, er]; exact hb), eW, er, eL]; exact ⟨rfl, rfl⟩
    · exact Or.inr B
  clear P
  constructor
  · intro hlt
    have hlt' := Int64.lt_iff_toInt_lt.mp hlt
    have du : ∀ j, j ≠ i → oupd d i (di') j = d j := fun j hj => upd_miss hj
    have di : oupd d i (di') i = di' := upd_hit rfl
    have P' : ∀ f, own_first g f → f ≤ i ∧ (¬ own_bad w0 (own_tot g) → ((own_r w0 (own_tot g)).toInt < cnt.toInt → 1 ≤ (oupd d i (di') f).toInt) ∧ (¬ (own_r w0 (own_tot g)).toInt < cnt.toInt → (oupd d i (di') f).toInt ≤ (g f).toInt - 1 ∧ (f = i → (oupd d i (di') f).toInt ≤ k'.toInt - 1))) := by
      intro f hf
      revert key
      generalize (own_r w0 (own_tot g)).toInt = R0
      intro key
      rcases key with A | B
      · obtain ⟨rfl, hk, hx'⟩ := A f hf
        refine ⟨Nat.le_refl _, fun hb => ⟨fun _ => ?_, fun hn => ?_⟩⟩
        · have b0 : 0 ≤ (d f).toInt := by rcases (show f = 0 ∨ f = 1 ∨ f = 2 by omega) with rfl | rfl | rfl <;> assumption
          rw [di, n4]; omega
        · have := hx' hb; omega
      · obtain ⟨hfi, hB⟩ := B f hf
        refine ⟨hfi, fun hb => ⟨fun hlt => ?_, fun hn => ?_⟩⟩
        · have := (hB hb).1 hlt
          by_cases q : f = i
          · subst q; rw [di, n4]; omega
          · rw [du f q]; exact this
        · have := (hB hb).2 hn
          by_cases q : f = i
          · subst q; have := this.2 rfl; rw [di, n4, n1]; exact ⟨by omega, fun _ => by omega⟩
          · rw [du f q]; exact ⟨this.1, fun e => absurd e q⟩
    rcases (show i = 0 ∨ i = 1 ∨ i = 2 by omega) with rfl | rfl | rfl
    · refine ⟨by omega, ?_, by rw [di, n4, n1]; omega, fun h => ?_, fun h => ?_, ?_, by omega, ?_, Or.inr P'⟩
      · rw [di, du 1 (by decide), du 2 (by decide), n4]; omega
      · rw [du 1 (by decide)]; exact c2 h
      · rw [du 2 (by decide)]; exact c3 h
      · rw [di, du 1 (by decide), du 2 (by decide), n4, n3]; omega
      · rw [n1, n2, n3]; omega
    · refine ⟨by omega, ?_, by rw [di, n4, n1]; omega, fun h => absurd h (by decide), fun h => ?_, ?_, by omega, ?_, Or.inr P'⟩
      · rw [di, du 0 (by decide), du 2 (by decide), n4]; omega
      · rw [du 2 (by decide)]; exact c3 h
      · rw [di, du 0 (by decide), du 2 (by decide), n4, n3]; omega
      · rw [n1, n2, n3]; omega
    · refine ⟨by omega, ?_, by rw [di, n4, n1]; omega, fun h => absurd h (by decide), fun h => absurd h (by decide), ?_, by omega, ?_, Or.inr P'⟩
      · rw [di, du 0 (by decide), du 1 (by decide), n4]; omega
      · rw [di, du 0 (by decide), du 1 (by decide), n4, n3]; omega
      · rw [n1, n2, n3]; omega
  · intro hge
    have hge' : ¬ x.toInt < left.toInt := fun h => hge (Int64.lt_iff_toInt_lt.mpr h)
    have P' : ∀ f, own_first g f → f ≤ i ∧ (¬ own_bad w0 (own_tot g) → ((own_r w0 (own_tot g)).toInt < cnt.toInt → 1 ≤ (d f).toInt) ∧ (¬ (own_r w0 (own_tot g)).toInt < cnt.toInt → (d f).toInt ≤ (g f).toInt - 1 ∧ (f = i → (d f).toInt ≤ k'.toInt - 1))) := by
      intro f hf
      revert key
      generalize (own_r w0 (own_tot g)).toInt = R0
      intro key
      rcases key with A | B
      · obtain ⟨rfl, hk, hx'⟩ := A f hf
        refine ⟨Nat.le_refl _, fun hb => ⟨fun hlt => ?_, fun hn => ?_⟩⟩
        · have := hx' hb; omega
        · rw [n1]; exact ⟨by omega, fun _ => by omega⟩
      · obtain ⟨hfi, hB⟩ := B f hf
        refine ⟨hfi, fun hb => ⟨(hB hb).1, fun hn => ?_⟩⟩
        have := (hB hb).2 hn
        rw [n1]; exact ⟨this.1, fun e => by have := this.2 e; omega⟩
    exact ⟨by omega, by omega, by omega, c2, c3, by omega, by omega, by rw [n1, n2]; omega, Or.inr P'⟩
theorem own_exit {i : Nat} (hi : i < 2) {g d : Nat → Int64} {cnt w0 k rem left W : Int64} (G : own_gs g) (I : own_I i g cnt w0 k rem left W d) (h : ¬ k < g i ∨ ¬ (0 : Int64) < left) : own_I (i + 1) g cnt w0 (0 : Int64) rem left W d := by
  obtain ⟨⟨a1, a2⟩, ⟨⟨b1, b2⟩, ⟨b3, b4⟩, ⟨b5, b6⟩⟩, c1, c2, c3, s1, s2, s3, P⟩ := I
  obtain ⟨⟨g1, g2⟩, ⟨g3, g4⟩, ⟨g5, g6⟩⟩ := G
  have e : (0 : Int64).toInt = 0 := rfl
  have h' : (g i).toInt ≤ k.toInt ∨ left.toInt = 0 := by
    rcases h with h | h
    · exact Or.inl (Int.not_lt.mp fun q => h (Int64.lt_iff_toInt_lt.mpr q))
    · right
      have : ¬ 0 < left.toInt := fun q => h (Int64.lt_iff_toInt_lt.mpr q)
      omega
  have P' : (W = w0 ∧ left = cnt ∧ (cnt.toInt = 0 ∨ (own_rest 0 g = own_rest (i + 1) g ∧ (0 : Int64).toInt = 0))) ∨ (∀ f, own_first g f → f ≤ i + 1 ∧ (¬ own_bad w0 (own_tot g) → ((own_r w0 (own_tot g)).toInt < cnt.toInt → 1 ≤ (d f).toInt) ∧ (¬ (own_r w0 (own_tot g)).toInt < cnt.toInt → (d f).toInt ≤ (g f).toInt - 1 ∧ (f = i + 1 → (d f).toInt ≤ (0 : Int64).toInt - 1)))) := by
    rcases P with ⟨eW, eL, eC⟩ | B
    · refine Or.inl ⟨eW, eL, ?_⟩
      rcases h' with h' | h'
      · rcases eC with q | q
        · exact Or.inl q
        · right
          refine ⟨?_, e⟩
          rcases (show i = 0 ∨ i = 1 by omega) with rfl | rfl <;> simp only [own_rest] at q ⊢ <;> omega
      · left; rw [← eL]; exact h'
    · refine Or.inr fun f hf => ?_
      obtain ⟨hfi, hB⟩ := B f hf
      exact ⟨by omega, fun hb => ⟨(hB hb).1, fun hn => ⟨((hB hb).2 hn).1, fun q => by omega⟩⟩⟩
  rcases (show i = 0 ∨ i = 1 by omega) with rfl | rfl
  · have := c2 (by decide)
    simp only [own_rest] at s3
    show own_I 1 g cnt w0 (0 : Int64) rem left W d
    exact ⟨by omega, by omega, by omega, fun q => absurd q (by decide), fun _ => c3 (by decide), by omega, by omega, by simp only [own_rest]; omega, P'⟩
  · have := c3 (by decide)
    simp only [own_rest] at s3
    show own_I 2 g cnt w0 (0 : Int64) rem left W d
    exact ⟨by omega, by omega, by omega, fun q => absurd q (by decide), fun q => absurd q (by decide), by omega, by omega, by simp only [own_rest]; omega, P'⟩
theorem own_done {g d : Nat → Int64} {cnt w0 k rem left W : Int64} (G : own_gs g) (I : own_I 2 g cnt w0 k rem left W d) (h : ¬ k < g 2 ∨ ¬ (0 : Int64) < left) : own_post g cnt w0 d := by
  obtain ⟨⟨a1, a2⟩, b, c1, c2, c3, s1, s2, s3, P⟩ := I
  have h' : (g 2).toInt ≤ k.toInt ∨ left.toInt = 0 := by
    rcases h with h | h
    · exact Or.inl (Int.not_lt.mp fun q => h (Int64.lt_iff_toInt_lt.mpr q))
    · right
      have : ¬ 0 < left.toInt := fun q => h (Int64.lt_iff_toInt_lt.mpr q)
      omega
  simp only [own_rest] at s3
  have hl : left.toInt = 0 := by omega
  refine ⟨b, by omega, fun f hf hb => ?_⟩
  obtain ⟨⟨b1, b2⟩, ⟨b3, b4⟩, ⟨b5, b6⟩⟩ := b
  rcases P with ⟨eW, eL, eC⟩ | B
  · have hc : cnt.toInt = 0 := by rw [← eL]; exact hl
    have hr : 0 ≤ (own_r w0 (own_tot g)).toInt := by
      refine (own_rr (w := w0) ?_).1
      rw [own_tt G]
      obtain ⟨⟨g1, g2⟩, ⟨g3, g4⟩, ⟨g5, g6⟩⟩ := G
      simp only [own_rest]
      rcases hf with ⟨rfl, h⟩ | ⟨rfl, h, h''⟩ | ⟨rfl, h, h'', h3⟩ <;> omega
    refine ⟨fun q => by omega, fun _ => ?_⟩
    rcases hf with ⟨rfl, h⟩ | ⟨rfl, h, h''⟩ | ⟨rfl, h, h'', h3⟩ <;> omega
  · exact ⟨((B f hf).2 hb).1, fun hn => (((B f hf).2 hb).2 hn).1⟩
theorem d2_0 : decode prog_66_method_2_code 0 = .ok (.lconst 0, 1) := by decide +kernel
theorem d2_1 : decode prog_66_method_2_code 1 = .ok (.lstore 4, 2) := by decide +kernel
theorem d2_3 : decode prog_66_method_2_code 3 = .ok (.aload_n 1, 1) := by decide +kernel
theorem d2_4 : decode prog_66_method_2_code 4 = .ok (.astore 6, 2) := by decide +kernel
theorem d2_6 : decode prog_66_method_2_code 6 = .ok (.aload 6, 2) := by decide +kernel
theorem d2_8 : decode prog_66_method_2_code 8 = .ok (.arraylength, 1) := by decide +kernel
theorem d2_9 : decode prog_66_method_2_code 9 = .ok (.istore 7, 2) := by decide +kernel
theorem d2_11 : decode prog_66_method_2_code 11 = .ok (.iconst 0, 1) := by decide +kernel
theorem d2_12 : decode prog_66_method_2_code 12 = .ok (.istore 8, 2) := by decide +kernel
theorem d2_14 : decode prog_66_method_2_code 14 = .ok (.iload 8, 2) := by decide +kernel
theorem d2_16 : decode prog_66_method_2_code 16 = .ok (.iload 7, 2) := by decide +kernel
theorem d2_18 : decode prog_66_method_2_code 18 = .ok (.if_icmp .ge 25, 3) := by decide +kernel
theorem d2_21 : decode prog_66_method_2_code 21 = .ok (.aload 6, 2) := by decide +kernel
theorem d2_23 : decode prog_66_method_2_code 23 = .ok (.iload 8, 2) := by decide +kernel
theorem d2_25 : decode prog_66_method_2_code 25 = .ok (.laload, 1) := by decide +kernel
theorem d2_26 : decode prog_66_method_2_code 26 = .ok (.lstore 9, 2) := by decide +kernel
theorem d2_28 : decode prog_66_method_2_code 28 = .ok (.lload 4, 2) := by decide +kernel
theorem d2_30 : decode prog_66_method_2_code 30 = .ok (.lload 9, 2) := by decide +kernel
theorem d2_32 : decode prog_66_method_2_code 32 = .ok (.invokestatic 13, 3) := by decide +kernel
theorem d2_35 : decode prog_66_method_2_code 35 = .ok (.lstore 4, 2) := by decide +kernel
theorem d2_37 : decode prog_66_method_2_code 37 = .ok (.iinc 8 1, 3) := by decide +kernel
theorem d2_40 : decode prog_66_method_2_code 40 = .ok (.goto (-26), 3) := by decide +kernel
theorem d2_43 : decode prog_66_method_2_code 43 = .ok (.lload_n 2, 1) := by decide +kernel
theorem d2_44 : decode prog_66_method_2_code 44 = .ok (.lconst 0, 1) := by decide +kernel
theorem d2_45 : decode prog_66_method_2_code 45 = .ok (.lcmp, 1) := by decide +kernel
theorem d2_46 : decode prog_66_method_2_code 46 = .ok (.ifCond .lt 10, 3) := by decide +kernel
theorem d2_49 : decode prog_66_method_2_code 49 = .ok (.lload_n 2, 1) := by decide +kernel
theorem d2_50 : decode prog_66_method_2_code 50 = .ok (.lload 4, 2) := by decide +kernel
theorem d2_52 : decode prog_66_method_2_code 52 = .ok (.lcmp, 1) := by decide +kernel
theorem d2_53 : decode prog_66_method_2_code 53 = .ok (.ifCond .le 19, 3) := by decide +kernel
theorem d2_72 : decode prog_66_method_2_code 72 = .ok (.aload_n 1, 1) := by decide +kernel
theorem d2_73 : decode prog_66_method_2_code 73 = .ok (.arraylength, 1) := by decide +kernel
theorem d2_74 : decode prog_66_method_2_code 74 = .ok (.newarray .long, 2) := by decide +kernel
theorem d2_76 : decode prog_66_method_2_code 76 = .ok (.astore 6, 2) := by decide +kernel
theorem d2_78 : decode prog_66_method_2_code 78 = .ok (.lload_n 2, 1) := by decide +kernel
theorem d2_79 : decode prog_66_method_2_code 79 = .ok (.lstore 7, 2) := by decide +kernel
theorem d2_81 : decode prog_66_method_2_code 81 = .ok (.iconst 0, 1) := by decide +kernel
theorem d2_82 : decode prog_66_method_2_code 82 = .ok (.istore 9, 2) := by decide +kernel
theorem d2_84 : decode prog_66_method_2_code 84 = .ok (.iload 9, 2) := by decide +kernel
theorem d2_86 : decode prog_66_method_2_code 86 = .ok (.aload_n 1, 1) := by decide +kernel
theorem d2_87 : decode prog_66_method_2_code 87 = .ok (.arraylength, 1) := by decide +kernel
theorem d2_88 : decode prog_66_method_2_code 88 = .ok (.if_icmp .ge 71, 3) := by decide +kernel
theorem d2_91 : decode prog_66_method_2_code 91 = .ok (.lconst 0, 1) := by decide +kernel
theorem d2_92 : decode prog_66_method_2_code 92 = .ok (.lstore 10, 2) := by decide +kernel
theorem d2_94 : decode prog_66_method_2_code 94 = .ok (.lload 10, 2) := by decide +kernel
theorem d2_96 : decode prog_66_method_2_code 96 = .ok (.aload_n 1, 1) := by decide +kernel
theorem d2_97 : decode prog_66_method_2_code 97 = .ok (.iload 9, 2) := by decide +kernel
theorem d2_99 : decode prog_66_method_2_code 99 = .ok (.laload, 1) := by decide +kernel
theorem d2_100 : decode prog_66_method_2_code 100 = .ok (.lcmp, 1) := by decide +kernel
theorem d2_101 : decode prog_66_method_2_code 101 = .ok (.ifCond .ge 52, 3) := by decide +kernel
theorem d2_104 : decode prog_66_method_2_code 104 = .ok (.lload 7, 2) := by decide +kernel
theorem d2_106 : decode prog_66_method_2_code 106 = .ok (.lconst 0, 1) := by decide +kernel
theorem d2_107 : decode prog_66_method_2_code 107 = .ok (.lcmp, 1) := by decide +kernel
theorem d2_108 : decode prog_66_method_2_code 108 = .ok (.ifCond .le 45, 3) := by decide +kernel
theorem d2_111 : decode prog_66_method_2_code 111 = .ok (.aload_n 0, 1) := by decide +kernel
theorem d2_112 : decode prog_66_method_2_code 112 = .ok (.lload 4, 2) := by decide +kernel
theorem d2_114 : decode prog_66_method_2_code 114 = .ok (.invokevirtual 28, 3) := by decide +kernel
theorem d2_117 : decode prog_66_method_2_code 117 = .ok (.lload 7, 2) := by decide +kernel
theorem d2_119 : decode prog_66_method_2_code 119 = .ok (.lcmp, 1) := by decide +kernel
theorem d2_120 : decode prog_66_method_2_code 120 = .ok (.ifCond .ge 18, 3) := by decide +kernel
theorem d2_123 : decode prog_66_method_2_code 123 = .ok (.aload 6, 2) := by decide +kernel
theorem d2_125 : decode prog_66_method_2_code 125 = .ok (.iload 9, 2) := by decide +kernel
theorem d2_127 : decode prog_66_method_2_code 127 = .ok (.dup2, 1) := by decide +kernel
theorem d2_128 : decode prog_66_method_2_code 128 = .ok (.laload, 1) := by decide +kernel
theorem d2_129 : decode prog_66_method_2_code 129 = .ok (.lconst 1, 1) := by decide +kernel
theorem d2_130 : decode prog_66_method_2_code 130 = .ok (.ladd, 1) := by decide +kernel
theorem d2_131 : decode prog_66_method_2_code 131 = .ok (.lastore, 1) := by decide +kernel
theorem d2_132 : decode prog_66_method_2_code 132 = .ok (.lload 7, 2) := by decide +kernel
theorem d2_134 : decode prog_66_method_2_code 134 = .ok (.lconst 1, 1) := by decide +kernel
theorem d2_135 : decode prog_66_method_2_code 135 = .ok (.lsub, 1) := by decide +kernel
theorem d2_136 : decode prog_66_method_2_code 136 = .ok (.lstore 7, 2) := by decide +kernel
theorem d2_138 : decode prog_66_method_2_code 138 = .ok (.lload 4, 2) := by decide +kernel
theorem d2_140 : decode prog_66_method_2_code 140 = .ok (.lconst 1, 1) := by decide +kernel
theorem d2_141 : decode prog_66_method_2_code 141 = .ok (.lsub, 1) := by decide +kernel
theorem d2_142 : decode prog_66_method_2_code 142 = .ok (.lstore 4, 2) := by decide +kernel
theorem d2_144 : decode prog_66_method_2_code 144 = .ok (.lload 10, 2) := by decide +kernel
theorem d2_146 : decode prog_66_method_2_code 146 = .ok (.lconst 1, 1) := by decide +kernel
theorem d2_147 : decode prog_66_method_2_code 147 = .ok (.ladd, 1) := by decide +kernel
theorem d2_148 : decode prog_66_method_2_code 148 = .ok (.lstore 10, 2) := by decide +kernel
theorem d2_150 : decode prog_66_method_2_code 150 = .ok (.goto (-56), 3) := by decide +kernel
theorem d2_153 : decode prog_66_method_2_code 153 = .ok (.iinc 9 1, 3) := by decide +kernel
theorem d2_156 : decode prog_66_method_2_code 156 = .ok (.goto (-72), 3) := by decide +kernel
theorem d2_159 : decode prog_66_method_2_code 159 = .ok (.aload 6, 2) := by decide +kernel
theorem d2_161 : decode prog_66_method_2_code 161 = .ok (.areturn, 1) := by decide +kernel
theorem pd2_2 : parseMethodDescriptor "(J)J" = some ⟨[.long], some .long⟩ := by decide +kernel
theorem pd2_4 : parseMethodDescriptor "(JJ)J" = some ⟨[.long, .long], some .long⟩ := by decide +kernel
theorem ef_2 (m : MethodId) (a1 : Addr) (a2 : Addr) (q3 : Int64) : entryFrame m #[(.ref a1), (.ref a2), (.long q3)] 12 = mkF m 0 #[.val (.ref a1), .val (.ref a2), .val (.long q3), .second, .unset, .unset, .unset, .unset, .unset, .unset, .unset, .unset] [] := by first | (simp [entryFrame, mkF, argsToLocals, Value.category]; done) | rfl
def Q2 (Z : State) (a1 : Addr) (a2 : Addr) (q3 : Int64) (w1 : Int64) (g : Nat → Int64) (h0 : Heap) (n0 : Nat) : Option Value → Heap → List Loc → Prop := fun v h L => ∃ (b : Addr) (W' : Int64) (d : Nat → Int64), v = some (.ref b) ∧ Fr n0 L ∧ Keep h0 h [a1] ∧ h0.size ≤ b ∧ Lot Z h a1 W' ∧ LA Z h b (3 : Int32) d ∧ own_post g q3 w1 d
def room2 : Room := { frames := 2, cells := 1, slots := 3, locals := 32 }
set_option maxRecDepth 65536 in
set_option maxHeartbeats 40000000 in
theorem rm2 (l : Launch) (Z : State) (a0 : Array Value) (hw : ∀ d ∈ tables_1, d.before a0 Z = true) (a1 : Addr) (a2 : Addr) (q3 : Int64) (w1 : Int64) (g : Nat → Int64) (h0 : Heap) (n0 : Nat) (Zs : n0 ≤ h0.size) (R_a1 : Lot Z h0 a1 w1) (R_a2 : LA Z h0 a2 (3 : Int32) g) (g_a1 : n0 ≤ a1) (ne_a1_a2 : a1 ≠ a2) (hG : own_gs g) (hC : 0 ≤ q3.toInt ∧ q3.toInt ≤ own_rest 0 g) : Ctr l Z (⟨"com/example/bondroll/bondroll/util/Lot", "draw", "([JJ)[J"⟩ : MethodName) prog_66_method_2_code 12 (some (.array .long)) room2 #[(.ref a1), (.ref a2), (.long q3)] h0 (Q2 Z a1 a2 q3 w1 g h0 n0) := by
  refine Ctr.of (plainFor_of_name pn_1) ?_
  intro p e s m below meth c s₁ hx hby hml hown hnm hret hlk hZ e0 X0
  have hown : s.vm.findClass "com/example/bondroll/bondroll/util/Lot" = some m.cls := hown
  have hml : c.maxLocals = 12 := hml
  have hnm : meth.name = "draw" := hnm
  have hret : meth.sig.returnType = (some (.array .long)) := hret
  have N0 := Fr.nil n0
  refine Till.cast (ef_2 m a1 a2 q3) ?_
  have Kp := Keep.refl h0 [a1]
  show Till p e below s (Q2 Z a1 a2 q3 w1 g h0 n0) room2.cells room2.slots (s₁.setTop (mkF m 0 #[.val (.ref a1), .val (.ref a2), .val (.long q3), .second, .unset, .unset, .unset, .unset, .unset, .unset, .unset, .unset] []))
  refine Till.pre (fun _ hr => XS.lconst X0.here hx rfl (hb hby d2_0) hr) ?_
  show Till p e below s (Q2 Z a1 a2 q3 w1 g h0 n0) room2.cells room2.slots (s₁.setTop (mkF m 1 #[.val (.ref a1), .val (.ref a2), .val (.long q3), .second, .unset, .unset, .unset, .unset, .unset, .unset, .unset, .unset] [(.long (0 : Int64))]))
  refine Till.pre (fun _ hr => XS.lstore X0.here hx rfl (hb hby d2_1) rfl (l' := #[.val (.ref a1), .val (.ref a2), .val (.long q3), .second, .val (.long (0 : Int64)), .second, .unset, .unset, .unset, .unset, .unset, .unset]) rfl hr) ?_
  show Till p e below s (Q2 Z a1 a2 q3 w1 g h0 n0) room2.cells room2.slots (s₁.setTop (mkF m 3 #[.val (.ref a1), .val (.ref a2), .val (.long q3), .second, .val (.long (0 : Int64)), .second, .unset, .unset, .unset, .unset, .unset, .unset] []))
  refine Till.pre (fun _ hr => XS.aloadN X0.here hx rfl (hb hby d2_3) rfl rfl hr) ?_
  show Till p e below s (Q2 Z a1 a2 q3 w1 g h0 n0) room2.cells room2.slots (s₁.setTop (mkF m 4 #[.val (.ref a1), .val (.ref a2), .val (.long q3), .second, .val (.long (0 : Int64)), .second, .unset, .unset, .unset, .unset, .unset, .unset] [(.ref a2)]))
  refine Till.pre (fun _ hr => XS.astore X0.here hx rfl (hb hby d2_4) rfl rfl (l' := #[.val (.ref a1), .val (.ref a2), .val (.long q3), .second, .val (.long (0 : Int64)), .second, .val (.ref a2), .unset, .unset, .unset, .unset, .unset]) rfl hr) ?_
  show Till p e below s (Q2 Z a1 a2 q3 w1 g h0 n0) room2.cells room2.slots (s₁.setTop (mkF m 6 #[.val (.ref a1), .val (.ref a2), .val (.long q3), .second, .val (.long (0 : Int64)), .second, .val (.ref a2), .unset, .unset, .unset, .unset, .unset] []))
  refine Till.pre (fun _ hr => XS.aload X0.here hx rfl (hb hby d2_6) rfl rfl hr) ?_
  show Till p e below s (Q2 Z a1 a2 q3 w1 g h0 n0) room2.cells room2.slots (s₁.setTop (mkF m 8 #[.val (.ref a1), .val (.ref a2), .val (.long q3), .second, .val (.long (0 : Int64)), .second, .val (.ref a2), .unset, .unset, .unset, .unset, .unset] [(.ref a2)]))
  refine Till.alen R_a2 X0 hx hZ e0 (hb hby d2_8) ?_
  show Till p e below s (Q2 Z a1 a2 q3 w1 g h0 n0) room2.cells room2.slots (s₁.setTop (mkF m 9 #[.val (.ref a1), .val (.ref a2), .val (.long q3), .second, .val (.long (0 : Int64)), .second, .val (.ref a2), .unset, .unset, .unset, .unset, .unset] [(.int (3 : Int32))]))
  refine Till.pre (fun _ hr => XS.istore X0.here hx rfl (hb hby d2_9) rfl (l' := #[.val (.ref a1), .val (.ref a2), .val (.long q3), .second, .val (.long (0 : Int64)), .second, .val (.ref a2), .val (.int (3 : Int32)), .unset, .unset, .unset, .unset]) rfl hr) ?_
  show Till p e below s (Q2 Z a1 a2 q3 w1 g h0 n0) room2.cells room2.slots (s₁.setTop (mkF m 11 #[.val (.ref a1), .val (.ref a2), .val (.long q3), .second, .val (.long (0 : Int64)), .second, .val (.ref a2), .val (.int (3 : Int32)), .unset, .unset, .unset, .unset] []))
  refine Till.pre (fun _ hr => XS.iconst X0.here hx rfl (hb hby d2_11) hr) ?_
  show Till p e below s (Q2 Z a1 a2 q3 w1 g h0 n0) room2.cells room2.slots (s₁.setTop (mkF m 12 #[.val (.ref a1), .val (.ref a2), .val (.long q3), .second, .val (.long (0 : Int64)), .second, .val (.ref a2), .val (.int (3 : Int32)), .unset, .unset, .unset, .unset] [(.int (0 : Int32))]))
  refine Till.pre (fun _ hr => XS.istore X0.here hx rfl (hb hby d2_12) rfl (l' := #[.val (.ref a1), .val (.ref a2), .val (.long q3), .second, .val (.long (0 : Int64)), .second, .val (.ref a2), .val (.int (3 : Int32)), .val (.int (0 : Int32)), .unset, .unset, .unset]) rfl hr) ?_
  show Till p e below s (Q2 Z a1 a2 q3 w1 g h0 n0) room2.cells room2.slots (s₁.setTop (mkF m 14 #[.val (.ref a1), .val (.ref a2), .val (.long q3), .second, .val (.long (0 : Int64)), .second, .val (.ref a2), .val (.int (3 : Int32)), .val (.int (0 : Int32)), .unset, .unset, .unset] []))
  refine Till.pre (fun _ hr => XS.iload X0.here hx rfl (hb hby d2_14) rfl hr) ?_
  show Till p e below s (Q2 Z a1 a2 q3 w1 g h0 n0) room2.cells room2.slots (s₁.setTop (mkF m 16 #[.val (.ref a1), .val (.ref a2), .val (.long q3), .second, .val (.long (0 : Int64)), .second, .val (.ref a2), .val (.int (3 : Int32)), .val (.int (0 : Int32)), .unset, .unset, .unset] [(.int (0 : Int32))]))
  refine Till.pre (fun _ hr => XS.iload X0.here hx rfl (hb hby d2_16) rfl hr) ?_
  show Till p e below s (Q2 Z a1 a2 q3 w1 g h0 n0) room2.cells room2.slots (s₁.setTop (mkF m 18 #[.val (.ref a1), .val (.ref a2), .val (.long q3), .second, .val (.long (0 : Int64)), .second, .val (.ref a2), .val (.int (3 : Int32)), .val (.int (0 : Int32)), .unset, .unset, .unset] [(.int (3 : Int32)), (.int (0 : Int32))]))
  refine Till.icmp (pc' := 43) X0.here hx (hb hby d2_18) (by decide) (by decide) (fun q => absurd (by decide : ((0 : Int32) < (3 : Int32))) (hLt.2.2.1 q)) (fun q => ?_)
  show Till p e below s (Q2 Z a1 a2 q3 w1 g h0 n0) room2.cells room2.slots (s₁.setTop (mkF m 21 #[.val (.ref a1), .val (.ref a2), .val (.long q3), .second, .val (.long (0 : Int64)), .second, .val (.ref a2), .val (.int (3 : Int32)), .val (.int (0 : Int32)), .unset, .unset, .unset] []))
  refine Till.pre (fun _ hr => XS.aload X0.here hx rfl (hb hby d2_21) rfl rfl hr) ?_
  show Till p e below s (Q2 Z a1 a2 q3 w1 g h0 n0) room2.cells room2.slots (s₁.setTop (mkF m 23 #[.val (.ref a1), .val (.ref a2), .val (.long q3), .second, .val (.long (0 : Int64)), .second, .val (.ref a2), .val (.int (3 : Int32)), .val (.int (0 : Int32)), .unset, .unset, .unset] [(.ref a2)]))
  refine Till.pre (fun _ hr => XS.iload X0.here hx rfl (hb hby d2_23) rfl hr) ?_
  show Till p e below s (Q2 Z a1 a2 q3 w1 g h0 n0) room2.cells room2.slots (s₁.setTop (mkF m 25 #[.val (.ref a1), .val (.ref a2), .val (.long q3), .second, .val (.long (0 : Int64)), .second, .val (.ref a2), .val (.int (3 : Int32)), .val (.int (0 : Int32)), .unset, .unset, .unset] [(.int (0 : Int32)), (.ref a2)]))
  refine Till.laload R_a2 (by decide) (by decide) X0 hx hZ e0 (hb hby d2_25) ?_
  show Till p e below s (Q2 Z a1 a2 q3 w1 g h0 n0) room2.cells room2.slots (s₁.setTop (mkF m 26 #[.val (.ref a1), .val (.ref a2), .val (.long q3), .second, .val (.long (0 : Int64)), .second, .val (.ref a2), .val (.int (3 : Int32)), .val (.int (0 : Int32)), .unset, .unset, .unset] [(.long (g 0))]))
  refine Till.pre (fun _ hr => XS.lstore X0.here hx rfl (hb hby d2_26) rfl (l' := #[.val (.ref a1), .val (.ref a2), .val (.long q3), .second, .val (.long (0 : Int64)), .second, .val (.ref a2), .val (.int (3 : Int32)), .val (.int (0 : Int32)), .val (.long (g 0)), .second, .unset]) rfl hr) ?_
  show Till p e below s (Q2 Z a1 a2 q3 w1 g h0 n0) room2.cells room2.slots (s₁.setTop (mkF m 28 #[.val (.ref a1), .val (.ref a2), .val (.long q3), .second, .val (.long (0 : Int64)), .second, .val (.ref a2), .val (.int (3 : Int32)), .val (.int (0 : Int32)), .val (.long (g 0)), .second, .unset] []))
  refine Till.pre (fun _ hr => XS.lload X0.here hx rfl (hb hby d2_28) rfl hr) ?_
  show Till p e below s (Q2 Z a1 a2 q3 w1 g h0 n0) room2.cells room2.slots (s₁.setTop (mkF m 30 #[.val (.ref a1), .val (.ref a2), .val (.long q3), .second, .val (.long (0 : Int64)), .second, .val (.ref a2), .val (.int (3 : Int32)), .val (.int (0 : Int32)), .val (.long (g 0)), .second, .unset] [(.long (0 : Int64))]))
  refine Till.pre (fun _ hr => XS.lload X0.here hx rfl (hb hby d2_30) rfl hr) ?_
  show Till p e below s (Q2 Z a1 a2 q3 w1 g h0 n0) room2.cells room2.slots (s₁.setTop (mkF m 32 #[.val (.ref a1), .val (.ref a2), .val (.long q3), .second, .val (.long (0 : Int64)), .second, .val (.ref a2), .val (.int (3 : Int32)), .val (.int (0 : Int32)), .val (.long (g 0)), .second, .unset] [(.long (g 0)), (.long (0 : Int64))]))
  refine Till.callS (rm3 l Z a0 hw (0 : Int64) (g 0) h0 n0 (own_sum0 hG)) X0 hx hZ hown (hw _ (List.mem_of_getElem? (i := 18) rfl)) (hw _ (List.mem_of_getElem? (i := 19) rfl)) (hw _ (List.mem_of_getElem? (i := 20) rfl)) (hw _ (List.mem_of_getElem? (i := 21) rfl)) (by decide) (by decide) (W := 0) (by decide) (by rw [hml]; rfl) (argsL := [(.long (0 : Int64)), (.long (g 0))]) (rest := []) (lenOf pd2_4 rfl) rfl rfl (Nat.le_of_eq rfl) (hb hby d2_32) e0 (by decide) (by decide) ?_
  rintro _ T1 L2 X3 ⟨rfl, N4, e5⟩
  have N4 := Fr.app N0 N4
  show Till p e below s (Q2 Z a1 a2 q3 w1 g h0 n0) room2.cells room2.slots (T1.setTop (mkF m 35 #[.val (.ref a1), .val (.ref a2), .val (.long q3), .second, .val (.long (0 : Int64)), .second, .val (.ref a2), .val (.int (3 : Int32)), .val (.int (0 : Int32)), .val (.long (g 0)), .second, .unset] [(.long ((0 : Int64) + (g 0)))]))
  refine Till.pre (fun _ hr => XS.lstore X3.here hx rfl (hb hby d2_35) rfl (l' := #[.val (.ref a1), .val (.ref a2), .val (.long q3), .second, .val (.long ((0 : Int64) + (g 0))), .second, .val (.ref a2), .val (.int (3 : Int32)), .val (.int (0 : Int32)), .val (.long (g 0)), .second, .unset]) rfl hr) ?_
  show Till p e below s (Q2 Z a1 a2 q3 w1 g h0 n0) room2.cells room2.slots (T1.setTop (mkF m 37 #[.val (.ref a1), .val (.ref a2), .val (.long q3), .second, .val (.long ((0 : Int64) + (g 0))), .second, .val (.ref a2), .val (.int (3 : Int32)), .val (.int (0 : Int32)), .val (.long (g 0)), .second, .unset] []))
  refine Till.pre (fun _ hr => XS.iinc X3.here hx rfl (hb hby d2_37) rfl (l' := #[.val (.ref a1), .val (.ref a2), .val (.long q3), .second, .val (.long ((0 : Int64) + (g 0))), .second, .val (.ref a2), .val (.int (3 : Int32)), .val (.int (1 : Int32)), .val (.long (g 0)), .second, .unset]) rfl hr) ?_
  show Till p e below s (Q2 Z a1 a2 q3 w1 g h0 n0) room2.cells room2.slots (T1.setTop (mkF m 40 #[.val (.ref a1), .val (.ref a2), .val (.long q3), .second, .val (.long ((0 : Int64) + (g 0))), .second, .val (.ref a2), .val (.int (3 : Int32)), .val (.int (1 : Int32)), .val (.long (g 0)), .second, .unset] []))
  refine Till.pre (fun _ hr => XS.goto X3.here hx rfl (pc0 := 40) (pc' := 14) rfl (hb hby d2_40) (by decide) (by decide) hr) ?_
  show Till p e below s (Q2 Z a1 a2 q3 w1 g h0 n0) room2.cells room2.slots (T1.setTop (mkF m 14 #[.val (.ref a1), .val (.ref a2), .val (.long q3), .second, .val (.long ((0 : Int64) + (g 0))), .second, .val (.ref a2), .val (.int (3 : Int32)), .val (.int (1 : Int32)), .val (.long (g 0)), .second, .unset] []))
  refine Till.pre (fun _ hr => XS.iload X3.here hx rfl (hb hby d2_14) rfl hr) ?_
  show Till p e below s (Q2 Z a1 a2 q3 w1 g h0 n0) room2.cells room2.slots (T1.setTop (mkF m 16 #[.val (.ref a1), .val (.ref a2), .val (.long q3), .second, .val (.long ((0 : Int64) + (g 0))), .second, .val (.ref a2), .val (.int (3 : Int32)), .val (.int (1 : Int32)), .val (.long (g 0)), .second, .unset] [(.int (1 : Int32))]))
  refine Till.pre (fun _ hr => XS.iload X3.here hx rfl (hb hby d2_16) rfl hr) ?_
  show Till p e below s (Q2 Z a1 a2 q3 w1 g h0 n0) room2.cells room2.slots (T1.setTop (mkF m 18 #[.val (.ref a1), .val (.ref a2), .val (.long q3), .second, .val (.long ((0 : Int64) + (g 0))), .second, .val (.ref a2), .val (.int (3 : Int32)), .val (.int (1 : Int32)), .val (.long (g 0)), .second, .unset] [(.int (3 : Int32)), (.int (1 : Int32))]))
  refine Till.icmp (pc' := 43) X3.here hx (hb hby d2_18) (by decide) (by decide) (fun q => absurd (by decide : ((1 : Int32) < (3 : Int32))) (hLt.2.2.1 q)) (fun q => ?_)
  show Till p e below s (Q2 Z a1 a2 q3 w1 g h0 n0) room2.cells room2.slots (T1.setTop (mkF m 21 #[.val (.ref a1), .val (.ref a2), .val (.long q3), .second, .val (.long ((0 : Int64) + (g 0))), .second, .val (.ref a2), .val (.int (3 : Int32)), .val (.int (1 : Int32)), .val (.long (g 0)), .second, .unset] []))
  refine Till.pre (fun _ hr => XS.aload X3.here hx rfl (hb hby d2_21) rfl rfl hr) ?_
  show Till p e below s (Q2 Z a1 a2 q3 w1 g h0 n0) room2.cells room2.slots (T1.setTop (mkF m 23 #[.val (.ref a1), .val (.ref a2), .val (.long q3), .second, .val (.long ((0 : Int64) + (g 0))), .second, .val (.ref a2), .val (.int (3 : Int32)), .val (.int (1 : Int32)), .val (.long (g 0)), .second, .unset] [(.ref a2)]))
  refine Till.pre (fun _ hr => XS.iload X3.here hx rfl (hb hby d2_23) rfl hr) ?_
  show Till p e below s (Q2 Z a1 a2 q3 w1 g h0 n0) room2.cells room2.slots (T1.setTop (mkF m 25 #[.val (.ref a1), .val (.ref a2), .val (.long q3), .second, .val (.long ((0 : Int64) + (g 0))), .second, .val (.ref a2), .val (.int (3 : Int32)), .val (.int (1 : Int32)), .val (.long (g 0)), .second, .unset] [(.int (1 : Int32)), (.ref a2)]))
  refine Till.laload R_a2 (by decide) (by decide) X3 hx hZ e5 (hb hby d2_25) ?_
  show Till p e below s (Q2 Z a1 a2 q3 w1 g h0 n0) room2.cells room2.slots (T1.setTop (mkF m 26 #[.val (.ref a1), .val (.ref a2), .val (.long q3), .second, .val (.long ((0 : Int64) + (g 0))), .second, .val (.ref a2), .val (.int (3 : Int32)), .val (.int (1 : Int32)), .val (.long (g 0)), .second, .unset] [(.long (g 1))]))
  refine Till.pre (fun _ hr => XS.lstore X3.here hx rfl (hb hby d2_26) rfl (l' := #[.val (.ref a1), .val (.ref a2), .val (.long q3), .second, .val (.long ((0 : Int64) + (g 0))), .second, .val (.ref a2), .val (.int (3 : Int32)), .val (.int (1 : Int32)), .val (.long (g 1)), .second, .unset]) rfl hr) ?_
  show Till p e below s (Q2 Z a1 a2 q3 w1 g h0 n0) room2.cells room2.slots (T1.setTop (mkF m 28 #[.val (.ref a1), .val (.ref a2), .val (.long q3), .second, .val (.long ((0 : Int64) + (g 0))), .second, .val (.ref a2), .val (.int (3 : Int32)), .val (.int (1 : Int32)), .val (.long (g 1)), .second, .unset] []))
  refine Till.pre (fun _ hr => XS.lload X3.here hx rfl (hb hby d2_28) rfl hr) ?_
  show Till p e below s (Q2 Z a1 a2 q3 w1 g h0 n0) room2.cells room2.slots (T1.setTop (mkF m 30 #[.val (.ref a1), .val (.ref a2), .val (.long q3), .second, .val (.long ((0 : Int64) + (g 0))), .second, .val (.ref a2), .val (.int (3 : Int32)), .val (.int (1 : Int32)), .val (.long (g 1)), .second, .unset] [(.long ((0 : Int64) + (g 0)))]))
  refine Till.pre (fun _ hr => XS.lload X3.here hx rfl (hb hby d2_30) rfl hr) ?_
  show Till p e below s (Q2 Z a1 a2 q3 w1 g h0 n0) room2.cells room2.slots (T1.setTop (mkF m 32 #[.val (.ref a1), .val (.ref a2), .val (.long q3), .second, .val (.long ((0 : Int64) + (g 0))), .second, .val (.ref a2), .val (.int (3 : Int32)), .val (.int (1 : Int32)), .val (.long (g 1)), .second, .unset] [(.long (g 1)), (.long ((0 : Int64) + (g 0)))]))
  refine Till.callS (rm3 l Z a0 hw ((0 : Int64) + (g 0)) (g 1) h0 n0 (own_sum1 hG)) X3 hx hZ hown (hw _ (List.mem_of_getElem? (i := 18) rfl)) (hw _ (List.mem_of_getElem? (i := 19) rfl)) (hw _ (List.mem_of_getElem? (i := 20) rfl)) (hw _ (List.mem_of_getElem? (i := 21) rfl)) (by decide) (by decide) (W := 0) (by decide) (by rw [hml]; rfl) (argsL := [(.long ((0 : Int64) + (g 0))), (.long (g 1))]) (rest := []) (lenOf pd2_4 rfl) rfl rfl (Nat.le_of_eq rfl) (hb hby d2_32) e5 (by decide) (by decide) ?_
  rintro _ T6 L7 X8 ⟨rfl, N9, e10⟩
  have N9 := Fr.app N4 N9
  show Till p e below s (Q2 Z a1 a2 q3 w1 g h0 n0) room2.cells room2.slots (T6.setTop (mkF m 35 #[.val (.ref a1), .val (.ref a2), .val (.long q3), .second, .val (.long ((0 : Int64) + (g 0))), .second, .val (.ref a2), .val (.int (3 : Int32)), .val (.int (1 : Int32)), .val (.long (g 1)), .second, .unset] [(.long (((0 : Int64) + (g 0)) + (g 1)))]))
  refine Till.pre (fun _ hr => XS.lstore X8.here hx rfl (hb hby d2_35) rfl (l' := #[.val (.ref a1), .val (.ref a2), .val (.long q3), .second, .val (.long (((0 : Int64) + (g 0)) + (g 1))), .second, .val (.ref a2), .val (.int (3 : Int32)), .val (.int (1 : Int32)), .val (.long (g 1)), .second, .unset]) rfl hr) ?_
  show Till p e below s (Q2 Z a1 a2 q3 w1 g h0 n0) room2.cells room2.slots (T6.setTop (mkF m 37 #[.val (.ref a1), .val (.ref a2), .val (.long q3), .second, .val (.long (((0 : Int64) + (g 0)) + (g 1))), .second, .val (.ref a2), .val (.int (3 : Int32)), .val (.int (1 : Int32)), .val (.long (g 1)), .second, .unset] []))
  refine Till.pre (fun _ hr => XS.iinc X8.here hx rfl (hb hby d2_37) rfl (l' := #[.val (.ref a1), .val (.ref a2), .val (.long q3), .second, .val (.long (((0 : Int64) + (g 0)) + (g 1))), .second, .val (.ref a2), .val (.int (3 : Int32)), .val (.int (2 : Int32)), .val (.long (g 1)), .second, .unset]) rfl hr) ?_
  show Till p e below s (Q2 Z a1 a2 q3 w1 g h0 n0) room2.cells room2.slots (T6.setTop (mkF m 40 #[.val (.ref a1), .val (.ref a2), .val (.long q3), .second, .val (.long (((0 : Int64) + (g 0)) + (g 1))), .second, .val (.ref a2), .val (.int (3 : Int32)), .val (.int (2 : Int32)), .val (.long (g 1)), .second, .unset] []))
  refine Till.pre (fun _ hr => XS.goto X8.here hx rfl (pc0 := 40) (pc' := 14) rfl (hb hby d2_40) (by decide) (by decide) hr) ?_
  show Till p e below s (Q2 Z a1 a2 q3 w1 g h0 n0) room2.cells room2.slots (T6.setTop (mkF m 14 #[.val (.ref a1), .val (.ref a2), .val (.long q3), .second, .val (.long (((0 : Int64) + (g 0)) + (g 1))), .second, .val (.ref a2), .val (.int (3 : Int32)), .val (.int (2 : Int32)), .val (.long (g 1)), .second, .unset] []))
  refine Till.pre (fun _ hr => XS.iload X8.here hx rfl (hb hby d2_14) rfl hr) ?_
  show Till p e below s (Q2 Z a1 a2 q3 w1 g h0 n0) room2.cells room2.slots (T6.setTop (mkF m 16 #[.val (.ref a1), .val (.ref a2), .val (.long q3), .second, .val (.long (((0 : Int64) + (g 0)) + (g 1))), .second, .val (.ref a2), .val (.int (3 : Int32)), .val (.int (2 : Int32)), .val (.long (g 1)), .second, .unset] [(.int (2 : Int32))]))
  refine Till.pre (fun _ hr => XS.iload X8.here hx rfl (hb hby d2_16) rfl hr) ?_
  show Till p e below s (Q2 Z a1 a2 q3 w1 g h0 n0) room2.cells room2.slots (T6.setTop (mkF m 18 #[.val (.ref a1), .val (.ref a2), .val (.long q3), .second, .val (.long (((0 : Int64) + (g 0)) + (g 1))), .second, .val (.ref a2), .val (.int (3 : Int32)), .val (.int (2 : Int32)), .val (.long (g 1)), .second, .unset] [(.int (3 : Int32)), (.int (2 : Int32))]))
  refine Till.icmp (pc' := 43) X8.here hx (hb hby d2_18) (by decide) (by decide) (fun q => absurd (by decide : ((2 : Int32) < (3 : Int32))) (hLt.2.2.1 q)) (fun q => ?_)
  show Till p e below s (Q2 Z a1 a2 q3 w1 g h0 n0) room2.cells room2.slots (T6.setTop (mkF m 21 #[.val (.ref a1), .val (.ref a2), .val (.long q3), .second, .val (.long (((0 : Int64) + (g 0)) + (g 1))), .second, .val (.ref a2), .val (.int (3 : Int32)), .val (.int (2 : Int32)), .val (.long (g 1)), .second, .unset] []))
  refine Till.pre (fun _ hr => XS.aload X8.here hx rfl (hb hby d2_21) rfl rfl hr) ?_
  show Till p e below s (Q2 Z a1 a2 q3 w1 g h0 n0) room2.cells room2.slots (T6.setTop (mkF m 23 #[.val (.ref a1), .val (.ref a2), .val (.long q3), .second, .val (.long (((0 : Int64) + (g 0)) + (g 1))), .second, .val (.ref a2), .val (.int (3 : Int32)), .val (.int (2 : Int32)), .val (.long (g 1)), .second, .unset] [(.ref a2)]))
  refine Till.pre (fun _ hr => XS.iload X8.here hx rfl (hb hby d2_23) rfl hr) ?_
  show Till p e below s (Q2 Z a1 a2 q3 w1 g h0 n0) room2.cells room2.slots (T6.setTop (mkF m 25 #[.val (.ref a1), .val (.ref a2), .val (.long q3), .second, .val (.long (((0 : Int64) + (g 0)) + (g 1))), .second, .val (.ref a2), .val (.int (3 : Int32)), .val (.int (2 : Int32)), .val (.long (g 1)), .second, .unset] [(.int (2 : Int32)), (.ref a2)]))
  refine Till.laload R_a2 (by decide) (by decide) X8 hx hZ e10 (hb hby d2_25) ?_
  show Till p e below s (Q2 Z a1 a2 q3 w1 g h0 n0) room2.cells room2.slots (T6.setTop (mkF m 26 #[.val (.ref a1), .val (.ref a2), .val (.long q3), .second, .val (.long (((0 : Int64) + (g 0)) + (g 1))), .second, .val (.ref a2), .val (.int (3 : Int32)), .val (.int (2 : Int32)), .val (.long (g 1)), .second, .unset] [(.long (g 2))]))
  refine Till.pre (fun _ hr => XS.lstore X8.here hx rfl (hb hby d2_26) rfl (l' := #[.val (.ref a1), .val (.ref a2), .val (.long q3), .second, .val (.long (((0 : Int64) + (g 0)) + (g 1))), .second, .val (.ref a2), .val (.int (3 : Int32)), .val (.int (2 : Int32)), .val (.long (g 2)), .second, .unset]) rfl hr) ?_
  show Till p e below s (Q2 Z a1 a2 q3 w1 g h0 n0) room2.cells room2.slots (T6.setTop (mkF m 28 #[.val (.ref a1), .val (.ref a2), .val (.long q3), .second, .val (.long (((0 : Int64) + (g 0)) + (g 1))), .second, .val (.ref a2), .val (.int (3 : Int32)), .val (.int (2 : Int32)), .val (.long (g 2)), .second, .unset] []))
  refine Till.pre (fun _ hr => XS.lload X8.here hx rfl (hb hby d2_28) rfl hr) ?_
  show Till p e below s (Q2 Z a1 a2 q3 w1 g h0 n0) room2.cells room2.slots (T6.setTop (mkF m 30 #[.val (.ref a1), .val (.ref a2), .val (.long q3), .second, .val (.long (((0 : Int64) + (g 0)) + (g 1))), .second, .val (.ref a2), .val (.int (3 : Int32)), .val (.int (2 : Int32)), .val (.long (g 2)), .second, .unset] [(.long (((0 : Int64) + (g 0)) + (g 1)))]))
  refine Till.pre (fun _ hr => XS.lload X8.here hx rfl (hb hby d2_30) rfl hr) ?_
  show Till p e below s (Q2 Z a1 a2 q3 w1 g h0 n0) room2.cells room2.slots (T6.setTop (mkF m 32 #[.val (.ref a1), .val (.ref a2), .val (.long q3), .second, .val (.long (((0 : Int64) + (g 0)) + (g 1))), .second, .val (.ref a2), .val (.int (3 : Int32)), .val (.int (2 : Int32)), .val (.long (g 2)), .second, .unset] [(.long (g 2)), (.long (((0 : Int64) + (g 0)) + (g 1)))]))
  refine Till.callS (rm3 l Z a0 hw (((0 : Int64) + (g 0)) + (g 1)) (g 2) h0 n0 (own_sum2 hG)) X8 hx hZ hown (hw _ (List.mem_of_getElem? (i := 18) rfl)) (hw _ (List.mem_of_getElem? (i := 19) rfl)) (hw _ (List.mem_of_getElem? (i := 20) rfl)) (hw _ (List.mem_of_getElem? (i := 21) rfl)) (by decide) (by decide) (W := 0) (by decide) (by rw [hml]; rfl) (argsL := [(.long (((0 : Int64) + (g 0)) + (g 1))), (.long (g 2))]) (rest := []) (lenOf pd2_4 rfl) rfl rfl (Nat.le_of_eq rfl) (hb hby d2_32) e10 (by decide) (by decide) ?_
  rintro _ T11 L12 X13 ⟨rfl, N14, e15⟩
  have N14 := Fr.app N9 N14
  show Till p e below s (Q2 Z a1 a2 q3 w1 g h0 n0) room2.cells room2.slots (T11.setTop (mkF m 35 #[.val (.ref a1), .val (.ref a2), .val (.long q3), .second, .val (.long (((0 : Int64) + (g 0)) + (g 1))), .second, .val (.ref a2), .val (.int (3 : Int32)), .val (.int (2 : Int32)), .val (.long (g 2)), .second, .unset] [(.long ((((0 : Int64) + (g 0)) + (g 1)) + (g 2)))]))
  refine Till.pre (fun _ hr => XS.lstore X13.here hx rfl (hb hby d2_35) rfl (l' := #[.val (.ref a1), .val (.ref a2), .val (.long q3), .second, .val (.long ((((0 : Int64) + (g 0)) + (g 1)) + (g 2))), .second, .val (.ref a2), .val (.int (3 : Int32)), .val (.int (2 : Int32)), .val (.long (g 2)), .second, .unset]) rfl hr) ?_
  show Till p e below s (Q2 Z a1 a2 q3 w1 g h0 n0) room2.cells room2.slots (T11.setTop (mkF m 37 #[.val (.ref a1), .val (.ref a2), .val (.long q3), .second, .val (.long ((((0 : Int64) + (g 0)) + (g 1)) + (g 2))), .second, .val (.ref a2), .val (.int (3 : Int32)), .val (.int (2 : Int32)), .val (.long (g 2)), .second, .unset] []))
  refine Till.pre (fun _ hr => XS.iinc X13.here hx rfl (hb hby d2_37) rfl (l' := #[.val (.ref a1), .val (.ref a2), .val (.long q3), .second, .val (.long ((((0 : Int64) + (g 0)) + (g 1)) + (g 2))), .second, .val (.ref a2), .val (.int (3 : Int32)), .val (.int (3 : Int32)), .val (.long (g 2)), .second, .unset]) rfl hr) ?_
  show Till p e below s (Q2 Z a1 a2 q3 w1 g h0 n0) room2.cells room2.slots (T11.setTop (mkF m 40 #[.val (.ref a1), .val (.ref a2), .val (.long q3), .second, .val (.long ((((0 : Int64) + (g 0)) + (g 1)) + (g 2))), .second, .val (.ref a2), .val (.int (3 : Int32)), .val (.int (3 : Int32)), .val (.long (g 2)), .second, .unset] []))
  refine Till.pre (fun _ hr => XS.goto X13.here hx rfl (pc0 := 40) (pc' := 14) rfl (hb hby d2_40) (by decide) (by decide) hr) ?_
  show Till p e below s (Q2 Z a1 a2 q3 w1 g h0 n0) room2.cells room2.slots (T11.setTop (mkF m 14 #[.val (.ref a1), .val (.ref a2), .val (.long q3), .second, .val (.long ((((0 : Int64) + (g 0)) + (g 1)) + (g 2))), .second, .val (.ref a2), .val (.int (3 : Int32)), .val (.int (3 : Int32)), .val (.long (g 2)), .second, .unset] []))
  refine Till.pre (fun _ hr => XS.iload X13.here hx rfl (hb hby d2_14) rfl hr) ?_
  show Till p e below s (Q2 Z a1 a2 q3 w1 g h0 n0) room2.cells room2.slots (T11.setTop (mkF m 16 #[.val (.ref a1), .val (.ref a2), .val (.long q3), .second, .val (.long ((((0 : Int64) + (g 0)) + (g 1)) + (g 2))), .second, .val (.ref a2), .val (.int (3 : Int32)), .val (.int (3 : Int32)), .val (.long (g 2)), .second, .unset] [(.int (3 : Int32))]))
  refine Till.pre (fun _ hr => XS.iload X13.here hx rfl (hb hby d2_16) rfl hr) ?_
  show Till p e below s (Q2 Z a1 a2 q3 w1 g h0 n0) room2.cells room2.slots (T11.setTop (mkF m 18 #[.val (.ref a1), .val (.ref a2), .val (.long q3), .second, .val (.long ((((0 : Int64) + (g 0)) + (g 1)) + (g 2))), .second, .val (.ref a2), .val (.int (3 : Int32)), .val (.int (3 : Int32)), .val (.long (g 2)), .second, .unset] [(.int (3 : Int32)), (.int (3 : Int32))]))
  refine Till.icmp (pc' := 43) X13.here hx (hb hby d2_18) (by decide) (by decide) (fun q => ?_) (fun q => absurd (hLt.2.2.2.1 q) (by decide : ¬ ((3 : Int32) < (3 : Int32))))
  show Till p e below s (Q2 Z a1 a2 q3 w1 g h0 n0) room2.cells room2.slots (T11.setTop (mkF m 43 #[.val (.ref a1), .val (.ref a2), .val (.long q3), .second, .val (.long ((((0 : Int64) + (g 0)) + (g 1)) + (g 2))), .second, .val (.ref a2), .val (.int (3 : Int32)), .val (.int (3 : Int32)), .val (.long (g 2)), .second, .unset] []))
  refine Till.pre (fun _ hr => XS.lloadN X13.here hx rfl (hb hby d2_43) rfl hr) ?_
  show Till p e below s (Q2 Z a1 a2 q3 w1 g h0 n0) room2.cells room2.slots (T11.setTop (mkF m 44 #[.val (.ref a1), .val (.ref a2), .val (.long q3), .second, .val (.long ((((0 : Int64) + (g 0)) + (g 1)) + (g 2))), .second, .val (.ref a2), .val (.int (3 : Int32)), .val (.int (3 : Int32)), .val (.long (g 2)), .second, .unset] [(.long q3)]))
  refine Till.pre (fun _ hr => XS.lconst X13.here hx rfl (hb hby d2_44) hr) ?_
  show Till p e below s (Q2 Z a1 a2 q3 w1 g h0 n0) room2.cells room2.slots (T11.setTop (mkF m 45 #[.val (.ref a1), .val (.ref a2), .val (.long q3), .second, .val (.long ((((0 : Int64) + (g 0)) + (g 1)) + (g 2))), .second, .val (.ref a2), .val (.int (3 : Int32)), .val (.int (3 : Int32)), .val (.long (g 2)), .second, .unset] [(.long (0 : Int64)), (.long q3)]))
  refine Till.pre (fun _ hr => XS.lcmp X13.here hx rfl (hb hby d2_45) rfl hr) ?_
  show Till p e below s (Q2 Z a1 a2 q3 w1 g h0 n0) room2.cells room2.slots (T11.setTop (mkF m 46 #[.val (.ref a1), .val (.ref a2), .val (.long q3), .second, .val (.long ((((0 : Int64) + (g 0)) + (g 1)) + (g 2))), .second, .val (.ref a2), .val (.int (3 : Int32)), .val (.int (3 : Int32)), .val (.long (g 2)), .second, .unset] [(.int (lcmpW q3 (0 : Int64)))]))
  refine Till.ifc (pc' := 56) X13.here hx (hb hby d2_46) (by decide) (by decide) (fun q => absurd (lLt.mp (hLt.1 q)) (own_c0 hC : ¬ (q3 < (0 : Int64)))) (fun q => ?_)
  show Till p e below s (Q2 Z a1 a2 q3 w1 g h0 n0) room2.cells room2.slots (T11.setTop (mkF m 49 #[.val (.ref a1), .val (.ref a2), .val (.long q3), .second, .val (.long ((((0 : Int64) + (g 0)) + (g 1)) + (g 2))), .second, .val (.ref a2), .val (.int (3 : Int32)), .val (.int (3 : Int32)), .val (.long (g 2)), .second, .unset] []))
  refine Till.pre (fun _ hr => XS.lloadN X13.here hx rfl (hb hby d2_49) rfl hr) ?_
  show Till p e below s (Q2 Z a1 a2 q3 w1 g h0 n0) room2.cells room2.slots (T11.setTop (mkF m 50 #[.val (.ref a1), .val (.ref a2), .val (.long q3), .second, .val (.long ((((0 : Int64) + (g 0)) + (g 1)) + (g 2))), .second, .val (.ref a2), .val (.int (3 : Int32)), .val (.int (3 : Int32)), .val (.long (g 2)), .second, .unset] [(.long q3)]))
  refine Till.pre (fun _ hr => XS.lload X13.here hx rfl (hb hby d2_50) rfl hr) ?_
  show Till p e below s (Q2 Z a1 a2 q3 w1 g h0 n0) room2.cells room2.slots (T11.setTop (mkF m 52 #[.val (.ref a1), .val (.ref a2), .val (.long q3), .second, .val (.long ((((0 : Int64) + (g 0)) + (g 1)) + (g 2))), .second, .val (.ref a2), .val (.int (3 : Int32)), .val (.int (3 : Int32)), .val (.long (g 2)), .second, .unset] [(.long ((((0 : Int64) + (g 0)) + (g 1)) + (g 2))), (.long q3)]))
  refine Till.pre (fun _ hr => XS.lcmp X13.here hx rfl (hb hby d2_52) rfl hr) ?_
  show Till p e below s (Q2 Z a1 a2 q3 w1 g h0 n0) room2.cells room2.slots (T11.setTop (mkF m 53 #[.val (.ref a1), .val (.ref a2), .val (.long q3), .second, .val (.long ((((0 : Int64) + (g 0)) + (g 1)) + (g 2))), .second, .val (.ref a2), .val (.int (3 : Int32)), .val (.int (3 : Int32)), .val (.long (g 2)), .second, .unset] [(.int (lcmpW q3 ((((0 : Int64) + (g 0)) + (g 1)) + (g 2))))]))
  refine Till.ifc (pc' := 72) X13.here hx (hb hby d2_53) (by decide) (by decide) (fun q => ?_) (fun q => absurd (lGt.mp (hLt.2.2.2.2.2.2.2 q)) (own_c1 hG hC : ¬ (((((0 : Int64) + (g 0)) + (g 1)) + (g 2)) < q3)))
  show Till p e below s (Q2 Z a1 a2 q3 w1 g h0 n0) room2.cells room2.slots (T11.setTop (mkF m 72 #[.val (.ref a1), .val (.ref a2), .val (.long q3), .second, .val (.long ((((0 : Int64) + (g 0)) + (g 1)) + (g 2))), .second, .val (.ref a2), .val (.int (3 : Int32)), .val (.int (3 : Int32)), .val (.long (g 2)), .second, .unset] []))
  refine Till.pre (fun _ hr => XS.aloadN X13.here hx rfl (hb hby d2_72) rfl rfl hr) ?_
  show Till p e below s (Q2 Z a1 a2 q3 w1 g h0 n0) room2.cells room2.slots (T11.setTop (mkF m 73 #[.val (.ref a1), .val (.ref a2), .val (.long q3), .second, .val (.long ((((0 : Int64) + (g 0)) + (g 1)) + (g 2))), .second, .val (.ref a2), .val (.int (3 : Int32)), .val (.int (3 : Int32)), .val (.long (g 2)), .second, .unset] [(.ref a2)]))
  refine Till.alen R_a2 X13 hx hZ e15 (hb hby d2_73) ?_
  show Till p e below s (Q2 Z a1 a2 q3 w1 g h0 n0) room2.cells room2.slots (T11.setTop (mkF m 74 #[.val (.ref a1), .val (.ref a2), .val (.long q3), .second, .val (.long ((((0 : Int64) + (g 0)) + (g 1)) + (g 2))), .second, .val (.ref a2), .val (.int (3 : Int32)), .val (.int (3 : Int32)), .val (.long (g 2)), .second, .unset] [(.int (3 : Int32))]))
  refine Till.newA (aty := .long) (w := Value.long) (d0 := (0 : Int64)) X13 hx hZ (hw _ (List.mem_of_getElem? (i := 1) rfl)) e15 (hb hby d2_74) rfl (by decide) 3 (by decide) (by decide) (by decide) (by decide) (fun T16 h17 b18 g19 X20 e21 E22 A23 => ?_)
  have ne_a1_b18 : a1 ≠ b18 := Nat.ne_of_lt (Nat.lt_of_lt_of_le R_a1.lt (Nat.le_of_eq g19.symm))
  have ne_a2_b18 : a2 ≠ b18 := Nat.ne_of_lt (Nat.lt_of_lt_of_le R_a2.lt (Nat.le_of_eq g19.symm))
  have g_b18 : n0 ≤ b18 := Nat.le_trans Zs (Nat.le_of_eq g19.symm)
  have sz_b18 : h0.size ≤ b18 := Nat.le_trans Kp.1 (Nat.le_of_eq g19.symm)
  have R_a1 := R_a1.ext E22
  have R_a2 := R_a2.ext E22
  have Zs := Nat.le_trans Zs E22.1
  have Kp := Kp.ext E22
  have R_b18 : LA Z h17 b18 (3 : Int32) (fun _ => (0 : Int64)) := A23
  show Till p e below s (Q2 Z a1 a2 q3 w1 g h0 n0) room2.cells room2.slots (T16.setTop (mkF m 76 #[.val (.ref a1), .val (.ref a2), .val (.long q3), .second, .val (.long ((((0 : Int64) + (g 0)) + (g 1)) + (g 2))), .second, .val (.ref a2), .val (.int (3 : Int32)), .val (.int (3 : Int32)), .val (.long (g 2)), .second, .unset] [(.ref b18)]))
  refine Till.pre (fun _ hr => XS.astore X20.here hx rfl (hb hby d2_76) rfl rfl (l' := #[.val (.ref a1), .val (.ref a2), .val (.long q3), .second, .val (.long ((((0 : Int64) + (g 0)) + (g 1)) + (g 2))), .second, .val (.ref b18), .val (.int (3 : Int32)), .val (.int (3 : Int32)), .val (.long (g 2)), .second, .unset]) rfl hr) ?_
  show Till p e below s (Q2 Z a1 a2 q3 w1 g h0 n0) room2.cells room2.slots (T16.setTop (mkF m 78 #[.val (.ref a1), .val (.ref a2), .val (.long q3), .second, .val (.long ((((0 : Int64) + (g 0)) + (g 1)) + (g 2))), .second, .val (.ref b18), .val (.int (3 : Int32)), .val (.int (3 : Int32)), .val (.long (g 2)), .second, .unset] []))
  refine Till.pre (fun _ hr => XS.lloadN X20.here hx rfl (hb hby d2_78) rfl hr) ?_
  show Till p e below s (Q2 Z a1 a2 q3 w1 g h0 n0) room2.cells room2.slots (T16.setTop (mkF m 79 #[.val (.ref a1), .val (.ref a2), .val (.long q3), .second, .val (.long ((((0 : Int64) + (g 0)) + (g 1)) + (g 2))), .second, .val (.ref b18), .val (.int (3 : Int32)), .val (.int (3 : Int32)), .val (.long (g 2)), .second, .unset] [(.long q3)]))
  refine Till.pre (fun _ hr => XS.lstore X20.here hx rfl (hb hby d2_79) rfl (l' := #[.val (.ref a1), .val (.ref a2), .val (.long q3), .second, .val (.long ((((0 : Int64) + (g 0)) + (g 1)) + (g 2))), .second, .val (.ref b18), .val (.long q3), .second, .val (.long (g 2)), .second, .unset]) rfl hr) ?_
  show Till p e below s (Q2 Z a1 a2 q3 w1 g h0 n0) room2.cells room2.slots (T16.setTop (mkF m 81 #[.val (.ref a1), .val (.ref a2), .val (.long q3), .second, .val (.long ((((0 : Int64) + (g 0)) + (g 1)) + (g 2))), .second, .val (.ref b18), .val (.long q3), .second, .val (.long (g 2)), .second, .unset] []))
  refine Till.pre (fun _ hr => XS.iconst X20.here hx rfl (hb hby d2_81) hr) ?_
  show Till p e below s (Q2 Z a1 a2 q3 w1 g h0 n0) room2.cells room2.slots (T16.setTop (mkF m 82 #[.val (.ref a1), .val (.ref a2), .val (.long q3), .second, .val (.long ((((0 : Int64) + (g 0)) + (g 1)) + (g 2))), .second, .val (.ref b18), .val (.long q3), .second, .val (.long (g 2)), .second, .unset] [(.int (0 : Int32))]))
  refine Till.pre (fun _ hr => XS.istore X20.here hx rfl (hb hby d2_82) rfl (l' := #[.val (.ref a1), .val (.ref a2), .val (.long q3), .second, .val (.long ((((0 : Int64) + (g 0)) + (g 1)) + (g 2))), .second, .val (.ref b18), .val (.long q3), .second, .val (.int (0 : Int32)), .unset, .unset]) rfl hr) ?_
  show Till p e below s (Q2 Z a1 a2 q3 w1 g h0 n0) room2.cells room2.slots (T16.setTop (mkF m 84 #[.val (.ref a1), .val (.ref a2), .val (.long q3), .second, .val (.long ((((0 : Int64) + (g 0)) + (g 1)) + (g 2))), .second, .val (.ref b18), .val (.long q3), .second, .val (.int (0 : Int32)), .unset, .unset] []))
  refine Till.pre (fun _ hr => XS.iload X20.here hx rfl (hb hby d2_84) rfl hr) ?_
  show Till p e below s (Q2 Z a1 a2 q3 w1 g h0 n0) room2.cells room2.slots (T16.setTop (mkF m 86 #[.val (.ref a1), .val (.ref a2), .val (.long q3), .second, .val (.long ((((0 : Int64) + (g 0)) + (g 1)) + (g 2))), .second, .val (.ref b18), .val (.long q3), .second, .val (.int (0 : Int32)), .unset, .unset] [(.int (0 : Int32))]))
  refine Till.pre (fun _ hr => XS.aloadN X20.here hx rfl (hb hby d2_86) rfl rfl hr) ?_
  show Till p e below s (Q2 Z a1 a2 q3 w1 g h0 n0) room2.cells room2.slots (T16.setTop (mkF m 87 #[.val (.ref a1), .val (.ref a2), .val (.long q3), .second, .val (.long ((((0 : Int64) + (g 0)) + (g 1)) + (g 2))), .second, .val (.ref b18), .val (.long q3), .second, .val (.int (0 : Int32)), .unset, .unset] [(.ref a2), (.int (0 : Int32))]))
  refine Till.alen R_a2 X20 hx hZ e21 (hb hby d2_87) ?_
  show Till p e below s (Q2 Z a1 a2 q3 w1 g h0 n0) room2.cells room2.slots (T16.setTop (mkF m 88 #[.val (.ref a1), .val (.ref a2), .val (.long q3), .second, .val (.long ((((0 : Int64) + (g 0)) + (g 1)) + (g 2))), .second, .val (.ref b18), .val (.long q3), .second, .val (.int (0 : Int32)), .unset, .unset] [(.int (3 : Int32)), (.int (0 : Int32))]))
  refine Till.icmp (pc' := 159) X20.here hx (hb hby d2_88) (by decide) (by decide) (fun q => absurd (by decide : ((0 : Int32) < (3 : Int32))) (hLt.2.2.1 q)) (fun q => ?_)
  show Till p e below s (Q2 Z a1 a2 q3 w1 g h0 n0) room2.cells room2.slots (T16.setTop (mkF m 91 #[.val (.ref a1), .val (.ref a2), .val (.long q3), .second, .val (.long ((((0 : Int64) + (g 0)) + (g 1)) + (g 2))), .second, .val (.ref b18), .val (.long q3), .second, .val (.int (0 : Int32)), .unset, .unset] []))
  refine Till.pre (fun _ hr => XS.lconst X20.here hx rfl (hb hby d2_91) hr) ?_
  show Till p e below s (Q2 Z a1 a2 q3 w1 g h0 n0) room2.cells room2.slots (T16.setTop (mkF m 92 #[.val (.ref a1), .val (.ref a2), .val (.long q3), .second, .val (.long ((((0 : Int64) + (g 0)) + (g 1)) + (g 2))), .second, .val (.ref b18), .val (.long q3), .second, .val (.int (0 : Int32)), .unset, .unset] [(.long (0 : Int64))]))
  refine Till.pre (fun _ hr => XS.lstore X20.here hx rfl (hb hby d2_92) rfl (l' := #[.val (.ref a1), .val (.ref a2), .val (.long q3), .second, .val (.long ((((0 : Int64) + (g 0)) + (g 1)) + (g 2))), .second, .val (.ref b18), .val (.long q3), .second, .val (.int (0 : Int32)), .val (.long (0 : Int64)), .second]) rfl hr) ?_
  have loop94_28 : ∀ (fuel : Nat) (T24 : State) (L25 : List Loc) (X26 : Stand p l e room2 s m #[(.ref a1), (.ref a2), (.long q3)] below meth c T24 L25 1 3) (N27 : Fr n0 L25) (k_0 : Int64) (left_0 : Int64) (rem_0 : Int64) (W_0 : Int64) (d_0 : Nat → Int64) (Zs : n0 ≤ T24.heap.size) (Kp : Keep h0 T24.heap [a1]) (R_a1 : Lot Z T24.heap a1 W_0) (R_a2 : LA Z T24.heap a2 (3 : Int32) g) (R_b18 : LA Z T24.heap b18 (3 : Int32) d_0) (I_0 : own_I 0 g q3 w1 k_0 rem_0 left_0 W_0 d_0) (hm : ((g 0).toInt - k_0.toInt).toNat < fuel), Till p e below s (Q2 Z a1 a2 q3 w1 g h0 n0) room2.cells room2.slots (T24.setTop (mkF m 94 #[.val (.ref a1), .val (.ref a2), .val (.long q3), .second, .val (.long rem_0), .second, .val (.ref b18), .val (.long left_0), .second, .val (.int (0 : Int32)), .val (.long k_0), .second] [])) := by
    intro fuel
    induction fuel with
    | zero => intro T24 L25 X26 N27 k_0 left_0 rem_0 W_0 d_0 Zs Kp R_a1 R_a2 R_b18 I_0 hm; exact absurd hm (Nat.not_lt_zero _)
    | succ fuel ih =>
      intro T24 L25 X26 N27 k_0 left_0 rem_0 W_0 d_0 Zs Kp R_a1 R_a2 R_b18 I_0 hm
      show Till p e below s (Q2 Z a1 a2 q3 w1 g h0 n0) room2.cells room2.slots (T24.setTop (mkF m 94 #[.val (.ref a1), .val (.ref a2), .val (.long q3), .second, .val (.long rem_0), .second, .val (.ref b18), .val (.long left_0), .second, .val (.int (0 : Int32)), .val (.long k_0), .second] []))
      refine Till.pre (fun _ hr => XS.lload X26.here hx rfl (hb hby d2_94) rfl hr) ?_
      show Till p e below s (Q2 Z a1 a2 q3 w1 g h0 n0) room2.cells room2.slots (T24.setTop (mkF m 96 #[.val (.ref a1), .val (.ref a2), .val (.long q3), .second, .val (.long rem_0), .second, .val (.ref b18), .val (.long left_0), .second, .val (.int (0 : Int32)), .val (.long k_0), .second] [(.long k_0)]))
      refine Till.pre (fun _ hr => XS.aloadN X26.here hx rfl (hb hby d2_96) rfl rfl hr) ?_
      show Till p e below s (Q2 Z a1 a2 q3 w1 g h0 n0) room2.cells room2.slots (T24.setTop (mkF m 97 #[.val (.ref a1), .val (.ref a2), .val (.long q3), .second, .val (.long rem_0), .second, .val (.ref b18), .val (.long left_0), .second, .val (.int (0 : Int32)), .val (.long k_0), .second] [(.ref a2), (.long k_0)]))
      refine Till.pre (fun _ hr => XS.iload X26.here hx rfl (hb hby d2_97) rfl hr) ?_
      show Till p e below s (Q2 Z a1 a2 q3 w1 g h0 n0) room2.cells room2.slots (T24.setTop (mkF m 99 #[.val (.ref a1), .val (.ref a2), .val (.long q3), .second, .val (.long rem_0), .second, .val (.ref b18), .val (.long left_0), .second, .val (.int (0 : Int32)), .val (.long k_0), .second] [(.int (0 : Int32)), (.ref a2), (.long k_0)]))
      refine Till.laload R_a2 (by decide) (by decide) X26 hx hZ rfl (hb hby d2_99) ?_
      show Till p e below s (Q2 Z a1 a2 q3 w1 g h0 n0) room2.cells room2.slots (T24.setTop (mkF m 100 #[.val (.ref a1), .val (.ref a2), .val (.long q3), .second, .val (.long rem_0), .second, .val (.ref b18), .val (.long left_0), .second, .val (.int (0 : Int32)), .val (.long k_0), .second] [(.long (g 0)), (.long k_0)]))
      refine Till.pre (fun _ hr => XS.lcmp X26.here hx rfl (hb hby d2_100) rfl hr) ?_
      show Till p e below s (Q2 Z a1 a2 q3 w1 g h0 n0) room2.cells room2.slots (T24.setTop (mkF m 101 #[.val (.ref a1), .val (.ref a2), .val (.long q3), .second, .val (.long rem_0), .second, .val (.ref b18), .val (.long left_0), .second, .val (.int (0 : Int32)), .val (.long k_0), .second] [(.int (lcmpW k_0 (g 0)))]))
      refine Till.ifc (pc' := 153) X26.here hx (hb hby d2_101) (by decide) (by decide) (fun q => ?_) (fun q => ?_)
      · have hc30 := (mt lLt.mpr (hLt.2.2.1 q))
        show Till p e below s (Q2 Z a1 a2 q3 w1 g h0 n0) room2.cells room2.slots (T24.setTop (mkF m 153 #[.val (.ref a1), .val (.ref a2), .val (.long q3), .second, .val (.long rem_0), .second, .val (.ref b18), .val (.long left_0), .second, .val (.int (0 : Int32)), .val (.long k_0), .second] []))
        refine Till.pre (fun _ hr => XS.iinc X26.here hx rfl (hb hby d2_153) rfl (l' := #[.val (.ref a1), .val (.ref a2), .val (.long q3), .second, .val (.long rem_0), .second, .val (.ref b18), .val (.long left_0), .second, .val (.int (1 : Int32)), .val (.long k_0), .second]) rfl hr) ?_
        show Till p e below s (Q2 Z a1 a2 q3 w1 g h0 n0) room2.cells room2.slots (T24.setTop (mkF m 156 #[.val (.ref a1), .val (.ref a2), .val (.long q3), .second, .val (.long rem_0), .second, .val (.ref b18), .val (.long left_0), .second, .val (.int (1 : Int32)), .val (.long k_0), .second] []))
        refine Till.pre (fun _ hr => XS.goto X26.here hx rfl (pc0 := 156) (pc' := 84) rfl (hb hby d2_156) (by decide) (by decide) hr) ?_
        show Till p e below s (Q2 Z a1 a2 q3 w1 g h0 n0) room2.cells room2.slots (T24.setTop (mkF m 84 #[.val (.ref a1), .val (.ref a2), .val (.long q3), .second, .val (.long rem_0), .second, .val (.ref b18), .val (.long left_0), .second, .val (.int (1 : Int32)), .val (.long k_0), .second] []))
        refine Till.pre (fun _ hr => XS.iload X26.here hx rfl (hb hby d2_84) rfl hr) ?_
        show Till p e below s (Q2 Z a1 a2 q3 w1 g h0 n0) room2.cells room2.slots (T24.setTop (mkF m 86 #[.val (.ref a1), .val (.ref a2), .val (.long q3), .second, .val (.long rem_0), .second, .val (.ref b18), .val (.long left_0), .second, .val (.int (1 : Int32)), .val (.long k_0), .second] [(.int (1 : Int32))]))
        refine Till.pre (fun _ hr => XS.aloadN X26.here hx rfl (hb hby d2_86) rfl rfl hr) ?_
        show Till p e below s (Q2 Z a1 a2 q3 w1 g h0 n0) room2.cells room2.slots (T24.setTop (mkF m 87 #[.val (.ref a1), .val (.ref a2), .val (.long q3), .second, .val (.long rem_0), .second, .val (.ref b18), .val (.long left_0), .second, .val (.int (1 : Int32)), .val (.long k_0), .second] [(.ref a2), (.int (1 : Int32))]))
        refine Till.alen R_a2 X26 hx hZ rfl (hb hby d2_87) ?_
        show Till p e below s (Q2 Z a1 a2 q3 w1 g h0 n0) room2.cells room2.slots (T24.setTop (mkF m 88 #[.val (.ref a1), .val (.ref a2), .val (.long q3), .second, .val (.long rem_0), .second, .val (.ref b18), .val (.long left_0), .second, .val (.int (1 : Int32)), .val (.long k_0), .second] [(.int (3 : Int32)), (.int (1 : Int32))]))
        refine Till.icmp (pc' := 159) X26.here hx (hb hby d2_88) (by decide) (by decide) (fun q => absurd (by decide : ((1 : Int32) < (3 : Int32))) (hLt.2.2.1 q)) (fun q => ?_)
        show Till p e below s (Q2 Z a1 a2 q3 w1 g h0 n0) room2.cells room2.slots (T24.setTop (mkF m 91 #[.val (.ref a1), .val (.ref a2), .val (.long q3), .second, .val (.long rem_0), .second, .val (.ref b18), .val (.long left_0), .second, .val (.int (1 : Int32)), .val (.long k_0), .second] []))
        refine Till.pre (fun _ hr => XS.lconst X26.here hx rfl (hb hby d2_91) hr) ?_
        show Till p e below s (Q2 Z a1 a2 q3 w1 g h0 n0) room2.cells room2.slots (T24.setTop (mkF m 92 #[.val (.ref a1), .val (.ref a2), .val (.long q3), .second, .val (.long rem_0), .second, .val (.ref b18), .val (.long left_0), .second, .val (.int (1 : Int32)), .val (.long k_0), .second] [(.long (0 : Int64))]))
        refine Till.pre (fun _ hr => XS.lstore X26.here hx rfl (hb hby d2_92) rfl (l' := #[.val (.ref a1), .val (.ref a2), .val (.long q3), .second, .val (.long rem_0), .second, .val (.ref b18), .val (.long left_0), .second, .val (.int (1 : Int32)), .val (.long (0 : Int64)), .second]) rfl hr) ?_
        have loop94_35 : ∀ (fuel : Nat) (T31 : State) (L32 : List Loc) (X33 : Stand p l e room2 s m #[(.ref a1), (.ref a2), (.long q3)] below meth c T31 L32 1 3) (N34 : Fr n0 L32) (k_1 : Int64) (left_1 : Int64) (rem_1 : Int64) (W_1 : Int64) (d_1 : Nat → Int64) (Zs : n0 ≤ T31.heap.size) (Kp : Keep h0 T31.heap [a1]) (R_a1 : Lot Z T31.heap a1 W_1) (R_a2 : LA Z T31.heap a2 (3 : Int32) g) (R_b18 : LA Z T31.heap b18 (3 : Int32) d_1) (I_1 : own_I 1 g q3 w1 k_1 rem_1 left_1 W_1 d_1) (hm : ((g 1).toInt - k_1.toInt).toNat < fuel), Till p e below s (Q2 Z a1 a2 q3 w1 g h0 n0) room2.cells room2.slots (T31.setTop (mkF m 94 #[.val (.ref a1), .val (.ref a2), .val (.long q3), .second, .val (.long rem_1), .second, .val (.ref b18), .val (.long left_1), .second, .val (.int (1 : Int32)), .val (.long k_1), .second] [])) := by
          intro fuel
          induction fuel with
          | zero => intro T31 L32 X33 N34 k_1 left_1 rem_1 W_1 d_1 Zs Kp R_a1 R_a2 R_b18 I_1 hm; exact absurd hm (Nat.not_lt_zero _)
          | succ fuel ih =>
            intro T31 L32 X33 N34 k_1 left_1 rem_1 W_1 d_1 Zs Kp R_a1 R_a2 R_b18 I_1 hm
            show Till p e below s (Q2 Z a1 a2 q3 w1 g h0 n0) room2.cells room2.slots (T31.setTop (mkF m 94 #[.val (.ref a1), .val (.ref a2), .val (.long q3), .second, .val (.long rem_1), .second, .val (.ref b18), .val (.long left_1), .second, .val (.int (1 : Int32)), .val (.long k_1), .second] []))
            refine Till.pre (fun _ hr => XS.lload X33.here hx rfl (hb hby d2_94) rfl hr) ?_
            show Till p e below s (Q2 Z a1 a2 q3 w1 g h0 n0) room2.cells room2.slots (T31.setTop (mkF m 96 #[.val (.ref a1), .val (.ref a2), .val (.long q3), .second, .val (.long rem_1), .second, .val (.ref b18), .val (.long left_1), .second, .val (.int (1 : Int32)), .val (.long k_1), .second] [(.long k_1)]))
            refine Till.pre (fun _ hr => XS.aloadN X33.here hx rfl (hb hby d2_96) rfl rfl hr) ?_
            show Till p e below s (Q2 Z a1 a2 q3 w1 g h0 n0) room2.cells room2.slots (T31.setTop (mkF m 97 #[.val (.ref a1), .val (.ref a2), .val (.long q3), .second, .val (.long rem_1), .second, .val (.ref b18), .val (.long left_1), .second, .val (.int (1 : Int32)), .val (.long k_1), .second] [(.ref a2), (.long k_1)]))
            refine Till.pre (fun _ hr => XS.iload X33.here hx rfl (hb hby d2_97) rfl hr) ?_
            show Till p e below s (Q2 Z a1 a2 q3 w1 g h0 n0) room2.cells room2.slots (T31.setTop (mkF m 99 #[.val (.ref a1), .val (.ref a2), .val (.long q3), .second, .val (.long rem_1), .second, .val (.ref b18), .val (.long left_1), .second, .val (.int (1 : Int32)), .val (.long k_1), .second] [(.int (1 : Int32)), (.ref a2), (.long k_1)]))
            refine Till.laload R_a2 (by decide) (by decide) X33 hx hZ rfl (hb hby d2_99) ?_
            show Till p e below s (Q2 Z a1 a2 q3 w1 g h0 n0) room2.cells room2.slots (T31.setTop (mkF m 100 #[.val (.ref a1), .val (.ref a2), .val (.long q3), .second, .val (.long rem_1), .second, .val (.ref b18), .val (.long left_1), .second, .val (.int (1 : Int32)), .val (.long k_1), .second] [(.long (g 1)), (.long k_1)]))
            refine Till.pre (fun _ hr => XS.lcmp X33.here hx rfl (hb hby d2_100) rfl hr) ?_
            show Till p e below s (Q2 Z a1 a2 q3 w1 g h0 n0) room2.cells room2.slots (T31.setTop (mkF m 101 #[.val (.ref a1), .val (.ref a2), .val (.long q3), .second, .val (.long rem_1), .second, .val (.ref b18), .val (.long left_1), .second, .val (.int (1 : Int32)), .val (.long k_1), .second] [(.int (lcmpW k_1 (g 1)))]))
            refine Till.ifc (pc' := 153) X33.here hx (hb hby d2_101) (by decide) (by decide) (fun q => ?_) (fun q => ?_)
            · have hc37 := (mt lLt.mpr (hLt.2.2.1 q))
              show Till p e below s (Q2 Z a1 a2 q3 w1 g h0 n0) room2.cells room2.slots (T31.setTop (mkF m 153 #[.val (.ref a1), .val (.ref a2), .val (.long q3), .second, .val (.long rem_1), .second, .val (.ref b18), .val (.long left_1), .second, .val (.int (1 : Int32)), .val (.long k_1), .second] []))
              refine Till.pre (fun _ hr => XS.iinc X33.here hx rfl (hb hby d2_153) rfl (l' := #[.val (.ref a1), .val (.ref a2), .val (.long q3), .second, .val (.long rem_1), .second, .val (.ref b18), .val (.long left_1), .second, .val (.int (2 : Int32)), .val (.long k_1), .second]) rfl hr) ?_
              show Till p e below s (Q2 Z a1 a2 q3 w1 g h0 n0) room2.cells room2.slots (T31.setTop (mkF m 156 #[.val (.ref a1), .val (.ref a2), .val (.long q3), .second, .val (.long rem_1), .second, .val (.ref b18), .val (.long left_1), .second, .val (.int (2 : Int32)), .val (.long k_1), .second] []))
              refine Till.pre (fun _ hr => XS.goto X33.here hx rfl (pc0 := 156) (pc' := 84) rfl (hb hby d2_156) (by decide) (by decide) hr) ?_
              show Till p e below s (Q2 Z a1 a2 q3 w1 g h0 n0) room2.cells room2.slots (T31.setTop (mkF m 84 #[.val (.ref a1), .val (.ref a2), .val (.long q3), .second, .val (.long rem_1), .second, .val (.ref b18), .val (.long left_1), .second, .val (.int (2 : Int32)), .val (.long k_1), .second] []))
              refine Till.pre (fun _ hr => XS.iload X33.here hx rfl (hb hby d2_84) rfl hr) ?_
              show Till p e below s (Q2 Z a1 a2 q3 w1 g h0 n0) room2.cells room2.slots (T31.setTop (mkF m 86 #[.val (.ref a1), .val (.ref a2), .val (.long q3), .second, .val (.long rem_1), .second, .val (.ref b18), .val (.long left_1), .second, .val (.int (2 : Int32)), .val (.long k_1), .second] [(.int (2 : Int32))]))
              refine Till.pre (fun _ hr => XS.aloadN X33.here hx rfl (hb hby d2_86) rfl rfl hr) ?_
              show Till p e below s (Q2 Z a1 a2 q3 w1 g h0 n0) room2.cells room2.slots (T31.setTop (mkF m 87 #[.val (.ref a1), .val (.ref a2), .val (.long q3), .second, .val (.long rem_1), .second, .val (.ref b18), .val (.long left_1), .second, .val (.int (2 : Int32)), .val (.long k_1), .second] [(.ref a2), (.int (2 : Int32))]))
              refine Till.alen R_a2 X33 hx hZ rfl (hb hby d2_87) ?_
              show Till p e below s (Q2 Z a1 a2 q3 w1 g h0 n0) room2.cells room2.slots (T31.setTop (mkF m 88 #[.val (.ref a1), .val (.ref a2), .val (.long q3), .second, .val (.long rem_1), .second, .val (.ref b18), .val (.long left_1), .second, .val (.int (2 : Int32)), .val (.long k_1), .second] [(.int (3 : Int32)), (.int (2 : Int32))]))
              refine Till.icmp (pc' := 159) X33.here hx (hb hby d2_88) (by decide) (by decide) (fun q => absurd (by decide : ((2 : Int32) < (3 : Int32))) (hLt.2.2.1 q)) (fun q => ?_)
              show Till p e below s (Q2 Z a1 a2 q3 w1 g h0 n0) room2.cells room2.slots (T31.setTop (mkF m 91 #[.val (.ref a1), .val (.ref a2), .val (.long q3), .second, .val (.long rem_1), .second, .val (.ref b18), .val (.long left_1), .second, .val (.int (2 : Int32)), .val (.long k_1), .second] []))
              refine Till.pre (fun _ hr => XS.lconst X33.here hx rfl (hb hby d2_91) hr) ?_
              show Till p e below s (Q2 Z a1 a2 q3 w1 g h0 n0) room2.cells room2.slots (T31.setTop (mkF m 92 #[.val (.ref a1), .val (.ref a2), .val (.long q3), .second, .val (.long rem_1), .second, .val (.ref b18), .val (.long left_1), .second, .val (.int (2 : Int32)), .val (.long k_1), .second] [(.long (0 : Int64))]))
              refine Till.pre (fun _ hr => XS.lstore X33.here hx rfl (hb hby d2_92) rfl (l' := #[.val (.ref a1), .val (.ref a2), .val (.long q3), .second, .val (.long rem_1), .second, .val (.ref b18), .val (.long left_1), .second, .val (.int (2 : Int32)), .val (.long (0 : Int64)), .second]) rfl hr) ?_
              have loop94_42 : ∀ (fuel : Nat) (T38 : State) (L39 : List Loc) (X40 : Stand p l e room2 s m #[(.ref a1), (.ref a2), (.long q3)] below meth c T38 L39 1 3) (N41 : Fr n0 L39) (k_2 : Int64) (left_2 : Int64) (rem_2 : Int64) (W_2 : Int64) (d_2 : Nat → Int64) (Zs : n0 ≤ T38.heap.size) (Kp : Keep h0 T38.heap [a1]) (R_a1 : Lot Z T38.heap a1 W_2) (R_a2 : LA Z T38.heap a2 (3 : Int32) g) (R_b18 : LA Z T38.heap b18 (3 : Int32) d_2) (I_2 : own_I 2 g q3 w1 k_2 rem_2 left_2 W_2 d_2) (hm : ((g 2).toInt - k_2.toInt).toNat < fuel), Till p e below s (Q2 Z a1 a2 q3 w1 g h0 n0) room2.cells room2.slots (T38.setTop (mkF m 94 #[.val (.ref a1), .val (.ref a2), .val (.long q3), .second, .val (.long rem_2), .second, .val (.ref b18), .val (.long left_2), .second, .val (.int (2 : Int32)), .val (.long k_2), .second] [])) := by
                intro fuel
                induction fuel with
                | zero => intro T38 L39 X40 N41 k_2 left_2 rem_2 W_2 d_2 Zs Kp R_a1 R_a2 R_b18 I_2 hm; exact absurd hm (Nat.not_lt_zero _)
                | succ fuel ih =>
                  intro T38 L39 X40 N41 k_2 left_2 rem_2 W_2 d_2 Zs Kp R_a1 R_a2 R_b18 I_2 hm
                  show Till p e below s (Q2 Z a1 a2 q3 w1 g h0 n0) room2.cells room2.slots (T38.setTop (mkF m 94 #[.val (.ref a1), .val (.ref a2), .val (.long q3), .second, .val (.long rem_2), .second, .val (.ref b18), .val (.long left_2), .second, .val (.int (2 : Int32)), .val (.long k_2), .second] []))
                  refine Till.pre (fun _ hr => XS.lload X40.here hx rfl (hb hby d2_94) rfl hr) ?_
                  show Till p e below s (Q2 Z a1 a2 q3 w1 g h0 n0) room2.cells room2.slots (T38.setTop (mkF m 96 #[.val (.ref a1), .val (.ref a2), .val (.long q3), .second, .val (.long rem_2), .second, .val (.ref b18), .val (.long left_2), .second, .val (.int (2 : Int32)), .val (.long k_2), .second] [(.long k_2)]))
                  refine Till.pre (fun _ hr => XS.aloadN X40.here hx rfl (hb hby d2_96) rfl rfl hr) ?_
                  show Till p e below s (Q2 Z a1 a2 q3 w1 g h0 n0) room2.cells room2.slots (T38.setTop (mkF m 97 #[.val (.ref a1), .val (.ref a2), .val (.long q3), .second, .val (.long rem_2), .second, .val (.ref b18), .val (.long left_2), .second, .val (.int (2 : Int32)), .val (.long k_2), .second] [(.ref a2), (.long k_2)]))
                  refine Till.pre (fun _ hr => XS.iload X40.here hx rfl (hb hby d2_97) rfl hr) ?_
                  show Till p e below s (Q2 Z a1 a2 q3 w1 g h0 n0) room2.cells room2.slots (T38.setTop (mkF m 99 #[.val (.ref a1), .val (.ref a2), .val (.long q3), .second, .val (.long rem_2), .second, .val (.ref b18), .val (.long left_2), .second, .val (.int (2 : Int32)), .val (.long k_2), .second] [(.int (2 : Int32)), (.ref a2), (.long k_2)]))
                  refine Till.laload R_a2 (by decide) (by decide) X40 hx hZ rfl (hb hby d2_99) ?_
                  show Till p e below s (Q2 Z a1 a2 q3 w1 g h0 n0) room2.cells room2.slots (T38.setTop (mkF m 100 #[.val (.ref a1), .val (.ref a2), .val (.long q3), .second, .val (.long rem_2), .second, .val (.ref b18), .val (.long left_2), .second, .val (.int (2 : Int32)), .val (.long k_2), .second] [(.long (g 2)), (.long k_2)]))
                  refine Till.pre (fun _ hr => XS.lcmp X40.here hx rfl (hb hby d2_100) rfl hr) ?_
                  show Till p e below s (Q2 Z a1 a2 q3 w1 g h0 n0) room2.cells room2.slots (T38.setTop (mkF m 101 #[.val (.ref a1), .val (.ref a2), .val (.long q3), .second, .val (.long rem_2), .second, .val (.ref b18), .val (.long left_2), .second, .val (.int (2 : Int32)), .val (.long k_2), .second] [(.int (lcmpW k_2 (g 2)))]))
                  refine Till.ifc (pc' := 153) X40.here hx (hb hby d2_101) (by decide) (by decide) (fun q => ?_) (fun q => ?_)
                  · have hc44 := (mt lLt.mpr (hLt.2.2.1 q))
                    show Till p e below s (Q2 Z a1 a2 q3 w1 g h0 n0) room2.cells room2.slots (T38.setTop (mkF m 153 #[.val (.ref a1), .val (.ref a2), .val (.long q3), .second, .val (.long rem_2), .second, .val (.ref b18), .val (.long left_2), .second, .val (.int (2 : Int32)), .val (.long k_2), .second] []))
                    refine Till.pre (fun _ hr => XS.iinc X40.here hx rfl (hb hby d2_153) rfl (l' := #[.val (.ref a1), .val (.ref a2), .val (.long q3), .second, .val (.long rem_2), .second, .val (.ref b18), .val (.long left_2), .second, .val (.int (3 : Int32)), .val (.long k_2), .second]) rfl hr) ?_
                    show Till p e below s (Q2 Z a1 a2 q3 w1 g h0 n0) room2.cells room2.slots (T38.setTop (mkF m 156 #[.val (.ref a1), .val (.ref a2), .val (.long q3), .second, .val (.long rem_2), .second, .val (.ref b18), .val (.long left_2), .second, .val (.int (3 : Int32)), .val (.long k_2), .second] []))
                    refine Till.pre (fun _ hr => XS.goto X40.here hx rfl (pc0 := 156) (pc' := 84) rfl (hb hby d2_156) (by decide) (by decide) hr) ?_
                    show Till p e below s (Q2 Z a1 a2 q3 w1 g h0 n0) room2.cells room2.slots (T38.setTop (mkF m 84 #[.val (.ref a1), .val (.ref a2), .val (.long q3), .second, .val (.long rem_2), .second, .val (.ref b18), .val (.long left_2), .second, .val (.int (3 : Int32)), .val (.long k_2), .second] []))
                    refine Till.pre (fun _ hr => XS.iload X40.here hx rfl (hb hby d2_84) rfl hr) ?_
                    show Till p e below s (Q2 Z a1 a2 q3 w1 g h0 n0) room2.cells room2.slots (T38.setTop (mkF m 86 #[.val (.ref a1), .val (.ref a2), .val (.long q3), .second, .val (.long rem_2), .second, .val (.ref b18), .val (.long left_2), .second, .val (.int (3 : Int32)), .val (.long k_2), .second] [(.int (3 : Int32))]))
                    refine Till.pre (fun _ hr => XS.aloadN X40.here hx rfl (hb hby d2_86) rfl rfl hr) ?_
                    show Till p e below s (Q2 Z a1 a2 q3 w1 g h0 n0) room2.cells room2.slots (T38.setTop (mkF m 87 #[.val (.ref a1), .val (.ref a2), .val (.long q3), .second, .val (.long rem_2), .second, .val (.ref b18), .val (.long left_2), .second, .val (.int (3 : Int32)), .val (.long k_2), .second] [(.ref a2), (.int (3 : Int32))]))
                    refine Till.alen R_a2 X40 hx hZ rfl (hb hby d2_87) ?_
                    show Till p e below s (Q2 Z a1 a2 q3 w1 g h0 n0) room2.cells room2.slots (T38.setTop (mkF m 88 #[.val (.ref a1), .val (.ref a2), .val (.long q3), .second, .val (.long rem_2), .second, .val (.ref b18), .val (.long left_2), .second, .val (.int (3 : Int32)), .val (.long k_2), .second] [(.int (3 : Int32)), (.int (3 : Int32))]))
                    refine Till.icmp (pc' := 159) X40.here hx (hb hby d2_88) (by decide) (by decide) (fun q => ?_) (fun q => absurd (hLt.2.2.2.1 q) (by decide : ¬ ((3 : Int32) < (3 : Int32))))
                    show Till p e below s (Q2 Z a1 a2 q3 w1 g h0 n0) room2.cells room2.slots (T38.setTop (mkF m 159 #[.val (.ref a1), .val (.ref a2), .val (.long q3), .second, .val (.long rem_2), .second, .val (.ref b18), .val (.long left_2), .second, .val (.int (3 : Int32)), .val (.long k_2), .second] []))
                    refine Till.pre (fun _ hr => XS.aload X40.here hx rfl (hb hby d2_159) rfl rfl hr) ?_
                    show Till p e below s (Q2 Z a1 a2 q3 w1 g h0 n0) room2.cells room2.slots (T38.setTop (mkF m 161 #[.val (.ref a1), .val (.ref a2), .val (.long q3), .second, .val (.long rem_2), .second, .val (.ref b18), .val (.long left_2), .second, .val (.int (3 : Int32)), .val (.long k_2), .second] [(.ref b18)]))
                    refine Till.retA X40 hx hret rfl hlk rfl rfl (hb hby d2_161) (by decide) (by decide) ?_
                    show (Q2 Z a1 a2 q3 w1 g h0 n0) _ T38.heap _
                    exact ⟨b18, _, _, rfl, N41, Kp, sz_b18, R_a1, R_b18, own_done hG I_2 (Or.inl hc44)⟩
                  · have hc44 := (lLt.mp (hLt.2.2.2.1 q))
                    show Till p e below s (Q2 Z a1 a2 q3 w1 g h0 n0) room2.cells room2.slots (T38.setTop (mkF m 104 #[.val (.ref a1), .val (.ref a2), .val (.long q3), .second, .val (.long rem_2), .second, .val (.ref b18), .val (.long left_2), .second, .val (.int (2 : Int32)), .val (.long k_2), .second] []))
                    refine Till.pre (fun _ hr => XS.lload X40.here hx rfl (hb hby d2_104) rfl hr) ?_
                    show Till p e below s (Q2 Z a1 a2 q3 w1 g h0 n0) room2.cells room2.slots (T38.setTop (mkF m 106 #[.val (.ref a1), .val (.ref a2), .val (.long q3), .second, .val (.long rem_2), .second, .val (.ref b18), .val (.long left_2), .second, .val (.int (2 : Int32)), .val (.long k_2), .second] [(.long left_2)]))
                    refine Till.pre (fun _ hr => XS.lconst X40.here hx rfl (hb hby d2_106) hr) ?_
                    show Till p e below s (Q2 Z a1 a2 q3 w1 g h0 n0) room2.cells room2.slots (T38.setTop (mkF m 107 #[.val (.ref a1), .val (.ref a2), .val (.long q3), .second, .val (.long rem_2), .second, .val (.ref b18), .val (.long left_2), .second, .val (.int (2 : Int32)), .val (.long k_2), .second] [(.long (0 : Int64)), (.long left_2)]))
                    refine Till.pre (fun _ hr => XS.lcmp X40.here hx rfl (hb hby d2_107) rfl hr) ?_
                    show Till p e below s (Q2 Z a1 a2 q3 w1 g h0 n0) room2.cells room2.slots (T38.setTop (mkF m 108 #[.val (.ref a1), .val (.ref a2), .val (.long q3), .second, .val (.long rem_2), .second, .val (.ref b18), .val (.long left_2), .second, .val (.int (2 : Int32)), .val (.long k_2), .second] [(.int (lcmpW left_2 (0 : Int64)))]))
                    refine Till.ifc (pc' := 153) X40.here hx (hb hby d2_108) (by decide) (by decide) (fun q => ?_) (fun q => ?_)
                    · have hc45 := (mt lGt.mpr (hLt.2.2.2.2.2.2.1 q))
                      show Till p e below s (Q2 Z a1 a2 q3 w1 g h0 n0) room2.cells room2.slots (T38.setTop (mkF m 153 #[.val (.ref a1), .val (.ref a2), .val (.long q3), .second, .val (.long rem_2), .second, .val (.ref b18), .val (.long left_2), .second, .val (.int (2 : Int32)), .val (.long k_2), .second] []))
                      refine Till.pre (fun _ hr => XS.iinc X40.here hx rfl (hb hby d2_153) rfl (l' := #[.val (.ref a1), .val (.ref a2), .val (.long q3), .second, .val (.long rem_2), .second, .val (.ref b18), .val (.long left_2), .second, .val (.int (3 : Int32)), .val (.long k_2), .second]) rfl hr) ?_
                      show Till p e below s (Q2 Z a1 a2 q3 w1 g h0 n0) room2.cells room2.slots (T38.setTop (mkF m 156 #[.val (.ref a1), .val (.ref a2), .val (.long q3), .second, .val (.long rem_2), .second, .val (.ref b18), .val (.long left_2), .second, .val (.int (3 : Int32)), .val (.long k_2), .second] []))
                      refine Till.pre (fun _ hr => XS.goto X40.here hx rfl (pc0 := 156) (pc' := 84) rfl (hb hby d2_156) (by decide) (by decide) hr) ?_
                      show Till p e below s (Q2 Z a1 a2 q3 w1 g h0 n0) room2.cells room2.slots (T38.setTop (mkF m 84 #[.val (.ref a1), .val (.ref a2), .val (.long q3), .second, .val (.long rem_2), .second, .val (.ref b18), .val (.long left_2), .second, .val (.int (3 : Int32)), .val (.long k_2), .second] []))
                      refine Till.pre (fun _ hr => XS.iload X40.here hx rfl (hb hby d2_84) rfl hr) ?_
                      show Till p e below s (Q2 Z a1 a2 q3 w1 g h0 n0) room2.cells room2.slots (T38.setTop (mkF m 86 #[.val (.ref a1), .val (.ref a2), .val (.long q3), .second, .val (.long rem_2), .second, .val (.ref b18), .val (.long left_2), .second, .val (.int (3 : Int32)), .val (.long k_2), .second] [(.int (3 : Int32))]))
                      refine Till.pre (fun _ hr => XS.aloadN X40.here hx rfl (hb hby d2_86) rfl rfl hr) ?_
                      show Till p e below s (Q2 Z a1 a2 q3 w1 g h0 n0) room2.cells room2.slots (T38.setTop (mkF m 87 #[.val (.ref a1), .val (.ref a2), .val (.long q3), .second, .val (.long rem_2), .second, .val (.ref b18), .val (.long left_2), .second, .val (.int (3 : Int32)), .val (.long k_2), .second] [(.ref a2), (.int (3 : Int32))]))
                      refine Till.alen R_a2 X40 hx hZ rfl (hb hby d2_87) ?_
                      show Till p e below s (Q2 Z a1 a2 q3 w1 g h0 n0) room2.cells room2.slots (T38.setTop (mkF m 88 #[.val (.ref a1), .val (.ref a2), .val (.long q3), .second, .val (.long rem_2), .second, .val (.ref b18), .val (.long left_2), .second, .val (.int (3 : Int32)), .val (.long k_2), .second] [(.int (3 : Int32)), (.int (3 : Int32))]))
                      refine Till.icmp (pc' := 159) X40.here hx (hb hby d2_88) (by decide) (by decide) (fun q => ?_) (fun q => absurd (hLt.2.2.2.1 q) (by decide : ¬ ((3 : Int32) < (3 : Int32))))
                      show Till p e below s (Q2 Z a1 a2 q3 w1 g h0 n0) room2.cells room2.slots (T38.setTop (mkF m 159 #[.val (.ref a1), .val (.ref a2), .val (.long q3), .second, .val (.long rem_2), .second, .val (.ref b18), .val (.long left_2), .second, .val (.int (3 : Int32)), .val (.long k_2), .second] []))
                      refine Till.pre (fun _ hr => XS.aload X40.here hx rfl (hb hby d2_159) rfl rfl hr) ?_
                      show Till p e below s (Q2 Z a1 a2 q3 w1 g h0 n0) room2.cells room2.slots (T38.setTop (mkF m 161 #[.val (.ref a1), .val (.ref a2), .val (.long q3), .second, .val (.long rem_2), .second, .val (.ref b18), .val (.long left_2), .second, .val (.int (3 : Int32)), .val (.long k_2), .second] [(.ref b18)]))
                      refine Till.retA X40 hx hret rfl hlk rfl rfl (hb hby d2_161) (by decide) (by decide) ?_
                      show (Q2 Z a1 a2 q3 w1 g h0 n0) _ T38.heap _
                      exact ⟨b18, _, _, rfl, N41, Kp, sz_b18, R_a1, R_b18, own_done hG I_2 (Or.inr hc45)⟩
                    · have hc45 := (lGt.mp (hLt.2.2.2.2.2.2.2 q))
                      show Till p e below s (Q2 Z a1 a2 q3 w1 g h0 n0) room2.cells room2.slots (T38.setTop (mkF m 111 #[.val (.ref a1), .val (.ref a2), .val (.long q3), .second, .val (.long rem_2), .second, .val (.ref b18), .val (.long left_2), .second, .val (.int (2 : Int32)), .val (.long k_2), .second] []))
                      refine Till.pre (fun _ hr => XS.aloadN X40.here hx rfl (hb hby d2_111) rfl rfl hr) ?_
                      show Till p e below s (Q2 Z a1 a2 q3 w1 g h0 n0) room2.cells room2.slots (T38.setTop (mkF m 112 #[.val (.ref a1), .val (.ref a2), .val (.long q3), .second, .val (.long rem_2), .second, .val (.ref b18), .val (.long left_2), .second, .val (.int (2 : Int32)), .val (.long k_2), .second] [(.ref a1)]))
                      refine Till.pre (fun _ hr => XS.lload X40.here hx rfl (hb hby d2_112) rfl hr) ?_
                      show Till p e below s (Q2 Z a1 a2 q3 w1 g h0 n0) room2.cells room2.slots (T38.setTop (mkF m 114 #[.val (.ref a1), .val (.ref a2), .val (.long q3), .second, .val (.long rem_2), .second, .val (.ref b18), .val (.long left_2), .second, .val (.int (2 : Int32)), .val (.long k_2), .second] [(.long rem_2), (.ref a1)]))
                      refine Till.callP (rm4 l Z a0 hw a1 rem_2 W_2 T38.heap n0 Zs R_a1 g_a1 ((own_step (by decide) hG I_2 hc44 hc45).1)) R_a1.1 X40 hx hZ hown (hw _ (List.mem_of_getElem? (i := 22) rfl)) (hw _ (List.mem_of_getElem? (i := 23) rfl)) (hw _ (List.mem_of_getElem? (i := 24) rfl)) (hw _ (List.mem_of_getElem? (i := 3) rfl)) (hw _ (List.mem_of_getElem? (i := 4) rfl)) (hw _ (List.mem_of_getElem? (i := 25) rfl)) (by decide) (by decide) (W := 0) (by decide) (by rw [hml]; rfl) (a := a1) (argsL := [(.long rem_2)]) (rest := []) (lenOf pd2_2 rfl) rfl rfl (Nat.le_of_eq rfl) (hb hby d2_114) rfl (by decide) (by decide) ?_
                      rintro _ T46 L47 X48 ⟨rfl, N49, K50, q51⟩
                      have N49 := Fr.app N41 N49
                      have R_a2 := R_a2.keep K50 (ninS (Ne.symm ne_a1_a2) nin0)
                      have R_b18 := R_b18.keep K50 (ninS (Ne.symm ne_a1_b18) nin0)
                      have Zs := Nat.le_trans Zs K50.1
                      have Kp := Kp.trans K50 (allS (Or.inl (List.mem_of_getElem? (i := 0) rfl)) all0)
                      have R_a1 : Lot Z T46.heap a1 (if ((((lsr (fn5 W_2) (1 : Int32)) - ((lsr (fn5 W_2) (1 : Int32)) - ((lsr (fn5 W_2) (1 : Int32)) / rem_2) * rem_2)) + (rem_2 - (1 : Int64))) < (0 : Int64)) then ((W_2 + (-7046029254386353131 : Int64)) + (-7046029254386353131 : Int64)) else (W_2 + (-7046029254386353131 : Int64))) := q51
                      show Till p e below s (Q2 Z a1 a2 q3 w1 g h0 n0) room2.cells room2.slots (T46.setTop (mkF m 117 #[.val (.ref a1), .val (.ref a2), .val (.long q3), .second, .val (.long rem_2), .second, .val (.ref b18), .val (.long left_2), .second, .val (.int (2 : Int32)), .val (.long k_2), .second] [(.long (fn4 rem_2 W_2))]))
                      refine Till.pre (fun _ hr => XS.lload X48.here hx rfl (hb hby d2_117) rfl hr) ?_
                      show Till p e below s (Q2 Z a1 a2 q3 w1 g h0 n0) room2.cells room2.slots (T46.setTop (mkF m 119 #[.val (.ref a1), .val (.ref a2), .val (.long q3), .second, .val (.long rem_2), .second, .val (.ref b18), .val (.long left_2), .second, .val (.int (2 : Int32)), .val (.long k_2), .second] [(.long left_2), (.long (fn4 rem_2 W_2))]))
                      refine Till.pre (fun _ hr => XS.lcmp X48.here hx rfl (hb hby d2_119) rfl hr) ?_
                      show Till p e below s (Q2 Z a1 a2 q3 w1 g h0 n0) room2.cells room2.slots (T46.setTop (mkF m 120 #[.val (.ref a1), .val (.ref a2), .val (.long q3), .second, .val (.long rem_2), .second, .val (.ref b18), .val (.long left_2), .second, .val (.int (2 : Int32)), .val (.long k_2), .second] [(.int (lcmpW (fn4 rem_2 W_2) left_2))]))
                      refine Till.ifc (pc' := 138) X48.here hx (hb hby d2_120) (by decide) (by decide) (fun q => ?_) (fun q => ?_)
                      · have hc52 := (mt lLt.mpr (hLt.2.2.1 q))
                        show Till p e below s (Q2 Z a1 a2 q3 w1 g h0 n0) room2.cells room2.slots (T46.setTop (mkF m 138 #[.val (.ref a1), .val (.ref a2), .val (.long q3), .second, .val (.long rem_2), .second, .val (.ref b18), .val (.long left_2), .second, .val (.int (2 : Int32)), .val (.long k_2), .second] []))
                        refine Till.pre (fun _ hr => XS.lload X48.here hx rfl (hb hby d2_138) rfl hr) ?_
                        show Till p e below s (Q2 Z a1 a2 q3 w1 g h0 n0) room2.cells room2.slots (T46.setTop (mkF m 140 #[.val (.ref a1), .val (.ref a2), .val (.long q3), .second, .val (.long rem_2), .second, .val (.ref b18), .val (.long left_2), .second, .val (.int (2 : Int32)), .val (.long k_2), .second] [(.long rem_2)]))
                        refine Till.pre (fun _ hr => XS.lconst X48.here hx rfl (hb hby d2_140) hr) ?_
                        show Till p e below s (Q2 Z a1 a2 q3 w1 g h0 n0) room2.cells room2.slots (T46.setTop (mkF m 141 #[.val (.ref a1), .val (.ref a2), .val (.long q3), .second, .val (.long rem_2), .second, .val (.ref b18), .val (.long left_2), .second, .val (.int (2 : Int32)), .val (.long k_2), .second] [(.long (1 : Int64)), (.long rem_2)]))
                        refine Till.pre (fun _ hr => XS.lsub X48.here hx rfl (hb hby d2_141) rfl hr) ?_
                        show Till p e below s (Q2 Z a1 a2 q3 w1 g h0 n0) room2.cells room2.slots (T46.setTop (mkF m 142 #[.val (.ref a1), .val (.ref a2), .val (.long q3), .second, .val (.long rem_2), .second, .val (.ref b18), .val (.long left_2), .second, .val (.int (2 : Int32)), .val (.long k_2), .second] [(.long (rem_2 - (1 : Int64)))]))
                        refine Till.pre (fun _ hr => XS.lstore X48.here hx rfl (hb hby d2_142) rfl (l' := #[.val (.ref a1), .val (.ref a2), .val (.long q3), .second, .val (.long (rem_2 - (1 : Int64))), .second, .val (.ref b18), .val (.long left_2), .second, .val (.int (2 : Int32)), .val (.long k_2), .second]) rfl hr) ?_
                        show Till p e below s (Q2 Z a1 a2 q3 w1 g h0 n0) room2.cells room2.slots (T46.setTop (mkF m 144 #[.val (.ref a1), .val (.ref a2), .val (.long q3), .second, .val (.long (rem_2 - (1 : Int64))), .second, .val (.ref b18), .val (.long left_2), .second, .val (.int (2 : Int32)), .val (.long k_2), .second] []))
                        refine Till.pre (fun _ hr => XS.lload X48.here hx rfl (hb hby d2_144) rfl hr) ?_
                        show Till p e below s (Q2 Z a1 a2 q3 w1 g h0 n0) room2.cells room2.slots (T46.setTop (mkF m 146 #[.val (.ref a1), .val (.ref a2), .val (.long q3), .second, .val (.long (rem_2 - (1 : Int64))), .second, .val (.ref b18), .val (.long left_2), .second, .val (.int (2 : Int32)), .val (.long k_2), .second] [(.long k_2)]))
                        refine Till.pre (fun _ hr => XS.lconst X48.here hx rfl (hb hby d2_146) hr) ?_
                        show Till p e below s (Q2 Z a1 a2 q3 w1 g h0 n0) room2.cells room2.slots (T46.setTop (mkF m 147 #[.val (.ref a1), .val (.ref a2), .val (.long q3), .second, .val (.long (rem_2 - (1 : Int64))), .second, .val (.ref b18), .val (.long left_2), .second, .val (.int (2 : Int32)), .val (.long k_2), .second] [(.long (1 : Int64)), (.long k_2)]))
                        refine Till.pre (fun _ hr => XS.ladd X48.here hx rfl (hb hby d2_147) rfl hr) ?_
                        show Till p e below s (Q2 Z a1 a2 q3 w1 g h0 n0) room2.cells room2.slots (T46.setTop (mkF m 148 #[.val (.ref a1), .val (.ref a2), .val (.long q3), .second, .val (.long (rem_2 - (1 : Int64))), .second, .val (.ref b18), .val (.long left_2), .second, .val (.int (2 : Int32)), .val (.long k_2), .second] [(.long (k_2 + (1 : Int64)))]))
                        refine Till.pre (fun _ hr => XS.lstore X48.here hx rfl (hb hby d2_148) rfl (l' := #[.val (.ref a1), .val (.ref a2), .val (.long q3), .second, .val (.long (rem_2 - (1 : Int64))), .second, .val (.ref b18), .val (.long left_2), .second, .val (.int (2 : Int32)), .val (.long (k_2 + (1 : Int64))), .second]) rfl hr) ?_
                        show Till p e below s (Q2 Z a1 a2 q3 w1 g h0 n0) room2.cells room2.slots (T46.setTop (mkF m 150 #[.val (.ref a1), .val (.ref a2), .val (.long q3), .second, .val (.long (rem_2 - (1 : Int64))), .second, .val (.ref b18), .val (.long left_2), .second, .val (.int (2 : Int32)), .val (.long (k_2 + (1 : Int64))), .second] []))
                        refine Till.pre (fun _ hr => XS.goto X48.here hx rfl (pc0 := 150) (pc' := 94) rfl (hb hby d2_150) (by decide) (by decide) hr) ?_
                        show Till p e below s (Q2 Z a1 a2 q3 w1 g h0 n0) room2.cells room2.slots (T46.setTop (mkF m 94 #[.val (.ref a1), .val (.ref a2), .val (.long q3), .second, .val (.long (rem_2 - (1 : Int64))), .second, .val (.ref b18), .val (.long left_2), .second, .val (.int (2 : Int32)), .val (.long (k_2 + (1 : Int64))), .second] []))
                        exact ih _ _ X48 N49 _ _ _ _ _ Zs Kp R_a1 R_a2 R_b18 (((own_step (by decide) hG I_2 hc44 hc45).2 (fn4 rem_2 W_2) _ (own_blr (own_step (by decide) hG I_2 hc44 hc45).1) (own_blg (own_step (by decide) hG I_2 hc44 hc45).1)).2 hc52) (own_mu hm hc44)
                      · have hc52 := (lLt.mp (hLt.2.2.2.1 q))
                        show Till p e below s (Q2 Z a1 a2 q3 w1 g h0 n0) room2.cells room2.slots (T46.setTop (mkF m 123 #[.val (.ref a1), .val (.ref a2), .val (.long q3), .second, .val (.long rem_2), .second, .val (.ref b18), .val (.long left_2), .second, .val (.int (2 : Int32)), .val (.long k_2), .second] []))
                        refine Till.pre (fun _ hr => XS.aload X48.here hx rfl (hb hby d2_123) rfl rfl hr) ?_
                        show Till p e below s (Q2 Z a1 a2 q3 w1 g h0 n0) room2.cells room2.slots (T46.setTop (mkF m 125 #[.val (.ref a1), .val (.ref a2), .val (.long q3), .second, .val (.long rem_2), .second, .val (.ref b18), .val (.long left_2), .second, .val (.int (2 : Int32)), .val (.long k_2), .second] [(.ref b18)]))
                        refine Till.pre (fun _ hr => XS.iload X48.here hx rfl (hb hby d2_125) rfl hr) ?_
                        show Till p e below s (Q2 Z a1 a2 q3 w1 g h0 n0) room2.cells room2.slots (T46.setTop (mkF m 127 #[.val (.ref a1), .val (.ref a2), .val (.long q3), .second, .val (.long rem_2), .second, .val (.ref b18), .val (.long left_2), .second, .val (.int (2 : Int32)), .val (.long k_2), .second] [(.int (2 : Int32)), (.ref b18)]))
                        refine Till.pre (fun _ hr => XT.dup2 X48.here hx rfl (hb hby d2_127) rfl rfl rfl hr) ?_
                        show Till p e below s (Q2 Z a1 a2 q3 w1 g h0 n0) room2.cells room2.slots (T46.setTop (mkF m 128 #[.val (.ref a1), .val (.ref a2), .val (.long q3), .second, .val (.long rem_2), .second, .val (.ref b18), .val (.long left_2), .second, .val (.int (2 : Int32)), .val (.long k_2), .second] [(.int (2 : Int32)), (.ref b18), (.int (2 : Int32)), (.ref b18)]))
                        refine Till.laload R_b18 (by decide) (by decide) X48 hx hZ rfl (hb hby d2_128) ?_
                        show Till p e below s (Q2 Z a1 a2 q3 w1 g h0 n0) room2.cells room2.slots (T46.setTop (mkF m 129 #[.val (.ref a1), .val (.ref a2), .val (.long q3), .second, .val (.long rem_2), .second, .val (.ref b18), .val (.long left_2), .second, .val (.int (2 : Int32)), .val (.long k_2), .second] [(.long (d_2 2)), (.int (2 : Int32)), (.ref b18)]))
                        refine Till.pre (fun _ hr => XS.lconst X48.here hx rfl (hb hby d2_129) hr) ?_
                        show Till p e below s (Q2 Z a1 a2 q3 w1 g h0 n0) room2.cells room2.slots (T46.setTop (mkF m 130 #[.val (.ref a1), .val (.ref a2), .val (.long q3), .second, .val (.long rem_2), .second, .val (.ref b18), .val (.long left_2), .second, .val (.int (2 : Int32)), .val (.long k_2), .second] [(.long (1 : Int64)), (.long (d_2 2)), (.int (2 : Int32)), (.ref b18)]))
                        refine Till.pre (fun _ hr => XS.ladd X48.here hx rfl (hb hby d2_130) rfl hr) ?_
                        show Till p e below s (Q2 Z a1 a2 q3 w1 g h0 n0) room2.cells room2.slots (T46.setTop (mkF m 131 #[.val (.ref a1), .val (.ref a2), .val (.long q3), .second, .val (.long rem_2), .second, .val (.ref b18), .val (.long left_2), .second, .val (.int (2 : Int32)), .val (.long k_2), .second] [(.long ((d_2 2) + (1 : Int64))), (.int (2 : Int32)), (.ref b18)]))
                        refine Till.lastore R_b18 (by decide) (by decide) X48 hx hZ rfl (hb hby d2_131) (fun T53 h54 X55 e56 W57 A58 => ?_)
                        have N59 := Fr.snoc X55 N49 g_b18
                        have R_a1 := R_a1.wr W57 ne_a1_b18
                        have R_a2 := R_a2.wr W57 ne_a2_b18
                        have Zs := Nat.le_trans Zs (Keep.of_wr W57).1
                        have Kp := Kp.wr W57 (Or.inr sz_b18)
                        have R_b18 : LA Z h54 b18 (3 : Int32) (oupd d_2 2 ((d_2 2) + (1 : Int64))) := A58
                        show Till p e below s (Q2 Z a1 a2 q3 w1 g h0 n0) room2.cells room2.slots (T53.setTop (mkF m 132 #[.val (.ref a1), .val (.ref a2), .val (.long q3), .second, .val (.long rem_2), .second, .val (.ref b18), .val (.long left_2), .second, .val (.int (2 : Int32)), .val (.long k_2), .second] []))
                        refine Till.pre (fun _ hr => XS.lload X55.here hx rfl (hb hby d2_132) rfl hr) ?_
                        show Till p e below s (Q2 Z a1 a2 q3 w1 g h0 n0) room2.cells room2.slots (T53.setTop (mkF m 134 #[.val (.ref a1), .val (.ref a2), .val (.long q3), .second, .val (.long rem_2), .second, .val (.ref b18), .val (.long left_2), .second, .val (.int (2 : Int32)), .val (.long k_2), .second] [(.long left_2)]))
                        refine Till.pre (fun _ hr => XS.lconst X55.here hx rfl (hb hby d2_134) hr) ?_
                        show Till p e below s (Q2 Z a1 a2 q3 w1 g h0 n0) room2.cells room2.slots (T53.setTop (mkF m 135 #[.val (.ref a1), .val (.ref a2), .val (.long q3), .second, .val (.long rem_2), .second, .val (.ref b18), .val (.long left_2), .second, .val (.int (2 : Int32)), .val (.long k_2), .second] [(.long (1 : Int64)), (.long left_2)]))
                        refine Till.pre (fun _ hr => XS.lsub X55.here hx rfl (hb hby d2_135) rfl hr) ?_
                        show Till p e below s (Q2 Z a1 a2 q3 w1 g h0 n0) room2.cells room2.slots (T53.setTop (mkF m 136 #[.val (.ref a1), .val (.ref a2), .val (.long q3), .second, .val (.long rem_2), .second, .val (.ref b18), .val (.long left_2), .second, .val (.int (2 : Int32)), .val (.long k_2), .second] [(.long (left_2 - (1 : Int64)))]))
                        refine Till.pre (fun _ hr => XS.lstore X55.here hx rfl (hb hby d2_136) rfl (l' := #[.val (.ref a1), .val (.ref a2), .val (.long q3), .second, .val (.long rem_2), .second, .val (.ref b18), .val (.long (left_2 - (1 : Int64))), .second, .val (.int (2 : Int32)), .val (.long k_2), .second]) rfl hr) ?_
                        show Till p e below s (Q2 Z a1 a2 q3 w1 g h0 n0) room2.cells room2.slots (T53.setTop (mkF m 138 #[.val (.ref a1), .val (.ref a2), .val (.long q3), .second, .val (.long rem_2), .second, .val (.ref b18), .val (.long (left_2 - (1 : Int64))), .second, .val (.int (2 : Int32)), .val (.long k_2), .second] []))
                        refine Till.pre (fun _ hr => XS.lload X55.here hx rfl (hb hby d2_138) rfl hr) ?_
                        show Till p e below s (Q2 Z a1 a2 q3 w1 g h0 n0) room2.cells room2.slots (T53.setTop (mkF m 140 #[.val (.ref a1), .val (.ref a2), .val (.long q3), .second, .val (.long rem_2), .second, .val (.ref b18), .val (.long (left_2 - (1 : Int64))), .second, .val (.int (2 : Int32)), .val (.long k_2), .second] [(.long rem_2)]))
                        refine Till.pre (fun _ hr => XS.lconst X55.here hx rfl (hb hby d2_140) hr) ?_
                        show Till p e below s (Q2 Z a1 a2 q3 w1 g h0 n0) room2.cells room2.slots (T53.setTop (mkF m 141 #[.val (.ref a1), .val (.ref a2), .val (.long q3), .second, .val (.long rem_2), .second, .val (.ref b18), .val (.long (left_2 - (1 : Int64))), .second, .val (.int (2 : Int32)), .val (.long k_2), .second] [(.long (1 : Int64)), (.long rem_2)]))
                        refine Till.pre (fun _ hr => XS.lsub X55.here hx rfl (hb hby d2_141) rfl hr) ?_
                        show Till p e below s (Q2 Z a1 a2 q3 w1 g h0 n0) room2.cells room2.slots (T53.setTop (mkF m 142 #[.val (.ref a1), .val (.ref a2), .val (.long q3), .second, .val (.long rem_2), .second, .val (.ref b18), .val (.long (left_2 - (1 : Int64))), .second, .val (.int (2 : Int32)), .val (.long k_2), .second] [(.long (rem_2 - (1 : Int64)))]))
                        refine Till.pre (fun _ hr => XS.lstore X55.here hx rfl (hb hby d2_142) rfl (l' := #[.val (.ref a1), .val (.ref a2), .val (.long q3), .second, .val (.long (rem_2 - (1 : Int64))), .second, .val (.ref b18), .val (.long (left_2 - (1 : Int64))), .second, .val (.int (2 : Int32)), .val (.long k_2), .second]) rfl hr) ?_
                        show Till p e below s (Q2 Z a1 a2 q3 w1 g h0 n0) room2.cells room2.slots (T53.setTop (mkF m 144 #[.val (.ref a1), .val (.ref a2), .val (.long q3), .second, .val (.long (rem_2 - (1 : Int64))), .second, .val (.ref b18), .val (.long (left_2 - (1 : Int64))), .second, .val (.int (2 : Int32)), .val (.long k_2), .second] []))
                        refine Till.pre (fun _ hr => XS.lload X55.here hx rfl (hb hby d2_144) rfl hr) ?_
                        show Till p e below s (Q2 Z a1 a2 q3 w1 g h0 n0) room2.cells room2.slots (T53.setTop (mkF m 146 #[.val (.ref a1), .val (.ref a2), .val (.long q3), .second, .val (.long (rem_2 - (1 : Int64))), .second, .val (.ref b18), .val (.long (left_2 - (1 : Int64))), .second, .val (.int (2 : Int32)), .val (.long k_2), .second] [(.long k_2)]))
                        refine Till.pre (fun _ hr => XS.lconst X55.here hx rfl (hb hby d2_146) hr) ?_
                        show Till p e below s (Q2 Z a1 a2 q3 w1 g h0 n0) room2.cells room2.slots (T53.setTop (mkF m 147 #[.val (.ref a1), .val (.ref a2), .val (.long q3), .second, .val (.long (rem_2 - (1 : Int64))), .second, .val (.ref b18), .val (.long (left_2 - (1 : Int64))), .second, .val (.int (2 : Int32)), .val (.long k_2), .second] [(.long (1 : Int64)), (.long k_2)]))
                        refine Till.pre (fun _ hr => XS.ladd X55.here hx rfl (hb hby d2_147) rfl hr) ?_
                        show Till p e below s (Q2 Z a1 a2 q3 w1 g h0 n0) room2.cells room2.slots (T53.setTop (mkF m 148 #[.val (.ref a1), .val (.ref a2), .val (.long q3), .second, .val (.long (rem_2 - (1 : Int64))), .second, .val (.ref b18), .val (.long (left_2 - (1 : Int64))), .second, .val (.int (2 : Int32)), .val (.long k_2), .second] [(.long (k_2 + (1 : Int64)))]))
                        refine Till.pre (fun _ hr => XS.lstore X55.here hx rfl (hb hby d2_148) rfl (l' := #[.val (.ref a1), .val (.ref a2), .val (.long q3), .second, .val (.long (rem_2 - (1 : Int64))), .second, .val (.ref b18), .val (.long (left_2 - (1 : Int64))), .second, .val (.int (2 : Int32)), .val (.long (k_2 + (1 : Int64))), .second]) rfl hr) ?_
                        show Till p e below s (Q2 Z a1 a2 q3 w1 g h0 n0) room2.cells room2.slots (T53.setTop (mkF m 150 #[.val (.ref a1), .val (.ref a2), .val (.long q3), .second, .val (.long (rem_2 - (1 : Int64))), .second, .val (.ref b18), .val (.long (left_2 - (1 : Int64))), .second, .val (.int (2 : Int32)), .val (.long (k_2 + (1 : Int64))), .second] []))
                        refine Till.pre (fun _ hr => XS.goto X55.here hx rfl (pc0 := 150) (pc' := 94) rfl (hb hby d2_150) (by decide) (by decide) hr) ?_
                        show Till p e below s (Q2 Z a1 a2 q3 w1 g h0 n0) room2.cells room2.slots (T53.setTop (mkF m 94 #[.val (.ref a1), .val (.ref a2), .val (.long q3), .second, .val (.long (rem_2 - (1 : Int64))), .second, .val (.ref b18), .val (.long (left_2 - (1 : Int64))), .second, .val (.int (2 : Int32)), .val (.long (k_2 + (1 : Int64))), .second] []))
                        exact ih _ _ X55 N59 _ _ _ _ _ (by rw [e56]; exact Zs) (by rw [e56]; exact Kp) (by rw [e56]; exact R_a1) (by rw [e56]; exact R_a2) (by rw [e56]; exact R_b18) (((own_step (by decide) hG I_2 hc44 hc45).2 (fn4 rem_2 W_2) _ (own_blr (own_step (by decide) hG I_2 hc44 hc45).1) (own_blg (own_step (by decide) hG I_2 hc44 hc45).1)).1 hc52) (own_mu hm hc44)
              show Till p e below s (Q2 Z a1 a2 q3 w1 g h0 n0) room2.cells room2.slots (T31.setTop (mkF m 94 #[.val (.ref a1), .val (.ref a2), .val (.long q3), .second, .val (.long rem_1), .second, .val (.ref b18), .val (.long left_1), .second, .val (.int (2 : Int32)), .val (.long (0 : Int64)), .second] []))
              exact loop94_42 _ _ _ X33 N34 _ _ _ _ _ Zs Kp R_a1 R_a2 R_b18 (own_exit (by decide) hG I_1 (Or.inl hc37)) (Nat.lt_succ_self _)
            · have hc37 := (lLt.mp (hLt.2.2.2.1 q))
              show Till p e below s (Q2 Z a1 a2 q3 w1 g h0 n0) room2.cells room2.slots (T31.setTop (mkF m 104 #[.val (.ref a1), .val (.ref a2), .val (.long q3), .second, .val (.long rem_1), .second, .val (.ref b18), .val (.long left_1), .second, .val (.int (1 : Int32)), .val (.long k_1), .second] []))
              refine Till.pre (fun _ hr => XS.lload X33.here hx rfl (hb hby d2_104) rfl hr) ?_
              show Till p e below s (Q2 Z a1 a2 q3 w1 g h0 n0) room2.cells room2.slots (T31.setTop (mkF m 106 #[.val (.ref a1), .val (.ref a2), .val (.long q3), .second, .val (.long rem_1), .second, .val (.ref b18), .val (.long left_1), .second, .val (.int (1 : Int32)), .val (.long k_1), .second] [(.long left_1)]))
              refine Till.pre (fun _ hr => XS.lconst X33.here hx rfl (hb hby d2_106) hr) ?_
              show Till p e below s (Q2 Z a1 a2 q3 w1 g h0 n0) room2.cells room2.slots (T31.setTop (mkF m 107 #[.val (.ref a1), .val (.ref a2), .val (.long q3), .second, .val (.long rem_1), .second, .val (.ref b18), .val (.long left_1), .second, .val (.int (1 : Int32)), .val (.long k_1), .second] [(.long (0 : Int64)), (.long left_1)]))
              refine Till.pre (fun _ hr => XS.lcmp X33.here hx rfl (hb hby d2_107) rfl hr) ?_
              show Till p e below s (Q2 Z a1 a2 q3 w1 g h0 n0) room2.cells room2.slots (T31.setTop (mkF m 108 #[.val (.ref a1), .val (.ref a2), .val (.long q3), .second, .val (.long rem_1), .second, .val (.ref b18), .val (.long left_1), .second, .val (.int (1 : Int32)), .val (.long k_1), .second] [(.int (lcmpW left_1 (0 : Int64)))]))
              refine Till.ifc (pc' := 153) X33.here hx (hb hby d2_108) (by decide) (by decide) (fun q => ?_) (fun q => ?_)
              · have hc60 := (mt lGt.mpr (hLt.2.2.2.2.2.2.1 q))
                show Till p e below s (Q2 Z a1 a2 q3 w1 g h0 n0) room2.cells room2.slots (T31.setTop (mkF m 153 #[.val (.ref a1), .val (.ref a2), .val (.long q3), .second, .val (.long rem_1), .second, .val (.ref b18), .val (.long left_1), .second, .val (.int (1 : Int32)), .val (.long k_1), .second] []))
                refine Till.pre (fun _ hr => XS.iinc X33.here hx rfl (hb hby d2_153) rfl (l' := #[.val (.ref a1), .val (.ref a2), .val (.long q3), .second, .val (.long rem_1), .second, .val (.ref b18), .val (.long left_1), .second, .val (.int (2 : Int32)), .val (.long k_1), .second]) rfl hr) ?_
                show Till p e below s (Q2 Z a1 a2 q3 w1 g h0 n0) room2.cells room2.slots (T31.setTop (mkF m 156 #[.val (.ref a1), .val (.ref a2), .val (.long q3), .second, .val (.long rem_1), .second, .val (.ref b18), .val (.long left_1), .second, .val (.int (2 : Int32)), .val (.long k_1), .second] []))
                refine Till.pre (fun _ hr => XS.goto X33.here hx rfl (pc0 := 156) (pc' := 84) rfl (hb hby d2_156) (by decide) (by decide) hr) ?_
                show Till p e below s (Q2 Z a1 a2 q3 w1 g h0 n0) room2.cells room2.slots (T31.setTop (mkF m 84 #[.val (.ref a1), .val (.ref a2), .val (.long q3), .second, .val (.long rem_1), .second, .val (.ref b18), .val (.long left_1), .second, .val (.int (2 : Int32)), .val (.long k_1), .second] []))
                refine Till.pre (fun _ hr => XS.iload X33.here hx rfl (hb hby d2_84) rfl hr) ?_
                show Till p e below s (Q2 Z a1 a2 q3 w1 g h0 n0) room2.cells room2.slots (T31.setTop (mkF m 86 #[.val (.ref a1), .val (.ref a2), .val (.long q3), .second, .val (.long rem_1), .second, .val (.ref b18), .val (.long left_1), .second, .val (.int (2 : Int32)), .val (.long k_1), .second] [(.int (2 : Int32))]))
                refine Till.pre (fun _ hr => XS.aloadN X33.here hx rfl (hb hby d2_86) rfl rfl hr) ?_
                show Till p e below s (Q2 Z a1 a2 q3 w1 g h0 n0) room2.cells room2.slots (T31.setTop (mkF m 87 #[.val (.ref a1), .val (.ref a2), .val (.long q3), .second, .val (.long rem_1), .second, .val (.ref b18), .val (.long left_1), .second, .val (.int (2 : Int32)), .val (.long k_1), .second] [(.ref a2), (.int (2 : Int32))]))
                refine Till.alen R_a2 X33 hx hZ rfl (hb hby d2_87) ?_
                show Till p e below s (Q2 Z a1 a2 q3 w1 g h0 n0) room2.cells room2.slots (T31.setTop (mkF m 88 #[.val (.ref a1), .val (.ref a2), .val (.long q3), .second, .val (.long rem_1), .second, .val (.ref b18), .val (.long left_1), .second, .val (.int (2 : Int32)), .val (.long k_1), .second] [(.int (3 : Int32)), (.int (2 : Int32))]))
                refine Till.icmp (pc' := 159) X33.here hx (hb hby d2_88) (by decide) (by decide) (fun q => absurd (by decide : ((2 : Int32) < (3 : Int32))) (hLt.2.2.1 q)) (fun q => ?_)
                show Till p e below s (Q2 Z a1 a2 q3 w1 g h0 n0) room2.cells room2.slots (T31.setTop (mkF m 91 #[.val (.ref a1), .val (.ref a2), .val (.long q3), .second, .val (.long rem_1), .second, .val (.ref b18), .val (.long left_1), .second, .val (.int (2 : Int32)), .val (.long k_1), .second] []))
                refine Till.pre (fun _ hr => XS.lconst X33.here hx rfl (hb hby d2_91) hr) ?_
                show Till p e below s (Q2 Z a1 a2 q3 w1 g h0 n0) room2.cells room2.slots (T31.setTop (mkF m 92 #[.val (.ref a1), .val (.ref a2), .val (.long q3), .second, .val (.long rem_1), .second, .val (.ref b18), .val (.long left_1), .second, .val (.int (2 : Int32)), .val (.long k_1), .second] [(.long (0 : Int64))]))
                refine Till.pre (fun _ hr => XS.lstore X33.here hx rfl (hb hby d2_92) rfl (l' := #[.val (.ref a1), .val (.ref a2), .val (.long q3), .second, .val (.long rem_1), .second, .val (.ref b18), .val (.long left_1), .second, .val (.int (2 : Int32)), .val (.long (0 : Int64)), .second]) rfl hr) ?_
                have loop94_65 : ∀ (fuel : Nat) (T61 : State) (L62 : List Loc) (X63 : Stand p l e room2 s m #[(.ref a1), (.ref a2), (.long q3)] below meth c T61 L62 1 3) (N64 : Fr n0 L62) (k_2 : Int64) (left_2 : Int64) (rem_2 : Int64) (W_2 : Int64) (d_2 : Nat → Int64) (Zs : n0 ≤ T61.heap.size) (Kp : Keep h0 T61.heap [a1]) (R_a1 : Lot Z T61.heap a1 W_2) (R_a2 : LA Z T61.heap a2 (3 : Int32) g) (R_b18 : LA Z T61.heap b18 (3 : Int32) d_2) (I_2 : own_I 2 g q3 w1 k_2 rem_2 left_2 W_2 d_2) (hm : ((g 2).toInt - k_2.toInt).toNat < fuel), Till p e below s (Q2 Z a1 a2 q3 w1 g h0 n0) room2.cells room2.slots (T61.setTop (mkF m 94 #[.val (.ref a1), .val (.ref a2), .val (.long q3), .second, .val (.long rem_2), .second, .val (.ref b18), .val (.long left_2), .second, .val (.int (2 : Int32)), .val (.long k_2), .second] [])) := by
                  intro fuel
                  induction fuel with
                  | zero => intro T61 L62 X63 N64 k_2 left_2 rem_2 W_2 d_2 Zs Kp R_a1 R_a2 R_b18 I_2 hm; exact absurd hm (Nat.not_lt_zero _)
                  | succ fuel ih =>
                    intro T61 L62 X63 N64 k_2 left_2 rem_2 W_2 d_2 Zs Kp R_a1 R_a2 R_b18 I_2 hm
                    show Till p e below s (Q2 Z a1 a2 q3 w1 g h0 n0) room2.cells room2.slots (T61.setTop (mkF m 94 #[.val (.ref a1), .val (.ref a2), .val (.long q3), .second, .val (.long rem_2), .second, .val (.ref b18), .val (.long left_2), .second, .val (.int (2 : Int32)), .val (.long k_2), .second] []))
                    refine Till.pre (fun _ hr => XS.lload X63.here hx rfl (hb hby d2_94) rfl hr) ?_
                    show Till p e below s (Q2 Z a1 a2 q3 w1 g h0 n0) room2.cells room2.slots (T61.setTop (mkF m 96 #[.val (.ref a1), .val (.ref a2), .val (.long q3), .second, .val (.long rem_2), .second, .val (.ref b18), .val (.long left_2), .second, .val (.int (2 : Int32)), .val (.long k_2), .second] [(.long k_2)]))
                    refine Till.pre (fun _ hr => XS.aloadN X63.here hx rfl (hb hby d2_96) rfl rfl hr) ?_
                    show Till p e below s (Q2 Z a1 a2 q3 w1 g h0 n0) room2.cells room2.slots (T61.setTop (mkF m 97 #[.val (.ref a1), .val (.ref a2), .val (.long q3), .second, .val (.long rem_2), .second, .val (.ref b18), .val (.long left_2), .second, .val (.int (2 : Int32)), .val (.long k_2), .second] [(.ref a2), (.long k_2)]))
                    refine Till.pre (fun _ hr => XS.iload X63.here hx rfl (hb hby d2_97) rfl hr) ?_
                    show Till p e below s (Q2 Z a1 a2 q3 w1 g h0 n0) room2.cells room2.slots (T61.setTop (mkF m 99 #[.val (.ref a1), .val (.ref a2), .val (.long q3), .second, .val (.long rem_2), .second, .val (.ref b18), .val (.long left_2), .second, .val (.int (2 : Int32)), .val (.long k_2), .second] [(.int (2 : Int32)), (.ref a2), (.long k_2)]))
                    refine Till.laload R_a2 (by decide) (by decide) X63 hx hZ rfl (hb hby d2_99) ?_
                    show Till p e below s (Q2 Z a1 a2 q3 w1 g h0 n0) room2.cells room2.slots (T61.setTop (mkF m 100 #[.val (.ref a1), .val (.ref a2), .val (.long q3), .second, .val (.long rem_2), .second, .val (.ref b18), .val (.long left_2), .second, .val (.int (2 : Int32)), .val (.long k_2), .second] [(.long (g 2)), (.long k_2)]))
                    refine Till.pre (fun _ hr => XS.lcmp X63.here hx rfl (hb hby d2_100) rfl hr) ?_
                    show Till p e below s (Q2 Z a1 a2 q3 w1 g h0 n0) room2.cells room2.slots (T61.setTop (mkF m 101 #[.val (.ref a1), .val (.ref a2), .val (.long q3), .second, .val (.long rem_2), .second, .val (.ref b18), .val (.long left_2), .second, .val (.int (2 : Int32)), .val (.long k_2), .second] [(.int (lcmpW k_2 (g 2)))]))
                    refine Till.ifc (pc' := 153) X63.here hx (hb hby d2_101) (by decide) (by decide) (fun q => ?_) (fun q => ?_)
                    · have hc67 := (mt lLt.mpr (hLt.2.2.1 q))
                      show Till p e below s (Q2 Z a1 a2 q3 w1 g h0 n0) room2.cells room2.slots (T61.setTop (mkF m 153 #[.val (.ref a1), .val (.ref a2), .val (.long q3), .second, .val (.long rem_2), .second, .val (.ref b18), .val (.long left_2), .second, .val (.int (2 : Int32)), .val (.long k_2), .second] []))
                      refine Till.pre (fun _ hr => XS.iinc X63.here hx rfl (hb hby d2_153) rfl (l' := #[.val (.ref a1), .val (.ref a2), .val (.long q3), .second, .val (.long rem_2), .second, .val (.ref b18), .val (.long left_2), .second, .val (.int (3 : Int32)), .val (.long k_2), .second]) rfl hr) ?_
                      show Till p e below s (Q2 Z a1 a2 q3 w1 g h0 n0) room2.cells room2.slots (T61.setTop (mkF m 156 #[.val (.ref a1), .val (.ref a2), .val (.long q3), .second, .val (.long rem_2), .second, .val (.ref b18), .val (.long left_2), .second, .val (.int (3 : Int32)), .val (.long k_2), .second] []))
                      refine Till.pre (fun _ hr => XS.goto X63.here hx rfl (pc0 := 156) (pc' := 84) rfl (hb hby d2_156) (by decide) (by decide) hr) ?_
                      show Till p e below s (Q2 Z a1 a2 q3 w1 g h0 n0) room2.cells room2.slots (T61.setTop (mkF m 84 #[.val (.ref a1), .val (.ref a2), .val (.long q3), .second, .val (.long rem_2), .second, .val (.ref b18), .val (.long left_2), .second, .val (.int (3 : Int32)), .val (.long k_2), .second] []))
                      refine Till.pre (fun _ hr => XS.iload X63.here hx rfl (hb hby d2_84) rfl hr) ?_
                      show Till p e below s (Q2 Z a1 a2 q3 w1 g h0 n0) room2.cells room2.slots (T61.setTop (mkF m 86 #[.val (.ref a1), .val (.ref a2), .val (.long q3), .second, .val (.long rem_2), .second, .val (.ref b18), .val (.long left_2), .second, .val (.int (3 : Int32)), .val (.long k_2), .second] [(.int (3 : Int32))]))
                      refine Till.pre (fun _ hr => XS.aloadN X63.here hx rfl (hb hby d2_86) rfl rfl hr) ?_
                      show Till p e below s (Q2 Z a1 a2 q3 w1 g h0 n0) room2.cells room2.slots (T61.setTop (mkF m 87 #[.val (.ref a1), .val (.ref a2), .val (.long q3), .second, .val (.long rem_2), .second, .val (.ref b18), .val (.long left_2), .second, .val (.int (3 : Int32)), .val (.long k_2), .second] [(.ref a2), (.int (3 : Int32))]))
                      refine Till.alen R_a2 X63 hx hZ rfl (hb hby d2_87) ?_
                      show Till p e below s (Q2 Z a1 a2 q3 w1 g h0 n0) room2.cells room2.slots (T61.setTop (mkF m 88 #[.val (.ref a1), .val (.ref a2), .val (.long q3), .second, .val (.long rem_2), .second, .val (.ref b18), .val (.long left_2), .second, .val (.int (3 : Int32)), .val (.long k_2), .second] [(.int (3 : Int32)), (.int (3 : Int32))]))
                      refine Till.icmp (pc' := 159) X63.here hx (hb hby d2_88) (by decide) (by decide) (fun q => ?_) (fun q => absurd (hLt.2.2.2.1 q) (by decide : ¬ ((3 : Int32) < (3 : Int32))))
                      show Till p e below s (Q2 Z a1 a2 q3 w1 g h0 n0) room2.cells room2.slots (T61.setTop (mkF m 159 #[.val (.ref a1), .val (.ref a2), .val (.long q3), .second, .val (.long rem_2), .second, .val (.ref b18), .val (.long left_2), .second, .val (.int (3 : Int32)), .val (.long k_2), .second] []))
                      refine Till.pre (fun _ hr => XS.aload X63.here hx rfl (hb hby d2_159) rfl rfl hr) ?_
                      show Till p e below s (Q2 Z a1 a2 q3 w1 g h0 n0) room2.cells room2.slots (T61.setTop (mkF m 161 #[.val (.ref a1), .val (.ref a2), .val (.long q3), .second, .val (.long rem_2), .second, .val (.ref b18), .val (.long left_2), .second, .val (.int (3 : Int32)), .val (.long k_2), .second] [(.ref b18)]))
                      refine Till.retA X63 hx hret rfl hlk rfl rfl (hb hby d2_161) (by decide) (by decide) ?_
                      show (Q2 Z a1 a2 q3 w1 g h0 n0) _ T61.heap _
                      exact ⟨b18, _, _, rfl, N64, Kp, sz_b18, R_a1, R_b18, own_done hG I_2 (Or.inl hc67)⟩
                    · have hc67 := (lLt.mp (hLt.2.2.2.1 q))
                      show Till p e below s (Q2 Z a1 a2 q3 w1 g h0 n0) room2.cells room2.slots (T61.setTop (mkF m 104 #[.val (.ref a1), .val (.ref a2), .val (.long q3), .second, .val (.long rem_2), .second, .val (.ref b18), .val (.long left_2), .second, .val (.int (2 : Int32)), .val (.long k_2), .second] []))
                      refine Till.pre (fun _ hr => XS.lload X63.here hx rfl (hb hby d2_104) rfl hr) ?_
                      show Till p e below s (Q2 Z a1 a2 q3 w1 g h0 n0) room2.cells room2.slots (T61.setTop (mkF m 106 #[.val (.ref a1), .val (.ref a2), .val (.long q3), .second, .val (.long rem_2), .second, .val (.ref b18), .val (.long left_2), .second, .val (.int (2 : Int32)), .val (.long k_2), .second] [(.long left_2)]))
                      refine Till.pre (fun _ hr => XS.lconst X63.here hx rfl (hb hby d2_106) hr) ?_
                      show Till p e below s (Q2 Z a1 a2 q3 w1 g h0 n0) room2.cells room2.slots (T61.setTop (mkF m 107 #[.val (.ref a1), .val (.ref a2), .val (.long q3), .second, .val (.long rem_2), .second, .val (.ref b18), .val (.long left_2), .second, .val (.int (2 : Int32)), .val (.long k_2), .second] [(.long (0 : Int64)), (.long left_2)]))
                      refine Till.pre (fun _ hr => XS.lcmp X63.here hx rfl (hb hby d2_107) rfl hr) ?_
                      show Till p e below s (Q2 Z a1 a2 q3 w1 g h0 n0) room2.cells room2.slots (T61.setTop (mkF m 108 #[.val (.ref a1), .val (.ref a2), .val (.long q3), .second, .val (.long rem_2), .second, .val (.ref b18), .val (.long left_2), .second, .val (.int (2 : Int32)), .val (.long k_2), .second] [(.int (lcmpW left_2 (0 : Int64)))]))
                      refine Till.ifc (pc' := 153) X63.here hx (hb hby d2_108) (by decide) (by decide) (fun q => ?_) (fun q => ?_)
                      · have hc68 := (mt lGt.mpr (hLt.2.2.2.2.2.2.1 q))
                        show Till p e below s (Q2 Z a1 a2 q3 w1 g h0 n0) room2.cells room2.slots (T61.setTop (mkF m 153 #[.val (.ref a1), .val (.ref a2), .val (.long q3), .second, .val (.long rem_2), .second, .val (.ref b18), .val (.long left_2), .second, .val (.int (2 : Int32)), .val (.long k_2), .second] []))
                        refine Till.pre (fun _ hr => XS.iinc X63.here hx rfl (hb hby d2_153) rfl (l' := #[.val (.ref a1), .val (.ref a2), .val (.long q3), .second, .val (.long rem_2), .second, .val (.ref b18), .val (.long left_2), .second, .val (.int (3 : Int32)), .val (.long k_2), .second]) rfl hr) ?_
                        show Till p e below s (Q2 Z a1 a2 q3 w1 g h0 n0) room2.cells room2.slots (T61.setTop (mkF m 156 #[.val (.ref a1), .val (.ref a2), .val (.long q3), .second, .val (.long rem_2), .second, .val (.ref b18), .val (.long left_2), .second, .val (.int (3 : Int32)), .val (.long k_2), .second] []))
                        refine Till.pre (fun _ hr => XS.goto X63.here hx rfl (pc0 := 156) (pc' := 84) rfl (hb hby d2_156) (by decide) (by decide) hr) ?_
                        show Till p e below s (Q2 Z a1 a2 q3 w1 g h0 n0) room2.cells room2.slots (T61.setTop (mkF m 84 #[.val (.ref a1), .val (.ref a2), .val (.long q3), .second, .val (.long rem_2), .second, .val (.ref b18), .val (.long left_2), .second, .val (.int (3 : Int32)), .val (.long k_2), .second] []))
                        refine Till.pre (fun _ hr => XS.iload X63.here hx rfl (hb hby d2_84) rfl hr) ?_
                        show Till p e below s (Q2 Z a1 a2 q3 w1 g h0 n0) room2.cells room2.slots (T61.setTop (mkF m 86 #[.val (.ref a1), .val (.ref a2), .val (.long q3), .second, .val (.long rem_2), .second, .val (.ref b18), .val (.long left_2), .second, .val (.int (3 : Int32)), .val (.long k_2), .second] [(.int (3 : Int32))]))
                        refine Till.pre (fun _ hr => XS.aloadN X63.here hx rfl (hb hby d2_86) rfl rfl hr) ?_
                        show Till p e below s (Q2 Z a1 a2 q3 w1 g h0 n0) room2.cells room2.slots (T61.setTop (mkF m 87 #[.val (.ref a1), .val (.ref a2), .val (.long q3), .second, .val (.long rem_2), .second, .val (.ref b18), .val (.long left_2), .second, .val (.int (3 : Int32)), .val (.long k_2), .second] [(.ref a2), (.int (3 : Int32))]))
                        refine Till.alen R_a2 X63 hx hZ rfl (hb hby d2_87) ?_
                        show Till p e below s (Q2 Z a1 a2 q3 w1 g h0 n0) room2.cells room2.slots (T61.setTop (mkF m 88 #[.val (.ref a1), .val (.ref a2), .val (.long q3), .second, .val (.long rem_2), .second, .val (.ref b18), .val (.long left_2), .second, .val (.int (3 : Int32)), .val (.long k_2), .second] [(.int (3 : Int32)), (.int (3 : Int32))]))
                        refine Till.icmp (pc' := 159) X63.here hx (hb hby d2_88) (by decide) (by decide) (fun q => ?_) (fun q => absurd (hLt.2.2.2.1 q) (by decide : ¬ ((3 : Int32) < (3 : Int32))))
                        show Till p e below s (Q2 Z a1 a2 q3 w1 g h0 n0) room2.cells room2.slots (T61.setTop (mkF m 159 #[.val (.ref a1), .val (.ref a2), .val (.long q3), .second, .val (.long rem_2), .second, .val (.ref b18), .val (.long left_2), .second, .val (.int (3 : Int32)), .val (.long k_2), .second] []))
                        refine Till.pre (fun _ hr => XS.aload X63.here hx rfl (hb hby d2_159) rfl rfl hr) ?_
                        show Till p e below s (Q2 Z a1 a2 q3 w1 g h0 n0) room2.cells room2.slots (T61.setTop (mkF m 161 #[.val (.ref a1), .val (.ref a2), .val (.long q3), .second, .val (.long rem_2), .second, .val (.ref b18), .val (.long left_2), .second, .val (.int (3 : Int32)), .val (.long k_2), .second] [(.ref b18)]))
                        refine Till.retA X63 hx hret rfl hlk rfl rfl (hb hby d2_161) (by decide) (by decide) ?_
                        show (Q2 Z a1 a2 q3 w1 g h0 n0) _ T61.heap _
                        exact ⟨b18, _, _, rfl, N64, Kp, sz_b18, R_a1, R_b18, own_done hG I_2 (Or.inr hc68)⟩
                      · have hc68 := (lGt.mp (hLt.2.2.2.2.2.2.2 q))
                        show Till p e below s (Q2 Z a1 a2 q3 w1 g h0 n0) room2.cells room2.slots (T61.setTop (mkF m 111 #[.val (.ref a1), .val (.ref a2), .val (.long q3), .second, .val (.long rem_2), .second, .val (.ref b18), .val (.long left_2), .second, .val (.int (2 : Int32)), .val (.long k_2), .second] []))
                        refine Till.pre (fun _ hr => XS.aloadN X63.here hx rfl (hb hby d2_111) rfl rfl hr) ?_
                        show Till p e below s (Q2 Z a1 a2 q3 w1 g h0 n0) room2.cells room2.slots (T61.setTop (mkF m 112 #[.val (.ref a1), .val (.ref a2), .val (.long q3), .second, .val (.long rem_2), .second, .val (.ref b18), .val (.long left_2), .second, .val (.int (2 : Int32)), .val (.long k_2), .second] [(.ref a1)]))
                        refine Till.pre (fun _ hr => XS.lload X63.here hx rfl (hb hby d2_112) rfl hr) ?_
                        show Till p e below s (Q2 Z a1 a2 q3 w1 g h0 n0) room2.cells room2.slots (T61.setTop (mkF m 114 #[.val (.ref a1), .val (.ref a2), .val (.long q3), .second, .val (.long rem_2), .second, .val (.ref b18), .val (.long left_2), .second, .val (.int (2 : Int32)), .val (.long k_2), .second] [(.long rem_2), (.ref a1)]))
                        refine Till.callP (rm4 l Z a0 hw a1 rem_2 W_2 T61.heap n0 Zs R_a1 g_a1 ((own_step (by decide) hG I_2 hc67 hc68).1)) R_a1.1 X63 hx hZ hown (hw _ (List.mem_of_getElem? (i := 22) rfl)) (hw _ (List.mem_of_getElem? (i := 23) rfl)) (hw _ (List.mem_of_getElem? (i := 24) rfl)) (hw _ (List.mem_of_getElem? (i := 3) rfl)) (hw _ (List.mem_of_getElem? (i := 4) rfl)) (hw _ (List.mem_of_getElem? (i := 25) rfl)) (by decide) (by decide) (W := 0) (by decide) (by rw [hml]; rfl) (a := a1) (argsL := [(.long rem_2)]) (rest := []) (lenOf pd2_2 rfl) rfl rfl (Nat.le_of_eq rfl) (hb hby d2_114) rfl (by decide) (by decide) ?_
                        rintro _ T69 L70 X71 ⟨rfl, N72, K73, q74⟩
                        have N72 := Fr.app N64 N72
                        have R_a2 := R_a2.keep K73 (ninS (Ne.symm ne_a1_a2) nin0)
                        have R_b18 := R_b18.keep K73 (ninS (Ne.symm ne_a1_b18) nin0)
                        have Zs := Nat.le_trans Zs K73.1
                        have Kp := Kp.trans K73 (allS (Or.inl (List.mem_of_getElem? (i := 0) rfl)) all0)
                        have R_a1 : Lot Z T69.heap a1 (if ((((lsr (fn5 W_2) (1 : Int32)) - ((lsr (fn5 W_2) (1 : Int32)) - ((lsr (fn5 W_2) (1 : Int32)) / rem_2) * rem_2)) + (rem_2 - (1 : Int64))) < (0 : Int64)) then ((W_2 + (-7046029254386353131 : Int64)) + (-7046029254386353131 : Int64)) else (W_2 + (-7046029254386353131 : Int64))) := q74
                        show Till p e below s (Q2 Z a1 a2 q3 w1 g h0 n0) room2.cells room2.slots (T69.setTop (mkF m 117 #[.val (.ref a1), .val (.ref a2), .val (.long q3), .second, .val (.long rem_2), .second, .val (.ref b18), .val (.long left_2), .second, .val (.int (2 : Int32)), .val (.long k_2), .second] [(.long (fn4 rem_2 W_2))]))
                        refine Till.pre (fun _ hr => XS.lload X71.here hx rfl (hb hby d2_117) rfl hr) ?_
                        show Till p e below s (Q2 Z a1 a2 q3 w1 g h0 n0) room2.cells room2.slots (T69.setTop (mkF m 119 #[.val (.ref a1), .val (.ref a2), .val (.long q3), .second, .val (.long rem_2), .second, .val (.ref b18), .val (.long left_2), .second, .val (.int (2 : Int32)), .val (.long k_2), .second] [(.long left_2), (.long (fn4 rem_2 W_2))]))
                        refine Till.pre (fun _ hr => XS.lcmp X71.here hx rfl (hb hby d2_119) rfl hr) ?_
                        show Till p e below s (Q2 Z a1 a2 q3 w1 g h0 n0) room2.cells room2.slots (T69.setTop (mkF m 120 #[.val (.ref a1), .val (.ref a2), .val (.long q3), .second, .val (.long rem_2), .second, .val (.ref b18), .val (.long left_2), .second, .val (.int (2 : Int32)), .val (.long k_2), .second] [(.int (lcmpW (fn4 rem_2 W_2) left_2))]))
                        refine Till.ifc (pc' := 138) X71.here hx (hb hby d2_120) (by decide) (by decide) (fun q => ?_) (fun q => ?_)
                        · have hc75 := (mt lLt.mpr (hLt.2.2.1 q))
                          show Till p e below s (Q2 Z a1 a2 q3 w1 g h0 n0) room2.cells room2.slots (T69.setTop (mkF m 138 #[.val (.ref a1), .val (.ref a2), .val (.long q3), .second, .val (.long rem_2), .second, .val (.ref b18), .val (.long left_2), .second, .val (.int (2 : Int32)), .val (.long k_2), .second] []))
                          refine Till.pre (fun _ hr => XS.lload X71.here hx rfl (hb hby d2_138) rfl hr) ?_
                          show Till p e below s (Q2 Z a1 a2 q3 w1 g h0 n0) room2.cells room2.slots (T69.setTop (mkF m 140 #[.val (.ref a1), .val (.ref a2), .val (.long q3), .second, .val (.long rem_2), .second, .val (.ref b18), .val (.long left_2), .second, .val (.int (2 : Int32)), .val (.long k_2), .second] [(.long rem_2)]))
                          refine Till.pre (fun _ hr => XS.lconst X71.here hx rfl (hb hby d2_140) hr) ?_
                          show Till p e below s (Q2 Z a1 a2 q3 w1 g h0 n0) room2.cells room2.slots (T69.setTop (mkF m 141 #[.val (.ref a1), .val (.ref a2), .val (.long q3), .second, .val (.long rem_2), .second, .val (.ref b18), .val (.long left_2), .second, .val (.int (2 : Int32)), .val (.long k_2), .second] [(.long (1 : Int64)), (.long rem_2)]))
                          refine Till.pre (fun _ hr => XS.lsub X71.here hx rfl (hb hby d2_141) rfl hr) ?_
                          show Till p e below s (Q2 Z a1 a2 q3 w1 g h0 n0) room2.cells room2.slots (T69.setTop (mkF m 142 #[.val (.ref a1), .val (.ref a2), .val (.long q3), .second, .val (.long rem_2), .second, .val (.ref b18), .val (.long left_2), .second, .val (.int (2 : Int32)), .val (.long k_2), .second] [(.long (rem_2 - (1 : Int64)))]))
                          refine Till.pre (fun _ hr => XS.lstore X71.here hx rfl (hb hby d2_142) rfl (l' := #[.val (.ref a1), .val (.ref a2), .val (.long q3), .second, .val (.long (rem_2 - (1 : Int64))), .second, .val (.ref b18), .val (.long left_2), .second, .val (.int (2 : Int32)), .val (.long k_2), .second]) rfl hr) ?_
                          show Till p e below s (Q2 Z a1 a2 q3 w1 g h0 n0) room2.cells room2.slots (T69.setTop (mkF m 144 #[.val (.ref a1), .val (.ref a2), .val (.long q3), .second, .val (.long (rem_2 - (1 : Int64))), .second, .val (.ref b18), .val (.long left_2), .second, .val (.int (2 : Int32)), .val (.long k_2), .second] []))
                          refine Till.pre (fun _ hr => XS.lload X71.here hx rfl (hb hby d2_144) rfl hr) ?_
                          show Till p e below s (Q2 Z a1 a2 q3 w1 g h0 n0) room2.cells room2.slots (T69.setTop (mkF m 146 #[.val (.ref a1), .val (.ref a2), .val (.long q3), .second, .val (.long (rem_2 - (1 : Int64))), .second, .val (.ref b18), .val (.long left_2), .second, .val (.int (2 : Int32)), .val (.long k_2), .second] [(.long k_2)]))
                          refine Till.pre (fun _ hr => XS.lconst X71.here hx rfl (hb hby d2_146) hr) ?_
                          show Till p e below s (Q2 Z a1 a2 q3 w1 g h0 n0) room2.cells room2.slots (T69.setTop (mkF m 147 #[.val (.ref a1), .val (.ref a2), .val (.long q3), .second, .val (.long (rem_2 - (1 : Int64))), .second, .val (.ref b18), .val (.long left_2), .second, .val (.int (2 : Int32)), .val (.long k_2), .second] [(.long (1 : Int64)), (.long k_2)]))
                          refine Till.pre (fun _ hr => XS.ladd X71.here hx rfl (hb hby d2_147) rfl hr) ?_
                          show Till p e below s (Q2 Z a1 a2 q3 w1 g h0 n0) room2.cells room2.slots (T69.setTop (mkF m 148 #[.val (.ref a1), .val (.ref a2), .val (.long q3), .second, .val (.long (rem_2 - (1 : Int64))), .second, .val (.ref b18), .val (.long left_2), .second, .val (.int (2 : Int32)), .val (.long k_2), .second] [(.long (k_2 + (1 : Int64)))]))
                          refine Till.pre (fun _ hr => XS.lstore X71.here hx rfl (hb hby d2_148) rfl (l' := #[.val (.ref a1), .val (.ref a2), .val (.long q3), .second, .val (.long (rem_2 - (1 : Int64))), .second, .val (.ref b18), .val (.long left_2), .second, .val (.int (2 : Int32)), .val (.long (k_2 + (1 : Int64))), .second]) rfl hr) ?_
                          show Till p e below s (Q2 Z a1 a2 q3 w1 g h0 n0) room2.cells room2.slots (T69.setTop (mkF m 150 #[.val (.ref a1), .val (.ref a2), .val (.long q3), .second, .val (.long (rem_2 - (1 : Int64))), .second, .val (.ref b18), .val (.long left_2), .second, .val (.int (2 : Int32)), .val (.long (k_2 + (1 : Int64))), .second] []))
                          refine Till.pre (fun _ hr => XS.goto X71.here hx rfl (pc0 := 150) (pc' := 94) rfl (hb hby d2_150) (by decide) (by decide) hr) ?_
                          show Till p e below s (Q2 Z a1 a2 q3 w1 g h0 n0) room2.cells room2.slots (T69.setTop (mkF m 94 #[.val (.ref a1), .val (.ref a2), .val (.long q3), .second, .val (.long (rem_2 - (1 : Int64))), .second, .val (.ref b18), .val (.long left_2), .second, .val (.int (2 : Int32)), .val (.long (k_2 + (1 : Int64))), .second] []))
                          exact ih _ _ X71 N72 _ _ _ _ _ Zs Kp R_a1 R_a2 R_b18 (((own_step (by decide) hG I_2 hc67 hc68).2 (fn4 rem_2 W_2) _ (own_blr (own_step (by decide) hG I_2 hc67 hc68).1) (own_blg (own_step (by decide) hG I_2 hc67 hc68).1)).2 hc75) (own_mu hm hc67)
                        · have hc75 := (lLt.mp (hLt.2.2.2.1 q))
                          show Till p e below s (Q2 Z a1 a2 q3 w1 g h0 n0) room2.cells room2.slots (T69.setTop (mkF m 123 #[.val (.ref a1), .val (.ref a2), .val (.long q3), .second, .val (.long rem_2), .second, .val (.ref b18), .val (.long left_2), .second, .val (.int (2 : Int32)), .val (.long k_2), .second] []))
                          refine Till.pre (fun _ hr => XS.aload X71.here hx rfl (hb hby d2_123) rfl rfl hr) ?_
                          show Till p e below s (Q2 Z a1 a2 q3 w1 g h0 n0) room2.cells room2.slots (T69.setTop (mkF m 125 #[.val (.ref a1), .val (.ref a2), .val (.long q3), .second, .val (.long rem_2), .second, .val (.ref b18), .val (.long left_2), .second, .val (.int (2 : Int32)), .val (.long k_2), .second] [(.ref b18)]))
                          refine Till.pre (fun _ hr => XS.iload X71.here hx rfl (hb hby d2_125) rfl hr) ?_
                          show Till p e below s (Q2 Z a1 a2 q3 w1 g h0 n0) room2.cells room2.slots (T69.setTop (mkF m 127 #[.val (.ref a1), .val (.ref a2), .val (.long q3), .second, .val (.long rem_2), .second, .val (.ref b18), .val (.long left_2), .second, .val (.int (2 : Int32)), .val (.long k_2), .second] [(.int (2 : Int32)), (.ref b18)]))
                          refine Till.pre (fun _ hr => XT.dup2 X71.here hx rfl (hb hby d2_127) rfl rfl rfl hr) ?_
                          show Till p e below s (Q2 Z a1 a2 q3 w1 g h0 n0) room2.cells room2.slots (T69.setTop (mkF m 128 #[.val (.ref a1), .val (.ref a2), .val (.long q3), .second, .val (.long rem_2), .second, .val (.ref b18), .val (.long left_2), .second, .val (.int (2 : Int32)), .val (.long k_2), .second] [(.int (2 : Int32)), (.ref b18), (.int (2 : Int32)), (.ref b18)]))
                          refine Till.laload R_b18 (by decide) (by decide) X71 hx hZ rfl (hb hby d2_128) ?_
                          show Till p e below s (Q2 Z a1 a2 q3 w1 g h0 n0) room2.cells room2.slots (T69.setTop (mkF m 129 #[.val (.ref a1), .val (.ref a2), .val (.long q3), .second, .val (.long rem_2), .second, .val (.ref b18), .val (.long left_2), .second, .val (.int (2 : Int32)), .val (.long k_2), .second] [(.long (d_2 2)), (.int (2 : Int32)), (.ref b18)]))
                          refine Till.pre (fun _ hr => XS.lconst X71.here hx rfl (hb hby d2_129) hr) ?_
                          show Till p e below s (Q2 Z a1 a2 q3 w1 g h0 n0) room2.cells room2.slots (T69.setTop (mkF m 130 #[.val (.ref a1), .val (.ref a2), .val (.long q3), .second, .val (.long rem_2), .second, .val (.ref b18), .val (.long left_2), .second, .val (.int (2 : Int32)), .val (.long k_2), .second] [(.long (1 : Int64)), (.long (d_2 2)), (.int (2 : Int32)), (.ref b18)]))
                          refine Till.pre (fun _ hr => XS.ladd X71.here hx rfl (hb hby d2_130) rfl hr) ?_
                          show Till p e below s (Q2 Z a1 a2 q3 w1 g h0 n0) room2.cells room2.slots (T69.setTop (mkF m 131 #[.val (.ref a1), .val (.ref a2), .val (.long q3), .second, .val (.long rem_2), .second, .val (.ref b18), .val (.long left_2), .second, .val (.int (2 : Int32)), .val (.long k_2), .second] [(.long ((d_2 2) + (1 : Int64))), (.int (2 : Int32)), (.ref b18)]))
                          refine Till.lastore R_b18 (by decide) (by decide) X71 hx hZ rfl (hb hby d2_131) (fun T76 h77 X78 e79 W80 A81 => ?_)
                          have N82 := Fr.snoc X78 N72 g_b18
                          have R_a1 := R_a1.wr W80 ne_a1_b18
                          have R_a2 := R_a2.wr W80 ne_a2_b18
                          have Zs := Nat.le_trans Zs (Keep.of_wr W80).1
                          have Kp := Kp.wr W80 (Or.inr sz_b18)
                          have R_b18 : LA Z h77 b18 (3 : Int32) (oupd d_2 2 ((d_2 2) + (1 : Int64))) := A81
                          show Till p e below s (Q2 Z a1 a2 q3 w1 g h0 n0) room2.cells room2.slots (T76.setTop (mkF m 132 #[.val (.ref a1), .val (.ref a2), .val (.long q3), .second, .val (.long rem_2), .second, .val (.ref b18), .val (.long left_2), .second, .val (.int (2 : Int32)), .val (.long k_2), .second] []))
                          refine Till.pre (fun _ hr => XS.lload X78.here hx rfl (hb hby d2_132) rfl hr) ?_
                          show Till p e below s (Q2 Z a1 a2 q3 w1 g h0 n0) room2.cells room2.slots (T76.setTop (mkF m 134 #[.val (.ref a1), .val (.ref a2), .val (.long q3), .second, .val (.long rem_2), .second, .val (.ref b18), .val (.long left_2), .second, .val (.int (2 : Int32)), .val (.long k_2), .second] [(.long left_2)]))
                          refine Till.pre (fun _ hr => XS.lconst X78.here hx rfl (hb hby d2_134) hr) ?_
                          show Till p e below s (Q2 Z a1 a2 q3 w1 g h0 n0) room2.cells room2.slots (T76.setTop (mkF m 135 #[.val (.ref a1), .val (.ref a2), .val (.long q3), .second, .val (.long rem_2), .second, .val (.ref b18), .val (.long left_2), .second, .val (.int (2 : Int32)), .val (.long k_2), .second] [(.long (1 : Int64)), (.long left_2)]))
                          refine Till.pre (fun _ hr => XS.lsub X78.here hx rfl (hb hby d2_135) rfl hr) ?_
                          show Till p e below s (Q2 Z a1 a2 q3 w1 g h0 n0) room2.cells room2.slots (T76.setTop (mkF m 136 #[.val (.ref a1), .val (.ref a2), .val (.long q3), .second, .val (.long rem_2), .second, .val (.ref b18), .val (.long left_2), .second, .val (.int (2 : Int32)), .val (.long k_2), .second] [(.long (left_2 - (1 : Int64)))]))
                          refine Till.pre (fun _ hr => XS.lstore X78.here hx rfl (hb hby d2_136) rfl (l' := #[.val (.ref a1), .val (.ref a2), .val (.long q3), .second, .val (.long rem_2), .second, .val (.ref b18), .val (.long (left_2 - (1 : Int64))), .second, .val (.int (2 : Int32)), .val (.long k_2), .second]) rfl hr) ?_
                          show Till p e below s (Q2 Z a1 a2 q3 w1 g h0 n0) room2.cells room2.slots (T76.setTop (mkF m 138 #[.val (.ref a1), .val (.ref a2), .val (.long q3), .second, .val (.long rem_2), .second, .val (.ref b18), .val (.long (left_2 - (1 : Int64))), .second, .val (.int (2 : Int32)), .val (.long k_2), .second] []))
                          refine Till.pre (fun _ hr => XS.lload X78.here hx rfl (hb hby d2_138) rfl hr) ?_
                          show Till p e below s (Q2 Z a1 a2 q3 w1 g h0 n0) room2.cells room2.slots (T76.setTop (mkF m 140 #[.val (.ref a1), .val (.ref a2), .val (.long q3), .second, .val (.long rem_2), .second, .val (.ref b18), .val (.long (left_2 - (1 : Int64))), .second, .val (.int (2 : Int32)), .val (.long k_2), .second] [(.long rem_2)]))
                          refine Till.pre (fun _ hr => XS.lconst X78.here hx rfl (hb hby d2_140) hr) ?_
                          show Till p e below s (Q2 Z a1 a2 q3 w1 g h0 n0) room2.cells room2.slots (T76.setTop (mkF m 141 #[.val (.ref a1), .val (.ref a2), .val (.long q3), .second, .val (.long rem_2), .second, .val (.ref b18), .val (.long (left_2 - (1 : Int64))), .second, .val (.int (2 : Int32)), .val (.long k_2), .second] [(.long (1 : Int64)), (.long rem_2)]))
                          refine Till.pre (fun _ hr => XS.lsub X78.here hx rfl (hb hby d2_141) rfl hr) ?_
                          show Till p e below s (Q2 Z a1 a2 q3 w1 g h0 n0) room2.cells room2.slots (T76.setTop (mkF m 142 #[.val (.ref a1), .val (.ref a2), .val (.long q3), .second, .val (.long rem_2), .second, .val (.ref b18), .val (.long (left_2 - (1 : Int64))), .second, .val (.int (2 : Int32)), .val (.long k_2), .second] [(.long (rem_2 - (1 : Int64)))]))
                          refine Till.pre (fun _ hr => XS.lstore X78.here hx rfl (hb hby d2_142) rfl (l' := #[.val (.ref a1), .val (.ref a2), .val (.long q3), .second, .val (.long (rem_2 - (1 : Int64))), .second, .val (.ref b18), .val (.long (left_2 - (1 : Int64))), .second, .val (.int (2 : Int32)), .val (.long k_2), .second]) rfl hr) ?_
                          show Till p e below s (Q2 Z a1 a2 q3 w1 g h0 n0) room2.cells room2.slots (T76.setTop (mkF m 144 #[.val (.ref a1), .val (.ref a2), .val (.long q3), .second, .val (.long (rem_2 - (1 : Int64))), .second, .val (.ref b18), .val (.long (left_2 - (1 : Int64))), .second, .val (.int (2 : Int32)), .val (.long k_2), .second] []))
                          refine Till.pre (fun _ hr => XS.lload X78.here hx rfl (hb hby d2_144) rfl hr) ?_
                          show Till p e below s (Q2 Z a1 a2 q3 w1 g h0 n0) room2.cells room2.slots (T76.setTop (mkF m 146 #[.val (.ref a1), .val (.ref a2), .val (.long q3), .second, .val (.long (rem_2 - (1 : Int64))), .second, .val (.ref b18), .val (.long (left_2 - (1 : Int64))), .second, .val (.int (2 : Int32)), .val (.long k_2), .second] [(.long k_2)]))
                          refine Till.pre (fun _ hr => XS.lconst X78.here hx rfl (hb hby d2_146) hr) ?_
                          show Till p e below s (Q2 Z a1 a2 q3 w1 g h0 n0) room2.cells room2.slots (T76.setTop (mkF m 147 #[.val (.ref a1), .val (.ref a2), .val (.long q3), .second, .val (.long (rem_2 - (1 : Int64))), .second, .val (.ref b18), .val (.long (left_2 - (1 : Int64))), .second, .val (.int (2 : Int32)), .val (.long k_2), .second] [(.long (1 : Int64)), (.long k_2)]))
                          refine Till.pre (fun _ hr => XS.ladd X78.here hx rfl (hb hby d2_147) rfl hr) ?_
                          show Till p e below s (Q2 Z a1 a2 q3 w1 g h0 n0) room2.cells room2.slots (T76.setTop (mkF m 148 #[.val (.ref a1), .val (.ref a2), .val (.long q3), .second, .val (.long (rem_2 - (1 : Int64))), .second, .val (.ref b18), .val (.long (left_2 - (1 : Int64))), .second, .val (.int (2 : Int32)), .val (.long k_2), .second] [(.long (k_2 + (1 : Int64)))]))
                          refine Till.pre (fun _ hr => XS.lstore X78.here hx rfl (hb hby d2_148) rfl (l' := #[.val (.ref a1), .val (.ref a2), .val (.long q3), .second, .val (.long (rem_2 - (1 : Int64))), .second, .val (.ref b18), .val (.long (left_2 - (1 : Int64))), .second, .val (.int (2 : Int32)), .val (.long (k_2 + (1 : Int64))), .second]) rfl hr) ?_
                          show Till p e below s (Q2 Z a1 a2 q3 w1 g h0 n0) room2.cells room2.slots (T76.setTop (mkF m 150 #[.val (.ref a1), .val (.ref a2), .val (.long q3), .second, .val (.long (rem_2 - (1 : Int64))), .second, .val (.ref b18), .val (.long (left_2 - (1 : Int64))), .second, .val (.int (2 : Int32)), .val (.long (k_2 + (1 : Int64))), .second] []))
                          refine Till.pre (fun _ hr => XS.goto X78.here hx rfl (pc0 := 150) (pc' := 94) rfl (hb hby d2_150) (by decide) (by decide) hr) ?_
                          show Till p e below s (Q2 Z a1 a2 q3 w1 g h0 n0) room2.cells room2.slots (T76.setTop (mkF m 94 #[.val (.ref a1), .val (.ref a2), .val (.long q3), .second, .val (.long (rem_2 - (1 : Int64))), .second, .val (.ref b18), .val (.long (left_2 - (1 : Int64))), .second, .val (.int (2 : Int32)), .val (.long (k_2 + (1 : Int64))), .second] []))
                          exact ih _ _ X78 N82 _ _ _ _ _ (by rw [e79]; exact Zs) (by rw [e79]; exact Kp) (by rw [e79]; exact R_a1) (by rw [e79]; exact R_a2) (by rw [e79]; exact R_b18) (((own_step (by decide) hG I_2 hc67 hc68).2 (fn4 rem_2 W_2) _ (own_blr (own_step (by decide) hG I_2 hc67 hc68).1) (own_blg (own_step (by decide) hG I_2 hc67 hc68).1)).1 hc75) (own_mu hm hc67)
                show Till p e below s (Q2 Z a1 a2 q3 w1 g h0 n0) room2.cells room2.slots (T31.setTop (mkF m 94 #[.val (.ref a1), .val (.ref a2), .val (.long q3), .second, .val (.long rem_1), .second, .val (.ref b18), .val (.long left_1), .second, .val (.int (2 : Int32)), .val (.long (0 : Int64)), .second] []))
                exact loop94_65 _ _ _ X33 N34 _ _ _ _ _ Zs Kp R_a1 R_a2 R_b18 (own_exit (by decide) hG I_1 (Or.inr hc60)) (Nat.lt_succ_self _)
              · have hc60 := (lGt.mp (hLt.2.2.2.2.2.2.2 q))
                show Till p e below s (Q2 Z a1 a2 q3 w1 g h0 n0) room2.cells room2.slots (T31.setTop (mkF m 111 #[.val (.ref a1), .val (.ref a2), .val (.long q3), .second, .val (.long rem_1), .second, .val (.ref b18), .val (.long left_1), .second, .val (.int (1 : Int32)), .val (.long k_1), .second] []))
                refine Till.pre (fun _ hr => XS.aloadN X33.here hx rfl (hb hby d2_111) rfl rfl hr) ?_
                show Till p e below s (Q2 Z a1 a2 q3 w1 g h0 n0) room2.cells room2.slots (T31.setTop (mkF m 112 #[.val (.ref a1), .val (.ref a2), .val (.long q3), .second, .val (.long rem_1), .second, .val (.ref b18), .val (.long left_1), .second, .val (.int (1 : Int32)), .val (.long k_1), .second] [(.ref a1)]))
                refine Till.pre (fun _ hr => XS.lload X33.here hx rfl (hb hby d2_112) rfl hr) ?_
                show Till p e below s (Q2 Z a1 a2 q3 w1 g h0 n0) room2.cells room2.slots (T31.setTop (mkF m 114 #[.val (.ref a1), .val (.ref a2), .val (.long q3), .second, .val (.long rem_1), .second, .val (.ref b18), .val (.long left_1), .second, .val (.int (1 : Int32)), .val (.long k_1), .second] [(.long rem_1), (.ref a1)]))
                refine Till.callP (rm4 l Z a0 hw a1 rem_1 W_1 T31.heap n0 Zs R_a1 g_a1 ((own_step (by decide) hG I_1 hc37 hc60).1)) R_a1.1 X33 hx hZ hown (hw _ (List.mem_of_getElem? (i := 22) rfl)) (hw _ (List.mem_of_getElem? (i := 23) rfl)) (hw _ (List.mem_of_getElem? (i := 24) rfl)) (hw _ (List.mem_of_getElem? (i := 3) rfl)) (hw _ (List.mem_of_getElem? (i := 4) rfl)) (hw _ (List.mem_of_getElem? (i := 25) rfl)) (by decide) (by decide) (W := 0) (by decide) (by rw [hml]; rfl) (a := a1) (argsL := [(.long rem_1)]) (rest := []) (lenOf pd2_2 rfl) rfl rfl (Nat.le_of_eq rfl) (hb hby d2_114) rfl (by decide) (by decide) ?_
                rintro _ T83 L84 X85 ⟨rfl, N86, K87, q88⟩
                have N86 := Fr.app N34 N86
                have R_a2 := R_a2.keep K87 (ninS (Ne.symm ne_a1_a2) nin0)
                have R_b18 := R_b18.keep K87 (ninS (Ne.symm ne_a1_b18) nin0)
                have Zs := Nat.le_trans Zs K87.1
                have Kp := Kp.trans K87 (allS (Or.inl (List.mem_of_getElem? (i := 0) rfl)) all0)
                have R_a1 : Lot Z T83.heap a1 (if ((((lsr (fn5 W_1) (1 : Int32)) - ((lsr (fn5 W_1) (1 : Int32)) - ((lsr (fn5 W_1) (1 : Int32)) / rem_1) * rem_1)) + (rem_1 - (1 : Int64))) < (0 : Int64)) then ((W_1 + (-7046029254386353131 : Int64)) + (-7046029254386353131 : Int64)) else (W_1 + (-7046029254386353131 : Int64))) := q88
                show Till p e below s (Q2 Z a1 a2 q3 w1 g h0 n0) room2.cells room2.slots (T83.setTop (mkF m 117 #[.val (.ref a1), .val (.ref a2), .val (.long q3), .second, .val (.long rem_1), .second, .val (.ref b18), .val (.long left_1), .second, .val (.int (1 : Int32)), .val (.long k_1), .second] [(.long (fn4 rem_1 W_1))]))
                refine Till.pre (fun _ hr => XS.lload X85.here hx rfl (hb hby d2_117) rfl hr) ?_
                show Till p e below s (Q2 Z a1 a2 q3 w1 g h0 n0) room2.cells room2.slots (T83.setTop (mkF m 119 #[.val (.ref a1), .val (.ref a2), .val (.long q3), .second, .val (.long rem_1), .second, .val (.ref b18), .val (.long left_1), .second, .val (.int (1 : Int32)), .val (.long k_1), .second] [(.long left_1), (.long (fn4 rem_1 W_1))]))
                refine Till.pre (fun _ hr => XS.lcmp X85.here hx rfl (hb hby d2_119) rfl hr) ?_
                show Till p e below s (Q2 Z a1 a2 q3 w1 g h0 n0) room2.cells room2.slots (T83.setTop (mkF m 120 #[.val (.ref a1), .val (.ref a2), .val (.long q3), .second, .val (.long rem_1), .second, .val (.ref b18), .val (.long left_1), .second, .val (.int (1 : Int32)), .val (.long k_1), .second] [(.int (lcmpW (fn4 rem_1 W_1) left_1))]))
                refine Till.ifc (pc' := 138) X85.here hx (hb hby d2_120) (by decide) (by decide) (fun q => ?_) (fun q => ?_)
                · have hc89 := (mt lLt.mpr (hLt.2.2.1 q))
                  show Till p e below s (Q2 Z a1 a2 q3 w1 g h0 n0) room2.cells room2.slots (T83.setTop (mkF m 138 #[.val (.ref a1), .val (.ref a2), .val (.long q3), .second, .val (.long rem_1), .second, .val (.ref b18), .val (.long left_1), .second, .val (.int (1 : Int32)), .val (.long k_1), .second] []))
                  refine Till.pre (fun _ hr => XS.lload X85.here hx rfl (hb hby d2_138) rfl hr) ?_
                  show Till p e below s (Q2 Z a1 a2 q3 w1 g h0 n0) room2.cells room2.slots (T83.setTop (mkF m 140 #[.val (.ref a1), .val (.ref a2), .val (.long q3), .second, .val (.long rem_1), .second, .val (.ref b18), .val (.long left_1), .second, .val (.int (1 : Int32)), .val (.long k_1), .second] [(.long rem_1)]))
                  refine Till.pre (fun _ hr => XS.lconst X85.here hx rfl (hb hby d2_140) hr) ?_
                  show Till p e below s (Q2 Z a1 a2 q3 w1 g h0 n0) room2.cells room2.slots (T83.setTop (mkF m 141 #[.val (.ref a1), .val (.ref a2), .val (.long q3), .second, .val (.long rem_1), .second, .val (.ref b18), .val (.long left_1), .second, .val (.int (1 : Int32)), .val (.long k_1), .second] [(.long (1 : Int64)), (.long rem_1)]))
                  refine Till.pre (fun _ hr => XS.lsub X85.here hx rfl (hb hby d2_141) rfl hr) ?_
                  show Till p e below s (Q2 Z a1 a2 q3 w1 g h0 n0) room2.cells room2.slots (T83.setTop (mkF m 142 #[.val (.ref a1), .val (.ref a2), .val (.long q3), .second, .val (.long rem_1), .second, .val (.ref b18), .val (.long left_1), .second, .val (.int (1 : Int32)), .val (.long k_1), .second] [(.long (rem_1 - (1 : Int64)))]))
                  refine Till.pre (fun _ hr => XS.lstore X85.here hx rfl (hb hby d2_142) rfl (l' := #[.val (.ref a1), .val (.ref a2), .val (.long q3), .second, .val (.long (rem_1 - (1 : Int64))), .second, .val (.ref b18), .val (.long left_1), .second, .val (.int (1 : Int32)), .val (.long k_1), .second]) rfl hr) ?_
                  show Till p e below s (Q2 Z a1 a2 q3 w1 g h0 n0) room2.cells room2.slots (T83.setTop (mkF m 144 #[.val (.ref a1), .val (.ref a2), .val (.long q3), .second, .val (.long (rem_1 - (1 : Int64))), .second, .val (.ref b18), .val (.long left_1), .second, .val (.int (1 : Int32)), .val (.long k_1), .second] []))
                  refine Till.pre (fun _ hr => XS.lload X85.here hx rfl (hb hby d2_144) rfl hr) ?_
                  show Till p e below s (Q2 Z a1 a2 q3 w1 g h0 n0) room2.cells room2.slots (T83.setTop (mkF m 146 #[.val (.ref a1), .val (.ref a2), .val (.long q3), .second, .val (.long (rem_1 - (1 : Int64))), .second, .val (.ref b18), .val (.long left_1), .second, .val (.int (1 : Int32)), .val (.long k_1), .second] [(.long k_1)]))
                  refine Till.pre (fun _ hr => XS.lconst X85.here hx rfl (hb hby d2_146) hr) ?_
                  show Till p e below s (Q2 Z a1 a2 q3 w1 g h0 n0) room2.cells room2.slots (T83.setTop (mkF m 147 #[.val (.ref a1), .val (.ref a2), .val (.long q3), .second, .val (.long (rem_1 - (1 : Int64))), .second, .val (.ref b18), .val (.long left_1), .second, .val (.int (1 : Int32)), .val (.long k_1), .second] [(.long (1 : Int64)), (.long k_1)]))
                  refine Till.pre (fun _ hr => XS.ladd X85.here hx rfl (hb hby d2_147) rfl hr) ?_
                  show Till p e below s (Q2 Z a1 a2 q3 w1 g h0 n0) room2.cells room2.slots (T83.setTop (mkF m 148 #[.val (.ref a1), .val (.ref a2), .val (.long q3), .second, .val (.long (rem_1 - (1 : Int64))), .second, .val (.ref b18), .val (.long left_1), .second, .val (.int (1 : Int32)), .val (.long k_1), .second] [(.long (k_1 + (1 : Int64)))]))
                  refine Till.pre (fun _ hr => XS.lstore X85.here hx rfl (hb hby d2_148) rfl (l' := #[.val (.ref a1), .val (.ref a2), .val (.long q3), .second, .val (.long (rem_1 - (1 : Int64))), .second, .val (.ref b18), .val (.long left_1), .second, .val (.int (1 : Int32)), .val (.long (k_1 + (1 : Int64))), .second]) rfl hr) ?_
                  show Till p e below s (Q2 Z a1 a2 q3 w1 g h0 n0) room2.cells room2.slots (T83.setTop (mkF m 150 #[.val (.ref a1), .val (.ref a2), .val (.long q3), .second, .val (.long (rem_1 - (1 : Int64))), .second, .val (.ref b18), .val (.long left_1), .second, .val (.int (1 : Int32)), .val (.long (k_1 + (1 : Int64))), .second] []))
                  refine Till.pre (fun _ hr => XS.goto X85.here hx rfl (pc0 := 150) (pc' := 94) rfl (hb hby d2_150) (by decide) (by decide) hr) ?_
                  show Till p e below s (Q2 Z a1 a2 q3 w1 g h0 n0) room2.cells room2.slots (T83.setTop (mkF m 94 #[.val (.ref a1), .val (.ref a2), .val (.long q3), .second, .val (.long (rem_1 - (1 : Int64))), .second, .val (.ref b18), .val (.long left_1), .second, .val (.int (1 : Int32)), .val (.long (k_1 + (1 : Int64))), .second] []))
                  exact ih _ _ X85 N86 _ _ _ _ _ Zs Kp R_a1 R_a2 R_b18 (((own_step (by decide) hG I_1 hc37 hc60).2 (fn4 rem_1 W_1) _ (own_blr (own_step (by decide) hG I_1 hc37 hc60).1) (own_blg (own_step (by decide) hG I_1 hc37 hc60).1)).2 hc89) (own_mu hm hc37)
                · have hc89 := (lLt.mp (hLt.2.2.2.1 q))
                  show Till p e below s (Q2 Z a1 a2 q3 w1 g h0 n0) room2.cells room2.slots (T83.setTop (mkF m 123 #[.val (.ref a1), .val (.ref a2), .val (.long q3), .second, .val (.long rem_1), .second, .val (.ref b18), .val (.long left_1), .second, .val (.int (1 : Int32)), .val (.long k_1), .second] []))
                  refine Till.pre (fun _ hr => XS.aload X85.here hx rfl (hb hby d2_123) rfl rfl hr) ?_
                  show Till p e below s (Q2 Z a1 a2 q3 w1 g h0 n0) room2.cells room2.slots (T83.setTop (mkF m 125 #[.val (.ref a1), .val (.ref a2), .val (.long q3), .second, .val (.long rem_1), .second, .val (.ref b18), .val (.long left_1), .second, .val (.int (1 : Int32)), .val (.long k_1), .second] [(.ref b18)]))
                  refine Till.pre (fun _ hr => XS.iload X85.here hx rfl (hb hby d2_125) rfl hr) ?_
                  show Till p e below s (Q2 Z a1 a2 q3 w1 g h0 n0) room2.cells room2.slots (T83.setTop (mkF m 127 #[.val (.ref a1), .val (.ref a2), .val (.long q3), .second, .val (.long rem_1), .second, .val (.ref b18), .val (.long left_1), .second, .val (.int (1 : Int32)), .val (.long k_1), .second] [(.int (1 : Int32)), (.ref b18)]))
                  refine Till.pre (fun _ hr => XT.dup2 X85.here hx rfl (hb hby d2_127) rfl rfl rfl hr) ?_
                  show Till p e below s (Q2 Z a1 a2 q3 w1 g h0 n0) room2.cells room2.slots (T83.setTop (mkF m 128 #[.val (.ref a1), .val (.ref a2), .val (.long q3), .second, .val (.long rem_1), .second, .val (.ref b18), .val (.long left_1), .second, .val (.int (1 : Int32)), .val (.long k_1), .second] [(.int (1 : Int32)), (.ref b18), (.int (1 : Int32)), (.ref b18)]))
                  refine Till.laload R_b18 (by decide) (by decide) X85 hx hZ rfl (hb hby d2_128) ?_
                  show Till p e below s (Q2 Z a1 a2 q3 w1 g h0 n0) room2.cells room2.slots (T83.setTop (mkF m 129 #[.val (.ref a1), .val (.ref a2), .val (.long q3), .second, .val (.long rem_1), .second, .val (.ref b18), .val (.long left_1), .second, .val (.int (1 : Int32)), .val (.long k_1), .second] [(.long (d_1 1)), (.int (1 : Int32)), (.ref b18)]))
                  refine Till.pre (fun _ hr => XS.lconst X85.here hx rfl (hb hby d2_129) hr) ?_
                  show Till p e below s (Q2 Z a1 a2 q3 w1 g h0 n0) room2.cells room2.slots (T83.setTop (mkF m 130 #[.val (.ref a1), .val (.ref a2), .val (.long q3), .second, .val (.long rem_1), .second, .val (.ref b18), .val (.long left_1), .second, .val (.int (1 : Int32)), .val (.long k_1), .second] [(.long (1 : Int64)), (.long (d_1 1)), (.int (1 : Int32)), (.ref b18)]))
                  refine Till.pre (fun _ hr => XS.ladd X85.here hx rfl (hb hby d2_130) rfl hr) ?_
                  show Till p e below s (Q2 Z a1 a2 q3 w1 g h0 n0) room2.cells room2.slots (T83.setTop (mkF m 131 #[.val (.ref a1), .val (.ref a2), .val (.long q3), .second, .val (.long rem_1), .second, .val (.ref b18), .val (.long left_1), .second, .val (.int (1 : Int32)), .val (.long k_1), .second] [(.long ((d_1 1) + (1 : Int64))), (.int (1 : Int32)), (.ref b18)]))
                  refine Till.lastore R_b18 (by decide) (by decide) X85 hx hZ rfl (hb hby d2_131) (fun T90 h91 X92 e93 W94 A95 => ?_)
                  have N96 := Fr.snoc X92 N86 g_b18
                  have R_a1 := R_a1.wr W94 ne_a1_b18
                  have R_a2 := R_a2.wr W94 ne_a2_b18
                  have Zs := Nat.le_trans Zs (Keep.of_wr W94).1
                  have Kp := Kp.wr W94 (Or.inr sz_b18)
                  have R_b18 : LA Z h91 b18 (3 : Int32) (oupd d_1 1 ((d_1 1) + (1 : Int64))) := A95
                  show Till p e below s (Q2 Z a1 a2 q3 w1 g h0 n0) room2.cells room2.slots (T90.setTop (mkF m 132 #[.val (.ref a1), .val (.ref a2), .val (.long q3), .second, .val (.long rem_1), .second, .val (.ref b18), .val (.long left_1), .second, .val (.int (1 : Int32)), .val (.long k_1), .second] []))
                  refine Till.pre (fun _ hr => XS.lload X92.here hx rfl (hb hby d2_132) rfl hr) ?_
                  show Till p e below s (Q2 Z a1 a2 q3 w1 g h0 n0) room2.cells room2.slots (T90.setTop (mkF m 134 #[.val (.ref a1), .val (.ref a2), .val (.long q3), .second, .val (.long rem_1), .second, .val (.ref b18), .val (.long left_1), .second, .val (.int (1 : Int32)), .val (.long k_1), .second] [(.long left_1)]))
                  refine Till.pre (fun _ hr => XS.lconst X92.here hx rfl (hb hby d2_134) hr) ?_
                  show Till p e below s (Q2 Z a1 a2 q3 w1 g h0 n0) room2.cells room2.slots (T90.setTop (mkF m 135 #[.val (.ref a1), .val (.ref a2), .val (.long q3), .second, .val (.long rem_1), .second, .val (.ref b18), .val (.long left_1), .second, .val (.int (1 : Int32)), .val (.long k_1), .second] [(.long (1 : Int64)), (.long left_1)]))
                  refine Till.pre (fun _ hr => XS.lsub X92.here hx rfl (hb hby d2_135) rfl hr) ?_
                  show Till p e below s (Q2 Z a1 a2 q3 w1 g h0 n0) room2.cells room2.slots (T90.setTop (mkF m 136 #[.val (.ref a1), .val (.ref a2), .val (.long q3), .second, .val (.long rem_1), .second, .val (.ref b18), .val (.long left_1), .second, .val (.int (1 : Int32)), .val (.long k_1), .second] [(.long (left_1 - (1 : Int64)))]))
                  refine Till.pre (fun _ hr => XS.lstore X92.here hx rfl (hb hby d2_136) rfl (l' := #[.val (.ref a1), .val (.ref a2), .val (.long q3), .second, .val (.long rem_1), .second, .val (.ref b18), .val (.long (left_1 - (1 : Int64))), .second, .val (.int (1 : Int32)), .val (.long k_1), .second]) rfl hr) ?_
                  show Till p e below s (Q2 Z a1 a2 q3 w1 g h0 n0) room2.cells room2.slots (T90.setTop (mkF m 138 #[.val (.ref a1), .val (.ref a2), .val (.long q3), .second, .val (.long rem_1), .second, .val (.ref b18), .val (.long (left_1 - (1 : Int64))), .second, .val (.int (1 : Int32)), .val (.long k_1), .second] []))
                  refine Till.pre (fun _ hr => XS.lload X92.here hx rfl (hb hby d2_138) rfl hr) ?_
                  show Till p e below s (Q2 Z a1 a2 q3 w1 g h0 n0) room2.cells room2.slots (T90.setTop (mkF m 140 #[.val (.ref a1), .val (.ref a2), .val (.long q3), .second, .val (.long rem_1), .second, .val (.ref b18), .val (.long (left_1 - (1 : Int64))), .second, .val (.int (1 : Int32)), .val (.long k_1), .second] [(.long rem_1)]))
                  refine Till.pre (fun _ hr => XS.lconst X92.here hx rfl (hb hby d2_140) hr) ?_
                  show Till p e below s (Q2 Z a1 a2 q3 w1 g h0 n0) room2.cells room2.slots (T90.setTop (mkF m 141 #[.val (.ref a1), .val (.ref a2), .val (.long q3), .second, .val (.long rem_1), .second, .val (.ref b18), .val (.long (left_1 - (1 : Int64))), .second, .val (.int (1 : Int32)), .val (.long k_1), .second] [(.long (1 : Int64)), (.long rem_1)]))
                  refine Till.pre (fun _ hr => XS.lsub X92.here hx rfl (hb hby d2_141) rfl hr) ?_
                  show Till p e below s (Q2 Z a1 a2 q3 w1 g h0 n0) room2.cells room2.slots (T90.setTop (mkF m 142 #[.val (.ref a1), .val (.ref a2), .val (.long q3), .second, .val (.long rem_1), .second, .val (.ref b18), .val (.long (left_1 - (1 : Int64))), .second, .val (.int (1 : Int32)), .val (.long k_1), .second] [(.long (rem_1 - (1 : Int64)))]))
                  refine Till.pre (fun _ hr => XS.lstore X92.here hx rfl (hb hby d2_142) rfl (l' := #[.val (.ref a1), .val (.ref a2), .val (.long q3), .second, .val (.long (rem_1 - (1 : Int64))), .second, .val (.ref b18), .val (.long (left_1 - (1 : Int64))), .second, .val (.int (1 : Int32)), .val (.long k_1), .second]) rfl hr) ?_
                  show Till p e below s (Q2 Z a1 a2 q3 w1 g h0 n0) room2.cells room2.slots (T90.setTop (mkF m 144 #[.val (.ref a1), .val (.ref a2), .val (.long q3), .second, .val (.long (rem_1 - (1 : Int64))), .second, .val (.ref b18), .val (.long (left_1 - (1 : Int64))), .second, .val (.int (1 : Int32)), .val (.long k_1), .second] []))
                  refine Till.pre (fun _ hr => XS.lload X92.here hx rfl (hb hby d2_144) rfl hr) ?_
                  show Till p e below s (Q2 Z a1 a2 q3 w1 g h0 n0) room2.cells room2.slots (T90.setTop (mkF m 146 #[.val (.ref a1), .val (.ref a2), .val (.long q3), .second, .val (.long (rem_1 - (1 : Int64))), .second, .val (.ref b18), .val (.long (left_1 - (1 : Int64))), .second, .val (.int (1 : Int32)), .val (.long k_1), .second] [(.long k_1)]))
                  refine Till.pre (fun _ hr => XS.lconst X92.here hx rfl (hb hby d2_146) hr) ?_
                  show Till p e below s (Q2 Z a1 a2 q3 w1 g h0 n0) room2.cells room2.slots (T90.setTop (mkF m 147 #[.val (.ref a1), .val (.ref a2), .val (.long q3), .second, .val (.long (rem_1 - (1 : Int64))), .second, .val (.ref b18), .val (.long (left_1 - (1 : Int64))), .second, .val (.int (1 : Int32)), .val (.long k_1), .second] [(.long (1 : Int64)), (.long k_1)]))
                  refine Till.pre (fun _ hr => XS.ladd X92.here hx rfl (hb hby d2_147) rfl hr) ?_
                  show Till p e below s (Q2 Z a1 a2 q3 w1 g h0 n0) room2.cells room2.slots (T90.setTop (mkF m 148 #[.val (.ref a1), .val (.ref a2), .val (.long q3), .second, .val (.long (rem_1 - (1 : Int64))), .second, .val (.ref b18), .val (.long (left_1 - (1 : Int64))), .second, .val (.int (1 : Int32)), .val (.long k_1), .second] [(.long (k_1 + (1 : Int64)))]))
                  refine Till.pre (fun _ hr => XS.lstore X92.here hx rfl (hb hby d2_148) rfl (l' := #[.val (.ref a1), .val (.ref a2), .val (.long q3), .second, .val (.long (rem_1 - (1 : Int64))), .second, .val (.ref b18), .val (.long (left_1 - (1 : Int64))), .second, .val (.int (1 : Int32)), .val (.long (k_1 + (1 : Int64))), .second]) rfl hr) ?_
                  show Till p e below s (Q2 Z a1 a2 q3 w1 g h0 n0) room2.cells room2.slots (T90.setTop (mkF m 150 #[.val (.ref a1), .val (.ref a2), .val (.long q3), .second, .val (.long (rem_1 - (1 : Int64))), .second, .val (.ref b18), .val (.long (left_1 - (1 : Int64))), .second, .val (.int (1 : Int32)), .val (.long (k_1 + (1 : Int64))), .second] []))
                  refine Till.pre (fun _ hr => XS.goto X92.here hx rfl (pc0 := 150) (pc' := 94) rfl (hb hby d2_150) (by decide) (by decide) hr) ?_
                  show Till p e below s (Q2 Z a1 a2 q3 w1 g h0 n0) room2.cells room2.slots (T90.setTop (mkF m 94 #[.val (.ref a1), .val (.ref a2), .val (.long q3), .second, .val (.long (rem_1 - (1 : Int64))), .second, .val (.ref b18), .val (.long (left_1 - (1 : Int64))), .second, .val (.int (1 : Int32)), .val (.long (k_1 + (1 : Int64))), .second] []))
                  exact ih _ _ X92 N96 _ _ _ _ _ (by rw [e93]; exact Zs) (by rw [e93]; exact Kp) (by rw [e93]; exact R_a1) (by rw [e93]; exact R_a2) (by rw [e93]; exact R_b18) (((own_step (by decide) hG I_1 hc37 hc60).2 (fn4 rem_1 W_1) _ (own_blr (own_step (by decide) hG I_1 hc37 hc60).1) (own_blg (own_step (by decide) hG I_1 hc37 hc60).1)).1 hc89) (own_mu hm hc37)
        show Till p e below s (Q2 Z a1 a2 q3 w1 g h0 n0) room2.cells room2.slots (T24.setTop (mkF m 94 #[.val (.ref a1), .val (.ref a2), .val (.long q3), .second, .val (.long rem_0), .second, .val (.ref b18), .val (.long left_0), .second, .val (.int (1 : Int32)), .val (.long (0 : Int64)), .second] []))
        exact loop94_35 _ _ _ X26 N27 _ _ _ _ _ Zs Kp R_a1 R_a2 R_b18 (own_exit (by decide) hG I_0 (Or.inl hc30)) (Nat.lt_succ_self _)
      · have hc30 := (lLt.mp (hLt.2.2.2.1 q))
        show Till p e below s (Q2 Z a1 a2 q3 w1 g h0 n0) room2.cells room2.slots (T24.setTop (mkF m 104 #[.val (.ref a1), .val (.ref a2), .val (.long q3), .second, .val (.long rem_0), .second, .val (.ref b18), .val (.long left_0), .second, .val (.int (0 : Int32)), .val (.long k_0), .second] []))
        refine Till.pre (fun _ hr => XS.lload X26.here hx rfl (hb hby d2_104) rfl hr) ?_
        show Till p e below s (Q2 Z a1 a2 q3 w1 g h0 n0) room2.cells room2.slots (T24.setTop (mkF m 106 #[.val (.ref a1), .val (.ref a2), .val (.long q3), .second, .val (.long rem_0), .second, .val (.ref b18), .val (.long left_0), .second, .val (.int (0 : Int32)), .val (.long k_0), .second] [(.long left_0)]))
        refine Till.pre (fun _ hr => XS.lconst X26.here hx rfl (hb hby d2_106) hr) ?_
        show Till p e below s (Q2 Z a1 a2 q3 w1 g h0 n0) room2.cells room2.slots (T24.setTop (mkF m 107 #[.val (.ref a1), .val (.ref a2), .val (.long q3), .second, .val (.long rem_0), .second, .val (.ref b18), .val (.long left_0), .second, .val (.int (0 : Int32)), .val (.long k_0), .second] [(.long (0 : Int64)), (.long left_0)]))
        refine Till.pre (fun _ hr => XS.lcmp X26.here hx rfl (hb hby d2_107) rfl hr) ?_
        show Till p e below s (Q2 Z a1 a2 q3 w1 g h0 n0) room2.cells room2.slots (T24.setTop (mkF m 108 #[.val (.ref a1), .val (.ref a2), .val (.long q3), .second, .val (.long rem_0), .second, .val (.ref b18), .val (.long left_0), .second, .val (.int (0 : Int32)), .val (.long k_0), .second] [(.int (lcmpW left_0 (0 : Int64)))]))
        refine Till.ifc (pc' := 153) X26.here hx (hb hby d2_108) (by decide) (by decide) (fun q => ?_) (fun q => ?_)
        · have hc97 := (mt lGt.mpr (hLt.2.2.2.2.2.2.1 q))
          show Till p e below s (Q2 Z a1 a2 q3 w1 g h0 n0) room2.cells room2.slots (T24.setTop (mkF m 153 #[.val (.ref a1), .val (.ref a2), .val (.long q3), .second, .val (.long rem_0), .second, .val (.ref b18), .val (.long left_0), .second, .val (.int (0 : Int32)), .val (.long k_0), .second] []))
          refine Till.pre (fun _ hr => XS.iinc X26.here hx rfl (hb hby d2_153) rfl (l' := #[.val (.ref a1), .val (.ref a2), .val (.long q3), .second, .val (.long rem_0), .second, .val (.ref b18), .val (.long left_0), .second, .val (.int (1 : Int32)), .val (.long k_0), .second]) rfl hr) ?_
          show Till p e below s (Q2 Z a1 a2 q3 w1 g h0 n0) room2.cells room2.slots (T24.setTop (mkF m 156 #[.val (.ref a1), .val (.ref a2), .val (.long q3), .second, .val (.long rem_0), .second, .val (.ref b18), .val (.long left_0), .second, .val (.int (1 : Int32)), .val (.long k_0), .second] []))
          refine Till.pre (fun _ hr => XS.goto X26.here hx rfl (pc0 := 156) (pc' := 84) rfl (hb hby d2_156) (by decide) (by decide) hr) ?_
          show Till p e below s (Q2 Z a1 a2 q3 w1 g h0 n0) room2.cells room2.slots (T24.setTop (mkF m 84 #[.val (.ref a1), .val (.ref a2), .val (.long q3), .second, .val (.long rem_0), .second, .val (.ref b18), .val (.long left_0), .second, .val (.int (1 : Int32)), .val (.long k_0), .second] []))
          refine Till.pre (fun _ hr => XS.iload X26.here hx rfl (hb hby d2_84) rfl hr) ?_
          show Till p e below s (Q2 Z a1 a2 q3 w1 g h0 n0) room2.cells room2.slots (T24.setTop (mkF m 86 #[.val (.ref a1), .val (.ref a2), .val (.long q3), .second, .val (.long rem_0), .second, .val (.ref b18), .val (.long left_0), .second, .val (.int (1 : Int32)), .val (.long k_0), .second] [(.int (1 : Int32))]))
          refine Till.pre (fun _ hr => XS.aloadN X26.here hx rfl (hb hby d2_86) rfl rfl hr) ?_
          show Till p e below s (Q2 Z a1 a2 q3 w1 g h0 n0) room2.cells room2.slots (T24.setTop (mkF m 87 #[.val (.ref a1), .val (.ref a2), .val (.long q3), .second, .val (.long rem_0), .second, .val (.ref b18), .val (.long left_0), .second, .val (.int (1 : Int32)), .val (.long k_0), .second] [(.ref a2), (.int (1 : Int32))]))
          refine Till.alen R_a2 X26 hx hZ rfl (hb hby d2_87) ?_
          show Till p e below s (Q2 Z a1 a2 q3 w1 g h0 n0) room2.cells room2.slots (T24.setTop (mkF m 88 #[.val (.ref a1), .val (.ref a2), .val (.long q3), .second, .val (.long rem_0), .second, .val (.ref b18), .val (.long left_0), .second, .val (.int (1 : Int32)), .val (.long k_0), .second] [(.int (3 : Int32)), (.int (1 : Int32))]))
          refine Till.icmp (pc' := 159) X26.here hx (hb hby d2_88) (by decide) (by decide) (fun q => absurd (by decide : ((1 : Int32) < (3 : Int32))) (hLt.2.2.1 q)) (fun q => ?_)
          show Till p e below s (Q2 Z a1 a2 q3 w1 g h0 n0) room2.cells room2.slots (T24.setTop (mkF m 91 #[.val (.ref a1), .val (.ref a2), .val (.long q3), .second, .val (.long rem_0), .second, .val (.ref b18), .val (.long left_0), .second, .val (.int (1 : Int32)), .val (.long k_0), .second] []))
          refine Till.pre (fun _ hr => XS.lconst X26.here hx rfl (hb hby d2_91) hr) ?_
          show Till p e below s (Q2 Z a1 a2 q3 w1 g h0 n0) room2.cells room2.slots (T24.setTop (mkF m 92 #[.val (.ref a1), .val (.ref a2), .val (.long q3), .second, .val (.long rem_0), .second, .val (.ref b18), .val (.long left_0), .second, .val (.int (1 : Int32)), .val (.long k_0), .second] [(.long (0 : Int64))]))
          refine Till.pre (fun _ hr => XS.lstore X26.here hx rfl (hb hby d2_92) rfl (l' := #[.val (.ref a1), .val (.ref a2), .val (.long q3), .second, .val (.long rem_0), .second, .val (.ref b18), .val (.long left_0), .second, .val (.int (1 : Int32)), .val (.long (0 : Int64)), .second]) rfl hr) ?_
          have loop94_102 : ∀ (fuel : Nat) (T98 : State) (L99 : List Loc) (X100 : Stand p l e room2 s m #[(.ref a1), (.ref a2), (.long q3)] below meth c T98 L99 1 3) (N101 : Fr n0 L99) (k_1 : Int64) (left_1 : Int64) (rem_1 : Int64) (W_1 : Int64) (d_1 : Nat → Int64) (Zs : n0 ≤ T98.heap.size) (Kp : Keep h0 T98.heap [a1]) (R_a1 : Lot Z T98.heap a1 W_1) (R_a2 : LA Z T98.heap a2 (3 : Int32) g) (R_b18 : LA Z T98.heap b18 (3 : Int32) d_1) (I_1 : own_I 1 g q3 w1 k_1 rem_1 left_1 W_1 d_1) (hm : ((g 1).toInt - k_1.toInt).toNat < fuel), Till p e below s (Q2 Z a1 a2 q3 w1 g h0 n0) room2.cells room2.slots (T98.setTop (mkF m 94 #[.val (.ref a1), .val (.ref a2), .val (.long q3), .second, .val (.long rem_1), .second, .val (.ref b18), .val (.long left_1), .second, .val (.int (1 : Int32)), .val (.long k_1), .second] [])) := by
            intro fuel
            induction fuel with
            | zero => intro T98 L99 X100 N101 k_1 left_1 rem_1 W_1 d_1 Zs Kp R_a1 R_a2 R_b18 I_1 hm; exact absurd hm (Nat.not_lt_zero _)
            | succ fuel ih =>
              intro T98 L99 X100 N101 k_1 left_1 rem_1 W_1 d_1 Zs Kp R_a1 R_a2 R_b18 I_1 hm
              show Till p e below s (Q2 Z a1 a2 q3 w1 g h0 n0) room2.cells room2.slots (T98.setTop (mkF m 94 #[.val (.ref a1), .val (.ref a2), .val (.long q3), .second, .val (.long rem_1), .second, .val (.ref b18), .val (.long left_1), .second, .val (.int (1 : Int32)), .val (.long k_1), .second] []))
              refine Till.pre (fun _ hr => XS.lload X100.here hx rfl (hb hby d2_94) rfl hr) ?_
              show Till p e below s (Q2 Z a1 a2 q3 w1 g h0 n0) room2.cells room2.slots (T98.setTop (mkF m 96 #[.val (.ref a1), .val (.ref a2), .val (.long q3), .second, .val (.long rem_1), .second, .val (.ref b18), .val (.long left_1), .second, .val (.int (1 : Int32)), .val (.long k_1), .second] [(.long k_1)]))
              refine Till.pre (fun _ hr => XS.aloadN X100.here hx rfl (hb hby d2_96) rfl rfl hr) ?_
              show Till p e below s (Q2 Z a1 a2 q3 w1 g h0 n0) room2.cells room2.slots (T98.setTop (mkF m 97 #[.val (.ref a1), .val (.ref a2), .val (.long q3), .second, .val (.long rem_1), .second, .val (.ref b18), .val (.long left_1), .second, .val (.int (1 : Int32)), .val (.long k_1), .second] [(.ref a2), (.long k_1)]))
              refine Till.pre (fun _ hr => XS.iload X100.here hx rfl (hb hby d2_97) rfl hr) ?_
              show Till p e below s (Q2 Z a1 a2 q3 w1 g h0 n0) room2.cells room2.slots (T98.setTop (mkF m 99 #[.val (.ref a1), .val (.ref a2), .val (.long q3), .second, .val (.long rem_1), .second, .val (.ref b18), .val (.long left_1), .second, .val (.int (1 : Int32)), .val (.long k_1), .second] [(.int (1 : Int32)), (.ref a2), (.long k_1)]))
              refine Till.laload R_a2 (by decide) (by decide) X100 hx hZ rfl (hb hby d2_99) ?_
              show Till p e below s (Q2 Z a1 a2 q3 w1 g h0 n0) room2.cells room2.slots (T98.setTop (mkF m 100 #[.val (.ref a1), .val (.ref a2), .val (.long q3), .second, .val (.long rem_1), .second, .val (.ref b18), .val (.long left_1), .second, .val (.int (1 : Int32)), .val (.long k_1), .second] [(.long (g 1)), (.long k_1)]))
              refine Till.pre (fun _ hr => XS.lcmp X100.here hx rfl (hb hby d2_100) rfl hr) ?_
              show Till p e below s (Q2 Z a1 a2 q3 w1 g h0 n0) room2.cells room2.slots (T98.setTop (mkF m 101 #[.val (.ref a1), .val (.ref a2), .val (.long q3), .second, .val (.long rem_1), .second, .val (.ref b18), .val (.long left_1), .second, .val (.int (1 : Int32)), .val (.long k_1), .second] [(.int (lcmpW k_1 (g 1)))]))
              refine Till.ifc (pc' := 153) X100.here hx (hb hby d2_101) (by decide) (by decide) (fun q => ?_) (fun q => ?_)
              · have hc104 := (mt lLt.mpr (hLt.2.2.1 q))
                show Till p e below s (Q2 Z a1 a2 q3 w1 g h0 n0) room2.cells room2.slots (T98.setTop (mkF m 153 #[.val (.ref a1), .val (.ref a2), .val (.long q3), .second, .val (.long rem_1), .second, .val (.ref b18), .val (.long left_1), .second, .val (.int (1 : Int32)), .val (.long k_1), .second] []))
                refine Till.pre (fun _ hr => XS.iinc X100.here hx rfl (hb hby d2_153) rfl (l' := #[.val (.ref a1), .val (.ref a2), .val (.long q3), .second, .val (.long rem_1), .second, .val (.ref b18), .val (.long left_1), .second, .val (.int (2 : Int32)), .val (.long k_1), .second]) rfl hr) ?_
                show Till p e below s (Q2 Z a1 a2 q3 w1 g h0 n0) room2.cells room2.slots (T98.setTop (mkF m 156 #[.val (.ref a1), .val (.ref a2), .val (.long q3), .second, .val (.long rem_1), .second, .val (.ref b18), .val (.long left_1), .second, .val (.int (2 : Int32)), .val (.long k_1), .second] []))
                refine Till.pre (fun _ hr => XS.goto X100.here hx rfl (pc0 := 156) (pc' := 84) rfl (hb hby d2_156) (by decide) (by decide) hr) ?_
                show Till p e below s (Q2 Z a1 a2 q3 w1 g h0 n0) room2.cells room2.slots (T98.setTop (mkF m 84 #[.val (.ref a1), .val (.ref a2), .val (.long q3), .second, .val (.long rem_1), .second, .val (.ref b18), .val (.long left_1), .second, .val (.int (2 : Int32)), .val (.long k_1), .second] []))
                refine Till.pre (fun _ hr => XS.iload X100.here hx rfl (hb hby d2_84) rfl hr) ?_
                show Till p e below s (Q2 Z a1 a2 q3 w1 g h0 n0) room2.cells room2.slots (T98.setTop (mkF m 86 #[.val (.ref a1), .val (.ref a2), .val (.long q3), .second, .val (.long rem_1), .second, .val (.ref b18), .val (.long left_1), .second, .val (.int (2 : Int32)), .val (.long k_1), .second] [(.int (2 : Int32))]))
                refine Till.pre (fun _ hr => XS.aloadN X100.here hx rfl (hb hby d2_86) rfl rfl hr) ?_
                show Till p e below s (Q2 Z a1 a2 q3 w1 g h0 n0) room2.cells room2.slots (T98.setTop (mkF m 87 #[.val (.ref a1), .val (.ref a2), .val (.long q3), .second, .val (.long rem_1), .second, .val (.ref b18), .val (.long left_1), .second, .val (.int (2 : Int32)), .val (.long k_1), .second] [(.ref a2), (.int (2 : Int32))]))
                refine Till.alen R_a2 X100 hx hZ rfl (hb hby d2_87) ?_
                show Till p e below s (Q2 Z a1 a2 q3 w1 g h0 n0) room2.cells room2.slots (T98.setTop (mkF m 88 #[.val (.ref a1), .val (.ref a2), .val (.long q3), .second, .val (.long rem_1), .second, .val (.ref b18), .val (.long left_1), .second, .val (.int (2 : Int32)), .val (.long k_1), .second] [(.int (3 : Int32)), (.int (2 : Int32))]))
                refine Till.icmp (pc' := 159) X100.here hx (hb hby d2_88) (by decide) (by decide) (fun q => absurd (by decide : ((2 : Int32) < (3 : Int32))) (hLt.2.2.1 q)) (fun q => ?_)
                show Till p e below s (Q2 Z a1 a2 q3 w1 g h0 n0) room2.cells room2.slots (T98.setTop (mkF m 91 #[.val (.ref a1), .val (.ref a2), .val (.long q3), .second, .val (.long rem_1), .second, .val (.ref b18), .val (.long left_1), .second, .val (.int (2 : Int32)), .val (.long k_1), .second] []))
                refine Till.pre (fun _ hr => XS.lconst X100.here hx rfl (hb hby d2_91) hr) ?_
                show Till p e below s (Q2 Z a1 a2 q3 w1 g h0 n0) room2.cells room2.slots (T98.setTop (mkF m 92 #[.val (.ref a1), .val (.ref a2), .val (.long q3), .second, .val (.long rem_1), .second, .val (.ref b18), .val (.long left_1), .second, .val (.int (2 : Int32)), .val (.long k_1), .second] [(.long (0 : Int64))]))
                refine Till.pre (fun _ hr => XS.lstore X100.here hx rfl (hb hby d2_92) rfl (l' := #[.val (.ref a1), .val (.ref a2), .val (.long q3), .second, .val (.long rem_1), .second, .val (.ref b18), .val (.long left_1), .second, .val (.int (2 : Int32)), .val (.long (0 : Int64)), .second]) rfl hr) ?_
                have loop94_109 : ∀ (fuel : Nat) (T105 : State) (L106 : List Loc) (X107 : Stand p l e room2 s m #[(.ref a1), (.ref a2), (.long q3)] below meth c T105 L106 1 3) (N108 : Fr n0 L106) (k_2 : Int64) (left_2 : Int64) (rem_2 : Int64) (W_2 : Int64) (d_2 : Nat → Int64) (Zs : n0 ≤ T105.heap.size) (Kp : Keep h0 T105.heap [a1]) (R_a1 : Lot Z T105.heap a1 W_2) (R_a2 : LA Z T105.heap a2 (3 : Int32) g) (R_b18 : LA Z T105.heap b18 (3 : Int32) d_2) (I_2 : own_I 2 g q3 w1 k_2 rem_2 left_2 W_2 d_2) (hm : ((g 2).toInt - k_2.toInt).toNat < fuel), Till p e below s (Q2 Z a1 a2 q3 w1 g h0 n0) room2.cells room2.slots (T105.setTop (mkF m 94 #[.val (.ref a1), .val (.ref a2), .val (.long q3), .second, .val (.long rem_2), .second, .val (.ref b18), .val (.long left_2), .second, .val (.int (2 : Int32)), .val (.long k_2), .second] [])) := by
                  intro fuel
                  induction fuel with
                  | zero => intro T105 L106 X107 N108 k_2 left_2 rem_2 W_2 d_2 Zs Kp R_a1 R_a2 R_b18 I_2 hm; exact absurd hm (Nat.not_lt_zero _)
                  | succ fuel ih =>
                    intro T105 L106 X107 N108 k_2 left_2 rem_2 W_2 d_2 Zs Kp R_a1 R_a2 R_b18 I_2 hm
                    show Till p e below s (Q2 Z a1 a2 q3 w1 g h0 n0) room2.cells room2.slots (T105.setTop (mkF m 94 #[.val (.ref a1), .val (.ref a2), .val (.long q3), .second, .val (.long rem_2), .second, .val (.ref b18), .val (.long left_2), .second, .val (.int (2 : Int32)), .val (.long k_2), .second] []))
                    refine Till.pre (fun _ hr => XS.lload X107.here hx rfl (hb hby d2_94) rfl hr) ?_
                    show Till p e below s (Q2 Z a1 a2 q3 w1 g h0 n0) room2.cells room2.slots (T105.setTop (mkF m 96 #[.val (.ref a1), .val (.ref a2), .val (.long q3), .second, .val (.long rem_2), .second, .val (.ref b18), .val (.long left_2), .second, .val (.int (2 : Int32)), .val (.long k_2), .second] [(.long k_2)]))
                    refine Till.pre (fun _ hr => XS.aloadN X107.here hx rfl (hb hby d2_96) rfl rfl hr) ?_
                    show Till p e below s (Q2 Z a1 a2 q3 w1 g h0 n0) room2.cells room2.slots (T105.setTop (mkF m 97 #[.val (.ref a1), .val (.ref a2), .val (.long q3), .second, .val (.long rem_2), .second, .val (.ref b18), .val (.long left_2), .second, .val (.int (2 : Int32)), .val (.long k_2), .second] [(.ref a2), (.long k_2)]))
                    refine Till.pre (fun _ hr => XS.iload X107.here hx rfl (hb hby d2_97) rfl hr) ?_
                    show Till p e below s (Q2 Z a1 a2 q3 w1 g h0 n0) room2.cells room2.slots (T105.setTop (mkF m 99 #[.val (.ref a1), .val (.ref a2), .val (.long q3), .second, .val (.long rem_2), .second, .val (.ref b18), .val (.long left_2), .second, .val (.int (2 : Int32)), .val (.long k_2), .second] [(.int (2 : Int32)), (.ref a2), (.long k_2)]))
                    refine Till.laload R_a2 (by decide) (by decide) X107 hx hZ rfl (hb hby d2_99) ?_
                    show Till p e below s (Q2 Z a1 a2 q3 w1 g h0 n0) room2.cells room2.slots (T105.setTop (mkF m 100 #[.val (.ref a1), .val (.ref a2), .val (.long q3), .second, .val (.long rem_2), .second, .val (.ref b18), .val (.long left_2), .second, .val (.int (2 : Int32)), .val (.long k_2), .second] [(.long (g 2)), (.long k_2)]))
                    refine Till.pre (fun _ hr => XS.lcmp X107.here hx rfl (hb hby d2_100) rfl hr) ?_
                    show Till p e below s (Q2 Z a1 a2 q3 w1 g h0 n0) room2.cells room2.slots (T105.setTop (mkF m 101 #[.val (.ref a1), .val (.ref a2), .val (.long q3), .second, .val (.long rem_2), .second, .val (.ref b18), .val (.long left_2), .second, .val (.int (2 : Int32)), .val (.long k_2), .second] [(.int (lcmpW k_2 (g 2)))]))
                    refine Till.ifc (pc' := 153) X107.here hx (hb hby d2_101) (by decide) (by decide) (fun q => ?_) (fun q => ?_)
                    · have hc111 := (mt lLt.mpr (hLt.2.2.1 q))
                      show Till p e below s (Q2 Z a1 a2 q3 w1 g h0 n0) room2.cells room2.slots (T105.setTop (mkF m 153 #[.val (.ref a1), .val (.ref a2), .val (.long q3), .second, .val (.long rem_2), .second, .val (.ref b18), .val (.long left_2), .second, .val (.int (2 : Int32)), .val (.long k_2), .second] []))
                      refine Till.pre (fun _ hr => XS.iinc X107.here hx rfl (hb hby d2_153) rfl (l' := #[.val (.ref a1), .val (.ref a2), .val (.long q3), .second, .val (.long rem_2), .second, .val (.ref b18), .val (.long left_2), .second, .val (.int (3 : Int32)), .val (.long k_2), .second]) rfl hr) ?_
                      show Till p e below s (Q2 Z a1 a2 q3 w1 g h0 n0) room2.cells room2.slots (T105.setTop (mkF m 156 #[.val (.ref a1), .val (.ref a2), .val (.long q3), .second, .val (.long rem_2), .second, .val (.ref b18), .val (.long left_2), .second, .val (.int (3 : Int32)), .val (.long k_2), .second] []))
                      refine Till.pre (fun _ hr => XS.goto X107.here hx rfl (pc0 := 156) (pc' := 84) rfl (hb hby d2_156) (by decide) (by decide) hr) ?_
                      show Till p e below s (Q2 Z a1 a2 q3 w1 g h0 n0) room2.cells room2.slots (T105.setTop (mkF m 84 #[.val (.ref a1), .val (.ref a2), .val (.long q3), .second, .val (.long rem_2), .second, .val (.ref b18), .val (.long left_2), .second, .val (.int (3 : Int32)), .val (.long k_2), .second] []))
                      refine Till.pre (fun _ hr => XS.iload X107.here hx rfl (hb hby d2_84) rfl hr) ?_
                      show Till p e below s (Q2 Z a1 a2 q3 w1 g h0 n0) room2.cells room2.slots (T105.setTop (mkF m 86 #[.val (.ref a1), .val (.ref a2), .val (.long q3), .second, .val (.long rem_2), .second, .val (.ref b18), .val (.long left_2), .second, .val (.int (3 : Int32)), .val (.long k_2), .second] [(.int (3 : Int32))]))
                      refine Till.pre (fun _ hr => XS.aloadN X107.here hx rfl (hb hby d2_86) rfl rfl hr) ?_
                      show Till p e below s (Q2 Z a1 a2 q3 w1 g h0 n0) room2.cells room2.slots (T105.setTop (mkF m 87 #[.val (.ref a1), .val (.ref a2), .val (.long q3), .second, .val (.long rem_2), .second, .val (.ref b18), .val (.long left_2), .second, .val (.int (3 : Int32)), .val (.long k_2), .second] [(.ref a2), (.int (3 : Int32))]))
                      refine Till.alen R_a2 X107 hx hZ rfl (hb hby d2_87) ?_
                      show Till p e below s (Q2 Z a1 a2 q3 w1 g h0 n0) room2.cells room2.slots (T105.setTop (mkF m 88 #[.val (.ref a1), .val (.ref a2), .val (.long q3), .second, .val (.long rem_2), .second, .val (.ref b18), .val (.long left_2), .second, .val (.int (3 : Int32)), .val (.long k_2), .second] [(.int (3 : Int32)), (.int (3 : Int32))]))
                      refine Till.icmp (pc' := 159) X107.here hx (hb hby d2_88) (by decide) (by decide) (fun q => ?_) (fun q => absurd (hLt.2.2.2.1 q) (by decide : ¬ ((3 : Int32) < (3 : Int32))))
                      show Till p e below s (Q2 Z a1 a2 q3 w1 g h0 n0) room2.cells room2.slots (T105.setTop (mkF m 159 #[.val (.ref a1), .val (.ref a2), .val (.long q3), .second, .val (.long rem_2), .second, .val (.ref b18), .val (.long left_2), .second, .val (.int (3 : Int32)), .val (.long k_2), .second] []))
                      refine Till.pre (fun _ hr => XS.aload X107.here hx rfl (hb hby d2_159) rfl rfl hr) ?_
                      show Till p e below s (Q2 Z a1 a2 q3 w1 g h0 n0) room2.cells room2.slots (T105.setTop (mkF m 161 #[.val (.ref a1), .val (.ref a2), .val (.long q3), .second, .val (.long rem_2), .second, .val (.ref b18), .val (.long left_2), .second, .val (.int (3 : Int32)), .val (.long k_2), .second] [(.ref b18)]))
                      refine Till.retA X107 hx hret rfl hlk rfl rfl (hb hby d2_161) (by decide) (by decide) ?_
                      show (Q2 Z a1 a2 q3 w1 g h0 n0) _ T105.heap _
                      exact ⟨b18, _, _, rfl, N108, Kp, sz_b18, R_a1, R_b18, own_done hG I_2 (Or.inl hc111)⟩
                    · have hc111 := (lLt.mp (hLt.2.2.2.1 q))
                      show Till p e below s (Q2 Z a1 a2 q3 w1 g h0 n0) room2.cells room2.slots (T105.setTop (mkF m 104 #[.val (.ref a1), .val (.ref a2), .val (.long q3), .second, .val (.long rem_2), .second, .val (.ref b18), .val (.long left_2), .second, .val (.int (2 : Int32)), .val (.long k_2), .second] []))
                      refine Till.pre (fun _ hr => XS.lload X107.here hx rfl (hb hby d2_104) rfl hr) ?_
                      show Till p e below s (Q2 Z a1 a2 q3 w1 g h0 n0) room2.cells room2.slots (T105.setTop (mkF m 106 #[.val (.ref a1), .val (.ref a2), .val (.long q3), .second, .val (.long rem_2), .second, .val (.ref b18), .val (.long left_2), .second, .val (.int (2 : Int32)), .val (.long k_2), .second] [(.long left_2)]))
                      refine Till.pre (fun _ hr => XS.lconst X107.here hx rfl (hb hby d2_106) hr) ?_
                      show Till p e below s (Q2 Z a1 a2 q3 w1 g h0 n0) room2.cells room2.slots (T105.setTop (mkF m 107 #[.val (.ref a1), .val (.ref a2), .val (.long q3), .second, .val (.long rem_2), .second, .val (.ref b18), .val (.long left_2), .second, .val (.int (2 : Int32)), .val (.long k_2), .second] [(.long (0 : Int64)), (.long left_2)]))
                      refine Till.pre (fun _ hr => XS.lcmp X107.here hx rfl (hb hby d2_107) rfl hr) ?_
                      show Till p e below s (Q2 Z a1 a2 q3 w1 g h0 n0) room2.cells room2.slots (T105.setTop (mkF m 108 #[.val (.ref a1), .val (.ref a2), .val (.long q3), .second, .val (.long rem_2), .second, .val (.ref b18), .val (.long left_2), .second, .val (.int (2 : Int32)), .val (.long k_2), .second] [(.int (lcmpW left_2 (0 : Int64)))]))
                      refine Till.ifc (pc' := 153) X107.here hx (hb hby d2_108) (by decide) (by decide) (fun q => ?_) (fun q => ?_)
                      · have hc112 := (mt lGt.mpr (hLt.2.2.2.2.2.2.1 q))
                        show Till p e below s (Q2 Z a1 a2 q3 w1 g h0 n0) room2.cells room2.slots (T105.setTop (mkF m 153 #[.val (.ref a1), .val (.ref a2), .val (.long q3), .second, .val (.long rem_2), .second, .val (.ref b18), .val (.long left_2), .second, .val (.int (2 : Int32)), .val (.long k_2), .second] []))
                        refine Till.pre (fun _ hr => XS.iinc X107.here hx rfl (hb hby d2_153) rfl (l' := #[.val (.ref a1), .val (.ref a2), .val (.long q3), .second, .val (.long rem_2), .second, .val (.ref b18), .val (.long left_2), .second, .val (.int (3 : Int32)), .val (.long k_2), .second]) rfl hr) ?_
                        show Till p e below s (Q2 Z a1 a2 q3 w1 g h0 n0) room2.cells room2.slots (T105.setTop (mkF m 156 #[.val (.ref a1), .val (.ref a2), .val (.long q3), .second, .val (.long rem_2), .second, .val (.ref b18), .val (.long left_2), .second, .val (.int (3 : Int32)), .val (.long k_2), .second] []))
                        refine Till.pre (fun _ hr => XS.goto X107.here hx rfl (pc0 := 156) (pc' := 84) rfl (hb hby d2_156) (by decide) (by decide) hr) ?_
                        show Till p e below s (Q2 Z a1 a2 q3 w1 g h0 n0) room2.cells room2.slots (T105.setTop (mkF m 84 #[.val (.ref a1), .val (.ref a2), .val (.long q3), .second, .val (.long rem_2), .second, .val (.ref b18), .val (.long left_2), .second, .val (.int (3 : Int32)), .val (.long k_2), .second] []))
                        refine Till.pre (fun _ hr => XS.iload X107.here hx rfl (hb hby d2_84) rfl hr) ?_
                        show Till p e below s (Q2 Z a1 a2 q3 w1 g h0 n0) room2.cells room2.slots (T105.setTop (mkF m 86 #[.val (.ref a1), .val (.ref a2), .val (.long q3), .second, .val (.long rem_2), .second, .val (.ref b18), .val (.long left_2), .second, .val (.int (3 : Int32)), .val (.long k_2), .second] [(.int (3 : Int32))]))
                        refine Till.pre (fun _ hr => XS.aloadN X107.here hx rfl (hb hby d2_86) rfl rfl hr) ?_
                        show Till p e below s (Q2 Z a1 a2 q3 w1 g h0 n0) room2.cells room2.slots (T105.setTop (mkF m 87 #[.val (.ref a1), .val (.ref a2), .val (.long q3), .second, .val (.long rem_2), .second, .val (.ref b18), .val (.long left_2), .second, .val (.int (3 : Int32)), .val (.long k_2), .second] [(.ref a2), (.int (3 : Int32))]))
                        refine Till.alen R_a2 X107 hx hZ rfl (hb hby d2_87) ?_
                        show Till p e below s (Q2 Z a1 a2 q3 w1 g h0 n0) room2.cells room2.slots (T105.setTop (mkF m 88 #[.val (.ref a1), .val (.ref a2), .val (.long q3), .second, .val (.long rem_2), .second, .val (.ref b18), .val (.long left_2), .second, .val (.int (3 : Int32)), .val (.long k_2), .second] [(.int (3 : Int32)), (.int (3 : Int32))]))
                        refine Till.icmp (pc' := 159) X107.here hx (hb hby d2_88) (by decide) (by decide) (fun q => ?_) (fun q => absurd (hLt.2.2.2.1 q) (by decide : ¬ ((3 : Int32) < (3 : Int32))))
                        show Till p e below s (Q2 Z a1 a2 q3 w1 g h0 n0) room2.cells room2.slots (T105.setTop (mkF m 159 #[.val (.ref a1), .val (.ref a2), .val (.long q3), .second, .val (.long rem_2), .second, .val (.ref b18), .val (.long left_2), .second, .val (.int (3 : Int32)), .val (.long k_2), .second] []))
                        refine Till.pre (fun _ hr => XS.aload X107.here hx rfl (hb hby d2_159) rfl rfl hr) ?_
                        show Till p e below s (Q2 Z a1 a2 q3 w1 g h0 n0) room2.cells room2.slots (T105.setTop (mkF m 161 #[.val (.ref a1), .val (.ref a2), .val (.long q3), .second, .val (.long rem_2), .second, .val (.ref b18), .val (.long left_2), .second, .val (.int (3 : Int32)), .val (.long k_2), .second] [(.ref b18)]))
                        refine Till.retA X107 hx hret rfl hlk rfl rfl (hb hby d2_161) (by decide) (by decide) ?_
                        show (Q2 Z a1 a2 q3 w1 g h0 n0) _ T105.heap _
                        exact ⟨b18, _, _, rfl, N108, Kp, sz_b18, R_a1, R_b18, own_done hG I_2 (Or.inr hc112)⟩
                      · have hc112 := (lGt.mp (hLt.2.2.2.2.2.2.2 q))
                        show Till p e below s (Q2 Z a1 a2 q3 w1 g h0 n0) room2.cells room2.slots (T105.setTop (mkF m 111 #[.val (.ref a1), .val (.ref a2), .val (.long q3), .second, .val (.long rem_2), .second, .val (.ref b18), .val (.long left_2), .second, .val (.int (2 : Int32)), .val (.long k_2), .second] []))
                        refine Till.pre (fun _ hr => XS.aloadN X107.here hx rfl (hb hby d2_111) rfl rfl hr) ?_
                        show Till p e below s (Q2 Z a1 a2 q3 w1 g h0 n0) room2.cells room2.slots (T105.setTop (mkF m 112 #[.val (.ref a1), .val (.ref a2), .val (.long q3), .second, .val (.long rem_2), .second, .val (.ref b18), .val (.long left_2), .second, .val (.int (2 : Int32)), .val (.long k_2), .second] [(.ref a1)]))
                        refine Till.pre (fun _ hr => XS.lload X107.here hx rfl (hb hby d2_112) rfl hr) ?_
                        show Till p e below s (Q2 Z a1 a2 q3 w1 g h0 n0) room2.cells room2.slots (T105.setTop (mkF m 114 #[.val (.ref a1), .val (.ref a2), .val (.long q3), .second, .val (.long rem_2), .second, .val (.ref b18), .val (.long left_2), .second, .val (.int (2 : Int32)), .val (.long k_2), .second] [(.long rem_2), (.ref a1)]))
                        refine Till.callP (rm4 l Z a0 hw a1 rem_2 W_2 T105.heap n0 Zs R_a1 g_a1 ((own_step (by decide) hG I_2 hc111 hc112).1)) R_a1.1 X107 hx hZ hown (hw _ (List.mem_of_getElem? (i := 22) rfl)) (hw _ (List.mem_of_getElem? (i := 23) rfl)) (hw _ (List.mem_of_getElem? (i := 24) rfl)) (hw _ (List.mem_of_getElem? (i := 3) rfl)) (hw _ (List.mem_of_getElem? (i := 4) rfl)) (hw _ (List.mem_of_getElem? (i := 25) rfl)) (by decide) (by decide) (W := 0) (by decide) (by rw [hml]; rfl) (a := a1) (argsL := [(.long rem_2)]) (rest := []) (lenOf pd2_2 rfl) rfl rfl (Nat.le_of_eq rfl) (hb hby d2_114) rfl (by decide) (by decide) ?_
                        rintro _ T113 L114 X115 ⟨rfl, N116, K117, q118⟩
                        have N116 := Fr.app N108 N116
                        have R_a2 := R_a2.keep K117 (ninS (Ne.symm ne_a1_a2) nin0)
                        have R_b18 := R_b18.keep K117 (ninS (Ne.symm ne_a1_b18) nin0)
                        have Zs := Nat.le_trans Zs K117.1
                        have Kp := Kp.trans K117 (allS (Or.inl (List.mem_of_getElem? (i := 0) rfl)) all0)
                        have R_a1 : Lot Z T113.heap a1 (if ((((lsr (fn5 W_2) (1 : Int32)) - ((lsr (fn5 W_2) (1 : Int32)) - ((lsr (fn5 W_2) (1 : Int32)) / rem_2) * rem_2)) + (rem_2 - (1 : Int64))) < (0 : Int64)) then ((W_2 + (-7046029254386353131 : Int64)) + (-7046029254386353131 : Int64)) else (W_2 + (-7046029254386353131 : Int64))) := q118
                        show Till p e below s (Q2 Z a1 a2 q3 w1 g h0 n0) room2.cells room2.slots (T113.setTop (mkF m 117 #[.val (.ref a1), .val (.ref a2), .val (.long q3), .second, .val (.long rem_2), .second, .val (.ref b18), .val (.long left_2), .second, .val (.int (2 : Int32)), .val (.long k_2), .second] [(.long (fn4 rem_2 W_2))]))
                        refine Till.pre (fun _ hr => XS.lload X115.here hx rfl (hb hby d2_117) rfl hr) ?_
                        show Till p e below s (Q2 Z a1 a2 q3 w1 g h0 n0) room2.cells room2.slots (T113.setTop (mkF m 119 #[.val (.ref a1), .val (.ref a2), .val (.long q3), .second, .val (.long rem_2), .second, .val (.ref b18), .val (.long left_2), .second, .val (.int (2 : Int32)), .val (.long k_2), .second] [(.long left_2), (.long (fn4 rem_2 W_2))]))
                        refine Till.pre (fun _ hr => XS.lcmp X115.here hx rfl (hb hby d2_119) rfl hr) ?_
                        show Till p e below s (Q2 Z a1 a2 q3 w1 g h0 n0) room2.cells room2.slots (T113.setTop (mkF m 120 #[.val (.ref a1), .val (.ref a2), .val (.long q3), .second, .val (.long rem_2), .second, .val (.ref b18), .val (.long left_2), .second, .val (.int (2 : Int32)), .val (.long k_2), .second] [(.int (lcmpW (fn4 rem_2 W_2) left_2))]))
                        refine Till.ifc (pc' := 138) X115.here hx (hb hby d2_120) (by decide) (by decide) (fun q => ?_) (fun q => ?_)
                        · have hc119 := (mt lLt.mpr (hLt.2.2.1 q))
                          show Till p e below s (Q2 Z a1 a2 q3 w1 g h0 n0) room2.cells room2.slots (T113.setTop (mkF m 138 #[.val (.ref a1), .val (.ref a2), .val (.long q3), .second, .val (.long rem_2), .second, .val (.ref b18), .val (.long left_2), .second, .val (.int (2 : Int32)), .val (.long k_2), .second] []))
                          refine Till.pre (fun _ hr => XS.lload X115.here hx rfl (hb hby d2_138) rfl hr) ?_
                          show Till p e below s (Q2 Z a1 a2 q3 w1 g h0 n0) room2.cells room2.slots (T113.setTop (mkF m 140 #[.val (.ref a1), .val (.ref a2), .val (.long q3), .second, .val (.long rem_2), .second, .val (.ref b18), .val (.long left_2), .second, .val (.int (2 : Int32)), .val (.long k_2), .second] [(.long rem_2)]))
                          refine Till.pre (fun _ hr => XS.lconst X115.here hx rfl (hb hby d2_140) hr) ?_
                          show Till p e below s (Q2 Z a1 a2 q3 w1 g h0 n0) room2.cells room2.slots (T113.setTop (mkF m 141 #[.val (.ref a1), .val (.ref a2), .val (.long q3), .second, .val (.long rem_2), .second, .val (.ref b18), .val (.long left_2), .second, .val (.int (2 : Int32)), .val (.long k_2), .second] [(.long (1 : Int64)), (.long rem_2)]))
                          refine Till.pre (fun _ hr => XS.lsub X115.here hx rfl (hb hby d2_141) rfl hr) ?_
                          show Till p e below s (Q2 Z a1 a2 q3 w1 g h0 n0) room2.cells room2.slots (T113.setTop (mkF m 142 #[.val (.ref a1), .val (.ref a2), .val (.long q3), .second, .val (.long rem_2), .second, .val (.ref b18), .val (.long left_2), .second, .val (.int (2 : Int32)), .val (.long k_2), .second] [(.long (rem_2 - (1 : Int64)))]))
                          refine Till.pre (fun _ hr => XS.lstore X115.here hx rfl (hb hby d2_142) rfl (l' := #[.val (.ref a1), .val (.ref a2), .val (.long q3), .second, .val (.long (rem_2 - (1 : Int64))), .second, .val (.ref b18), .val (.long left_2), .second, .val (.int (2 : Int32)), .val (.long k_2), .second]) rfl hr) ?_
                          show Till p e below s (Q2 Z a1 a2 q3 w1 g h0 n0) room2.cells room2.slots (T113.setTop (mkF m 144 #[.val (.ref a1), .val (.ref a2), .val (.long q3), .second, .val (.long (rem_2 - (1 : Int64))), .second, .val (.ref b18), .val (.long left_2), .second, .val (.int (2 : Int32)), .val (.long k_2), .second] []))
                          refine Till.pre (fun _ hr => XS.lload X115.here hx rfl (hb hby d2_144) rfl hr) ?_
                          show Till p e below s (Q2 Z a1 a2 q3 w1 g h0 n0) room2.cells room2.slots (T113.setTop (mkF m 146 #[.val (.ref a1), .val (.ref a2), .val (.long q3), .second, .val (.long (rem_2 - (1 : Int64))), .second, .val (.ref b18), .val (.long left_2), .second, .val (.int (2 : Int32)), .val (.long k_2), .second] [(.long k_2)]))
                          refine Till.pre (fun _ hr => XS.lconst X115.here hx rfl (hb hby d2_146) hr) ?_
                          show Till p e below s (Q2 Z a1 a2 q3 w1 g h0 n0) room2.cells room2.slots (T113.setTop (mkF m 147 #[.val (.ref a1), .val (.ref a2), .val (.long q3), .second, .val (.long (rem_2 - (1 : Int64))), .second, .val (.ref b18), .val (.long left_2), .second, .val (.int (2 : Int32)), .val (.long k_2), .second] [(.long (1 : Int64)), (.long k_2)]))
                          refine Till.pre (fun _ hr => XS.ladd X115.here hx rfl (hb hby d2_147) rfl hr) ?_
                          show Till p e below s (Q2 Z a1 a2 q3 w1 g h0 n0) room2.cells room2.slots (T113.setTop (mkF m 148 #[.val (.ref a1), .val (.ref a2), .val (.long q3), .second, .val (.long (rem_2 - (1 : Int64))), .second, .val (.ref b18), .val (.long left_2), .second, .val (.int (2 : Int32)), .val (.long k_2), .second] [(.long (k_2 + (1 : Int64)))]))
                          refine Till.pre (fun _ hr => XS.lstore X115.here hx rfl (hb hby d2_148) rfl (l' := #[.val (.ref a1), .val (.ref a2), .val (.long q3), .second, .val (.long (rem_2 - (1 : Int64))), .second, .val (.ref b18), .val (.long left_2), .second, .val (.int (2 : Int32)), .val (.long (k_2 + (1 : Int64))), .second]) rfl hr) ?_
                          show Till p e below s (Q2 Z a1 a2 q3 w1 g h0 n0) room2.cells room2.slots (T113.setTop (mkF m 150 #[.val (.ref a1), .val (.ref a2), .val (.long q3), .second, .val (.long (rem_2 - (1 : Int64))), .second, .val (.ref b18), .val (.long left_2), .second, .val (.int (2 : Int32)), .val (.long (k_2 + (1 : Int64))), .second] []))
                          refine Till.pre (fun _ hr => XS.goto X115.here hx rfl (pc0 := 150) (pc' := 94) rfl (hb hby d2_150) (by decide) (by decide) hr) ?_
                          show Till p e below s (Q2 Z a1 a2 q3 w1 g h0 n0) room2.cells room2.slots (T113.setTop (mkF m 94 #[.val (.ref a1), .val (.ref a2), .val (.long q3), .second, .val (.long (rem_2 - (1 : Int64))), .second, .val (.ref b18), .val (.long left_2), .second, .val (.int (2 : Int32)), .val (.long (k_2 + (1 : Int64))), .second] []))
                          exact ih _ _ X115 N116 _ _ _ _ _ Zs Kp R_a1 R_a2 R_b18 (((own_step (by decide) hG I_2 hc111 hc112).2 (fn4 rem_2 W_2) _ (own_blr (own_step (by decide) hG I_2 hc111 hc112).1) (own_blg (own_step (by decide) hG I_2 hc111 hc112).1)).2 hc119) (own_mu hm hc111)
                        · have hc119 := (lLt.mp (hLt.2.2.2.1 q))
                          show Till p e below s (Q2 Z a1 a2 q3 w1 g h0 n0) room2.cells room2.slots (T113.setTop (mkF m 123 #[.val (.ref a1), .val (.ref a2), .val (.long q3), .second, .val (.long rem_2), .second, .val (.ref b18), .val (.long left_2), .second, .val (.int (2 : Int32)), .val (.long k_2), .second] []))
                          refine Till.pre (fun _ hr => XS.aload X115.here hx rfl (hb hby d2_123) rfl rfl hr) ?_
                          show Till p e below s (Q2 Z a1 a2 q3 w1 g h0 n0) room2.cells room2.slots (T113.setTop (mkF m 125 #[.val (.ref a1), .val (.ref a2), .val (.long q3), .second, .val (.long rem_2), .second, .val (.ref b18), .val (.long left_2), .second, .val (.int (2 : Int32)), .val (.long k_2), .second] [(.ref b18)]))
                          refine Till.pre (fun _ hr => XS.iload X115.here hx rfl (hb hby d2_125) rfl hr) ?_
                          show Till p e below s (Q2 Z a1 a2 q3 w1 g h0 n0) room2.cells room2.slots (T113.setTop (mkF m 127 #[.val (.ref a1), .val (.ref a2), .val (.long q3), .second, .val (.long rem_2), .second, .val (.ref b18), .val (.long left_2), .second, .val (.int (2 : Int32)), .val (.long k_2), .second] [(.int (2 : Int32)), (.ref b18)]))
                          refine Till.pre (fun _ hr => XT.dup2 X115.here hx rfl (hb hby d2_127) rfl rfl rfl hr) ?_
                          show Till p e below s (Q2 Z a1 a2 q3 w1 g h0 n0) room2.cells room2.slots (T113.setTop (mkF m 128 #[.val (.ref a1), .val (.ref a2), .val (.long q3), .second, .val (.long rem_2), .second, .val (.ref b18), .val (.long left_2), .second, .val (.int (2 : Int32)), .val (.long k_2), .second] [(.int (2 : Int32)), (.ref b18), (.int (2 : Int32)), (.ref b18)]))
                          refine Till.laload R_b18 (by decide) (by decide) X115 hx hZ rfl (hb hby d2_128) ?_
                          show Till p e below s (Q2 Z a1 a2 q3 w1 g h0 n0) room2.cells room2.slots (T113.setTop (mkF m 129 #[.val (.ref a1), .val (.ref a2), .val (.long q3), .second, .val (.long rem_2), .second, .val (.ref b18), .val (.long left_2), .second, .val (.int (2 : Int32)), .val (.long k_2), .second] [(.long (d_2 2)), (.int (2 : Int32)), (.ref b18)]))
                          refine Till.pre (fun _ hr => XS.lconst X115.here hx rfl (hb hby d2_129) hr) ?_
                          show Till p e below s (Q2 Z a1 a2 q3 w1 g h0 n0) room2.cells room2.slots (T113.setTop (mkF m 130 #[.val (.ref a1), .val (.ref a2), .val (.long q3), .second, .val (.long rem_2), .second, .val (.ref b18), .val (.long left_2), .second, .val (.int (2 : Int32)), .val (.long k_2), .second] [(.long (1 : Int64)), (.long (d_2 2)), (.int (2 : Int32)), (.ref b18)]))
                          refine Till.pre (fun _ hr => XS.ladd X115.here hx rfl (hb hby d2_130) rfl hr) ?_
                          show Till p e below s (Q2 Z a1 a2 q3 w1 g h0 n0) room2.cells room2.slots (T113.setTop (mkF m 131 #[.val (.ref a1), .val (.ref a2), .val (.long q3), .second, .val (.long rem_2), .second, .val (.ref b18), .val (.long left_2), .second, .val (.int (2 : Int32)), .val (.long k_2), .second] [(.long ((d_2 2) + (1 : Int64))), (.int (2 : Int32)), (.ref b18)]))
                          refine Till.lastore R_b18 (by decide) (by decide) X115 hx hZ rfl (hb hby d2_131) (fun T120 h121 X122 e123 W124 A125 => ?_)
                          have N126 := Fr.snoc X122 N116 g_b18
                          have R_a1 := R_a1.wr W124 ne_a1_b18
                          have R_a2 := R_a2.wr W124 ne_a2_b18
                          have Zs := Nat.le_trans Zs (Keep.of_wr W124).1
                          have Kp := Kp.wr W124 (Or.inr sz_b18)
                          have R_b18 : LA Z h121 b18 (3 : Int32) (oupd d_2 2 ((d_2 2) + (1 : Int64))) := A125
                          show Till p e below s (Q2 Z a1 a2 q3 w1 g h0 n0) room2.cells room2.slots (T120.setTop (mkF m 132 #[.val (.ref a1), .val (.ref a2), .val (.long q3), .second, .val (.long rem_2), .second, .val (.ref b18), .val (.long left_2), .second, .val (.int (2 : Int32)), .val (.long k_2), .second] []))
                          refine Till.pre (fun _ hr => XS.lload X122.here hx rfl (hb hby d2_132) rfl hr) ?_
                          show Till p e below s (Q2 Z a1 a2 q3 w1 g h0 n0) room2.cells room2.slots (T120.setTop (mkF m 134 #[.val (.ref a1), .val (.ref a2), .val (.long q3), .second, .val (.long rem_2), .second, .val (.ref b18), .val (.long left_2), .second, .val (.int (2 : Int32)), .val (.long k_2), .second] [(.long left_2)]))
                          refine Till.pre (fun _ hr => XS.lconst X122.here hx rfl (hb hby d2_134) hr) ?_
                          show Till p e below s (Q2 Z a1 a2 q3 w1 g h0 n0) room2.cells room2.slots (T120.setTop (mkF m 135 #[.val (.ref a1), .val (.ref a2), .val (.long q3), .second, .val (.long rem_2), .second, .val (.ref b18), .val (.long left_2), .second, .val (.int (2 : Int32)), .val (.long k_2), .second] [(.long (1 : Int64)), (.long left_2)]))
                          refine Till.pre (fun _ hr => XS.lsub X122.here hx rfl (hb hby d2_135) rfl hr) ?_
                          show Till p e below s (Q2 Z a1 a2 q3 w1 g h0 n0) room2.cells room2.slots (T120.setTop (mkF m 136 #[.val (.ref a1), .val (.ref a2), .val (.long q3), .second, .val (.long rem_2), .second, .val (.ref b18), .val (.long left_2), .second, .val (.int (2 : Int32)), .val (.long k_2), .second] [(.long (left_2 - (1 : Int64)))]))
                          refine Till.pre (fun _ hr => XS.lstore X122.here hx rfl (hb hby d2_136) rfl (l' := #[.val (.ref a1), .val (.ref a2), .val (.long q3), .second, .val (.long rem_2), .second, .val (.ref b18), .val (.long (left_2 - (1 : Int64))), .second, .val (.int (2 : Int32)), .val (.long k_2), .second]) rfl hr) ?_
                          show Till p e below s (Q2 Z a1 a2 q3 w1 g h0 n0) room2.cells room2.slots (T120.setTop (mkF m 138 #[.val (.ref a1), .val (.ref a2), .val (.long q3), .second, .val (.long rem_2), .second, .val (.ref b18), .val (.long (left_2 - (1 : Int64))), .second, .val (.int (2 : Int32)), .val (.long k_2), .second] []))
                          refine Till.pre (fun _ hr => XS.lload X122.here hx rfl (hb hby d2_138) rfl hr) ?_
                          show Till p e below s (Q2 Z a1 a2 q3 w1 g h0 n0) room2.cells room2.slots (T120.setTop (mkF m 140 #[.val (.ref a1), .val (.ref a2), .val (.long q3), .second, .val (.long rem_2), .second, .val (.ref b18), .val (.long (left_2 - (1 : Int64))), .second, .val (.int (2 : Int32)), .val (.long k_2), .second] [(.long rem_2)]))
                          refine Till.pre (fun _ hr => XS.lconst X122.here hx rfl (hb hby d2_140) hr) ?_
                          show Till p e below s (Q2 Z a1 a2 q3 w1 g h0 n0) room2.cells room2.slots (T120.setTop (mkF m 141 #[.val (.ref a1), .val (.ref a2), .val (.long q3), .second, .val (.long rem_2), .second, .val (.ref b18), .val (.long (left_2 - (1 : Int64))), .second, .val (.int (2 : Int32)), .val (.long k_2), .second] [(.long (1 : Int64)), (.long rem_2)]))
                          refine Till.pre (fun _ hr => XS.lsub X122.here hx rfl (hb hby d2_141) rfl hr) ?_
                          show Till p e below s (Q2 Z a1 a2 q3 w1 g h0 n0) room2.cells room2.slots (T120.setTop (mkF m 142 #[.val (.ref a1), .val (.ref a2), .val (.long q3), .second, .val (.long rem_2), .second, .val (.ref b18), .val (.long (left_2 - (1 : Int64))), .second, .val (.int (2 : Int32)), .val (.long k_2), .second] [(.long (rem_2 - (1 : Int64)))]))
                          refine Till.pre (fun _ hr => XS.lstore X122.here hx rfl (hb hby d2_142) rfl (l' := #[.val (.ref a1), .val (.ref a2), .val (.long q3), .second, .val (.long (rem_2 - (1 : Int64))), .second, .val (.ref b18), .val (.long (left_2 - (1 : Int64))), .second, .val (.int (2 : Int32)), .val (.long k_2), .second]) rfl hr) ?_
                          show Till p e below s (Q2 Z a1 a2 q3 w1 g h0 n0) room2.cells room2.slots (T120.setTop (mkF m 144 #[.val (.ref a1), .val (.ref a2), .val (.long q3), .second, .val (.long (rem_2 - (1 : Int64))), .second, .val (.ref b18), .val (.long (left_2 - (1 : Int64))), .second, .val (.int (2 : Int32)), .val (.long k_2), .second] []))
                          refine Till.pre (fun _ hr => XS.lload X122.here hx rfl (hb hby d2_144) rfl hr) ?_
                          show Till p e below s (Q2 Z a1 a2 q3 w1 g h0 n0) room2.cells room2.slots (T120.setTop (mkF m 146 #[.val (.ref a1), .val (.ref a2), .val (.long q3), .second, .val (.long (rem_2 - (1 : Int64))), .second, .val (.ref b18), .val (.long (left_2 - (1 : Int64))), .second, .val (.int (2 : Int32)), .val (.long k_2), .second] [(.long k_2)]))
                          refine Till.pre (fun _ hr => XS.lconst X122.here hx rfl (hb hby d2_146) hr) ?_
                          show Till p e below s (Q2 Z a1 a2 q3 w1 g h0 n0) room2.cells room2.slots (T120.setTop (mkF m 147 #[.val (.ref a1), .val (.ref a2), .val (.long q3), .second, .val (.long (rem_2 - (1 : Int64))), .second, .val (.ref b18), .val (.long (left_2 - (1 : Int64))), .second, .val (.int (2 : Int32)), .val (.long k_2), .second] [(.long (1 : Int64)), (.long k_2)]))
                          refine Till.pre (fun _ hr => XS.ladd X122.here hx rfl (hb hby d2_147) rfl hr) ?_
                          show Till p e below s (Q2 Z a1 a2 q3 w1 g h0 n0) room2.cells room2.slots (T120.setTop (mkF m 148 #[.val (.ref a1), .val (.ref a2), .val (.long q3), .second, .val (.long (rem_2 - (1 : Int64))), .second, .val (.ref b18), .val (.long (left_2 - (1 : Int64))), .second, .val (.int (2 : Int32)), .val (.long k_2), .second] [(.long (k_2 + (1 : Int64)))]))
                          refine Till.pre (fun _ hr => XS.lstore X122.here hx rfl (hb hby d2_148) rfl (l' := #[.val (.ref a1), .val (.ref a2), .val (.long q3), .second, .val (.long (rem_2 - (1 : Int64))), .second, .val (.ref b18), .val (.long (left_2 - (1 : Int64))), .second, .val (.int (2 : Int32)), .val (.long (k_2 + (1 : Int64))), .second]) rfl hr) ?_
                          show Till p e below s (Q2 Z a1 a2 q3 w1 g h0 n0) room2.cells room2.slots (T120.setTop (mkF m 150 #[.val (.ref a1), .val (.ref a2), .val (.long q3), .second, .val (.long (rem_2 - (1 : Int64))), .second, .val (.ref b18), .val (.long (left_2 - (1 : Int64))), .second, .val (.int (2 : Int32)), .val (.long (k_2 + (1 : Int64))), .second] []))
                          refine Till.pre (fun _ hr => XS.goto X122.here hx rfl (pc0 := 150) (pc' := 94) rfl (hb hby d2_150) (by decide) (by decide) hr) ?_
                          show Till p e below s (Q2 Z a1 a2 q3 w1 g h0 n0) room2.cells room2.slots (T120.setTop (mkF m 94 #[.val (.ref a1), .val (.ref a2), .val (.long q3), .second, .val (.long (rem_2 - (1 : Int64))), .second, .val (.ref b18), .val (.long (left_2 - (1 : Int64))), .second, .val (.int (2 : Int32)), .val (.long (k_2 + (1 : Int64))), .second] []))
                          exact ih _ _ X122 N126 _ _ _ _ _ (by rw [e123]; exact Zs) (by rw [e123]; exact Kp) (by rw [e123]; exact R_a1) (by rw [e123]; exact R_a2) (by rw [e123]; exact R_b18) (((own_step (by decide) hG I_2 hc111 hc112).2 (fn4 rem_2 W_2) _ (own_blr (own_step (by decide) hG I_2 hc111 hc112).1) (own_blg (own_step (by decide) hG I_2 hc111 hc112).1)).1 hc119) (own_mu hm hc111)
                show Till p e below s (Q2 Z a1 a2 q3 w1 g h0 n0) room2.cells room2.slots (T98.setTop (mkF m 94 #[.val (.ref a1), .val (.ref a2), .val (.long q3), .second, .val (.long rem_1), .second, .val (.ref b18), .val (.long left_1), .second, .val (.int (2 : Int32)), .val (.long (0 : Int64)), .second] []))
                exact loop94_109 _ _ _ X100 N101 _ _ _ _ _ Zs Kp R_a1 R_a2 R_b18 (own_exit (by decide) hG I_1 (Or.inl hc104)) (Nat.lt_succ_self _)
              · have hc104 := (lLt.mp (hLt.2.2.2.1 q))
                show Till p e below s (Q2 Z a1 a2 q3 w1 g h0 n0) room2.cells room2.slots (T98.setTop (mkF m 104 #[.val (.ref a1), .val (.ref a2), .val (.long q3), .second, .val (.long rem_1), .second, .val (.ref b18), .val (.long left_1), .second, .val (.int (1 : Int32)), .val (.long k_1), .second] []))
                refine Till.pre (fun _ hr => XS.lload X100.here hx rfl (hb hby d2_104) rfl hr) ?_
                show Till p e below s (Q2 Z a1 a2 q3 w1 g h0 n0) room2.cells room2.slots (T98.setTop (mkF m 106 #[.val (.ref a1), .val (.ref a2), .val (.long q3), .second, .val (.long rem_1), .second, .val (.ref b18), .val (.long left_1), .second, .val (.int (1 : Int32)), .val (.long k_1), .second] [(.long left_1)]))
                refine Till.pre (fun _ hr => XS.lconst X100.here hx rfl (hb hby d2_106) hr) ?_
                show Till p e below s (Q2 Z a1 a2 q3 w1 g h0 n0) room2.cells room2.slots (T98.setTop (mkF m 107 #[.val (.ref a1), .val (.ref a2), .val (.long q3), .second, .val (.long rem_1), .second, .val (.ref b18), .val (.long left_1), .second, .val (.int (1 : Int32)), .val (.long k_1), .second] [(.long (0 : Int64)), (.long left_1)]))
                refine Till.pre (fun _ hr => XS.lcmp X100.here hx rfl (hb hby d2_107) rfl hr) ?_
                show Till p e below s (Q2 Z a1 a2 q3 w1 g h0 n0) room2.cells room2.slots (T98.setTop (mkF m 108 #[.val (.ref a1), .val (.ref a2), .val (.long q3), .second, .val (.long rem_1), .second, .val (.ref b18), .val (.long left_1), .second, .val (.int (1 : Int32)), .val (.long k_1), .second] [(.int (lcmpW left_1 (0 : Int64)))]))
                refine Till.ifc (pc' := 153) X100.here hx (hb hby d2_108) (by decide) (by decide) (fun q => ?_) (fun q => ?_)
                · have hc127 := (mt lGt.mpr (hLt.2.2.2.2.2.2.1 q))
                  show Till p e below s (Q2 Z a1 a2 q3 w1 g h0 n0) room2.cells room2.slots (T98.setTop (mkF m 153 #[.val (.ref a1), .val (.ref a2), .val (.long q3), .second, .val (.long rem_1), .second, .val (.ref b18), .val (.long left_1), .second, .val (.int (1 : Int32)), .val (.long k_1), .second] []))
                  refine Till.pre (fun _ hr => XS.iinc X100.here hx rfl (hb hby d2_153) rfl (l' := #[.val (.ref a1), .val (.ref a2), .val (.long q3), .second, .val (.long rem_1), .second, .val (.ref b18), .val (.long left_1), .second, .val (.int (2 : Int32)), .val (.long k_1), .second]) rfl hr) ?_
                  show Till p e below s (Q2 Z a1 a2 q3 w1 g h0 n0) room2.cells room2.slots (T98.setTop (mkF m 156 #[.val (.ref a1), .val (.ref a2), .val (.long q3), .second, .val (.long rem_1), .second, .val (.ref b18), .val (.long left_1), .second, .val (.int (2 : Int32)), .val (.long k_1), .second] []))
                  refine Till.pre (fun _ hr => XS.goto X100.here hx rfl (pc0 := 156) (pc' := 84) rfl (hb hby d2_156) (by decide) (by decide) hr) ?_
                  show Till p e below s (Q2 Z a1 a2 q3 w1 g h0 n0) room2.cells room2.slots (T98.setTop (mkF m 84 #[.val (.ref a1), .val (.ref a2), .val (.long q3), .second, .val (.long rem_1), .second, .val (.ref b18), .val (.long left_1), .second, .val (.int (2 : Int32)), .val (.long k_1), .second] []))
                  refine Till.pre (fun _ hr => XS.iload X100.here hx rfl (hb hby d2_84) rfl hr) ?_
                  show Till p e below s (Q2 Z a1 a2 q3 w1 g h0 n0) room2.cells room2.slots (T98.setTop (mkF m 86 #[.val (.ref a1), .val (.ref a2), .val (.long q3), .second, .val (.long rem_1), .second, .val (.ref b18), .val (.long left_1), .second, .val (.int (2 : Int32)), .val (.long k_1), .second] [(.int (2 : Int32))]))
                  refine Till.pre (fun _ hr => XS.aloadN X100.here hx rfl (hb hby d2_86) rfl rfl hr) ?_
                  show Till p e below s (Q2 Z a1 a2 q3 w1 g h0 n0) room2.cells room2.slots (T98.setTop (mkF m 87 #[.val (.ref a1), .val (.ref a2), .val (.long q3), .second, .val (.long rem_1), .second, .val (.ref b18), .val (.long left_1), .second, .val (.int (2 : Int32)), .val (.long k_1), .second] [(.ref a2), (.int (2 : Int32))]))
                  refine Till.alen R_a2 X100 hx hZ rfl (hb hby d2_87) ?_
                  show Till p e below s (Q2 Z a1 a2 q3 w1 g h0 n0) room2.cells room2.slots (T98.setTop (mkF m 88 #[.val (.ref a1), .val (.ref a2), .val (.long q3), .second, .val (.long rem_1), .second, .val (.ref b18), .val (.long left_1), .second, .val (.int (2 : Int32)), .val (.long k_1), .second] [(.int (3 : Int32)), (.int (2 : Int32))]))
                  refine Till.icmp (pc' := 159) X100.here hx (hb hby d2_88) (by decide) (by decide) (fun q => absurd (by decide : ((2 : Int32) < (3 : Int32))) (hLt.2.2.1 q)) (fun q => ?_)
                  show Till p e below s (Q2 Z a1 a2 q3 w1 g h0 n0) room2.cells room2.slots (T98.setTop (mkF m 91 #[.val (.ref a1), .val (.ref a2), .val (.long q3), .second, .val (.long rem_1), .second, .val (.ref b18), .val (.long left_1), .second, .val (.int (2 : Int32)), .val (.long k_1), .second] []))
                  refine Till.pre (fun _ hr => XS.lconst X100.here hx rfl (hb hby d2_91) hr) ?_
                  show Till p e below s (Q2 Z a1 a2 q3 w1 g h0 n0) room2.cells room2.slots (T98.setTop (mkF m 92 #[.val (.ref a1), .val (.ref a2), .val (.long q3), .second, .val (.long rem_1), .second, .val (.ref b18), .val (.long left_1), .second, .val (.int (2 : Int32)), .val (.long k_1), .second] [(.long (0 : Int64))]))
                  refine Till.pre (fun _ hr => XS.lstore X100.here hx rfl (hb hby d2_92) rfl (l' := #[.val (.ref a1), .val (.ref a2), .val (.long q3), .second, .val (.long rem_1), .second, .val (.ref b18), .val (.long left_1), .second, .val (.int (2 : Int32)), .val (.long (0 : Int64)), .second]) rfl hr) ?_
                  have loop94_132 : ∀ (fuel : Nat) (T128 : State) (L129 : List Loc) (X130 : Stand p l e room2 s m #[(.ref a1), (.ref a2), (.long q3)] below meth c T128 L129 1 3) (N131 : Fr n0 L129) (k_2 : Int64) (left_2 : Int64) (rem_2 : Int64) (W_2 : Int64) (d_2 : Nat → Int64) (Zs : n0 ≤ T128.heap.size) (Kp : Keep h0 T128.heap [a1]) (R_a1 : Lot Z T128.heap a1 W_2) (R_a2 : LA Z T128.heap a2 (3 : Int32) g) (R_b18 : LA Z T128.heap b18 (3 : Int32) d_2) (I_2 : own_I 2 g q3 w1 k_2 rem_2 left_2 W_2 d_2) (hm : ((g 2).toInt - k_2.toInt).toNat < fuel), Till p e below s (Q2 Z a1 a2 q3 w1 g h0 n0) room2.cells room2.slots (T128.setTop (mkF m 94 #[.val (.ref a1), .val (.ref a2), .val (.long q3), .second, .val (.long rem_2), .second, .val (.ref b18), .val (.long left_2), .second, .val (.int (2 : Int32)), .val (.long k_2), .second] [])) := by
                    intro fuel
                    induction fuel with
                    | zero => intro T128 L129 X130 N131 k_2 left_2 rem_2 W_2 d_2 Zs Kp R_a1 R_a2 R_b18 I_2 hm; exact absurd hm (Nat.not_lt_zero _)
                    | succ fuel ih =>
                      intro T128 L129 X130 N131 k_2 left_2 rem_2 W_2 d_2 Zs Kp R_a1 R_a2 R_b18 I_2 hm
                      show Till p e below s (Q2 Z a1 a2 q3 w1 g h0 n0) room2.cells room2.slots (T128.setTop (mkF m 94 #[.val (.ref a1), .val (.ref a2), .val (.long q3), .second, .val (.long rem_2), .second, .val (.ref b18), .val (.long left_2), .second, .val (.int (2 : Int32)), .val (.long k_2), .second] []))
                      refine Till.pre (fun _ hr => XS.lload X130.here hx rfl (hb hby d2_94) rfl hr) ?_
                      show Till p e below s (Q2 Z a1 a2 q3 w1 g h0 n0) room2.cells room2.slots (T128.setTop (mkF m 96 #[.val (.ref a1), .val (.ref a2), .val (.long q3), .second, .val (.long rem_2), .second, .val (.ref b18), .val (.long left_2), .second, .val (.int (2 : Int32)), .val (.long k_2), .second] [(.long k_2)]))
                      refine Till.pre (fun _ hr => XS.aloadN X130.here hx rfl (hb hby d2_96) rfl rfl hr) ?_
                      show Till p e below s (Q2 Z a1 a2 q3 w1 g h0 n0) room2.cells room2.slots (T128.setTop (mkF m 97 #[.val (.ref a1), .val (.ref a2), .val (.long q3), .second, .val (.long rem_2), .second, .val (.ref b18), .val (.long left_2), .second, .val (.int (2 : Int32)), .val (.long k_2), .second] [(.ref a2), (.long k_2)]))
                      refine Till.pre (fun _ hr => XS.iload X130.here hx rfl (hb hby d2_97) rfl hr) ?_
                      show Till p e below s (Q2 Z a1 a2 q3 w1 g h0 n0) room2.cells room2.slots (T128.setTop (mkF m 99 #[.val (.ref a1), .val (.ref a2), .val (.long q3), .second, .val (.long rem_2), .second, .val (.ref b18), .val (.long left_2), .second, .val (.int (2 : Int32)), .val (.long k_2), .second] [(.int (2 : Int32)), (.ref a2), (.long k_2)]))
                      refine Till.laload R_a2 (by decide) (by decide) X130 hx hZ rfl (hb hby d2_99) ?_
                      show Till p e below s (Q2 Z a1 a2 q3 w1 g h0 n0) room2.cells room2.slots (T128.setTop (mkF m 100 #[.val (.ref a1), .val (.ref a2), .val (.long q3), .second, .val (.long rem_2), .second, .val (.ref b18), .val (.long left_2), .second, .val (.int (2 : Int32)), .val (.long k_2), .second] [(.long (g 2)), (.long k_2)]))
                      refine Till.pre (fun _ hr => XS.lcmp X130.here hx rfl (hb hby d2_100) rfl hr) ?_
                      show Till p e below s (Q2 Z a1 a2 q3 w1 g h0 n0) room2.cells room2.slots (T128.setTop (mkF m 101 #[.val (.ref a1), .val (.ref a2), .val (.long q3), .second, .val (.long rem_2), .second, .val (.ref b18), .val (.long left_2), .second, .val (.int (2 : Int32)), .val (.long k_2), .second] [(.int (lcmpW k_2 (g 2)))]))
                      refine Till.ifc (pc' := 153) X130.here hx (hb hby d2_101) (by decide) (by decide) (fun q => ?_) (fun q => ?_)
                      · have hc134 := (mt lLt.mpr (hLt.2.2.1 q))
                        show Till p e below s (Q2 Z a1 a2 q3 w1 g h0 n0) room2.cells room2.slots (T128.setTop (mkF m 153 #[.val (.ref a1), .val (.ref a2), .val (.long q3), .second, .val (.long rem_2), .second, .val (.ref b18), .val (.long left_2), .second, .val (.int (2 : Int32)), .val (.long k_2), .second] []))
                        refine Till.pre (fun _ hr => XS.iinc X130.here hx rfl (hb hby d2_153) rfl (l' := #[.val (.ref a1), .val (.ref a2), .val (.long q3), .second, .val (.long rem_2), .second, .val (.ref b18), .val (.long left_2), .second, .val (.int (3 : Int32)), .val (.long k_2), .second]) rfl hr) ?_
                        show Till p e below s (Q2 Z a1 a2 q3 w1 g h0 n0) room2.cells room2.slots (T128.setTop (mkF m 156 #[.val (.ref a1), .val (.ref a2), .val (.long q3), .second, .val (.long rem_2), .second, .val (.ref b18), .val (.long left_2), .second, .val (.int (3 : Int32)), .val (.long k_2), .second] []))
                        refine Till.pre (fun _ hr => XS.goto X130.here hx rfl (pc0 := 156) (pc' := 84) rfl (hb hby d2_156) (by decide) (by decide) hr) ?_
                        show Till p e below s (Q2 Z a1 a2 q3 w1 g h0 n0) room2.cells room2.slots (T128.setTop (mkF m 84 #[.val (.ref a1), .val (.ref a2), .val (.long q3), .second, .val (.long rem_2), .second, .val (.ref b18), .val (.long left_2), .second, .val (.int (3 : Int32)), .val (.long k_2), .second] []))
                        refine Till.pre (fun _ hr => XS.iload X130.here hx rfl (hb hby d2_84) rfl hr) ?_
                        show Till p e below s (Q2 Z a1 a2 q3 w1 g h0 n0) room2.cells room2.slots (T128.setTop (mkF m 86 #[.val (.ref a1), .val (.ref a2), .val (.long q3), .second, .val (.long rem_2), .second, .val (.ref b18), .val (.long left_2), .second, .val (.int (3 : Int32)), .val (.long k_2), .second] [(.int (3 : Int32))]))
                        refine Till.pre (fun _ hr => XS.aloadN X130.here hx rfl (hb hby d2_86) rfl rfl hr) ?_
                        show Till p e below s (Q2 Z a1 a2 q3 w1 g h0 n0) room2.cells room2.slots (T128.setTop (mkF m 87 #[.val (.ref a1), .val (.ref a2), .val (.long q3), .second, .val (.long rem_2), .second, .val (.ref b18), .val (.long left_2), .second, .val (.int (3 : Int32)), .val (.long k_2), .second] [(.ref a2), (.int (3 : Int32))]))
                        refine Till.alen R_a2 X130 hx hZ rfl (hb hby d2_87) ?_
                        show Till p e below s (Q2 Z a1 a2 q3 w1 g h0 n0) room2.cells room2.slots (T128.setTop (mkF m 88 #[.val (.ref a1), .val (.ref a2), .val (.long q3), .second, .val (.long rem_2), .second, .val (.ref b18), .val (.long left_2), .second, .val (.int (3 : Int32)), .val (.long k_2), .second] [(.int (3 : Int32)), (.int (3 : Int32))]))
                        refine Till.icmp (pc' := 159) X130.here hx (hb hby d2_88) (by decide) (by decide) (fun q => ?_) (fun q => absurd (hLt.2.2.2.1 q) (by decide : ¬ ((3 : Int32) < (3 : Int32))))
                        show Till p e below s (Q2 Z a1 a2 q3 w1 g h0 n0) room2.cells room2.slots (T128.setTop (mkF m 159 #[.val (.ref a1), .val (.ref a2), .val (.long q3), .second, .val (.long rem_2), .second, .val (.ref b18), .val (.long left_2), .second, .val (.int (3 : Int32)), .val (.long k_2), .second] []))
                        refine Till.pre (fun _ hr => XS.aload X130.here hx rfl (hb hby d2_159) rfl rfl hr) ?_
                        show Till p e below s (Q2 Z a1 a2 q3 w1 g h0 n0) room2.cells room2.slots (T128.setTop (mkF m 161 #[.val (.ref a1), .val (.ref a2), .val (.long q3), .second, .val (.long rem_2), .second, .val (.ref b18), .val (.long left_2), .second, .val (.int (3 : Int32)), .val (.long k_2), .second] [(.ref b18)]))
                        refine Till.retA X130 hx hret rfl hlk rfl rfl (hb hby d2_161) (by decide) (by decide) ?_
                        show (Q2 Z a1 a2 q3 w1 g h0 n0) _ T128.heap _
                        exact ⟨b18, _, _, rfl, N131, Kp, sz_b18, R_a1, R_b18, own_done hG I_2 (Or.inl hc134)⟩
                      · have hc134 := (lLt.mp (hLt.2.2.2.1 q))
                        show Till p e below s (Q2 Z a1 a2 q3 w1 g h0 n0) room2.cells room2.slots (T128.setTop (mkF m 104 #[.val (.ref a1), .val (.ref a2), .val (.long q3), .second, .val (.long rem_2), .second, .val (.ref b18), .val (.long left_2), .second, .val (.int (2 : Int32)), .val (.long k_2), .second] []))
                        refine Till.pre (fun _ hr => XS.lload X130.here hx rfl (hb hby d2_104) rfl hr) ?_
                        show Till p e below s (Q2 Z a1 a2 q3 w1 g h0 n0) room2.cells room2.slots (T128.setTop (mkF m 106 #[.val (.ref a1), .val (.ref a2), .val (.long q3), .second, .val (.long rem_2), .second, .val (.ref b18), .val (.long left_2), .second, .val (.int (2 : Int32)), .val (.long k_2), .second] [(.long left_2)]))
                        refine Till.pre (fun _ hr => XS.lconst X130.here hx rfl (hb hby d2_106) hr) ?_
                        show Till p e below s (Q2 Z a1 a2 q3 w1 g h0 n0) room2.cells room2.slots (T128.setTop (mkF m 107 #[.val (.ref a1), .val (.ref a2), .val (.long q3), .second, .val (.long rem_2), .second, .val (.ref b18), .val (.long left_2), .second, .val (.int (2 : Int32)), .val (.long k_2), .second] [(.long (0 : Int64)), (.long left_2)]))
                        refine Till.pre (fun _ hr => XS.lcmp X130.here hx rfl (hb hby d2_107) rfl hr) ?_
                        show Till p e below s (Q2 Z a1 a2 q3 w1 g h0 n0) room2.cells room2.slots (T128.setTop (mkF m 108 #[.val (.ref a1), .val (.ref a2), .val (.long q3), .second, .val (.long rem_2), .second, .val (.ref b18), .val (.long left_2), .second, .val (.int (2 : Int32)), .val (.long k_2), .second] [(.int (lcmpW left_2 (0 : Int64)))]))
                        refine Till.ifc (pc' := 153) X130.here hx (hb hby d2_108) (by decide) (by decide) (fun q => ?_) (fun q => ?_)
                        · have hc135 := (mt lGt.mpr (hLt.2.2.2.2.2.2.1 q))
                          show Till p e below s (Q2 Z a1 a2 q3 w1 g h0 n0) room2.cells room2.slots (T128.setTop (mkF m 153 #[.val (.ref a1), .val (.ref a2), .val (.long q3), .second, .val (.long rem_2), .second, .val (.ref b18), .val (.long left_2), .second, .val (.int (2 : Int32)), .val (.long k_2), .second] []))
                          refine Till.pre (fun _ hr => XS.iinc X130.here hx rfl (hb hby d2_153) rfl (l' := #[.val (.ref a1), .val (.ref a2), .val (.long q3), .second, .val (.long rem_2), .second, .val (.ref b18), .val (.long left_2), .second, .val (.int (3 : Int32)), .val (.long k_2), .second]) rfl hr) ?_
                          show Till p e below s (Q2 Z a1 a2 q3 w1 g h0 n0) room2.cells room2.slots (T128.setTop (mkF m 156 #[.val (.ref a1), .val (.ref a2), .val (.long q3), .second, .val (.long rem_2), .second, .val (.ref b18), .val (.long left_2), .second, .val (.int (3 : Int32)), .val (.long k_2), .second] []))
                          refine Till.pre (fun _ hr => XS.goto X130.here hx rfl (pc0 := 156) (pc' := 84) rfl (hb hby d2_156) (by decide) (by decide) hr) ?_
                          show Till p e below s (Q2 Z a1 a2 q3 w1 g h0 n0) room2.cells room2.slots (T128.setTop (mkF m 84 #[.val (.ref a1), .val (.ref a2), .val (.long q3), .second, .val (.long rem_2), .second, .val (.ref b18), .val (.long left_2), .second, .val (.int (3 : Int32)), .val (.long k_2), .second] []))
                          refine Till.pre (fun _ hr => XS.iload X130.here hx rfl (hb hby d2_84) rfl hr) ?_
                          show Till p e below s (Q2 Z a1 a2 q3 w1 g h0 n0) room2.cells room2.slots (T128.setTop (mkF m 86 #[.val (.ref a1), .val (.ref a2), .val (.long q3), .second, .val (.long rem_2), .second, .val (.ref b18), .val (.long left_2), .second, .val (.int (3 : Int32)), .val (.long k_2), .second] [(.int (3 : Int32))]))
                          refine Till.pre (fun _ hr => XS.aloadN X130.here hx rfl (hb hby d2_86) rfl rfl hr) ?_
                          show Till p e below s (Q2 Z a1 a2 q3 w1 g h0 n0) room2.cells room2.slots (T128.setTop (mkF m 87 #[.val (.ref a1), .val (.ref a2), .val (.long q3), .second, .val (.long rem_2), .second, .val (.ref b18), .val (.long left_2), .second, .val (.int (3 : Int32)), .val (.long k_2), .second] [(.ref a2), (.int (3 : Int32))]))
                          refine Till.alen R_a2 X130 hx hZ rfl (hb hby d2_87) ?_
                          show Till p e below s (Q2 Z a1 a2 q3 w1 g h0 n0) room2.cells room2.slots (T128.setTop (mkF m 88 #[.val (.ref a1), .val (.ref a2), .val (.long q3), .second, .val (.long rem_2), .second, .val (.ref b18), .val (.long left_2), .second, .val (.int (3 : Int32)), .val (.long k_2), .second] [(.int (3 : Int32)), (.int (3 : Int32))]))
                          refine Till.icmp (pc' := 159) X130.here hx (hb hby d2_88) (by decide) (by decide) (fun q => ?_) (fun q => absurd (hLt.2.2.2.1 q) (by decide : ¬ ((3 : Int32) < (3 : Int32))))
                          show Till p e below s (Q2 Z a1 a2 q3 w1 g h0 n0) room2.cells room2.slots (T128.setTop (mkF m 159 #[.val (.ref a1), .val (.ref a2), .val (.long q3), .second, .val (.long rem_2), .second, .val (.ref b18), .val (.long left_2), .second, .val (.int (3 : Int32)), .val (.long k_2), .second] []))
                          refine Till.pre (fun _ hr => XS.aload X130.here hx rfl (hb hby d2_159) rfl rfl hr) ?_
                          show Till p e below s (Q2 Z a1 a2 q3 w1 g h0 n0) room2.cells room2.slots (T128.setTop (mkF m 161 #[.val (.ref a1), .val (.ref a2), .val (.long q3), .second, .val (.long rem_2), .second, .val (.ref b18), .val (.long left_2), .second, .val (.int (3 : Int32)), .val (.long k_2), .second] [(.ref b18)]))
                          refine Till.retA X130 hx hret rfl hlk rfl rfl (hb hby d2_161) (by decide) (by decide) ?_
                          show (Q2 Z a1 a2 q3 w1 g h0 n0) _ T128.heap _
                          exact ⟨b18, _, _, rfl, N131, Kp, sz_b18, R_a1, R_b18, own_done hG I_2 (Or.inr hc135)⟩
                        · have hc135 := (lGt.mp (hLt.2.2.2.2.2.2.2 q))
                          show Till p e below s (Q2 Z a1 a2 q3 w1 g h0 n0) room2.cells room2.slots (T128.setTop (mkF m 111 #[.val (.ref a1), .val (.ref a2), .val (.long q3), .second, .val (.long rem_2), .second, .val (.ref b18), .val (.long left_2), .second, .val (.int (2 : Int32)), .val (.long k_2), .second] []))
                          refine Till.pre (fun _ hr => XS.aloadN X130.here hx rfl (hb hby d2_111) rfl rfl hr) ?_
                          show Till p e below s (Q2 Z a1 a2 q3 w1 g h0 n0) room2.cells room2.slots (T128.setTop (mkF m 112 #[.val (.ref a1), .val (.ref a2), .val (.long q3), .second, .val (.long rem_2), .second, .val (.ref b18), .val (.long left_2), .second, .val (.int (2 : Int32)), .val (.long k_2), .second] [(.ref a1)]))
                          refine Till.pre (fun _ hr => XS.lload X130.here hx rfl (hb hby d2_112) rfl hr) ?_
                          show Till p e below s (Q2 Z a1 a2 q3 w1 g h0 n0) room2.cells room2.slots (T128.setTop (mkF m 114 #[.val (.ref a1), .val (.ref a2), .val (.long q3), .second, .val (.long rem_2), .second, .val (.ref b18), .val (.long left_2), .second, .val (.int (2 : Int32)), .val (.long k_2), .second] [(.long rem_2), (.ref a1)]))
                          refine Till.callP (rm4 l Z a0 hw a1 rem_2 W_2 T128.heap n0 Zs R_a1 g_a1 ((own_step (by decide) hG I_2 hc134 hc135).1)) R_a1.1 X130 hx hZ hown (hw _ (List.mem_of_getElem? (i := 22) rfl)) (hw _ (List.mem_of_getElem? (i := 23) rfl)) (hw _ (List.mem_of_getElem? (i := 24) rfl)) (hw _ (List.mem_of_getElem? (i := 3) rfl)) (hw _ (List.mem_of_getElem? (i := 4) rfl)) (hw _ (List.mem_of_getElem? (i := 25) rfl)) (by decide) (by decide) (W := 0) (by decide) (by rw [hml]; rfl) (a := a1) (argsL := [(.long rem_2)]) (rest := []) (lenOf pd2_2 rfl) rfl rfl (Nat.le_of_eq rfl) (hb hby d2_114) rfl (by decide) (by decide) ?_
                          rintro _ T136 L137 X138 ⟨rfl, N139, K140, q141⟩
                          have N139 := Fr.app N131 N139
                          have R_a2 := R_a2.keep K140 (ninS (Ne.symm ne_a1_a2) nin0)
                          have R_b18 := R_b18.keep K140 (ninS (Ne.symm ne_a1_b18) nin0)
                          have Zs := Nat.le_trans Zs K140.1
                          have Kp := Kp.trans K140 (allS (Or.inl (List.mem_of_getElem? (i := 0) rfl)) all0)
                          have R_a1 : Lot Z T136.heap a1 (if ((((lsr (fn5 W_2) (1 : Int32)) - ((lsr (fn5 W_2) (1 : Int32)) - ((lsr (fn5 W_2) (1 : Int32)) / rem_2) * rem_2)) + (rem_2 - (1 : Int64))) < (0 : Int64)) then ((W_2 + (-7046029254386353131 : Int64)) + (-7046029254386353131 : Int64)) else (W_2 + (-7046029254386353131 : Int64))) := q141
                          show Till p e below s (Q2 Z a1 a2 q3 w1 g h0 n0) room2.cells room2.slots (T136.setTop (mkF m 117 #[.val (.ref a1), .val (.ref a2), .val (.long q3), .second, .val (.long rem_2), .second, .val (.ref b18), .val (.long left_2), .second, .val (.int (2 : Int32)), .val (.long k_2), .second] [(.long (fn4 rem_2 W_2))]))
                          refine Till.pre (fun _ hr => XS.lload X138.here hx rfl (hb hby d2_117) rfl hr) ?_
                          show Till p e below s (Q2 Z a1 a2 q3 w1 g h0 n0) room2.cells room2.slots (T136.setTop (mkF m 119 #[.val (.ref a1), .val (.ref a2), .val (.long q3), .second, .val (.long rem_2), .second, .val (.ref b18), .val (.long left_2), .second, .val (.int (2 : Int32)), .val (.long k_2), .second] [(.long left_2), (.long (fn4 rem_2 W_2))]))
                          refine Till.pre (fun _ hr => XS.lcmp X138.here hx rfl (hb hby d2_119) rfl hr) ?_
                          show Till p e below s (Q2 Z a1 a2 q3 w1 g h0 n0) room2.cells room2.slots (T136.setTop (mkF m 120 #[.val (.ref a1), .val (.ref a2), .val (.long q3), .second, .val (.long rem_2), .second, .val (.ref b18), .val (.long left_2), .second, .val (.int (2 : Int32)), .val (.long k_2), .second] [(.int (lcmpW (fn4 rem_2 W_2) left_2))]))
                          refine Till.ifc (pc' := 138) X138.here hx (hb hby d2_120) (by decide) (by decide) (fun q => ?_) (fun q => ?_)
                          · have hc142 := (mt lLt.mpr (hLt.2.2.1 q))
                            show Till p e below s (Q2 Z a1 a2 q3 w1 g h0 n0) room2.cells room2.slots (T136.setTop (mkF m 138 #[.val (.ref a1), .val (.ref a2), .val (.long q3), .second, .val (.long rem_2), .second, .val (.ref b18), .val (.long left_2), .second, .val (.int (2 : Int32)), .val (.long k_2), .second] []))
                            refine Till.pre (fun _ hr => XS.lload X138.here hx rfl (hb hby d2_138) rfl hr) ?_
                            show Till p e below s (Q2 Z a1 a2 q3 w1 g h0 n0) room2.cells room2.slots (T136.setTop (mkF m 140 #[.val (.ref a1), .val (.ref a2), .val (.long q3), .second, .val (.long rem_2), .second, .val (.ref b18), .val (.long left_2), .second, .val (.int (2 : Int32)), .val (.long k_2), .second] [(.long rem_2)]))
                            refine Till.pre (fun _ hr => XS.lconst X138.here hx rfl (hb hby d2_140) hr) ?_
                            show Till p e below s (Q2 Z a1 a2 q3 w1 g h0 n0) room2.cells room2.slots (T136.setTop (mkF m 141 #[.val (.ref a1), .val (.ref a2), .val (.long q3), .second, .val (.long rem_2), .second, .val (.ref b18), .val (.long left_2), .second, .val (.int (2 : Int32)), .val (.long k_2), .second] [(.long (1 : Int64)), (.long rem_2)]))
                            refine Till.pre (fun _ hr => XS.lsub X138.here hx rfl (hb hby d2_141) rfl hr) ?_
                            show Till p e below s (Q2 Z a1 a2 q3 w1 g h0 n0) room2.cells room2.slots (T136.setTop (mkF m 142 #[.val (.ref a1), .val (.ref a2), .val (.long q3), .second, .val (.long rem_2), .second, .val (.ref b18), .val (.long left_2), .second, .val (.int (2 : Int32)), .val (.long k_2), .second] [(.long (rem_2 - (1 : Int64)))]))
                            refine Till.pre (fun _ hr => XS.lstore X138.here hx rfl (hb hby d2_142) rfl (l' := #[.val (.ref a1), .val (.ref a2), .val (.long q3), .second, .val (.long (rem_2 - (1 : Int64))), .second, .val (.ref b18), .val (.long left_2), .second, .val (.int (2 : Int32)), .val (.long k_2), .second]) rfl hr) ?_
                            show Till p e below s (Q2 Z a1 a2 q3 w1 g h0 n0) room2.cells room2.slots (T136.setTop (mkF m 144 #[.val (.ref a1), .val (.ref a2), .val (.long q3), .second, .val (.long (rem_2 - (1 : Int64))), .second, .val (.ref b18), .val (.long left_2), .second, .val (.int (2 : Int32)), .val (.long k_2), .second] []))
                            refine Till.pre (fun _ hr => XS.lload X138.here hx rfl (hb hby d2_144) rfl hr) ?_
                            show Till p e below s (Q2 Z a1 a2 q3 w1 g h0 n0) room2.cells room2.slots (T136.setTop (mkF m 146 #[.val (.ref a1), .val (.ref a2), .val (.long q3), .second, .val (.long (rem_2 - (1 : Int64))), .second, .val (.ref b18), .val (.long left_2), .second, .val (.int (2 : Int32)), .val (.long k_2), .second] [(.long k_2)]))
                            refine Till.pre (fun _ hr => XS.lconst X138.here hx rfl (hb hby d2_146) hr) ?_
                            show Till p e below s (Q2 Z a1 a2 q3 w1 g h0 n0) room2.cells room2.slots (T136.setTop (mkF m 147 #[.val (.ref a1), .val (.ref a2), .val (.long q3), .second, .val (.long (rem_2 - (1 : Int64))), .second, .val (.ref b18), .val (.long left_2), .second, .val (.int (2 : Int32)), .val (.long k_2), .second] [(.long (1 : Int64)), (.long k_2)]))
                            refine Till.pre (fun _ hr => XS.ladd X138.here hx rfl (hb hby d2_147) rfl hr) ?_
                            show Till p e below s (Q2 Z a1 a2 q3 w1 g h0 n0) room2.cells room2.slots (T136.setTop (mkF m 148 #[.val (.ref a1), .val (.ref a2), .val (.long q3), .second, .val (.long (rem_2 - (1 : Int64))), .second, .val (.ref b18), .val (.long left_2), .second, .val (.int (2 : Int32)), .val (.long k_2), .second] [(.long (k_2 + (1 : Int64)))]))
                            refine Till.pre (fun _ hr => XS.lstore X138.here hx rfl (hb hby d2_148) rfl (l' := #[.val (.ref a1), .val (.ref a2), .val (.long q3), .second, .val (.long (rem_2 - (1 : Int64))), .second, .val (.ref b18), .val (.long left_2), .second, .val (.int (2 : Int32)), .val (.long (k_2 + (1 : Int64))), .second]) rfl hr) ?_
                            show Till p e below s (Q2 Z a1 a2 q3 w1 g h0 n0) room2.cells room2.slots (T136.setTop (mkF m 150 #[.val (.ref a1), .val (.ref a2), .val (.long q3), .second, .val (.long (rem_2 - (1 : Int64))), .second, .val (.ref b18), .val (.long left_2), .second, .val (.int (2 : Int32)), .val (.long (k_2 + (1 : Int64))), .second] []))
                            refine Till.pre (fun _ hr => XS.goto X138.here hx rfl (pc0 := 150) (pc' := 94) rfl (hb hby d2_150) (by decide) (by decide) hr) ?_
                            show Till p e below s (Q2 Z a1 a2 q3 w1 g h0 n0) room2.cells room2.slots (T136.setTop (mkF m 94 #[.val (.ref a1), .val (.ref a2), .val (.long q3), .second, .val (.long (rem_2 - (1 : Int64))), .second, .val (.ref b18), .val (.long left_2), .second, .val (.int (2 : Int32)), .val (.long (k_2 + (1 : Int64))), .second] []))
                            exact ih _ _ X138 N139 _ _ _ _ _ Zs Kp R_a1 R_a2 R_b18 (((own_step (by decide) hG I_2 hc134 hc135).2 (fn4 rem_2 W_2) _ (own_blr (own_step (by decide) hG I_2 hc134 hc135).1) (own_blg (own_step (by decide) hG I_2 hc134 hc135).1)).2 hc142) (own_mu hm hc134)
                          · have hc142 := (lLt.mp (hLt.2.2.2.1 q))
                            show Till p e below s (Q2 Z a1 a2 q3 w1 g h0 n0) room2.cells room2.slots (T136.setTop (mkF m 123 #[.val (.ref a1), .val (.ref a2), .val (.long q3), .second, .val (.long rem_2), .second, .val (.ref b18), .val (.long left_2), .second, .val (.int (2 : Int32)), .val (.long k_2), .second] []))
                            refine Till.pre (fun _ hr => XS.aload X138.here hx rfl (hb hby d2_123) rfl rfl hr) ?_
                            show Till p e below s (Q2 Z a1 a2 q3 w1 g h0 n0) room2.cells room2.slots (T136.setTop (mkF m 125 #[.val (.ref a1), .val (.ref a2), .val (.long q3), .second, .val (.long rem_2), .second, .val (.ref b18), .val (.long left_2), .second, .val (.int (2 : Int32)), .val (.long k_2), .second] [(.ref b18)]))
                            refine Till.pre (fun _ hr => XS.iload X138.here hx rfl (hb hby d2_125) rfl hr) ?_
                            show Till p e below s (Q2 Z a1 a2 q3 w1 g h0 n0) room2.cells room2.slots (T136.setTop (mkF m 127 #[.val (.ref a1), .val (.ref a2), .val (.long q3), .second, .val (.long rem_2), .second, .val (.ref b18), .val (.long left_2), .second, .val (.int (2 : Int32)), .val (.long k_2), .second] [(.int (2 : Int32)), (.ref b18)]))
                            refine Till.pre (fun _ hr => XT.dup2 X138.here hx rfl (hb hby d2_127) rfl rfl rfl hr) ?_
                            show Till p e below s (Q2 Z a1 a2 q3 w1 g h0 n0) room2.cells room2.slots (T136.setTop (mkF m 128 #[.val (.ref a1), .val (.ref a2), .val (.long q3), .second, .val (.long rem_2), .second, .val (.ref b18), .val (.long left_2), .second, .val (.int (2 : Int32)), .val (.long k_2), .second] [(.int (2 : Int32)), (.ref b18), (.int (2 : Int32)), (.ref b18)]))
                            refine Till.laload R_b18 (by decide) (by decide) X138 hx hZ rfl (hb hby d2_128) ?_
                            show Till p e below s (Q2 Z a1 a2 q3 w1 g h0 n0) room2.cells room2.slots (T136.setTop (mkF m 129 #[.val (.ref a1), .val (.ref a2), .val (.long q3), .second, .val (.long rem_2), .second, .val (.ref b18), .val (.long left_2), .second, .val (.int (2 : Int32)), .val (.long k_2), .second] [(.long (d_2 2)), (.int (2 : Int32)), (.ref b18)]))
                            refine Till.pre (fun _ hr => XS.lconst X138.here hx rfl (hb hby d2_129) hr) ?_
                            show Till p e below s (Q2 Z a1 a2 q3 w1 g h0 n0) room2.cells room2.slots (T136.setTop (mkF m 130 #[.val (.ref a1), .val (.ref a2), .val (.long q3), .second, .val (.long rem_2), .second, .val (.ref b18), .val (.long left_2), .second, .val (.int (2 : Int32)), .val (.long k_2), .second] [(.long (1 : Int64)), (.long (d_2 2)), (.int (2 : Int32)), (.ref b18)]))
                            refine Till.pre (fun _ hr => XS.ladd X138.here hx rfl (hb hby d2_130) rfl hr) ?_
                            show Till p e below s (Q2 Z a1 a2 q3 w1 g h0 n0) room2.cells room2.slots (T136.setTop (mkF m 131 #[.val (.ref a1), .val (.ref a2), .val (.long q3), .second, .val (.long rem_2), .second, .val (.ref b18), .val (.long left_2), .second, .val (.int (2 : Int32)), .val (.long k_2), .second] [(.long ((d_2 2) + (1 : Int64))), (.int (2 : Int32)), (.ref b18)]))
                            refine Till.lastore R_b18 (by decide) (by decide) X138 hx hZ rfl (hb hby d2_131) (fun T143 h144 X145 e146 W147 A148 => ?_)
                            have N149 := Fr.snoc X145 N139 g_b18
                            have R_a1 := R_a1.wr W147 ne_a1_b18
                            have R_a2 := R_a2.wr W147 ne_a2_b18
                            have Zs := Nat.le_trans Zs (Keep.of_wr W147).1
                            have Kp := Kp.wr W147 (Or.inr sz_b18)
                            have R_b18 : LA Z h144 b18 (3 : Int32) (oupd d_2 2 ((d_2 2) + (1 : Int64))) := A148
                            show Till p e below s (Q2 Z a1 a2 q3 w1 g h0 n0) room2.cells room2.slots (T143.setTop (mkF m 132 #[.val (.ref a1), .val (.ref a2), .val (.long q3), .second, .val (.long rem_2), .second, .val (.ref b18), .val (.long left_2), .second, .val (.int (2 : Int32)), .val (.long k_2), .second] []))
                            refine Till.pre (fun _ hr => XS.lload X145.here hx rfl (hb hby d2_132) rfl hr) ?_
                            show Till p e below s (Q2 Z a1 a2 q3 w1 g h0 n0) room2.cells room2.slots (T143.setTop (mkF m 134 #[.val (.ref a1), .val (.ref a2), .val (.long q3), .second, .val (.long rem_2), .second, .val (.ref b18), .val (.long left_2), .second, .val (.int (2 : Int32)), .val (.long k_2), .second] [(.long left_2)]))
                            refine Till.pre (fun _ hr => XS.lconst X145.here hx rfl (hb hby d2_134) hr) ?_
                            show Till p e below s (Q2 Z a1 a2 q3 w1 g h0 n0) room2.cells room2.slots (T143.setTop (mkF m 135 #[.val (.ref a1), .val (.ref a2), .val (.long q3), .second, .val (.long rem_2), .second, .val (.ref b18), .val (.long left_2), .second, .val (.int (2 : Int32)), .val (.long k_2), .second] [(.long (1 : Int64)), (.long left_2)]))
                            refine Till.pre (fun _ hr => XS.lsub X145.here hx rfl (hb hby d2_135) rfl hr) ?_
                            show Till p e below s (Q2 Z a1 a2 q3 w1 g h0 n0) room2.cells room2.slots (T143.setTop (mkF m 136 #[.val (.ref a1), .val (.ref a2), .val (.long q3), .second, .val (.long rem_2), .second, .val (.ref b18), .val (.long left_2), .second, .val (.int (2 : Int32)), .val (.long k_2), .second] [(.long (left_2 - (1 : Int64)))]))
                            refine Till.pre (fun _ hr => XS.lstore X145.here hx rfl (hb hby d2_136) rfl (l' := #[.val (.ref a1), .val (.ref a2), .val (.long q3), .second, .val (.long rem_2), .second, .val (.ref b18), .val (.long (left_2 - (1 : Int64))), .second, .val (.int (2 : Int32)), .val (.long k_2), .second]) rfl hr) ?_
                            show Till p e below s (Q2 Z a1 a2 q3 w1 g h0 n0) room2.cells room2.slots (T143.setTop (mkF m 138 #[.val (.ref a1), .val (.ref a2), .val (.long q3), .second, .val (.long rem_2), .second, .val (.ref b18), .val (.long (left_2 - (1 : Int64))), .second, .val (.int (2 : Int32)), .val (.long k_2), .second] []))
                            refine Till.pre (fun _ hr => XS.lload X145.here hx rfl (hb hby d2_138) rfl hr) ?_
                            show Till p e below s (Q2 Z a1 a2 q3 w1 g h0 n0) room2.cells room2.slots (T143.setTop (mkF m 140 #[.val (.ref a1), .val (.ref a2), .val (.long q3), .second, .val (.long rem_2), .second, .val (.ref b18), .val (.long (left_2 - (1 : Int64))), .second, .val (.int (2 : Int32)), .val (.long k_2), .second] [(.long rem_2)]))
                            refine Till.pre (fun _ hr => XS.lconst X145.here hx rfl (hb hby d2_140) hr) ?_
                            show Till p e below s (Q2 Z a1 a2 q3 w1 g h0 n0) room2.cells room2.slots (T143.setTop (mkF m 141 #[.val (.ref a1), .val (.ref a2), .val (.long q3), .second, .val (.long rem_2), .second, .val (.ref b18), .val (.long (left_2 - (1 : Int64))), .second, .val (.int (2 : Int32)), .val (.long k_2), .second] [(.long (1 : Int64)), (.long rem_2)]))
                            refine Till.pre (fun _ hr => XS.lsub X145.here hx rfl (hb hby d2_141) rfl hr) ?_
                            show Till p e below s (Q2 Z a1 a2 q3 w1 g h0 n0) room2.cells room2.slots (T143.setTop (mkF m 142 #[.val (.ref a1), .val (.ref a2), .val (.long q3), .second, .val (.long rem_2), .second, .val (.ref b18), .val (.long (left_2 - (1 : Int64))), .second, .val (.int (2 : Int32)), .val (.long k_2), .second] [(.long (rem_2 - (1 : Int64)))]))
                            refine Till.pre (fun _ hr => XS.lstore X145.here hx rfl (hb hby d2_142) rfl (l' := #[.val (.ref a1), .val (.ref a2), .val (.long q3), .second, .val (.long (rem_2 - (1 : Int64))), .second, .val (.ref b18), .val (.long (left_2 - (1 : Int64))), .second, .val (.int (2 : Int32)), .val (.long k_2), .second]) rfl hr) ?_
                            show Till p e below s (Q2 Z a1 a2 q3 w1 g h0 n0) room2.cells room2.slots (T143.setTop (mkF m 144 #[.val (.ref a1), .val (.ref a2), .val (.long q3), .second, .val (.long (rem_2 - (1 : Int64))), .second, .val (.ref b18), .val (.long (left_2 - (1 : Int64))), .second, .val (.int (2 : Int32)), .val (.long k_2), .second] []))
                            refine Till.pre (fun _ hr => XS.lload X145.here hx rfl (hb hby d2_144) rfl hr) ?_
                            show Till p e below s (Q2 Z a1 a2 q3 w1 g h0 n0) room2.cells room2.slots (T143.setTop (mkF m 146 #[.val (.ref a1), .val (.ref a2), .val (.long q3), .second, .val (.long (rem_2 - (1 : Int64))), .second, .val (.ref b18), .val (.long (left_2 - (1 : Int64))), .second, .val (.int (2 : Int32)), .val (.long k_2), .second] [(.long k_2)]))
                            refine Till.pre (fun _ hr => XS.lconst X145.here hx rfl (hb hby d2_146) hr) ?_
                            show Till p e below s (Q2 Z a1 a2 q3 w1 g h0 n0) room2.cells room2.slots (T143.setTop (mkF m 147 #[.val (.ref a1), .val (.ref a2), .val (.long q3), .second, .val (.long (rem_2 - (1 : Int64))), .second, .val (.ref b18), .val (.long (left_2 - (1 : Int64))), .second, .val (.int (2 : Int32)), .val (.long k_2), .second] [(.long (1 : Int64)), (.long k_2)]))
                            refine Till.pre (fun _ hr => XS.ladd X145.here hx rfl (hb hby d2_147) rfl hr) ?_
                            show Till p e below s (Q2 Z a1 a2 q3 w1 g h0 n0) room2.cells room2.slots (T143.setTop (mkF m 148 #[.val (.ref a1), .val (.ref a2), .val (.long q3), .second, .val (.long (rem_2 - (1 : Int64))), .second, .val (.ref b18), .val (.long (left_2 - (1 : Int64))), .second, .val (.int (2 : Int32)), .val (.long k_2), .second] [(.long (k_2 + (1 : Int64)))]))
                            refine Till.pre (fun _ hr => XS.lstore X145.here hx rfl (hb hby d2_148) rfl (l' := #[.val (.ref a1), .val (.ref a2), .val (.long q3), .second, .val (.long (rem_2 - (1 : Int64))), .second, .val (.ref b18), .val (.long (left_2 - (1 : Int64))), .second, .val (.int (2 : Int32)), .val (.long (k_2 + (1 : Int64))), .second]) rfl hr) ?_
                            show Till p e below s (Q2 Z a1 a2 q3 w1 g h0 n0) room2.cells room2.slots (T143.setTop (mkF m 150 #[.val (.ref a1), .val (.ref a2), .val (.long q3), .second, .val (.long (rem_2 - (1 : Int64))), .second, .val (.ref b18), .val (.long (left_2 - (1 : Int64))), .second, .val (.int (2 : Int32)), .val (.long (k_2 + (1 : Int64))), .second] []))
                            refine Till.pre (fun _ hr => XS.goto X145.here hx rfl (pc0 := 150) (pc' := 94) rfl (hb hby d2_150) (by decide) (by decide) hr) ?_
                            show Till p e below s (Q2 Z a1 a2 q3 w1 g h0 n0) room2.cells room2.slots (T143.setTop (mkF m 94 #[.val (.ref a1), .val (.ref a2), .val (.long q3), .second, .val (.long (rem_2 - (1 : Int64))), .second, .val (.ref b18), .val (.long (left_2 - (1 : Int64))), .second, .val (.int (2 : Int32)), .val (.long (k_2 + (1 : Int64))), .second] []))
                            exact ih _ _ X145 N149 _ _ _ _ _ (by rw [e146]; exact Zs) (by rw [e146]; exact Kp) (by rw [e146]; exact R_a1) (by rw [e146]; exact R_a2) (by rw [e146]; exact R_b18) (((own_step (by decide) hG I_2 hc134 hc135).2 (fn4 rem_2 W_2) _ (own_blr (own_step (by decide) hG I_2 hc134 hc135).1) (own_blg (own_step (by decide) hG I_2 hc134 hc135).1)).1 hc142) (own_mu hm hc134)
                  show Till p e below s (Q2 Z a1 a2 q3 w1 g h0 n0) room2.cells room2.slots (T98.setTop (mkF m 94 #[.val (.ref a1), .val (.ref a2), .val (.long q3), .second, .val (.long rem_1), .second, .val (.ref b18), .val (.long left_1), .second, .val (.int (2 : Int32)), .val (.long (0 : Int64)), .second] []))
                  exact loop94_132 _ _ _ X100 N101 _ _ _ _ _ Zs Kp R_a1 R_a2 R_b18 (own_exit (by decide) hG I_1 (Or.inr hc127)) (Nat.lt_succ_self _)
                · have hc127 := (lGt.mp (hLt.2.2.2.2.2.2.2 q))
                  show Till p e below s (Q2 Z a1 a2 q3 w1 g h0 n0) room2.cells room2.slots (T98.setTop (mkF m 111 #[.val (.ref a1), .val (.ref a2), .val (.long q3), .second, .val (.long rem_1), .second, .val (.ref b18), .val (.long left_1), .second, .val (.int (1 : Int32)), .val (.long k_1), .second] []))
                  refine Till.pre (fun _ hr => XS.aloadN X100.here hx rfl (hb hby d2_111) rfl rfl hr) ?_
                  show Till p e below s (Q2 Z a1 a2 q3 w1 g h0 n0) room2.cells room2.slots (T98.setTop (mkF m 112 #[.val (.ref a1), .val (.ref a2), .val (.long q3), .second, .val (.long rem_1), .second, .val (.ref b18), .val (.long left_1), .second, .val (.int (1 : Int32)), .val (.long k_1), .second] [(.ref a1)]))
                  refine Till.pre (fun _ hr => XS.lload X100.here hx rfl (hb hby d2_112) rfl hr) ?_
                  show Till p e below s (Q2 Z a1 a2 q3 w1 g h0 n0) room2.cells room2.slots (T98.setTop (mkF m 114 #[.val (.ref a1), .val (.ref a2), .val (.long q3), .second, .val (.long rem_1), .second, .val (.ref b18), .val (.long left_1), .second, .val (.int (1 : Int32)), .val (.long k_1), .second] [(.long rem_1), (.ref a1)]))
                  refine Till.callP (rm4 l Z a0 hw a1 rem_1 W_1 T98.heap n0 Zs R_a1 g_a1 ((own_step (by decide) hG I_1 hc104 hc127).1)) R_a1.1 X100 hx hZ hown (hw _ (List.mem_of_getElem? (i := 22) rfl)) (hw _ (List.mem_of_getElem? (i := 23) rfl)) (hw _ (List.mem_of_getElem? (i := 24) rfl)) (hw _ (List.mem_of_getElem? (i := 3) rfl)) (hw _ (List.mem_of_getElem? (i := 4) rfl)) (hw _ (List.mem_of_getElem? (i := 25) rfl)) (by decide) (by decide) (W := 0) (by decide) (by rw [hml]; rfl) (a := a1) (argsL := [(.long rem_1)]) (rest := []) (lenOf pd2_2 rfl) rfl rfl (Nat.le_of_eq rfl) (hb hby d2_114) rfl (by decide) (by decide) ?_
                  rintro _ T150 L151 X152 ⟨rfl, N153, K154, q155⟩
                  have N153 := Fr.app N101 N153
                  have R_a2 := R_a2.keep K154 (ninS (Ne.symm ne_a1_a2) nin0)
                  have R_b18 := R_b18.keep K154 (ninS (Ne.symm ne_a1_b18) nin0)
                  have Zs := Nat.le_trans Zs K154.1
                  have Kp := Kp.trans K154 (allS (Or.inl (List.mem_of_getElem? (i := 0) rfl)) all0)
                  have R_a1 : Lot Z T150.heap a1 (if ((((lsr (fn5 W_1) (1 : Int32)) - ((lsr (fn5 W_1) (1 : Int32)) - ((lsr (fn5 W_1) (1 : Int32)) / rem_1) * rem_1)) + (rem_1 - (1 : Int64))) < (0 : Int64)) then ((W_1 + (-7046029254386353131 : Int64)) + (-7046029254386353131 : Int64)) else (W_1 + (-7046029254386353131 : Int64))) := q155
                  show Till p e below s (Q2 Z a1 a2 q3 w1 g h0 n0) room2.cells room2.slots (T150.setTop (mkF m 117 #[.val (.ref a1), .val (.ref a2), .val (.long q3), .second, .val (.long rem_1), .second, .val (.ref b18), .val (.long left_1), .second, .val (.int (1 : Int32)), .val (.long k_1), .second] [(.long (fn4 rem_1 W_1))]))
                  refine Till.pre (fun _ hr => XS.lload X152.here hx rfl (hb hby d2_117) rfl hr) ?_
                  show Till p e below s (Q2 Z a1 a2 q3 w1 g h0 n0) room2.cells room2.slots (T150.setTop (mkF m 119 #[.val (.ref a1), .val (.ref a2), .val (.long q3), .second, .val (.long rem_1), .second, .val (.ref b18), .val (.long left_1), .second, .val (.int (1 : Int32)), .val (.long k_1), .second] [(.long left_1), (.long (fn4 rem_1 W_1))]))
                  refine Till.pre (fun _ hr => XS.lcmp X152.here hx rfl (hb hby d2_119) rfl hr) ?_
                  show Till p e below s (Q2 Z a1 a2 q3 w1 g h0 n0) room2.cells room2.slots (T150.setTop (mkF m 120 #[.val (.ref a1), .val (.ref a2), .val (.long q3), .second, .val (.long rem_1), .second, .val (.ref b18), .val (.long left_1), .second, .val (.int (1 : Int32)), .val (.long k_1), .second] [(.int (lcmpW (fn4 rem_1 W_1) left_1))]))
                  refine Till.ifc (pc' := 138) X152.here hx (hb hby d2_120) (by decide) (by decide) (fun q => ?_) (fun q => ?_)
                  · have hc156 := (mt lLt.mpr (hLt.2.2.1 q))
                    show Till p e below s (Q2 Z a1 a2 q3 w1 g h0 n0) room2.cells room2.slots (T150.setTop (mkF m 138 #[.val (.ref a1), .val (.ref a2), .val (.long q3), .second, .val (.long rem_1), .second, .val (.ref b18), .val (.long left_1), .second, .val (.int (1 : Int32)), .val (.long k_1), .second] []))
                    refine Till.pre (fun _ hr => XS.lload X152.here hx rfl (hb hby d2_138) rfl hr) ?_
                    show Till p e below s (Q2 Z a1 a2 q3 w1 g h0 n0) room2.cells room2.slots (T150.setTop (mkF m 140 #[.val (.ref a1), .val (.ref a2), .val (.long q3), .second, .val (.long rem_1), .second, .val (.ref b18), .val (.long left_1), .second, .val (.int (1 : Int32)), .val (.long k_1), .second] [(.long rem_1)]))
                    refine Till.pre (fun _ hr => XS.lconst X152.here hx rfl (hb hby d2_140) hr) ?_
                    show Till p e below s (Q2 Z a1 a2 q3 w1 g h0 n0) room2.cells room2.slots (T150.setTop (mkF m 141 #[.val (.ref a1), .val (.ref a2), .val (.long q3), .second, .val (.long rem_1), .second, .val (.ref b18), .val (.long left_1), .second, .val (.int (1 : Int32)), .val (.long k_1), .second] [(.long (1 : Int64)), (.long rem_1)]))
                    refine Till.pre (fun _ hr => XS.lsub X152.here hx rfl (hb hby d2_141) rfl hr) ?_
                    show Till p e below s (Q2 Z a1 a2 q3 w1 g h0 n0) room2.cells room2.slots (T150.setTop (mkF m 142 #[.val (.ref a1), .val (.ref a2), .val (.long q3), .second, .val (.long rem_1), .second, .val (.ref b18), .val (.long left_1), .second, .val (.int (1 : Int32)), .val (.long k_1), .second] [(.long (rem_1 - (1 : Int64)))]))
                    refine Till.pre (fun _ hr => XS.lstore X152.here hx rfl (hb hby d2_142) rfl (l' := #[.val (.ref a1), .val (.ref a2), .val (.long q3), .second, .val (.long (rem_1 - (1 : Int64))), .second, .val (.ref b18), .val (.long left_1), .second, .val (.int (1 : Int32)), .val (.long k_1), .second]) rfl hr) ?_
                    show Till p e below s (Q2 Z a1 a2 q3 w1 g h0 n0) room2.cells room2.slots (T150.setTop (mkF m 144 #[.val (.ref a1), .val (.ref a2), .val (.long q3), .second, .val (.long (rem_1 - (1 : Int64))), .second, .val (.ref b18), .val (.long left_1), .second, .val (.int (1 : Int32)), .val (.long k_1), .second] []))
                    refine Till.pre (fun _ hr => XS.lload X152.here hx rfl (hb hby d2_144) rfl hr) ?_
                    show Till p e below s (Q2 Z a1 a2 q3 w1 g h0 n0) room2.cells room2.slots (T150.setTop (mkF m 146 #[.val (.ref a1), .val (.ref a2), .val (.long q3), .second, .val (.long (rem_1 - (1 : Int64))), .second, .val (.ref b18), .val (.long left_1), .second, .val (.int (1 : Int32)), .val (.long k_1), .second] [(.long k_1)]))
                    refine Till.pre (fun _ hr => XS.lconst X152.here hx rfl (hb hby d2_146) hr) ?_
                    show Till p e below s (Q2 Z a1 a2 q3 w1 g h0 n0) room2.cells room2.slots (T150.setTop (mkF m 147 #[.val (.ref a1), .val (.ref a2), .val (.long q3), .second, .val (.long (rem_1 - (1 : Int64))), .second, .val (.ref b18), .val (.long left_1), .second, .val (.int (1 : Int32)), .val (.long k_1), .second] [(.long (1 : Int64)), (.long k_1)]))
                    refine Till.pre (fun _ hr => XS.ladd X152.here hx rfl (hb hby d2_147) rfl hr) ?_
                    show Till p e below s (Q2 Z a1 a2 q3 w1 g h0 n0) room2.cells room2.slots (T150.setTop (mkF m 148 #[.val (.ref a1), .val (.ref a2), .val (.long q3), .second, .val (.long (rem_1 - (1 : Int64))), .second, .val (.ref b18), .val (.long left_1), .second, .val (.int (1 : Int32)), .val (.long k_1), .second] [(.long (k_1 + (1 : Int64)))]))
                    refine Till.pre (fun _ hr => XS.lstore X152.here hx rfl (hb hby d2_148) rfl (l' := #[.val (.ref a1), .val (.ref a2), .val (.long q3), .second, .val (.long (rem_1 - (1 : Int64))), .second, .val (.ref b18), .val (.long left_1), .second, .val (.int (1 : Int32)), .val (.long (k_1 + (1 : Int64))), .second]) rfl hr) ?_
                    show Till p e below s (Q2 Z a1 a2 q3 w1 g h0 n0) room2.cells room2.slots (T150.setTop (mkF m 150 #[.val (.ref a1), .val (.ref a2), .val (.long q3), .second, .val (.long (rem_1 - (1 : Int64))), .second, .val (.ref b18), .val (.long left_1), .second, .val (.int (1 : Int32)), .val (.long (k_1 + (1 : Int64))), .second] []))
                    refine Till.pre (fun _ hr => XS.goto X152.here hx rfl (pc0 := 150) (pc' := 94) rfl (hb hby d2_150) (by decide) (by decide) hr) ?_
                    show Till p e below s (Q2 Z a1 a2 q3 w1 g h0 n0) room2.cells room2.slots (T150.setTop (mkF m 94 #[.val (.ref a1), .val (.ref a2), .val (.long q3), .second, .val (.long (rem_1 - (1 : Int64))), .second, .val (.ref b18), .val (.long left_1), .second, .val (.int (1 : Int32)), .val (.long (k_1 + (1 : Int64))), .second] []))
                    exact ih _ _ X152 N153 _ _ _ _ _ Zs Kp R_a1 R_a2 R_b18 (((own_step (by decide) hG I_1 hc104 hc127).2 (fn4 rem_1 W_1) _ (own_blr (own_step (by decide) hG I_1 hc104 hc127).1) (own_blg (own_step (by decide) hG I_1 hc104 hc127).1)).2 hc156) (own_mu hm hc104)
                  · have hc156 := (lLt.mp (hLt.2.2.2.1 q))
                    show Till p e below s (Q2 Z a1 a2 q3 w1 g h0 n0) room2.cells room2.slots (T150.setTop (mkF m 123 #[.val (.ref a1), .val (.ref a2), .val (.long q3), .second, .val (.long rem_1), .second, .val (.ref b18), .val (.long left_1), .second, .val (.int (1 : Int32)), .val (.long k_1), .second] []))
                    refine Till.pre (fun _ hr => XS.aload X152.here hx rfl (hb hby d2_123) rfl rfl hr) ?_
                    show Till p e below s (Q2 Z a1 a2 q3 w1 g h0 n0) room2.cells room2.slots (T150.setTop (mkF m 125 #[.val (.ref a1), .val (.ref a2), .val (.long q3), .second, .val (.long rem_1), .second, .val (.ref b18), .val (.long left_1), .second, .val (.int (1 : Int32)), .val (.long k_1), .second] [(.ref b18)]))
                    refine Till.pre (fun _ hr => XS.iload X152.here hx rfl (hb hby d2_125) rfl hr) ?_
                    show Till p e below s (Q2 Z a1 a2 q3 w1 g h0 n0) room2.cells room2.slots (T150.setTop (mkF m 127 #[.val (.ref a1), .val (.ref a2), .val (.long q3), .second, .val (.long rem_1), .second, .val (.ref b18), .val (.long left_1), .second, .val (.int (1 : Int32)), .val (.long k_1), .second] [(.int (1 : Int32)), (.ref b18)]))
                    refine Till.pre (fun _ hr => XT.dup2 X152.here hx rfl (hb hby d2_127) rfl rfl rfl hr) ?_
                    show Till p e below s (Q2 Z a1 a2 q3 w1 g h0 n0) room2.cells room2.slots (T150.setTop (mkF m 128 #[.val (.ref a1), .val (.ref a2), .val (.long q3), .second, .val (.long rem_1), .second, .val (.ref b18), .val (.long left_1), .second, .val (.int (1 : Int32)), .val (.long k_1), .second] [(.int (1 : Int32)), (.ref b18), (.int (1 : Int32)), (.ref b18)]))
                    refine Till.laload R_b18 (by decide) (by decide) X152 hx hZ rfl (hb hby d2_128) ?_
                    show Till p e below s (Q2 Z a1 a2 q3 w1 g h0 n0) room2.cells room2.slots (T150.setTop (mkF m 129 #[.val (.ref a1), .val (.ref a2), .val (.long q3), .second, .val (.long rem_1), .second, .val (.ref b18), .val (.long left_1), .second, .val (.int (1 : Int32)), .val (.long k_1), .second] [(.long (d_1 1)), (.int (1 : Int32)), (.ref b18)]))
                    refine Till.pre (fun _ hr => XS.lconst X152.here hx rfl (hb hby d2_129) hr) ?_
                    show Till p e below s (Q2 Z a1 a2 q3 w1 g h0 n0) room2.cells room2.slots (T150.setTop (mkF m 130 #[.val (.ref a1), .val (.ref a2), .val (.long q3), .second, .val (.long rem_1), .second, .val (.ref b18), .val (.long left_1), .second, .val (.int (1 : Int32)), .val (.long k_1), .second] [(.long (1 : Int64)), (.long (d_1 1)), (.int (1 : Int32)), (.ref b18)]))
                    refine Till.pre (fun _ hr => XS.ladd X152.here hx rfl (hb hby d2_130) rfl hr) ?_
                    show Till p e below s (Q2 Z a1 a2 q3 w1 g h0 n0) room2.cells room2.slots (T150.setTop (mkF m 131 #[.val (.ref a1), .val (.ref a2), .val (.long q3), .second, .val (.long rem_1), .second, .val (.ref b18), .val (.long left_1), .second, .val (.int (1 : Int32)), .val (.long k_1), .second] [(.long ((d_1 1) + (1 : Int64))), (.int (1 : Int32)), (.ref b18)]))
                    refine Till.lastore R_b18 (by decide) (by decide) X152 hx hZ rfl (hb hby d2_131) (fun T157 h158 X159 e160 W161 A162 => ?_)
                    have N163 := Fr.snoc X159 N153 g_b18
                    have R_a1 := R_a1.wr W161 ne_a1_b18
                    have R_a2 := R_a2.wr W161 ne_a2_b18
                    have Zs := Nat.le_trans Zs (Keep.of_wr W161).1
                    have Kp := Kp.wr W161 (Or.inr sz_b18)
                    have R_b18 : LA Z h158 b18 (3 : Int32) (oupd d_1 1 ((d_1 1) + (1 : Int64))) := A162
                    show Till p e below s (Q2 Z a1 a2 q3 w1 g h0 n0) room2.cells room2.slots (T157.setTop (mkF m 132 #[.val (.ref a1), .val (.ref a2), .val (.long q3), .second, .val (.long rem_1), .second, .val (.ref b18), .val (.long left_1), .second, .val (.int (1 : Int32)), .val (.long k_1), .second] []))
                    refine Till.pre (fun _ hr => XS.lload X159.here hx rfl (hb hby d2_132) rfl hr) ?_
                    show Till p e below s (Q2 Z a1 a2 q3 w1 g h0 n0) room2.cells room2.slots (T157.setTop (mkF m 134 #[.val (.ref a1), .val (.ref a2), .val (.long q3), .second, .val (.long rem_1), .second, .val (.ref b18), .val (.long left_1), .second, .val (.int (1 : Int32)), .val (.long k_1), .second] [(.long left_1)]))
                    refine Till.pre (fun _ hr => XS.lconst X159.here hx rfl (hb hby d2_134) hr) ?_
                    show Till p e below s (Q2 Z a1 a2 q3 w1 g h0 n0) room2.cells room2.slots (T157.setTop (mkF m 135 #[.val (.ref a1), .val (.ref a2), .val (.long q3), .second, .val (.long rem_1), .second, .val (.ref b18), .val (.long left_1), .second, .val (.int (1 : Int32)), .val (.long k_1), .second] [(.long (1 : Int64)), (.long left_1)]))
                    refine Till.pre (fun _ hr => XS.lsub X159.here hx rfl (hb hby d2_135) rfl hr) ?_
                    show Till p e below s (Q2 Z a1 a2 q3 w1 g h0 n0) room2.cells room2.slots (T157.setTop (mkF m 136 #[.val (.ref a1), .val (.ref a2), .val (.long q3), .second, .val (.long rem_1), .second, .val (.ref b18), .val (.long left_1), .second, .val (.int (1 : Int32)), .val (.long k_1), .second] [(.long (left_1 - (1 : Int64)))]))
                    refine Till.pre (fun _ hr => XS.lstore X159.here hx rfl (hb hby d2_136) rfl (l' := #[.val (.ref a1), .val (.ref a2), .val (.long q3), .second, .val (.long rem_1), .second, .val (.ref b18), .val (.long (left_1 - (1 : Int64))), .second, .val (.int (1 : Int32)), .val (.long k_1), .second]) rfl hr) ?_
                    show Till p e below s (Q2 Z a1 a2 q3 w1 g h0 n0) room2.cells room2.slots (T157.setTop (mkF m 138 #[.val (.ref a1), .val (.ref a2), .val (.long q3), .second, .val (.long rem_1), .second, .val (.ref b18), .val (.long (left_1 - (1 : Int64))), .second, .val (.int (1 : Int32)), .val (.long k_1), .second] []))
                    refine Till.pre (fun _ hr => XS.lload X159.here hx rfl (hb hby d2_138) rfl hr) ?_
                    show Till p e below s (Q2 Z a1 a2 q3 w1 g h0 n0) room2.cells room2.slots (T157.setTop (mkF m 140 #[.val (.ref a1), .val (.ref a2), .val (.long q3), .second, .val (.long rem_1), .second, .val (.ref b18), .val (.long (left_1 - (1 : Int64))), .second, .val (.int (1 : Int32)), .val (.long k_1), .second] [(.long rem_1)]))
                    refine Till.pre (fun _ hr => XS.lconst X159.here hx rfl (hb hby d2_140) hr) ?_
                    show Till p e below s (Q2 Z a1 a2 q3 w1 g h0 n0) room2.cells room2.slots (T157.setTop (mkF m 141 #[.val (.ref a1), .val (.ref a2), .val (.long q3), .second, .val (.long rem_1), .second, .val (.ref b18), .val (.long (left_1 - (1 : Int64))), .second, .val (.int (1 : Int32)), .val (.long k_1), .second] [(.long (1 : Int64)), (.long rem_1)]))
                    refine Till.pre (fun _ hr => XS.lsub X159.here hx rfl (hb hby d2_141) rfl hr) ?_
                    show Till p e below s (Q2 Z a1 a2 q3 w1 g h0 n0) room2.cells room2.slots (T157.setTop (mkF m 142 #[.val (.ref a1), .val (.ref a2), .val (.long q3), .second, .val (.long rem_1), .second, .val (.ref b18), .val (.long (left_1 - (1 : Int64))), .second, .val (.int (1 : Int32)), .val (.long k_1), .second] [(.long (rem_1 - (1 : Int64)))]))
                    refine Till.pre (fun _ hr => XS.lstore X159.here hx rfl (hb hby d2_142) rfl (l' := #[.val (.ref a1), .val (.ref a2), .val (.long q3), .second, .val (.long (rem_1 - (1 : Int64))), .second, .val (.ref b18), .val (.long (left_1 - (1 : Int64))), .second, .val (.int (1 : Int32)), .val (.long k_1), .second]) rfl hr) ?_
                    show Till p e below s (Q2 Z a1 a2 q3 w1 g h0 n0) room2.cells room2.slots (T157.setTop (mkF m 144 #[.val (.ref a1), .val (.ref a2), .val (.long q3), .second, .val (.long (rem_1 - (1 : Int64))), .second, .val (.ref b18), .val (.long (left_1 - (1 : Int64))), .second, .val (.int (1 : Int32)), .val (.long k_1), .second] []))
                    refine Till.pre (fun _ hr => XS.lload X159.here hx rfl (hb hby d2_144) rfl hr) ?_
                    show Till p e below s (Q2 Z a1 a2 q3 w1 g h0 n0) room2.cells room2.slots (T157.setTop (mkF m 146 #[.val (.ref a1), .val (.ref a2), .val (.long q3), .second, .val (.long (rem_1 - (1 : Int64))), .second, .val (.ref b18), .val (.long (left_1 - (1 : Int64))), .second, .val (.int (1 : Int32)), .val (.long k_1), .second] [(.long k_1)]))
                    refine Till.pre (fun _ hr => XS.lconst X159.here hx rfl (hb hby d2_146) hr) ?_
                    show Till p e below s (Q2 Z a1 a2 q3 w1 g h0 n0) room2.cells room2.slots (T157.setTop (mkF m 147 #[.val (.ref a1), .val (.ref a2), .val (.long q3), .second, .val (.long (rem_1 - (1 : Int64))), .second, .val (.ref b18), .val (.long (left_1 - (1 : Int64))), .second, .val (.int (1 : Int32)), .val (.long k_1), .second] [(.long (1 : Int64)), (.long k_1)]))
                    refine Till.pre (fun _ hr => XS.ladd X159.here hx rfl (hb hby d2_147) rfl hr) ?_
                    show Till p e below s (Q2 Z a1 a2 q3 w1 g h0 n0) room2.cells room2.slots (T157.setTop (mkF m 148 #[.val (.ref a1), .val (.ref a2), .val (.long q3), .second, .val (.long (rem_1 - (1 : Int64))), .second, .val (.ref b18), .val (.long (left_1 - (1 : Int64))), .second, .val (.int (1 : Int32)), .val (.long k_1), .second] [(.long (k_1 + (1 : Int64)))]))
                    refine Till.pre (fun _ hr => XS.lstore X159.here hx rfl (hb hby d2_148) rfl (l' := #[.val (.ref a1), .val (.ref a2), .val (.long q3), .second, .val (.long (rem_1 - (1 : Int64))), .second, .val (.ref b18), .val (.long (left_1 - (1 : Int64))), .second, .val (.int (1 : Int32)), .val (.long (k_1 + (1 : Int64))), .second]) rfl hr) ?_
                    show Till p e below s (Q2 Z a1 a2 q3 w1 g h0 n0) room2.cells room2.slots (T157.setTop (mkF m 150 #[.val (.ref a1), .val (.ref a2), .val (.long q3), .second, .val (.long (rem_1 - (1 : Int64))), .second, .val (.ref b18), .val (.long (left_1 - (1 : Int64))), .second, .val (.int (1 : Int32)), .val (.long (k_1 + (1 : Int64))), .second] []))
                    refine Till.pre (fun _ hr => XS.goto X159.here hx rfl (pc0 := 150) (pc' := 94) rfl (hb hby d2_150) (by decide) (by decide) hr) ?_
                    show Till p e below s (Q2 Z a1 a2 q3 w1 g h0 n0) room2.cells room2.slots (T157.setTop (mkF m 94 #[.val (.ref a1), .val (.ref a2), .val (.long q3), .second, .val (.long (rem_1 - (1 : Int64))), .second, .val (.ref b18), .val (.long (left_1 - (1 : Int64))), .second, .val (.int (1 : Int32)), .val (.long (k_1 + (1 : Int64))), .second] []))
                    exact ih _ _ X159 N163 _ _ _ _ _ (by rw [e160]; exact Zs) (by rw [e160]; exact Kp) (by rw [e160]; exact R_a1) (by rw [e160]; exact R_a2) (by rw [e160]; exact R_b18) (((own_step (by decide) hG I_1 hc104 hc127).2 (fn4 rem_1 W_1) _ (own_blr (own_step (by decide) hG I_1 hc104 hc127).1) (own_blg (own_step (by decide) hG I_1 hc104 hc127).1)).1 hc156) (own_mu hm hc104)
          show Till p e below s (Q2 Z a1 a2 q3 w1 g h0 n0) room2.cells room2.slots (T24.setTop (mkF m 94 #[.val (.ref a1), .val (.ref a2), .val (.long q3), .second, .val (.long rem_0), .second, .val (.ref b18), .val (.long left_0), .second, .val (.int (1 : Int32)), .val (.long (0 : Int64)), .second] []))
          exact loop94_102 _ _ _ X26 N27 _ _ _ _ _ Zs Kp R_a1 R_a2 R_b18 (own_exit (by decide) hG I_0 (Or.inr hc97)) (Nat.lt_succ_self _)
        · have hc97 := (lGt.mp (hLt.2.2.2.2.2.2.2 q))
          show Till p e below s (Q2 Z a1 a2 q3 w1 g h0 n0) room2.cells room2.slots (T24.setTop (mkF m 111 #[.val (.ref a1), .val (.ref a2), .val (.long q3), .second, .val (.long rem_0), .second, .val (.ref b18), .val (.long left_0), .second, .val (.int (0 : Int32)), .val (.long k_0), .second] []))
          refine Till.pre (fun _ hr => XS.aloadN X26.here hx rfl (hb hby d2_111) rfl rfl hr) ?_
          show Till p e below s (Q2 Z a1 a2 q3 w1 g h0 n0) room2.cells room2.slots (T24.setTop (mkF m 112 #[.val (.ref a1), .val (.ref a2), .val (.long q3), .second, .val (.long rem_0), .second, .val (.ref b18), .val (.long left_0), .second, .val (.int (0 : Int32)), .val (.long k_0), .second] [(.ref a1)]))
          refine Till.pre (fun _ hr => XS.lload X26.here hx rfl (hb hby d2_112) rfl hr) ?_
          show Till p e below s (Q2 Z a1 a2 q3 w1 g h0 n0) room2.cells room2.slots (T24.setTop (mkF m 114 #[.val (.ref a1), .val (.ref a2), .val (.long q3), .second, .val (.long rem_0), .second, .val (.ref b18), .val (.long left_0), .second, .val (.int (0 : Int32)), .val (.long k_0), .second] [(.long rem_0), (.ref a1)]))
          refine Till.callP (rm4 l Z a0 hw a1 rem_0 W_0 T24.heap n0 Zs R_a1 g_a1 ((own_step (by decide) hG I_0 hc30 hc97).1)) R_a1.1 X26 hx hZ hown (hw _ (List.mem_of_getElem? (i := 22) rfl)) (hw _ (List.mem_of_getElem? (i := 23) rfl)) (hw _ (List.mem_of_getElem? (i := 24) rfl)) (hw _ (List.mem_of_getElem? (i := 3) rfl)) (hw _ (List.mem_of_getElem? (i := 4) rfl)) (hw _ (List.mem_of_getElem? (i := 25) rfl)) (by decide) (by decide) (W := 0) (by decide) (by rw [hml]; rfl) (a := a1) (argsL := [(.long rem_0)]) (rest := []) (lenOf pd2_2 rfl) rfl rfl (Nat.le_of_eq rfl) (hb hby d2_114) rfl (by decide) (by decide) ?_
          rintro _ T164 L165 X166 ⟨rfl, N167, K168, q169⟩
          have N167 := Fr.app N27 N167
          have R_a2 := R_a2.keep K168 (ninS (Ne.symm ne_a1_a2) nin0)
          have R_b18 := R_b18.keep K168 (ninS (Ne.symm ne_a1_b18) nin0)
          have Zs := Nat.le_trans Zs K168.1
          have Kp := Kp.trans K168 (allS (Or.inl (List.mem_of_getElem? (i := 0) rfl)) all0)
          have R_a1 : Lot Z T164.heap a1 (if ((((lsr (fn5 W_0) (1 : Int32)) - ((lsr (fn5 W_0) (1 : Int32)) - ((lsr (fn5 W_0) (1 : Int32)) / rem_0) * rem_0)) + (rem_0 - (1 : Int64))) < (0 : Int64)) then ((W_0 + (-7046029254386353131 : Int64)) + (-7046029254386353131 : Int64)) else (W_0 + (-7046029254386353131 : Int64))) := q169
          show Till p e below s (Q2 Z a1 a2 q3 w1 g h0 n0) room2.cells room2.slots (T164.setTop (mkF m 117 #[.val (.ref a1), .val (.ref a2), .val (.long q3), .second, .val (.long rem_0), .second, .val (.ref b18), .val (.long left_0), .second, .val (.int (0 : Int32)), .val (.long k_0), .second] [(.long (fn4 rem_0 W_0))]))
          refine Till.pre (fun _ hr => XS.lload X166.here hx rfl (hb hby d2_117) rfl hr) ?_
          show Till p e below s (Q2 Z a1 a2 q3 w1 g h0 n0) room2.cells room2.slots (T164.setTop (mkF m 119 #[.val (.ref a1), .val (.ref a2), .val (.long q3), .second, .val (.long rem_0), .second, .val (.ref b18), .val (.long left_0), .second, .val (.int (0 : Int32)), .val (.long k_0), .second] [(.long left_0), (.long (fn4 rem_0 W_0))]))
          refine Till.pre (fun _ hr => XS.lcmp X166.here hx rfl (hb hby d2_119) rfl hr) ?_
          show Till p e below s (Q2 Z a1 a2 q3 w1 g h0 n0) room2.cells room2.slots (T164.setTop (mkF m 120 #[.val (.ref a1), .val (.ref a2), .val (.long q3), .second, .val (.long rem_0), .second, .val (.ref b18), .val (.long left_0), .second, .val (.int (0 : Int32)), .val (.long k_0), .second] [(.int (lcmpW (fn4 rem_0 W_0) left_0))]))
          refine Till.ifc (pc' := 138) X166.here hx (hb hby d2_120) (by decide) (by decide) (fun q => ?_) (fun q => ?_)
          · have hc170 := (mt lLt.mpr (hLt.2.2.1 q))
            show Till p e below s (Q2 Z a1 a2 q3 w1 g h0 n0) room2.cells room2.slots (T164.setTop (mkF m 138 #[.val (.ref a1), .val (.ref a2), .val (.long q3), .second, .val (.long rem_0), .second, .val (.ref b18), .val (.long left_0), .second, .val (.int (0 : Int32)), .val (.long k_0), .second] []))
            refine Till.pre (fun _ hr => XS.lload X166.here hx rfl (hb hby d2_138) rfl hr) ?_
            show Till p e below s (Q2 Z a1 a2 q3 w1 g h0 n0) room2.cells room2.slots (T164.setTop (mkF m 140 #[.val (.ref a1), .val (.ref a2), .val (.long q3), .second, .val (.long rem_0), .second, .val (.ref b18), .val (.long left_0), .second, .val (.int (0 : Int32)), .val (.long k_0), .second] [(.long rem_0)]))
            refine Till.pre (fun _ hr => XS.lconst X166.here hx rfl (hb hby d2_140) hr) ?_
            show Till p e below s (Q2 Z a1 a2 q3 w1 g h0 n0) room2.cells room2.slots (T164.setTop (mkF m 141 #[.val (.ref a1), .val (.ref a2), .val (.long q3), .second, .val (.long rem_0), .second, .val (.ref b18), .val (.long left_0), .second, .val (.int (0 : Int32)), .val (.long k_0), .second] [(.long (1 : Int64)), (.long rem_0)]))
            refine Till.pre (fun _ hr => XS.lsub X166.here hx rfl (hb hby d2_141) rfl hr) ?_
            show Till p e below s (Q2 Z a1 a2 q3 w1 g h0 n0) room2.cells room2.slots (T164.setTop (mkF m 142 #[.val (.ref a1), .val (.ref a2), .val (.long q3), .second, .val (.long rem_0), .second, .val (.ref b18), .val (.long left_0), .second, .val (.int (0 : Int32)), .val (.long k_0), .second] [(.long (rem_0 - (1 : Int64)))]))
            refine Till.pre (fun _ hr => XS.lstore X166.here hx rfl (hb hby d2_142) rfl (l' := #[.val (.ref a1), .val (.ref a2), .val (.long q3), .second, .val (.long (rem_0 - (1 : Int64))), .second, .val (.ref b18), .val (.long left_0), .second, .val (.int (0 : Int32)), .val (.long k_0), .second]) rfl hr) ?_
            show Till p e below s (Q2 Z a1 a2 q3 w1 g h0 n0) room2.cells room2.slots (T164.setTop (mkF m 144 #[.val (.ref a1), .val (.ref a2), .val (.long q3), .second, .val (.long (rem_0 - (1 : Int64))), .second, .val (.ref b18), .val (.long left_0), .second, .val (.int (0 : Int32)), .val (.long k_0), .second] []))
            refine Till.pre (fun _ hr => XS.lload X166.here hx rfl (hb hby d2_144) rfl hr) ?_
            show Till p e below s (Q2 Z a1 a2 q3 w1 g h0 n0) room2.cells room2.slots (T164.setTop (mkF m 146 #[.val (.ref a1), .val (.ref a2), .val (.long q3), .second, .val (.long (rem_0 - (1 : Int64))), .second, .val (.ref b18), .val (.long left_0), .second, .val (.int (0 : Int32)), .val (.long k_0), .second] [(.long k_0)]))
            refine Till.pre (fun _ hr => XS.lconst X166.here hx rfl (hb hby d2_146) hr) ?_
            show Till p e below s (Q2 Z a1 a2 q3 w1 g h0 n0) room2.cells room2.slots (T164.setTop (mkF m 147 #[.val (.ref a1), .val (.ref a2), .val (.long q3), .second, .val (.long (rem_0 - (1 : Int64))), .second, .val (.ref b18), .val (.long left_0), .second, .val (.int (0 : Int32)), .val (.long k_0), .second] [(.long (1 : Int64)), (.long k_0)]))
            refine Till.pre (fun _ hr => XS.ladd X166.here hx rfl (hb hby d2_147) rfl hr) ?_
            show Till p e below s (Q2 Z a1 a2 q3 w1 g h0 n0) room2.cells room2.slots (T164.setTop (mkF m 148 #[.val (.ref a1), .val (.ref a2), .val (.long q3), .second, .val (.long (rem_0 - (1 : Int64))), .second, .val (.ref b18), .val (.long left_0), .second, .val (.int (0 : Int32)), .val (.long k_0), .second] [(.long (k_0 + (1 : Int64)))]))
            refine Till.pre (fun _ hr => XS.lstore X166.here hx rfl (hb hby d2_148) rfl (l' := #[.val (.ref a1), .val (.ref a2), .val (.long q3), .second, .val (.long (rem_0 - (1 : Int64))), .second, .val (.ref b18), .val (.long left_0), .second, .val (.int (0 : Int32)), .val (.long (k_0 + (1 : Int64))), .second]) rfl hr) ?_
            show Till p e below s (Q2 Z a1 a2 q3 w1 g h0 n0) room2.cells room2.slots (T164.setTop (mkF m 150 #[.val (.ref a1), .val (.ref a2), .val (.long q3), .second, .val (.long (rem_0 - (1 : Int64))), .second, .val (.ref b18), .val (.long left_0), .second, .val (.int (0 : Int32)), .val (.long (k_0 + (1 : Int64))), .second] []))
            refine Till.pre (fun _ hr => XS.goto X166.here hx rfl (pc0 := 150) (pc' := 94) rfl (hb hby d2_150) (by decide) (by decide) hr) ?_
            show Till p e below s (Q2 Z a1 a2 q3 w1 g h0 n0) room2.cells room2.slots (T164.setTop (mkF m 94 #[.val (.ref a1), .val (.ref a2), .val (.long q3), .second, .val (.long (rem_0 - (1 : Int64))), .second, .val (.ref b18), .val (.long left_0), .second, .val (.int (0 : Int32)), .val (.long (k_0 + (1 : Int64))), .second] []))
            exact ih _ _ X166 N167 _ _ _ _ _ Zs Kp R_a1 R_a2 R_b18 (((own_step (by decide) hG I_0 hc30 hc97).2 (fn4 rem_0 W_0) _ (own_blr (own_step (by decide) hG I_0 hc30 hc97).1) (own_blg (own_step (by decide) hG I_0 hc30 hc97).1)).2 hc170) (own_mu hm hc30)
          · have hc170 := (lLt.mp (hLt.2.2.2.1 q))
            show Till p e below s (Q2 Z a1 a2 q3 w1 g h0 n0) room2.cells room2.slots (T164.setTop (mkF m 123 #[.val (.ref a1), .val (.ref a2), .val (.long q3), .second, .val (.long rem_0), .second, .val (.ref b18), .val (.long left_0), .second, .val (.int (0 : Int32)), .val (.long k_0), .second] []))
            refine Till.pre (fun _ hr => XS.aload X166.here hx rfl (hb hby d2_123) rfl rfl hr) ?_
            show Till p e below s (Q2 Z a1 a2 q3 w1 g h0 n0) room2.cells room2.slots (T164.setTop (mkF m 125 #[.val (.ref a1), .val (.ref a2), .val (.long q3), .second, .val (.long rem_0), .second, .val (.ref b18), .val (.long left_0), .second, .val (.int (0 : Int32)), .val (.long k_0), .second] [(.ref b18)]))
            refine Till.pre (fun _ hr => XS.iload X166.here hx rfl (hb hby d2_125) rfl hr) ?_
            show Till p e below s (Q2 Z a1 a2 q3 w1 g h0 n0) room2.cells room2.slots (T164.setTop (mkF m 127 #[.val (.ref a1), .val (.ref a2), .val (.long q3), .second, .val (.long rem_0), .second, .val (.ref b18), .val (.long left_0), .second, .val (.int (0 : Int32)), .val (.long k_0), .second] [(.int (0 : Int32)), (.ref b18)]))
            refine Till.pre (fun _ hr => XT.dup2 X166.here hx rfl (hb hby d2_127) rfl rfl rfl hr) ?_
            show Till p e below s (Q2 Z a1 a2 q3 w1 g h0 n0) room2.cells room2.slots (T164.setTop (mkF m 128 #[.val (.ref a1), .val (.ref a2), .val (.long q3), .second, .val (.long rem_0), .second, .val (.ref b18), .val (.long left_0), .second, .val (.int (0 : Int32)), .val (.long k_0), .second] [(.int (0 : Int32)), (.ref b18), (.int (0 : Int32)), (.ref b18)]))
            refine Till.laload R_b18 (by decide) (by decide) X166 hx hZ rfl (hb hby d2_128) ?_
            show Till p e below s (Q2 Z a1 a2 q3 w1 g h0 n0) room2.cells room2.slots (T164.setTop (mkF m 129 #[.val (.ref a1), .val (.ref a2), .val (.long q3), .second, .val (.long rem_0), .second, .val (.ref b18), .val (.long left_0), .second, .val (.int (0 : Int32)), .val (.long k_0), .second] [(.long (d_0 0)), (.int (0 : Int32)), (.ref b18)]))
            refine Till.pre (fun _ hr => XS.lconst X166.here hx rfl (hb hby d2_129) hr) ?_
            show Till p e below s (Q2 Z a1 a2 q3 w1 g h0 n0) room2.cells room2.slots (T164.setTop (mkF m 130 #[.val (.ref a1), .val (.ref a2), .val (.long q3), .second, .val (.long rem_0), .second, .val (.ref b18), .val (.long left_0), .second, .val (.int (0 : Int32)), .val (.long k_0), .second] [(.long (1 : Int64)), (.long (d_0 0)), (.int (0 : Int32)), (.ref b18)]))
            refine Till.pre (fun _ hr => XS.ladd X166.here hx rfl (hb hby d2_130) rfl hr) ?_
            show Till p e below s (Q2 Z a1 a2 q3 w1 g h0 n0) room2.cells room2.slots (T164.setTop (mkF m 131 #[.val (.ref a1), .val (.ref a2), .val (.long q3), .second, .val (.long rem_0), .second, .val (.ref b18), .val (.long left_0), .second, .val (.int (0 : Int32)), .val (.long k_0), .second] [(.long ((d_0 0) + (1 : Int64))), (.int (0 : Int32)), (.ref b18)]))
            refine Till.lastore R_b18 (by decide) (by decide) X166 hx hZ rfl (hb hby d2_131) (fun T171 h172 X173 e174 W175 A176 => ?_)
            have N177 := Fr.snoc X173 N167 g_b18
            have R_a1 := R_a1.wr W175 ne_a1_b18
            have R_a2 := R_a2.wr W175 ne_a2_b18
            have Zs := Nat.le_trans Zs (Keep.of_wr W175).1
            have Kp := Kp.wr W175 (Or.inr sz_b18)
            have R_b18 : LA Z h172 b18 (3 : Int32) (oupd d_0 0 ((d_0 0) + (1 : Int64))) := A176
            show Till p e below s (Q2 Z a1 a2 q3 w1 g h0 n0) room2.cells room2.slots (T171.setTop (mkF m 132 #[.val (.ref a1), .val (.ref a2), .val (.long q3), .second, .val (.long rem_0), .second, .val (.ref b18), .val (.long left_0), .second, .val (.int (0 : Int32)), .val (.long k_0), .second] []))
            refine Till.pre (fun _ hr => XS.lload X173.here hx rfl (hb hby d2_132) rfl hr) ?_
            show Till p e below s (Q2 Z a1 a2 q3 w1 g h0 n0) room2.cells room2.slots (T171.setTop (mkF m 134 #[.val (.ref a1), .val (.ref a2), .val (.long q3), .second, .val (.long rem_0), .second, .val (.ref b18), .val (.long left_0), .second, .val (.int (0 : Int32)), .val (.long k_0), .second] [(.long left_0)]))
            refine Till.pre (fun _ hr => XS.lconst X173.here hx rfl (hb hby d2_134) hr) ?_
            show Till p e below s (Q2 Z a1 a2 q3 w1 g h0 n0) room2.cells room2.slots (T171.setTop (mkF m 135 #[.val (.ref a1), .val (.ref a2), .val (.long q3), .second, .val (.long rem_0), .second, .val (.ref b18), .val (.long left_0), .second, .val (.int (0 : Int32)), .val (.long k_0), .second] [(.long (1 : Int64)), (.long left_0)]))
            refine Till.pre (fun _ hr => XS.lsub X173.here hx rfl (hb hby d2_135) rfl hr) ?_
            show Till p e below s (Q2 Z a1 a2 q3 w1 g h0 n0) room2.cells room2.slots (T171.setTop (mkF m 136 #[.val (.ref a1), .val (.ref a2), .val (.long q3), .second, .val (.long rem_0), .second, .val (.ref b18), .val (.long left_0), .second, .val (.int (0 : Int32)), .val (.long k_0), .second] [(.long (left_0 - (1 : Int64)))]))
            refine Till.pre (fun _ hr => XS.lstore X173.here hx rfl (hb hby d2_136) rfl (l' := #[.val (.ref a1), .val (.ref a2), .val (.long q3), .second, .val (.long rem_0), .second, .val (.ref b18), .val (.long (left_0 - (1 : Int64))), .second, .val (.int (0 : Int32)), .val (.long k_0), .second]) rfl hr) ?_
            show Till p e below s (Q2 Z a1 a2 q3 w1 g h0 n0) room2.cells room2.slots (T171.setTop (mkF m 138 #[.val (.ref a1), .val (.ref a2), .val (.long q3), .second, .val (.long rem_0), .second, .val (.ref b18), .val (.long (left_0 - (1 : Int64))), .second, .val (.int (0 : Int32)), .val (.long k_0), .second] []))
            refine Till.pre (fun _ hr => XS.lload X173.here hx rfl (hb hby d2_138) rfl hr) ?_
            show Till p e below s (Q2 Z a1 a2 q3 w1 g h0 n0) room2.cells room2.slots (T171.setTop (mkF m 140 #[.val (.ref a1), .val (.ref a2), .val (.long q3), .second, .val (.long rem_0), .second, .val (.ref b18), .val (.long (left_0 - (1 : Int64))), .second, .val (.int (0 : Int32)), .val (.long k_0), .second] [(.long rem_0)]))
            refine Till.pre (fun _ hr => XS.lconst X173.here hx rfl (hb hby d2_140) hr) ?_
            show Till p e below s (Q2 Z a1 a2 q3 w1 g h0 n0) room2.cells room2.slots (T171.setTop (mkF m 141 #[.val (.ref a1), .val (.ref a2), .val (.long q3), .second, .val (.long rem_0), .second, .val (.ref b18), .val (.long (left_0 - (1 : Int64))), .second, .val (.int (0 : Int32)), .val (.long k_0), .second] [(.long (1 : Int64)), (.long rem_0)]))
            refine Till.pre (fun _ hr => XS.lsub X173.here hx rfl (hb hby d2_141) rfl hr) ?_
            show Till p e below s (Q2 Z a1 a2 q3 w1 g h0 n0) room2.cells room2.slots (T171.setTop (mkF m 142 #[.val (.ref a1), .val (.ref a2), .val (.long q3), .second, .val (.long rem_0), .second, .val (.ref b18), .val (.long (left_0 - (1 : Int64))), .second, .val (.int (0 : Int32)), .val (.long k_0), .second] [(.long (rem_0 - (1 : Int64)))]))
            refine Till.pre (fun _ hr => XS.lstore X173.here hx rfl (hb hby d2_142) rfl (l' := #[.val (.ref a1), .val (.ref a2), .val (.long q3), .second, .val (.long (rem_0 - (1 : Int64))), .second, .val (.ref b18), .val (.long (left_0 - (1 : Int64))), .second, .val (.int (0 : Int32)), .val (.long k_0), .second]) rfl hr) ?_
            show Till p e below s (Q2 Z a1 a2 q3 w1 g h0 n0) room2.cells room2.slots (T171.setTop (mkF m 144 #[.val (.ref a1), .val (.ref a2), .val (.long q3), .second, .val (.long (rem_0 - (1 : Int64))), .second, .val (.ref b18), .val (.long (left_0 - (1 : Int64))), .second, .val (.int (0 : Int32)), .val (.long k_0), .second] []))
            refine Till.pre (fun _ hr => XS.lload X173.here hx rfl (hb hby d2_144) rfl hr) ?_
            show Till p e below s (Q2 Z a1 a2 q3 w1 g h0 n0) room2.cells room2.slots (T171.setTop (mkF m 146 #[.val (.ref a1), .val (.ref a2), .val (.long q3), .second, .val (.long (rem_0 - (1 : Int64))), .second, .val (.ref b18), .val (.long (left_0 - (1 : Int64))), .second, .val (.int (0 : Int32)), .val (.long k_0), .second] [(.long k_0)]))
            refine Till.pre (fun _ hr => XS.lconst X173.here hx rfl (hb hby d2_146) hr) ?_
            show Till p e below s (Q2 Z a1 a2 q3 w1 g h0 n0) room2.cells room2.slots (T171.setTop (mkF m 147 #[.val (.ref a1), .val (.ref a2), .val (.long q3), .second, .val (.long (rem_0 - (1 : Int64))), .second, .val (.ref b18), .val (.long (left_0 - (1 : Int64))), .second, .val (.int (0 : Int32)), .val (.long k_0), .second] [(.long (1 : Int64)), (.long k_0)]))
            refine Till.pre (fun _ hr => XS.ladd X173.here hx rfl (hb hby d2_147) rfl hr) ?_
            show Till p e below s (Q2 Z a1 a2 q3 w1 g h0 n0) room2.cells room2.slots (T171.setTop (mkF m 148 #[.val (.ref a1), .val (.ref a2), .val (.long q3), .second, .val (.long (rem_0 - (1 : Int64))), .second, .val (.ref b18), .val (.long (left_0 - (1 : Int64))), .second, .val (.int (0 : Int32)), .val (.long k_0), .second] [(.long (k_0 + (1 : Int64)))]))
            refine Till.pre (fun _ hr => XS.lstore X173.here hx rfl (hb hby d2_148) rfl (l' := #[.val (.ref a1), .val (.ref a2), .val (.long q3), .second, .val (.long (rem_0 - (1 : Int64))), .second, .val (.ref b18), .val (.long (left_0 - (1 : Int64))), .second, .val (.int (0 : Int32)), .val (.long (k_0 + (1 : Int64))), .second]) rfl hr) ?_
            show Till p e below s (Q2 Z a1 a2 q3 w1 g h0 n0) room2.cells room2.slots (T171.setTop (mkF m 150 #[.val (.ref a1), .val (.ref a2), .val (.long q3), .second, .val (.long (rem_0 - (1 : Int64))), .second, .val (.ref b18), .val (.long (left_0 - (1 : Int64))), .second, .val (.int (0 : Int32)), .val (.long (k_0 + (1 : Int64))), .second] []))
            refine Till.pre (fun _ hr => XS.goto X173.here hx rfl (pc0 := 150) (pc' := 94) rfl (hb hby d2_150) (by decide) (by decide) hr) ?_
            show Till p e below s (Q2 Z a1 a2 q3 w1 g h0 n0) room2.cells room2.slots (T171.setTop (mkF m 94 #[.val (.ref a1), .val (.ref a2), .val (.long q3), .second, .val (.long (rem_0 - (1 : Int64))), .second, .val (.ref b18), .val (.long (left_0 - (1 : Int64))), .second, .val (.int (0 : Int32)), .val (.long (k_0 + (1 : Int64))), .second] []))
            exact ih _ _ X173 N177 _ _ _ _ _ (by rw [e174]; exact Zs) (by rw [e174]; exact Kp) (by rw [e174]; exact R_a1) (by rw [e174]; exact R_a2) (by rw [e174]; exact R_b18) (((own_step (by decide) hG I_0 hc30 hc97).2 (fn4 rem_0 W_0) _ (own_blr (own_step (by decide) hG I_0 hc30 hc97).1) (own_blg (own_step (by decide) hG I_0 hc30 hc97).1)).1 hc170) (own_mu hm hc30)
  show Till p e below s (Q2 Z a1 a2 q3 w1 g h0 n0) room2.cells room2.slots (T16.setTop (mkF m 94 #[.val (.ref a1), .val (.ref a2), .val (.long q3), .second, .val (.long ((((0 : Int64) + (g 0)) + (g 1)) + (g 2))), .second, .val (.ref b18), .val (.long q3), .second, .val (.int (0 : Int32)), .val (.long (0 : Int64)), .second] []))
  exact loop94_28 _ _ _ X20 N14 _ _ _ _ _ (by rw [e21]; exact Zs) (by rw [e21]; exact Kp) (by rw [e21]; exact R_a1) (by rw [e21]; exact R_a2) (by rw [e21]; exact R_b18) (own_I0 hG hC) (Nat.lt_succ_self _)
abbrev own_gg (g0 g1 g2 : Int64) : Nat → Int64 := oupd (oupd (oupd (fun _ => (0 : Int64)) 0 g0) 1 g1) 2 g2
theorem own_g7 {p : Int32} {g : Int64} (h : (p &&& (7 : Int32)).toInt64 = g) : 0 ≤ g.toInt ∧ g.toInt ≤ 7 := by
  have a := c_mask p 7 3 (by decide) (by decide)
  have b := c_i2l (p &&& 7)
  rw [h] at b
  omega
theorem own_tq {g0 g1 g2 tot : Int64} (h0 : 0 ≤ g0.toInt ∧ g0.toInt ≤ 7) (h1 : 0 ≤ g1.toInt ∧ g1.toInt ≤ 7) (h2 : 0 ≤ g2.toInt ∧ g2.toInt ≤ 7) (ht : (g0 + g1) + g2 = tot) : tot.toInt = g0.toInt + g1.toInt + g2.toInt := by
  rw [← ht]; exact own_tt (g := own_gg g0 g1 g2) ⟨h0, h1, h2⟩
theorem own_tz {g0 g1 g2 tot : Int64} (h0 : 0 ≤ g0.toInt ∧ g0.toInt ≤ 7) (h1 : 0 ≤ g1.toInt ∧ g1.toInt ≤ 7) (h2 : 0 ≤ g2.toInt ∧ g2.toInt ≤ 7) (ht : (g0 + g1) + g2 = tot) : tot + (1 : Int64) ≠ 0 := fun e => by
  have a := own_tq h0 h1 h2 ht
  have b := c_ladd tot 1
  have c : (1 : Int64).toInt = 1 := rfl
  rw [e] at b
  have d : (0 : Int64).toInt = 0 := rfl
  omega
theorem own_Cs {g0 g1 g2 tot cnt : Int64} {p : Int32} (h0 : 0 ≤ g0.toInt ∧ g0.toInt ≤ 7) (h1 : 0 ≤ g1.toInt ∧ g1.toInt ≤ 7) (h2 : 0 ≤ g2.toInt ∧ g2.toInt ≤ 7) (ht : (g0 + g1) + g2 = tot) (hc : ((p &&& (2147483647 : Int32)).toInt64 - ((p &&& (2147483647 : Int32)).toInt64 / (tot + (1 : Int64))) * (tot + (1 : Int64))) = cnt) : 0 ≤ cnt.toInt ∧ cnt.toInt ≤ own_rest 0 (own_gg g0 g1 g2) := by
  have a := own_tq h0 h1 h2 ht
  have b := c_ladd tot 1
  have c : (1 : Int64).toInt = 1 := rfl
  have r := rng64 (tot + 1)
  have k1 := c_mask p 2147483647 31 (by decide) (by decide)
  have k2 := c_i2l (p &&& 2147483647)
  have n1 : (tot + 1).toInt = tot.toInt + 1 := by omega
  have m := (c_lrem (p &&& (2147483647 : Int32)).toInt64 (tot + 1) (tot + 1).toInt rfl).1 (by omega)
  rw [hc] at m
  have e1 := Int.emod_nonneg ((p &&& (2147483647 : Int32)).toInt64).toInt (show (tot + 1).toInt ≠ 0 by omega)
  have e2 := Int.emod_lt_of_pos ((p &&& (2147483647 : Int32)).toInt64).toInt (show 0 < (tot + 1).toInt by omega)
  show 0 ≤ cnt.toInt ∧ cnt.toInt ≤ g0.toInt + g1.toInt + g2.toInt
  omega
section Post
variable {g0 g1 g2 cnt w : Int64} {d : Nat → Int64} (po : own_post (own_gg g0 g1 g2) cnt w d)
theorem own_nlt {a b : Int64} (h : b.toInt ≤ a.toInt) : ¬ a < b := fun q => by have := Int64.lt_iff_toInt_lt.mp q; omega
theorem own_d0 (po : own_post (own_gg g0 g1 g2) cnt w d) : ¬ d 0 < (0 : Int64) := own_nlt po.1.1.1
theorem own_d1 (po : own_post (own_gg g0 g1 g2) cnt w d) : ¬ d 1 < (0 : Int64) := own_nlt po.1.2.1.1
theorem own_d2 (po : own_post (own_gg g0 g1 g2) cnt w d) : ¬ d 2 < (0 : Int64) := own_nlt po.1.2.2.1
theorem own_e0 (po : own_post (own_gg g0 g1 g2) cnt w d) : ¬ g0 < d 0 := own_nlt po.1.1.2
theorem own_e1 (po : own_post (own_gg g0 g1 g2) cnt w d) : ¬ g1 < d 1 := own_nlt po.1.2.1.2
theorem own_e2 (po : own_post (own_gg g0 g1 g2) cnt w d) : ¬ g2 < d 2 := own_nlt po.1.2.2.2
theorem own_sm (h0 : 0 ≤ g0.toInt ∧ g0.toInt ≤ 7) (h1 : 0 ≤ g1.toInt ∧ g1.toInt ≤ 7) (h2 : 0 ≤ g2.toInt ∧ g2.toInt ≤ 7) (po : own_post (own_gg g0 g1 g2) cnt w d) : (d 0 + d 1) + d 2 = cnt := by
  obtain ⟨⟨⟨a1, a2⟩, ⟨a3, a4⟩, ⟨a5, a6⟩⟩, s, -⟩ := po
  have a2 : (d 0).toInt ≤ g0.toInt := a2
  have a4 : (d 1).toInt ≤ g1.toInt := a4
  have a6 : (d 2).toInt ≤ g2.toInt := a6
  have b := own_add (a := d 0) (b := d 1) (A := 7) (B := 7) (by omega) (by omega) (by decide)
  have c := own_add (a := d 0 + d 1) (b := d 2) (A := 14) (B := 7) (by omega) (by omega) (by decide)
  exact Int64.toInt_inj.mp (by omega)
theorem own_f0 (h : (0 : Int64) < g0) : own_first (own_gg g0 g1 g2) 0 := Or.inl ⟨rfl, Int64.lt_iff_toInt_lt.mp h⟩
theorem own_z {g : Int64} (h : 0 ≤ g.toInt ∧ g.toInt ≤ 7) (n : ¬ (0 : Int64) < g) : g.toInt = 0 := by
  have : ¬ 0 < g.toInt := fun q => n (Int64.lt_iff_toInt_lt.mpr q)
  omega
theorem own_f1 (h0 : 0 ≤ g0.toInt ∧ g0.toInt ≤ 7) (n0 : ¬ (0 : Int64) < g0) (h : (0 : Int64) < g1) : own_first (own_gg g0 g1 g2) 1 := Or.inr (Or.inl ⟨rfl, own_z h0 n0, Int64.lt_iff_toInt_lt.mp h⟩)
theorem own_f2 {tot : Int64} (h0 : 0 ≤ g0.toInt ∧ g0.toInt ≤ 7) (h1 : 0 ≤ g1.toInt ∧ g1.toInt ≤ 7) (h2 : 0 ≤ g2.toInt ∧ g2.toInt ≤ 7) (ht : (g0 + g1) + g2 = tot) (n0 : ¬ (0 : Int64) < g0) (n1 : ¬ (0 : Int64) < g1) (nt : ¬ tot = (0 : Int64)) : own_first (own_gg g0 g1 g2) 2 := by
  refine Or.inr (Or.inr ⟨rfl, own_z h0 n0, own_z h1 n1, ?_⟩)
  have a := own_tq h0 h1 h2 ht
  have b := own_z h0 n0
  have c := own_z h1 n1
  have e : ¬ tot.toInt = 0 := fun q => nt (Int64.toInt_inj.mp q)
  show 0 < g2.toInt
  omega
theorem own_yes {tot : Int64} {f : Nat} (ht : (g0 + g1) + g2 = tot) (po : own_post (own_gg g0 g1 g2) cnt w d) (hf : own_first (own_gg g0 g1 g2) f) (hb : ¬ own_bad w tot) (hr : own_r w tot < cnt) : ¬ d f < (1 : Int64) := by
  subst ht
  exact own_nlt ((po.2.2 f hf hb).1 (Int64.lt_iff_toInt_lt.mp hr))
theorem own_no {tot gf : Int64} {f : Nat} (ht : (g0 + g1) + g2 = tot) (po : own_post (own_gg g0 g1 g2) cnt w d) (hf : own_first (own_gg g0 g1 g2) f) (hb : ¬ own_bad w tot) (hr : ¬ own_r w tot < cnt) (hg : own_gg g0 g1 g2 f = gf) (hp : 0 < gf.toInt ∧ gf.toInt ≤ 7) : ¬ (gf - (1 : Int64)) < d f := by
  subst ht
  have a := (po.2.2 f hf hb).2 (fun q => hr (Int64.lt_iff_toInt_lt.mpr q))
  rw [hg] at a
  have b := c_lsub gf 1
  have c := rng64 (gf - 1)
  have e : (1 : Int64).toInt = 1 := rfl
  exact own_nlt (by omega)
end Post
theorem own_p2 {g0 g1 g2 : Int64} (h : own_first (own_gg g0 g1 g2) 2) : 0 < g2.toInt := by
  rcases h with ⟨h, -⟩ | ⟨h, -⟩ | ⟨-, -, -, h⟩
  · cases h
  · cases h
  · exact h
theorem pn_0 : plainName "com/example/bondroll/bondroll/util/LotDrawPinLaw" = true := by first | (simp [plainName, overriddenIn]; done) | decide +kernel
theorem pd0_0 : parseMethodDescriptor "()J" = some ⟨[], some .long⟩ := by decide +kernel
theorem pd0_3 : parseMethodDescriptor "(J)V" = some ⟨[.long], none⟩ := by decide +kernel
theorem pd0_5 : parseMethodDescriptor "([JJ)[J" = some ⟨[(.array .long), .long], some (.array .long)⟩ := by decide +kernel
theorem ef_0 (m : MethodId) (q1 : Int64) (p2 : Int32) (p3 : Int32) (p4 : Int32) (p5 : Int32) : entryFrame m #[(.long q1), (.int p2), (.int p3), (.int p4), (.int p5)] maxLocals = mkF m 0 #[.val (.long q1), .second, .val (.int p2), .val (.int p3), .val (.int p4), .val (.int p5), .unset, .unset, .unset, .unset, .unset, .unset, .unset, .unset, .unset, .unset, .unset, .unset, .unset, .unset, .unset, .unset, .unset, .unset, .unset, .unset, .unset] [] := by first | (simp [entryFrame, mkF, argsToLocals, Value.category, maxLocals]; done) | rfl
def Q0 (Z : State) (q1 : Int64) (p2 : Int32) (p3 : Int32) (p4 : Int32) (p5 : Int32) (h0 : Heap) (n0 : Nat) : Option Value → Heap → List Loc → Prop := fun v h L => v = some (.int 1) ∧ Fr n0 L
set_option maxRecDepth 65536 in
set_option maxHeartbeats 40000000 in
theorem rm0 (l : Launch) (Z : State) (a0 : Array Value) (hw : ∀ d ∈ tables_1, d.before a0 Z = true) (q1 : Int64) (p2 : Int32) (p3 : Int32) (p4 : Int32) (p5 : Int32) (h0 : Heap) (n0 : Nat) (Zs : n0 ≤ h0.size) : Ctr l Z x code maxLocals ret room_1 #[(.long q1), (.int p2), (.int p3), (.int p4), (.int p5)] h0 (Q0 Z q1 p2 p3 p4 p5 h0 n0) := by
  refine Ctr.of (plainFor_of_name pn_0) ?_
  intro p e s m below meth c s₁ hx hby hml hown hnm hret hlk hZ e0 X0
  have hown : s.vm.findClass "com/example/bondroll/bondroll/util/LotDrawPinLaw" = some m.cls := hown
  have hml : c.maxLocals = 27 := hml
  have hnm : meth.name = "law" := hnm
  have hret : meth.sig.returnType = (some .boolean) := hret
  have N0 := Fr.nil n0
  refine Till.cast (ef_0 m q1 p2 p3 p4 p5) ?_
  show Till p e below s (Q0 Z q1 p2 p3 p4 p5 h0 n0) room_1.cells room_1.slots (s₁.setTop (mkF m 0 #[.val (.long q1), .second, .val (.int p2), .val (.int p3), .val (.int p4), .val (.int p5), .unset, .unset, .unset, .unset, .unset, .unset, .unset, .unset, .unset, .unset, .unset, .unset, .unset, .unset, .unset, .unset, .unset, .unset, .unset, .unset, .unset] []))
  refine Till.pre (fun _ hr => XS.iloadN X0.here hx rfl (hb hby at_0) rfl hr) ?_
  show Till p e below s (Q0 Z q1 p2 p3 p4 p5 h0 n0) room_1.cells room_1.slots (s₁.setTop (mkF m 1 #[.val (.long q1), .second, .val (.int p2), .val (.int p3), .val (.int p4), .val (.int p5), .unset, .unset, .unset, .unset, .unset, .unset, .unset, .unset, .unset, .unset, .unset, .unset, .unset, .unset, .unset, .unset, .unset, .unset, .unset, .unset, .unset] [(.int p2)]))
  refine Till.pre (fun _ hr => XS.bipush X0.here hx rfl (hb hby at_1) hr) ?_
  show Till p e below s (Q0 Z q1 p2 p3 p4 p5 h0 n0) room_1.cells room_1.slots (s₁.setTop (mkF m 3 #[.val (.long q1), .second, .val (.int p2), .val (.int p3), .val (.int p4), .val (.int p5), .unset, .unset, .unset, .unset, .unset, .unset, .unset, .unset, .unset, .unset, .unset, .unset, .unset, .unset, .unset, .unset, .unset, .unset, .unset, .unset, .unset] [(.int (7 : Int32)), (.int p2)]))
  refine Till.pre (fun _ hr => XS.iand X0.here hx rfl (hb hby at_3) rfl hr) ?_
  show Till p e below s (Q0 Z q1 p2 p3 p4 p5 h0 n0) room_1.cells room_1.slots (s₁.setTop (mkF m 4 #[.val (.long q1), .second, .val (.int p2), .val (.int p3), .val (.int p4), .val (.int p5), .unset, .unset, .unset, .unset, .unset, .unset, .unset, .unset, .unset, .unset, .unset, .unset, .unset, .unset, .unset, .unset, .unset, .unset, .unset, .unset, .unset] [(.int (p2 &&& (7 : Int32)))]))
  refine Till.pre (fun _ hr => XS.i2l X0.here hx rfl (hb hby at_4) rfl hr) ?_
  show Till p e below s (Q0 Z q1 p2 p3 p4 p5 h0 n0) room_1.cells room_1.slots (s₁.setTop (mkF m 5 #[.val (.long q1), .second, .val (.int p2), .val (.int p3), .val (.int p4), .val (.int p5), .unset, .unset, .unset, .unset, .unset, .unset, .unset, .unset, .unset, .unset, .unset, .unset, .unset, .unset, .unset, .unset, .unset, .unset, .unset, .unset, .unset] [(.long (p2 &&& (7 : Int32)).toInt64)]))
  generalize hu_g0 : (p2 &&& (7 : Int32)).toInt64 = g0
  show Till p e below s (Q0 Z q1 p2 p3 p4 p5 h0 n0) room_1.cells room_1.slots (s₁.setTop (mkF m 5 #[.val (.long q1), .second, .val (.int p2), .val (.int p3), .val (.int p4), .val (.int p5), .unset, .unset, .unset, .unset, .unset, .unset, .unset, .unset, .unset, .unset, .unset, .unset, .unset, .unset, .unset, .unset, .unset, .unset, .unset, .unset, .unset] [(.long g0)]))
  refine Till.pre (fun _ hr => XS.lstore X0.here hx rfl (hb hby at_5) rfl (l' := #[.val (.long q1), .second, .val (.int p2), .val (.int p3), .val (.int p4), .val (.int p5), .val (.long g0), .second, .unset, .unset, .unset, .unset, .unset, .unset, .unset, .unset, .unset, .unset, .unset, .unset, .unset, .unset, .unset, .unset, .unset, .unset, .unset]) rfl hr) ?_
  show Till p e below s (Q0 Z q1 p2 p3 p4 p5 h0 n0) room_1.cells room_1.slots (s₁.setTop (mkF m 7 #[.val (.long q1), .second, .val (.int p2), .val (.int p3), .val (.int p4), .val (.int p5), .val (.long g0), .second, .unset, .unset, .unset, .unset, .unset, .unset, .unset, .unset, .unset, .unset, .unset, .unset, .unset, .unset, .unset, .unset, .unset, .unset, .unset] []))
  refine Till.pre (fun _ hr => XS.iloadN X0.here hx rfl (hb hby at_7) rfl hr) ?_
  show Till p e below s (Q0 Z q1 p2 p3 p4 p5 h0 n0) room_1.cells room_1.slots (s₁.setTop (mkF m 8 #[.val (.long q1), .second, .val (.int p2), .val (.int p3), .val (.int p4), .val (.int p5), .val (.long g0), .second, .unset, .unset, .unset, .unset, .unset, .unset, .unset, .unset, .unset, .unset, .unset, .unset, .unset, .unset, .unset, .unset, .unset, .unset, .unset] [(.int p3)]))
  refine Till.pre (fun _ hr => XS.bipush X0.here hx rfl (hb hby at_8) hr) ?_
  show Till p e below s (Q0 Z q1 p2 p3 p4 p5 h0 n0) room_1.cells room_1.slots (s₁.setTop (mkF m 10 #[.val (.long q1), .second, .val (.int p2), .val (.int p3), .val (.int p4), .val (.int p5), .val (.long g0), .second, .unset, .unset, .unset, .unset, .unset, .unset, .unset, .unset, .unset, .unset, .unset, .unset, .unset, .unset, .unset, .unset, .unset, .unset, .unset] [(.int (7 : Int32)), (.int p3)]))
  refine Till.pre (fun _ hr => XS.iand X0.here hx rfl (hb hby at_10) rfl hr) ?_
  show Till p e below s (Q0 Z q1 p2 p3 p4 p5 h0 n0) room_1.cells room_1.slots (s₁.setTop (mkF m 11 #[.val (.long q1), .second, .val (.int p2), .val (.int p3), .val (.int p4), .val (.int p5), .val (.long g0), .second, .unset, .unset, .unset, .unset, .unset, .unset, .unset, .unset, .unset, .unset, .unset, .unset, .unset, .unset, .unset, .unset, .unset, .unset, .unset] [(.int (p3 &&& (7 : Int32)))]))
  refine Till.pre (fun _ hr => XS.i2l X0.here hx rfl (hb hby at_11) rfl hr) ?_
  show Till p e below s (Q0 Z q1 p2 p3 p4 p5 h0 n0) room_1.cells room_1.slots (s₁.setTop (mkF m 12 #[.val (.long q1), .second, .val (.int p2), .val (.int p3), .val (.int p4), .val (.int p5), .val (.long g0), .second, .unset, .unset, .unset, .unset, .unset, .unset, .unset, .unset, .unset, .unset, .unset, .unset, .unset, .unset, .unset, .unset, .unset, .unset, .unset] [(.long (p3 &&& (7 : Int32)).toInt64)]))
  generalize hu_g1 : (p3 &&& (7 : Int32)).toInt64 = g1
  show Till p e below s (Q0 Z q1 p2 p3 p4 p5 h0 n0) room_1.cells room_1.slots (s₁.setTop (mkF m 12 #[.val (.long q1), .second, .val (.int p2), .val (.int p3), .val (.int p4), .val (.int p5), .val (.long g0), .second, .unset, .unset, .unset, .unset, .unset, .unset, .unset, .unset, .unset, .unset, .unset, .unset, .unset, .unset, .unset, .unset, .unset, .unset, .unset] [(.long g1)]))
  refine Till.pre (fun _ hr => XS.lstore X0.here hx rfl (hb hby at_12) rfl (l' := #[.val (.long q1), .second, .val (.int p2), .val (.int p3), .val (.int p4), .val (.int p5), .val (.long g0), .second, .val (.long g1), .second, .unset, .unset, .unset, .unset, .unset, .unset, .unset, .unset, .unset, .unset, .unset, .unset, .unset, .unset, .unset, .unset, .unset]) rfl hr) ?_
  show Till p e below s (Q0 Z q1 p2 p3 p4 p5 h0 n0) room_1.cells room_1.slots (s₁.setTop (mkF m 14 #[.val (.long q1), .second, .val (.int p2), .val (.int p3), .val (.int p4), .val (.int p5), .val (.long g0), .second, .val (.long g1), .second, .unset, .unset, .unset, .unset, .unset, .unset, .unset, .unset, .unset, .unset, .unset, .unset, .unset, .unset, .unset, .unset, .unset] []))
  refine Till.pre (fun _ hr => XS.iload X0.here hx rfl (hb hby at_14) rfl hr) ?_
  show Till p e below s (Q0 Z q1 p2 p3 p4 p5 h0 n0) room_1.cells room_1.slots (s₁.setTop (mkF m 16 #[.val (.long q1), .second, .val (.int p2), .val (.int p3), .val (.int p4), .val (.int p5), .val (.long g0), .second, .val (.long g1), .second, .unset, .unset, .unset, .unset, .unset, .unset, .unset, .unset, .unset, .unset, .unset, .unset, .unset, .unset, .unset, .unset, .unset] [(.int p4)]))
  refine Till.pre (fun _ hr => XS.bipush X0.here hx rfl (hb hby at_16) hr) ?_
  show Till p e below s (Q0 Z q1 p2 p3 p4 p5 h0 n0) room_1.cells room_1.slots (s₁.setTop (mkF m 18 #[.val (.long q1), .second, .val (.int p2), .val (.int p3), .val (.int p4), .val (.int p5), .val (.long g0), .second, .val (.long g1), .second, .unset, .unset, .unset, .unset, .unset, .unset, .unset, .unset, .unset, .unset, .unset, .unset, .unset, .unset, .unset, .unset, .unset] [(.int (7 : Int32)), (.int p4)]))
  refine Till.pre (fun _ hr => XS.iand X0.here hx rfl (hb hby at_18) rfl hr) ?_
  show Till p e below s (Q0 Z q1 p2 p3 p4 p5 h0 n0) room_1.cells room_1.slots (s₁.setTop (mkF m 19 #[.val (.long q1), .second, .val (.int p2), .val (.int p3), .val (.int p4), .val (.int p5), .val (.long g0), .second, .val (.long g1), .second, .unset, .unset, .unset, .unset, .unset, .unset, .unset, .unset, .unset, .unset, .unset, .unset, .unset, .unset, .unset, .unset, .unset] [(.int (p4 &&& (7 : Int32)))]))
  refine Till.pre (fun _ hr => XS.i2l X0.here hx rfl (hb hby at_19) rfl hr) ?_
  show Till p e below s (Q0 Z q1 p2 p3 p4 p5 h0 n0) room_1.cells room_1.slots (s₁.setTop (mkF m 20 #[.val (.long q1), .second, .val (.int p2), .val (.int p3), .val (.int p4), .val (.int p5), .val (.long g0), .second, .val (.long g1), .second, .unset, .unset, .unset, .unset, .unset, .unset, .unset, .unset, .unset, .unset, .unset, .unset, .unset, .unset, .unset, .unset, .unset] [(.long (p4 &&& (7 : Int32)).toInt64)]))
  generalize hu_g2 : (p4 &&& (7 : Int32)).toInt64 = g2
  show Till p e below s (Q0 Z q1 p2 p3 p4 p5 h0 n0) room_1.cells room_1.slots (s₁.setTop (mkF m 20 #[.val (.long q1), .second, .val (.int p2), .val (.int p3), .val (.int p4), .val (.int p5), .val (.long g0), .second, .val (.long g1), .second, .unset, .unset, .unset, .unset, .unset, .unset, .unset, .unset, .unset, .unset, .unset, .unset, .unset, .unset, .unset, .unset, .unset] [(.long g2)]))
  refine Till.pre (fun _ hr => XS.lstore X0.here hx rfl (hb hby at_20) rfl (l' := #[.val (.long q1), .second, .val (.int p2), .val (.int p3), .val (.int p4), .val (.int p5), .val (.long g0), .second, .val (.long g1), .second, .val (.long g2), .second, .unset, .unset, .unset, .unset, .unset, .unset, .unset, .unset, .unset, .unset, .unset, .unset, .unset, .unset, .unset]) rfl hr) ?_
  show Till p e below s (Q0 Z q1 p2 p3 p4 p5 h0 n0) room_1.cells room_1.slots (s₁.setTop (mkF m 22 #[.val (.long q1), .second, .val (.int p2), .val (.int p3), .val (.int p4), .val (.int p5), .val (.long g0), .second, .val (.long g1), .second, .val (.long g2), .second, .unset, .unset, .unset, .unset, .unset, .unset, .unset, .unset, .unset, .unset, .unset, .unset, .unset, .unset, .unset] []))
  refine Till.pre (fun _ hr => XS.lload X0.here hx rfl (hb hby at_22) rfl hr) ?_
  show Till p e below s (Q0 Z q1 p2 p3 p4 p5 h0 n0) room_1.cells room_1.slots (s₁.setTop (mkF m 24 #[.val (.long q1), .second, .val (.int p2), .val (.int p3), .val (.int p4), .val (.int p5), .val (.long g0), .second, .val (.long g1), .second, .val (.long g2), .second, .unset, .unset, .unset, .unset, .unset, .unset, .unset, .unset, .unset, .unset, .unset, .unset, .unset, .unset, .unset] [(.long g0)]))
  refine Till.pre (fun _ hr => XS.lload X0.here hx rfl (hb hby at_24) rfl hr) ?_
  show Till p e below s (Q0 Z q1 p2 p3 p4 p5 h0 n0) room_1.cells room_1.slots (s₁.setTop (mkF m 26 #[.val (.long q1), .second, .val (.int p2), .val (.int p3), .val (.int p4), .val (.int p5), .val (.long g0), .second, .val (.long g1), .second, .val (.long g2), .second, .unset, .unset, .unset, .unset, .unset, .unset, .unset, .unset, .unset, .unset, .unset, .unset, .unset, .unset, .unset] [(.long g1), (.long g0)]))
  refine Till.pre (fun _ hr => XS.ladd X0.here hx rfl (hb hby at_26) rfl hr) ?_
  show Till p e below s (Q0 Z q1 p2 p3 p4 p5 h0 n0) room_1.cells room_1.slots (s₁.setTop (mkF m 27 #[.val (.long q1), .second, .val (.int p2), .val (.int p3), .val (.int p4), .val (.int p5), .val (.long g0), .second, .val (.long g1), .second, .val (.long g2), .second, .unset, .unset, .unset, .unset, .unset, .unset, .unset, .unset, .unset, .unset, .unset, .unset, .unset, .unset, .unset] [(.long (g0 + g1))]))
  refine Till.pre (fun _ hr => XS.lload X0.here hx rfl (hb hby at_27) rfl hr) ?_
  show Till p e below s (Q0 Z q1 p2 p3 p4 p5 h0 n0) room_1.cells room_1.slots (s₁.setTop (mkF m 29 #[.val (.long q1), .second, .val (.int p2), .val (.int p3), .val (.int p4), .val (.int p5), .val (.long g0), .second, .val (.long g1), .second, .val (.long g2), .second, .unset, .unset, .unset, .unset, .unset, .unset, .unset, .unset, .unset, .unset, .unset, .unset, .unset, .unset, .unset] [(.long g2), (.long (g0 + g1))]))
  refine Till.pre (fun _ hr => XS.ladd X0.here hx rfl (hb hby at_29) rfl hr) ?_
  show Till p e below s (Q0 Z q1 p2 p3 p4 p5 h0 n0) room_1.cells room_1.slots (s₁.setTop (mkF m 30 #[.val (.long q1), .second, .val (.int p2), .val (.int p3), .val (.int p4), .val (.int p5), .val (.long g0), .second, .val (.long g1), .second, .val (.long g2), .second, .unset, .unset, .unset, .unset, .unset, .unset, .unset, .unset, .unset, .unset, .unset, .unset, .unset, .unset, .unset] [(.long ((g0 + g1) + g2))]))
  generalize hu_tot : ((g0 + g1) + g2) = tot
  show Till p e below s (Q0 Z q1 p2 p3 p4 p5 h0 n0) room_1.cells room_1.slots (s₁.setTop (mkF m 30 #[.val (.long q1), .second, .val (.int p2), .val (.int p3), .val (.int p4), .val (.int p5), .val (.long g0), .second, .val (.long g1), .second, .val (.long g2), .second, .unset, .unset, .unset, .unset, .unset, .unset, .unset, .unset, .unset, .unset, .unset, .unset, .unset, .unset, .unset] [(.long tot)]))
  refine Till.pre (fun _ hr => XS.lstore X0.here hx rfl (hb hby at_30) rfl (l' := #[.val (.long q1), .second, .val (.int p2), .val (.int p3), .val (.int p4), .val (.int p5), .val (.long g0), .second, .val (.long g1), .second, .val (.long g2), .second, .val (.long tot), .second, .unset, .unset, .unset, .unset, .unset, .unset, .unset, .unset, .unset, .unset, .unset, .unset, .unset]) rfl hr) ?_
  show Till p e below s (Q0 Z q1 p2 p3 p4 p5 h0 n0) room_1.cells room_1.slots (s₁.setTop (mkF m 32 #[.val (.long q1), .second, .val (.int p2), .val (.int p3), .val (.int p4), .val (.int p5), .val (.long g0), .second, .val (.long g1), .second, .val (.long g2), .second, .val (.long tot), .second, .unset, .unset, .unset, .unset, .unset, .unset, .unset, .unset, .unset, .unset, .unset, .unset, .unset] []))
  refine Till.pre (fun _ hr => XS.iload X0.here hx rfl (hb hby at_32) rfl hr) ?_
  show Till p e below s (Q0 Z q1 p2 p3 p4 p5 h0 n0) room_1.cells room_1.slots (s₁.setTop (mkF m 34 #[.val (.long q1), .second, .val (.int p2), .val (.int p3), .val (.int p4), .val (.int p5), .val (.long g0), .second, .val (.long g1), .second, .val (.long g2), .second, .val (.long tot), .second, .unset, .unset, .unset, .unset, .unset, .unset, .unset, .unset, .unset, .unset, .unset, .unset, .unset] [(.int p5)]))
  refine Till.pre (X0.ldcInt hx hown (mvT hZ (hw _ (List.mem_of_getElem? (i := 0) rfl))) (g := (mkF m 34 #[.val (.long q1), .second, .val (.int p2), .val (.int p3), .val (.int p4), .val (.int p5), .val (.long g0), .second, .val (.long g1), .second, .val (.long g2), .second, .val (.long tot), .second, .unset, .unset, .unset, .unset, .unset, .unset, .unset, .unset, .unset, .unset, .unset, .unset, .unset] [(.int p5)])) rfl (hb hby at_34)) ?_
  show Till p e below s (Q0 Z q1 p2 p3 p4 p5 h0 n0) room_1.cells room_1.slots (s₁.setTop (mkF m 36 #[.val (.long q1), .second, .val (.int p2), .val (.int p3), .val (.int p4), .val (.int p5), .val (.long g0), .second, .val (.long g1), .second, .val (.long g2), .second, .val (.long tot), .second, .unset, .unset, .unset, .unset, .unset, .unset, .unset, .unset, .unset, .unset, .unset, .unset, .unset] [(.int (2147483647 : Int32)), (.int p5)]))
  refine Till.pre (fun _ hr => XS.iand X0.here hx rfl (hb hby at_36) rfl hr) ?_
  show Till p e below s (Q0 Z q1 p2 p3 p4 p5 h0 n0) room_1.cells room_1.slots (s₁.setTop (mkF m 37 #[.val (.long q1), .second, .val (.int p2), .val (.int p3), .val (.int p4), .val (.int p5), .val (.long g0), .second, .val (.long g1), .second, .val (.long g2), .second, .val (.long tot), .second, .unset, .unset, .unset, .unset, .unset, .unset, .unset, .unset, .unset, .unset, .unset, .unset, .unset] [(.int (p5 &&& (2147483647 : Int32)))]))
  refine Till.pre (fun _ hr => XS.i2l X0.here hx rfl (hb hby at_37) rfl hr) ?_
  show Till p e below s (Q0 Z q1 p2 p3 p4 p5 h0 n0) room_1.cells room_1.slots (s₁.setTop (mkF m 38 #[.val (.long q1), .second, .val (.int p2), .val (.int p3), .val (.int p4), .val (.int p5), .val (.long g0), .second, .val (.long g1), .second, .val (.long g2), .second, .val (.long tot), .second, .unset, .unset, .unset, .unset, .unset, .unset, .unset, .unset, .unset, .unset, .unset, .unset, .unset] [(.long (p5 &&& (2147483647 : Int32)).toInt64)]))
  refine Till.pre (fun _ hr => XS.lload X0.here hx rfl (hb hby at_38) rfl hr) ?_
  show Till p e below s (Q0 Z q1 p2 p3 p4 p5 h0 n0) room_1.cells room_1.slots (s₁.setTop (mkF m 40 #[.val (.long q1), .second, .val (.int p2), .val (.int p3), .val (.int p4), .val (.int p5), .val (.long g0), .second, .val (.long g1), .second, .val (.long g2), .second, .val (.long tot), .second, .unset, .unset, .unset, .unset, .unset, .unset, .unset, .unset, .unset, .unset, .unset, .unset, .unset] [(.long tot), (.long (p5 &&& (2147483647 : Int32)).toInt64)]))
  refine Till.pre (fun _ hr => XS.lconst X0.here hx rfl (hb hby at_40) hr) ?_
  show Till p e below s (Q0 Z q1 p2 p3 p4 p5 h0 n0) room_1.cells room_1.slots (s₁.setTop (mkF m 41 #[.val (.long q1), .second, .val (.int p2), .val (.int p3), .val (.int p4), .val (.int p5), .val (.long g0), .second, .val (.long g1), .second, .val (.long g2), .second, .val (.long tot), .second, .unset, .unset, .unset, .unset, .unset, .unset, .unset, .unset, .unset, .unset, .unset, .unset, .unset] [(.long (1 : Int64)), (.long tot), (.long (p5 &&& (2147483647 : Int32)).toInt64)]))
  refine Till.pre (fun _ hr => XS.ladd X0.here hx rfl (hb hby at_41) rfl hr) ?_
  show Till p e below s (Q0 Z q1 p2 p3 p4 p5 h0 n0) room_1.cells room_1.slots (s₁.setTop (mkF m 42 #[.val (.long q1), .second, .val (.int p2), .val (.int p3), .val (.int p4), .val (.int p5), .val (.long g0), .second, .val (.long g1), .second, .val (.long g2), .second, .val (.long tot), .second, .unset, .unset, .unset, .unset, .unset, .unset, .unset, .unset, .unset, .unset, .unset, .unset, .unset] [(.long (tot + (1 : Int64))), (.long (p5 &&& (2147483647 : Int32)).toInt64)]))
  refine Till.pre (fun _ hr => XS.lrem X0.here hx rfl (hb hby at_42) rfl (own_tz (own_g7 hu_g0) (own_g7 hu_g1) (own_g7 hu_g2) hu_tot) hr) ?_
  show Till p e below s (Q0 Z q1 p2 p3 p4 p5 h0 n0) room_1.cells room_1.slots (s₁.setTop (mkF m 43 #[.val (.long q1), .second, .val (.int p2), .val (.int p3), .val (.int p4), .val (.int p5), .val (.long g0), .second, .val (.long g1), .second, .val (.long g2), .second, .val (.long tot), .second, .unset, .unset, .unset, .unset, .unset, .unset, .unset, .unset, .unset, .unset, .unset, .unset, .unset] [(.long ((p5 &&& (2147483647 : Int32)).toInt64 - ((p5 &&& (2147483647 : Int32)).toInt64 / (tot + (1 : Int64))) * (tot + (1 : Int64))))]))
  generalize hu_cnt : ((p5 &&& (2147483647 : Int32)).toInt64 - ((p5 &&& (2147483647 : Int32)).toInt64 / (tot + (1 : Int64))) * (tot + (1 : Int64))) = cnt
  show Till p e below s (Q0 Z q1 p2 p3 p4 p5 h0 n0) room_1.cells room_1.slots (s₁.setTop (mkF m 43 #[.val (.long q1), .second, .val (.int p2), .val (.int p3), .val (.int p4), .val (.int p5), .val (.long g0), .second, .val (.long g1), .second, .val (.long g2), .second, .val (.long tot), .second, .unset, .unset, .unset, .unset, .unset, .unset, .unset, .unset, .unset, .unset, .unset, .unset, .unset] [(.long cnt)]))
  refine Till.pre (fun _ hr => XS.lstore X0.here hx rfl (hb hby at_43) rfl (l' := #[.val (.long q1), .second, .val (.int p2), .val (.int p3), .val (.int p4), .val (.int p5), .val (.long g0), .second, .val (.long g1), .second, .val (.long g2), .second, .val (.long tot), .second, .val (.long cnt), .second, .unset, .unset, .unset, .unset, .unset, .unset, .unset, .unset, .unset, .unset, .unset]) rfl hr) ?_
  show Till p e below s (Q0 Z q1 p2 p3 p4 p5 h0 n0) room_1.cells room_1.slots (s₁.setTop (mkF m 45 #[.val (.long q1), .second, .val (.int p2), .val (.int p3), .val (.int p4), .val (.int p5), .val (.long g0), .second, .val (.long g1), .second, .val (.long g2), .second, .val (.long tot), .second, .val (.long cnt), .second, .unset, .unset, .unset, .unset, .unset, .unset, .unset, .unset, .unset, .unset, .unset] []))
  refine Till.pre (fun _ hr => XS.iconst X0.here hx rfl (hb hby at_45) hr) ?_
  show Till p e below s (Q0 Z q1 p2 p3 p4 p5 h0 n0) room_1.cells room_1.slots (s₁.setTop (mkF m 46 #[.val (.long q1), .second, .val (.int p2), .val (.int p3), .val (.int p4), .val (.int p5), .val (.long g0), .second, .val (.long g1), .second, .val (.long g2), .second, .val (.long tot), .second, .val (.long cnt), .second, .unset, .unset, .unset, .unset, .unset, .unset, .unset, .unset, .unset, .unset, .unset] [(.int (3 : Int32))]))
  refine Till.newA (aty := .long) (w := Value.long) (d0 := (0 : Int64)) X0 hx hZ (hw _ (List.mem_of_getElem? (i := 1) rfl)) e0 (hb hby at_46) rfl (by decide) 3 (by decide) (by decide) (by decide) (by decide) (fun T1 h2 b3 g4 X5 e6 E7 A8 => ?_)
  have g_b3 : n0 ≤ b3 := Nat.le_trans Zs (Nat.le_of_eq g4.symm)
  have Zs := Nat.le_trans Zs E7.1
  have R_b3 : LA Z h2 b3 (3 : Int32) (fun _ => (0 : Int64)) := A8
  show Till p e below s (Q0 Z q1 p2 p3 p4 p5 h0 n0) room_1.cells room_1.slots (T1.setTop (mkF m 48 #[.val (.long q1), .second, .val (.int p2), .val (.int p3), .val (.int p4), .val (.int p5), .val (.long g0), .second, .val (.long g1), .second, .val (.long g2), .second, .val (.long tot), .second, .val (.long cnt), .second, .unset, .unset, .unset, .unset, .unset, .unset, .unset, .unset, .unset, .unset, .unset] [(.ref b3)]))
  refine Till.pre (fun _ hr => XS.dup X5.here hx rfl (hb hby at_48) rfl rfl hr) ?_
  show Till p e below s (Q0 Z q1 p2 p3 p4 p5 h0 n0) room_1.cells room_1.slots (T1.setTop (mkF m 49 #[.val (.long q1), .second, .val (.int p2), .val (.int p3), .val (.int p4), .val (.int p5), .val (.long g0), .second, .val (.long g1), .second, .val (.long g2), .second, .val (.long tot), .second, .val (.long cnt), .second, .unset, .unset, .unset, .unset, .unset, .unset, .unset, .unset, .unset, .unset, .unset] [(.ref b3), (.ref b3)]))
  refine Till.pre (fun _ hr => XS.iconst X5.here hx rfl (hb hby at_49) hr) ?_
  show Till p e below s (Q0 Z q1 p2 p3 p4 p5 h0 n0) room_1.cells room_1.slots (T1.setTop (mkF m 50 #[.val (.long q1), .second, .val (.int p2), .val (.int p3), .val (.int p4), .val (.int p5), .val (.long g0), .second, .val (.long g1), .second, .val (.long g2), .second, .val (.long tot), .second, .val (.long cnt), .second, .unset, .unset, .unset, .unset, .unset, .unset, .unset, .unset, .unset, .unset, .unset] [(.int (0 : Int32)), (.ref b3), (.ref b3)]))
  refine Till.pre (fun _ hr => XS.lload X5.here hx rfl (hb hby at_50) rfl hr) ?_
  show Till p e below s (Q0 Z q1 p2 p3 p4 p5 h0 n0) room_1.cells room_1.slots (T1.setTop (mkF m 52 #[.val (.long q1), .second, .val (.int p2), .val (.int p3), .val (.int p4), .val (.int p5), .val (.long g0), .second, .val (.long g1), .second, .val (.long g2), .second, .val (.long tot), .second, .val (.long cnt), .second, .unset, .unset, .unset, .unset, .unset, .unset, .unset, .unset, .unset, .unset, .unset] [(.long g0), (.int (0 : Int32)), (.ref b3), (.ref b3)]))
  refine Till.lastore R_b3 (by decide) (by decide) X5 hx hZ e6 (hb hby at_52) (fun T9 h10 X11 e12 W13 A14 => ?_)
  have N15 := Fr.snoc X11 N0 g_b3
  have Zs := Nat.le_trans Zs (Keep.of_wr W13).1
  have R_b3 : LA Z h10 b3 (3 : Int32) (oupd (fun _ => (0 : Int64)) 0 g0) := A14
  show Till p e below s (Q0 Z q1 p2 p3 p4 p5 h0 n0) room_1.cells room_1.slots (T9.setTop (mkF m 53 #[.val (.long q1), .second, .val (.int p2), .val (.int p3), .val (.int p4), .val (.int p5), .val (.long g0), .second, .val (.long g1), .second, .val (.long g2), .second, .val (.long tot), .second, .val (.long cnt), .second, .unset, .unset, .unset, .unset, .unset, .unset, .unset, .unset, .unset, .unset, .unset] [(.ref b3)]))
  refine Till.pre (fun _ hr => XS.dup X11.here hx rfl (hb hby at_53) rfl rfl hr) ?_
  show Till p e below s (Q0 Z q1 p2 p3 p4 p5 h0 n0) room_1.cells room_1.slots (T9.setTop (mkF m 54 #[.val (.long q1), .second, .val (.int p2), .val (.int p3), .val (.int p4), .val (.int p5), .val (.long g0), .second, .val (.long g1), .second, .val (.long g2), .second, .val (.long tot), .second, .val (.long cnt), .second, .unset, .unset, .unset, .unset, .unset, .unset, .unset, .unset, .unset, .unset, .unset] [(.ref b3), (.ref b3)]))
  refine Till.pre (fun _ hr => XS.iconst X11.here hx rfl (hb hby at_54) hr) ?_
  show Till p e below s (Q0 Z q1 p2 p3 p4 p5 h0 n0) room_1.cells room_1.slots (T9.setTop (mkF m 55 #[.val (.long q1), .second, .val (.int p2), .val (.int p3), .val (.int p4), .val (.int p5), .val (.long g0), .second, .val (.long g1), .second, .val (.long g2), .second, .val (.long tot), .second, .val (.long cnt), .second, .unset, .unset, .unset, .unset, .unset, .unset, .unset, .unset, .unset, .unset, .unset] [(.int (1 : Int32)), (.ref b3), (.ref b3)]))
  refine Till.pre (fun _ hr => XS.lload X11.here hx rfl (hb hby at_55) rfl hr) ?_
  show Till p e below s (Q0 Z q1 p2 p3 p4 p5 h0 n0) room_1.cells room_1.slots (T9.setTop (mkF m 57 #[.val (.long q1), .second, .val (.int p2), .val (.int p3), .val (.int p4), .val (.int p5), .val (.long g0), .second, .val (.long g1), .second, .val (.long g2), .second, .val (.long tot), .second, .val (.long cnt), .second, .unset, .unset, .unset, .unset, .unset, .unset, .unset, .unset, .unset, .unset, .unset] [(.long g1), (.int (1 : Int32)), (.ref b3), (.ref b3)]))
  refine Till.lastore R_b3 (by decide) (by decide) X11 hx hZ e12 (hb hby at_57) (fun T16 h17 X18 e19 W20 A21 => ?_)
  have N22 := Fr.snoc X18 N15 g_b3
  have Zs := Nat.le_trans Zs (Keep.of_wr W20).1
  have R_b3 : LA Z h17 b3 (3 : Int32) (oupd (oupd (fun _ => (0 : Int64)) 0 g0) 1 g1) := A21
  show Till p e below s (Q0 Z q1 p2 p3 p4 p5 h0 n0) room_1.cells room_1.slots (T16.setTop (mkF m 58 #[.val (.long q1), .second, .val (.int p2), .val (.int p3), .val (.int p4), .val (.int p5), .val (.long g0), .second, .val (.long g1), .second, .val (.long g2), .second, .val (.long tot), .second, .val (.long cnt), .second, .unset, .unset, .unset, .unset, .unset, .unset, .unset, .unset, .unset, .unset, .unset] [(.ref b3)]))
  refine Till.pre (fun _ hr => XS.dup X18.here hx rfl (hb hby at_58) rfl rfl hr) ?_
  show Till p e below s (Q0 Z q1 p2 p3 p4 p5 h0 n0) room_1.cells room_1.slots (T16.setTop (mkF m 59 #[.val (.long q1), .second, .val (.int p2), .val (.int p3), .val (.int p4), .val (.int p5), .val (.long g0), .second, .val (.long g1), .second, .val (.long g2), .second, .val (.long tot), .second, .val (.long cnt), .second, .unset, .unset, .unset, .unset, .unset, .unset, .unset, .unset, .unset, .unset, .unset] [(.ref b3), (.ref b3)]))
  refine Till.pre (fun _ hr => XS.iconst X18.here hx rfl (hb hby at_59) hr) ?_
  show Till p e below s (Q0 Z q1 p2 p3 p4 p5 h0 n0) room_1.cells room_1.slots (T16.setTop (mkF m 60 #[.val (.long q1), .second, .val (.int p2), .val (.int p3), .val (.int p4), .val (.int p5), .val (.long g0), .second, .val (.long g1), .second, .val (.long g2), .second, .val (.long tot), .second, .val (.long cnt), .second, .unset, .unset, .unset, .unset, .unset, .unset, .unset, .unset, .unset, .unset, .unset] [(.int (2 : Int32)), (.ref b3), (.ref b3)]))
  refine Till.pre (fun _ hr => XS.lload X18.here hx rfl (hb hby at_60) rfl hr) ?_
  show Till p e below s (Q0 Z q1 p2 p3 p4 p5 h0 n0) room_1.cells room_1.slots (T16.setTop (mkF m 62 #[.val (.long q1), .second, .val (.int p2), .val (.int p3), .val (.int p4), .val (.int p5), .val (.long g0), .second, .val (.long g1), .second, .val (.long g2), .second, .val (.long tot), .second, .val (.long cnt), .second, .unset, .unset, .unset, .unset, .unset, .unset, .unset, .unset, .unset, .unset, .unset] [(.long g2), (.int (2 : Int32)), (.ref b3), (.ref b3)]))
  refine Till.lastore R_b3 (by decide) (by decide) X18 hx hZ e19 (hb hby at_62) (fun T23 h24 X25 e26 W27 A28 => ?_)
  have N29 := Fr.snoc X25 N22 g_b3
  have Zs := Nat.le_trans Zs (Keep.of_wr W27).1
  have R_b3 : LA Z h24 b3 (3 : Int32) (oupd (oupd (oupd (fun _ => (0 : Int64)) 0 g0) 1 g1) 2 g2) := A28
  show Till p e below s (Q0 Z q1 p2 p3 p4 p5 h0 n0) room_1.cells room_1.slots (T23.setTop (mkF m 63 #[.val (.long q1), .second, .val (.int p2), .val (.int p3), .val (.int p4), .val (.int p5), .val (.long g0), .second, .val (.long g1), .second, .val (.long g2), .second, .val (.long tot), .second, .val (.long cnt), .second, .unset, .unset, .unset, .unset, .unset, .unset, .unset, .unset, .unset, .unset, .unset] [(.ref b3)]))
  refine Till.pre (fun _ hr => XS.astore X25.here hx rfl (hb hby at_63) rfl rfl (l' := #[.val (.long q1), .second, .val (.int p2), .val (.int p3), .val (.int p4), .val (.int p5), .val (.long g0), .second, .val (.long g1), .second, .val (.long g2), .second, .val (.long tot), .second, .val (.long cnt), .second, .val (.ref b3), .unset, .unset, .unset, .unset, .unset, .unset, .unset, .unset, .unset, .unset]) rfl hr) ?_
  show Till p e below s (Q0 Z q1 p2 p3 p4 p5 h0 n0) room_1.cells room_1.slots (T23.setTop (mkF m 65 #[.val (.long q1), .second, .val (.int p2), .val (.int p3), .val (.int p4), .val (.int p5), .val (.long g0), .second, .val (.long g1), .second, .val (.long g2), .second, .val (.long tot), .second, .val (.long cnt), .second, .val (.ref b3), .unset, .unset, .unset, .unset, .unset, .unset, .unset, .unset, .unset, .unset] []))
  refine Till.newO X25 hx hZ hown (hw _ (List.mem_of_getElem? (i := 2) rfl)) (hw _ (List.mem_of_getElem? (i := 3) rfl)) (hw _ (List.mem_of_getElem? (i := 4) rfl)) e26 (hb hby at_65) (by decide) (by decide) (fun T30 h31 b32 g33 X34 e35 E36 A37 D38 => ?_)
  have ne_b3_b32 : b3 ≠ b32 := Nat.ne_of_lt (Nat.lt_of_lt_of_le R_b3.lt (Nat.le_of_eq g33.symm))
  have g_b32 : n0 ≤ b32 := Nat.le_trans Zs (Nat.le_of_eq g33.symm)
  have R_b3 := R_b3.ext E36
  have Zs := Nat.le_trans Zs E36.1
  have R_b32 : Lot Z h31 b32 (0 : Int64) := ⟨A37, D38 (Or.inl (hw _ (List.mem_of_getElem? (i := 12) rfl))) (ty := .long) (by decide)⟩
  show Till p e below s (Q0 Z q1 p2 p3 p4 p5 h0 n0) room_1.cells room_1.slots (T30.setTop (mkF m 68 #[.val (.long q1), .second, .val (.int p2), .val (.int p3), .val (.int p4), .val (.int p5), .val (.long g0), .second, .val (.long g1), .second, .val (.long g2), .second, .val (.long tot), .second, .val (.long cnt), .second, .val (.ref b3), .unset, .unset, .unset, .unset, .unset, .unset, .unset, .unset, .unset, .unset] [(.ref b32)]))
  refine Till.pre (fun _ hr => XS.dup X34.here hx rfl (hb hby at_68) rfl rfl hr) ?_
  show Till p e below s (Q0 Z q1 p2 p3 p4 p5 h0 n0) room_1.cells room_1.slots (T30.setTop (mkF m 69 #[.val (.long q1), .second, .val (.int p2), .val (.int p3), .val (.int p4), .val (.int p5), .val (.long g0), .second, .val (.long g1), .second, .val (.long g2), .second, .val (.long tot), .second, .val (.long cnt), .second, .val (.ref b3), .unset, .unset, .unset, .unset, .unset, .unset, .unset, .unset, .unset, .unset] [(.ref b32), (.ref b32)]))
  refine Till.pre (fun _ hr => XS.lloadN X34.here hx rfl (hb hby at_69) rfl hr) ?_
  show Till p e below s (Q0 Z q1 p2 p3 p4 p5 h0 n0) room_1.cells room_1.slots (T30.setTop (mkF m 70 #[.val (.long q1), .second, .val (.int p2), .val (.int p3), .val (.int p4), .val (.int p5), .val (.long g0), .second, .val (.long g1), .second, .val (.long g2), .second, .val (.long tot), .second, .val (.long cnt), .second, .val (.ref b3), .unset, .unset, .unset, .unset, .unset, .unset, .unset, .unset, .unset, .unset] [(.long q1), (.ref b32), (.ref b32)]))
  refine Till.callC (rm1 l Z a0 hw b32 q1 (0 : Int64) h31 n0 Zs R_b32 g_b32) X34 hx hZ hown rfl (hw _ (List.mem_of_getElem? (i := 5) rfl)) (hw _ (List.mem_of_getElem? (i := 6) rfl)) (hw _ (List.mem_of_getElem? (i := 4) rfl)) (hw _ (List.mem_of_getElem? (i := 7) rfl)) (by decide) (by decide) (W := 1) (by decide) (by rw [hml]; rfl) (a := b32) (argsL := [(.long q1)]) (rest := [(.ref b32)]) (lenOf pd0_3 rfl) rfl rfl (Nat.le_of_eq rfl) (hb hby at_70) e35 (by decide) (by decide) ?_
  rintro _ T39 L40 X41 ⟨rfl, N42, K43, q44⟩
  have N42 := Fr.app N29 N42
  have R_b3 := R_b3.keep K43 (ninS ne_b3_b32 nin0)
  have Zs := Nat.le_trans Zs K43.1
  have R_b32 : Lot Z T39.heap b32 q1 := q44
  show Till p e below s (Q0 Z q1 p2 p3 p4 p5 h0 n0) room_1.cells room_1.slots (T39.setTop (mkF m 73 #[.val (.long q1), .second, .val (.int p2), .val (.int p3), .val (.int p4), .val (.int p5), .val (.long g0), .second, .val (.long g1), .second, .val (.long g2), .second, .val (.long tot), .second, .val (.long cnt), .second, .val (.ref b3), .unset, .unset, .unset, .unset, .unset, .unset, .unset, .unset, .unset, .unset] [(.ref b32)]))
  refine Till.pre (fun _ hr => XS.astore X41.here hx rfl (hb hby at_73) rfl rfl (l' := #[.val (.long q1), .second, .val (.int p2), .val (.int p3), .val (.int p4), .val (.int p5), .val (.long g0), .second, .val (.long g1), .second, .val (.long g2), .second, .val (.long tot), .second, .val (.long cnt), .second, .val (.ref b3), .val (.ref b32), .unset, .unset, .unset, .unset, .unset, .unset, .unset, .unset, .unset]) rfl hr) ?_
  show Till p e below s (Q0 Z q1 p2 p3 p4 p5 h0 n0) room_1.cells room_1.slots (T39.setTop (mkF m 75 #[.val (.long q1), .second, .val (.int p2), .val (.int p3), .val (.int p4), .val (.int p5), .val (.long g0), .second, .val (.long g1), .second, .val (.long g2), .second, .val (.long tot), .second, .val (.long cnt), .second, .val (.ref b3), .val (.ref b32), .unset, .unset, .unset, .unset, .unset, .unset, .unset, .unset, .unset] []))
  refine Till.pre (fun _ hr => XS.aload X41.here hx rfl (hb hby at_75) rfl rfl hr) ?_
  show Till p e below s (Q0 Z q1 p2 p3 p4 p5 h0 n0) room_1.cells room_1.slots (T39.setTop (mkF m 77 #[.val (.long q1), .second, .val (.int p2), .val (.int p3), .val (.int p4), .val (.int p5), .val (.long g0), .second, .val (.long g1), .second, .val (.long g2), .second, .val (.long tot), .second, .val (.long cnt), .second, .val (.ref b3), .val (.ref b32), .unset, .unset, .unset, .unset, .unset, .unset, .unset, .unset, .unset] [(.ref b32)]))
  refine Till.pre (fun _ hr => XS.aload X41.here hx rfl (hb hby at_77) rfl rfl hr) ?_
  show Till p e below s (Q0 Z q1 p2 p3 p4 p5 h0 n0) room_1.cells room_1.slots (T39.setTop (mkF m 79 #[.val (.long q1), .second, .val (.int p2), .val (.int p3), .val (.int p4), .val (.int p5), .val (.long g0), .second, .val (.long g1), .second, .val (.long g2), .second, .val (.long tot), .second, .val (.long cnt), .second, .val (.ref b3), .val (.ref b32), .unset, .unset, .unset, .unset, .unset, .unset, .unset, .unset, .unset] [(.ref b3), (.ref b32)]))
  refine Till.pre (fun _ hr => XS.lload X41.here hx rfl (hb hby at_79) rfl hr) ?_
  show Till p e below s (Q0 Z q1 p2 p3 p4 p5 h0 n0) room_1.cells room_1.slots (T39.setTop (mkF m 81 #[.val (.long q1), .second, .val (.int p2), .val (.int p3), .val (.int p4), .val (.int p5), .val (.long g0), .second, .val (.long g1), .second, .val (.long g2), .second, .val (.long tot), .second, .val (.long cnt), .second, .val (.ref b3), .val (.ref b32), .unset, .unset, .unset, .unset, .unset, .unset, .unset, .unset, .unset] [(.long cnt), (.ref b3), (.ref b32)]))
  refine Till.callV (rm2 l Z a0 hw b32 b3 cnt q1 (oupd (oupd (oupd (fun _ => (0 : Int64)) 0 g0) 1 g1) 2 g2) T39.heap n0 Zs R_b32 R_b3 g_b32 (Ne.symm ne_b3_b32) (⟨own_g7 hu_g0, own_g7 hu_g1, own_g7 hu_g2⟩) (own_Cs (own_g7 hu_g0) (own_g7 hu_g1) (own_g7 hu_g2) hu_tot hu_cnt)) R_b32.1 X41 hx hZ hown (hw _ (List.mem_of_getElem? (i := 13) rfl)) (hw _ (List.mem_of_getElem? (i := 14) rfl)) (hw _ (List.mem_of_getElem? (i := 16) rfl)) (hw _ (List.mem_of_getElem? (i := 15) rfl)) (hw _ (List.mem_of_getElem? (i := 4) rfl)) (hw _ (List.mem_of_getElem? (i := 17) rfl)) (by decide) (by decide) (W := 0) (by decide) (by rw [hml]; rfl) (a := b32) (argsL := [(.ref b3), (.long cnt)]) (rest := []) (lenOf pd0_5 rfl) rfl rfl (Nat.le_of_eq rfl) (hb hby at_81) rfl (by decide) (by decide) ?_
  rintro _ T45 L46 X47 ⟨b49, W50, d51, rfl, N48, K52, szq53, q54, q55, po56⟩
  have N48 := Fr.app N42 N48
  have ne_b3_b49 : b3 ≠ b49 := Nat.ne_of_lt (Nat.lt_of_lt_of_le R_b3.lt szq53)
  have ne_b32_b49 : b32 ≠ b49 := Nat.ne_of_lt (Nat.lt_of_lt_of_le R_b32.lt szq53)
  have g_b49 : n0 ≤ b49 := Nat.le_trans Zs szq53
  have R_b3 := R_b3.keep K52 (ninS ne_b3_b32 nin0)
  have Zs := Nat.le_trans Zs K52.1
  have R_b32 : Lot Z T45.heap b32 W50 := q54
  have R_b49 : LA Z T45.heap b49 (3 : Int32) d51 := q55
  show Till p e below s (Q0 Z q1 p2 p3 p4 p5 h0 n0) room_1.cells room_1.slots (T45.setTop (mkF m 84 #[.val (.long q1), .second, .val (.int p2), .val (.int p3), .val (.int p4), .val (.int p5), .val (.long g0), .second, .val (.long g1), .second, .val (.long g2), .second, .val (.long tot), .second, .val (.long cnt), .second, .val (.ref b3), .val (.ref b32), .unset, .unset, .unset, .unset, .unset, .unset, .unset, .unset, .unset] [(.ref b49)]))
  refine Till.pre (fun _ hr => XS.astore X47.here hx rfl (hb hby at_84) rfl rfl (l' := #[.val (.long q1), .second, .val (.int p2), .val (.int p3), .val (.int p4), .val (.int p5), .val (.long g0), .second, .val (.long g1), .second, .val (.long g2), .second, .val (.long tot), .second, .val (.long cnt), .second, .val (.ref b3), .val (.ref b32), .val (.ref b49), .unset, .unset, .unset, .unset, .unset, .unset, .unset, .unset]) rfl hr) ?_
  show Till p e below s (Q0 Z q1 p2 p3 p4 p5 h0 n0) room_1.cells room_1.slots (T45.setTop (mkF m 86 #[.val (.long q1), .second, .val (.int p2), .val (.int p3), .val (.int p4), .val (.int p5), .val (.long g0), .second, .val (.long g1), .second, .val (.long g2), .second, .val (.long tot), .second, .val (.long cnt), .second, .val (.ref b3), .val (.ref b32), .val (.ref b49), .unset, .unset, .unset, .unset, .unset, .unset, .unset, .unset] []))
  refine Till.pre (fun _ hr => XS.aload X47.here hx rfl (hb hby at_86) rfl rfl hr) ?_
  show Till p e below s (Q0 Z q1 p2 p3 p4 p5 h0 n0) room_1.cells room_1.slots (T45.setTop (mkF m 88 #[.val (.long q1), .second, .val (.int p2), .val (.int p3), .val (.int p4), .val (.int p5), .val (.long g0), .second, .val (.long g1), .second, .val (.long g2), .second, .val (.long tot), .second, .val (.long cnt), .second, .val (.ref b3), .val (.ref b32), .val (.ref b49), .unset, .unset, .unset, .unset, .unset, .unset, .unset, .unset] [(.ref b3)]))
  refine Till.pre (fun _ hr => XS.iconst X47.here hx rfl (hb hby at_88) hr) ?_
  show Till p e below s (Q0 Z q1 p2 p3 p4 p5 h0 n0) room_1.cells room_1.slots (T45.setTop (mkF m 89 #[.val (.long q1), .second, .val (.int p2), .val (.int p3), .val (.int p4), .val (.int p5), .val (.long g0), .second, .val (.long g1), .second, .val (.long g2), .second, .val (.long tot), .second, .val (.long cnt), .second, .val (.ref b3), .val (.ref b32), .val (.ref b49), .unset, .unset, .unset, .unset, .unset, .unset, .unset, .unset] [(.int (0 : Int32)), (.ref b3)]))
  refine Till.laload R_b3 (by decide) (by decide) X47 hx hZ rfl (hb hby at_89) ?_
  show Till p e below s (Q0 Z q1 p2 p3 p4 p5 h0 n0) room_1.cells room_1.slots (T45.setTop (mkF m 90 #[.val (.long q1), .second, .val (.int p2), .val (.int p3), .val (.int p4), .val (.int p5), .val (.long g0), .second, .val (.long g1), .second, .val (.long g2), .second, .val (.long tot), .second, .val (.long cnt), .second, .val (.ref b3), .val (.ref b32), .val (.ref b49), .unset, .unset, .unset, .unset, .unset, .unset, .unset, .unset] [(.long ((oupd (oupd (oupd (fun _ => (0 : Int64)) 0 g0) 1 g1) 2 g2) 0))]))
  refine Till.pre (fun _ hr => XS.lload X47.here hx rfl (hb hby at_90) rfl hr) ?_
  show Till p e below s (Q0 Z q1 p2 p3 p4 p5 h0 n0) room_1.cells room_1.slots (T45.setTop (mkF m 92 #[.val (.long q1), .second, .val (.int p2), .val (.int p3), .val (.int p4), .val (.int p5), .val (.long g0), .second, .val (.long g1), .second, .val (.long g2), .second, .val (.long tot), .second, .val (.long cnt), .second, .val (.ref b3), .val (.ref b32), .val (.ref b49), .unset, .unset, .unset, .unset, .unset, .unset, .unset, .unset] [(.long g0), (.long ((oupd (oupd (oupd (fun _ => (0 : Int64)) 0 g0) 1 g1) 2 g2) 0))]))
  refine Till.pre (fun _ hr => XS.lcmp X47.here hx rfl (hb hby at_92) rfl hr) ?_
  show Till p e below s (Q0 Z q1 p2 p3 p4 p5 h0 n0) room_1.cells room_1.slots (T45.setTop (mkF m 93 #[.val (.long q1), .second, .val (.int p2), .val (.int p3), .val (.int p4), .val (.int p5), .val (.long g0), .second, .val (.long g1), .second, .val (.long g2), .second, .val (.long tot), .second, .val (.long cnt), .second, .val (.ref b3), .val (.ref b32), .val (.ref b49), .unset, .unset, .unset, .unset, .unset, .unset, .unset, .unset] [(.int (lcmpW ((oupd (oupd (oupd (fun _ => (0 : Int64)) 0 g0) 1 g1) 2 g2) 0) g0))]))
  refine Till.ifc (pc' := 116) X47.here hx (hb hby at_93) (by decide) (by decide) (fun q => absurd (rfl : (((oupd (oupd (oupd (fun _ => (0 : Int64)) 0 g0) 1 g1) 2 g2) 0) = g0)) (mt lEq.mpr (hEq.2.2.1 q))) (fun q => ?_)
  show Till p e below s (Q0 Z q1 p2 p3 p4 p5 h0 n0) room_1.cells room_1.slots (T45.setTop (mkF m 96 #[.val (.long q1), .second, .val (.int p2), .val (.int p3), .val (.int p4), .val (.int p5), .val (.long g0), .second, .val (.long g1), .second, .val (.long g2), .second, .val (.long tot), .second, .val (.long cnt), .second, .val (.ref b3), .val (.ref b32), .val (.ref b49), .unset, .unset, .unset, .unset, .unset, .unset, .unset, .unset] []))
  refine Till.pre (fun _ hr => XS.aload X47.here hx rfl (hb hby at_96) rfl rfl hr) ?_
  show Till p e below s (Q0 Z q1 p2 p3 p4 p5 h0 n0) room_1.cells room_1.slots (T45.setTop (mkF m 98 #[.val (.long q1), .second, .val (.int p2), .val (.int p3), .val (.int p4), .val (.int p5), .val (.long g0), .second, .val (.long g1), .second, .val (.long g2), .second, .val (.long tot), .second, .val (.long cnt), .second, .val (.ref b3), .val (.ref b32), .val (.ref b49), .unset, .unset, .unset, .unset, .unset, .unset, .unset, .unset] [(.ref b3)]))
  refine Till.pre (fun _ hr => XS.iconst X47.here hx rfl (hb hby at_98) hr) ?_
  show Till p e below s (Q0 Z q1 p2 p3 p4 p5 h0 n0) room_1.cells room_1.slots (T45.setTop (mkF m 99 #[.val (.long q1), .second, .val (.int p2), .val (.int p3), .val (.int p4), .val (.int p5), .val (.long g0), .second, .val (.long g1), .second, .val (.long g2), .second, .val (.long tot), .second, .val (.long cnt), .second, .val (.ref b3), .val (.ref b32), .val (.ref b49), .unset, .unset, .unset, .unset, .unset, .unset, .unset, .unset] [(.int (1 : Int32)), (.ref b3)]))
  refine Till.laload R_b3 (by decide) (by decide) X47 hx hZ rfl (hb hby at_99) ?_
  show Till p e below s (Q0 Z q1 p2 p3 p4 p5 h0 n0) room_1.cells room_1.slots (T45.setTop (mkF m 100 #[.val (.long q1), .second, .val (.int p2), .val (.int p3), .val (.int p4), .val (.int p5), .val (.long g0), .second, .val (.long g1), .second, .val (.long g2), .second, .val (.long tot), .second, .val (.long cnt), .second, .val (.ref b3), .val (.ref b32), .val (.ref b49), .unset, .unset, .unset, .unset, .unset, .unset, .unset, .unset] [(.long ((oupd (oupd (oupd (fun _ => (0 : Int64)) 0 g0) 1 g1) 2 g2) 1))]))
  refine Till.pre (fun _ hr => XS.lload X47.here hx rfl (hb hby at_100) rfl hr) ?_
  show Till p e below s (Q0 Z q1 p2 p3 p4 p5 h0 n0) room_1.cells room_1.slots (T45.setTop (mkF m 102 #[.val (.long q1), .second, .val (.int p2), .val (.int p3), .val (.int p4), .val (.int p5), .val (.long g0), .second, .val (.long g1), .second, .val (.long g2), .second, .val (.long tot), .second, .val (.long cnt), .second, .val (.ref b3), .val (.ref b32), .val (.ref b49), .unset, .unset, .unset, .unset, .unset, .unset, .unset, .unset] [(.long g1), (.long ((oupd (oupd (oupd (fun _ => (0 : Int64)) 0 g0) 1 g1) 2 g2) 1))]))
  refine Till.pre (fun _ hr => XS.lcmp X47.here hx rfl (hb hby at_102) rfl hr) ?_
  show Till p e below s (Q0 Z q1 p2 p3 p4 p5 h0 n0) room_1.cells room_1.slots (T45.setTop (mkF m 103 #[.val (.long q1), .second, .val (.int p2), .val (.int p3), .val (.int p4), .val (.int p5), .val (.long g0), .second, .val (.long g1), .second, .val (.long g2), .second, .val (.long tot), .second, .val (.long cnt), .second, .val (.ref b3), .val (.ref b32), .val (.ref b49), .unset, .unset, .unset, .unset, .unset, .unset, .unset, .unset] [(.int (lcmpW ((oupd (oupd (oupd (fun _ => (0 : Int64)) 0 g0) 1 g1) 2 g2) 1) g1))]))
  refine Till.ifc (pc' := 116) X47.here hx (hb hby at_103) (by decide) (by decide) (fun q => absurd (rfl : (((oupd (oupd (oupd (fun _ => (0 : Int64)) 0 g0) 1 g1) 2 g2) 1) = g1)) (mt lEq.mpr (hEq.2.2.1 q))) (fun q => ?_)
  show Till p e below s (Q0 Z q1 p2 p3 p4 p5 h0 n0) room_1.cells room_1.slots (T45.setTop (mkF m 106 #[.val (.long q1), .second, .val (.int p2), .val (.int p3), .val (.int p4), .val (.int p5), .val (.long g0), .second, .val (.long g1), .second, .val (.long g2), .second, .val (.long tot), .second, .val (.long cnt), .second, .val (.ref b3), .val (.ref b32), .val (.ref b49), .unset, .unset, .unset, .unset, .unset, .unset, .unset, .unset] []))
  refine Till.pre (fun _ hr => XS.aload X47.here hx rfl (hb hby at_106) rfl rfl hr) ?_
  show Till p e below s (Q0 Z q1 p2 p3 p4 p5 h0 n0) room_1.cells room_1.slots (T45.setTop (mkF m 108 #[.val (.long q1), .second, .val (.int p2), .val (.int p3), .val (.int p4), .val (.int p5), .val (.long g0), .second, .val (.long g1), .second, .val (.long g2), .second, .val (.long tot), .second, .val (.long cnt), .second, .val (.ref b3), .val (.ref b32), .val (.ref b49), .unset, .unset, .unset, .unset, .unset, .unset, .unset, .unset] [(.ref b3)]))
  refine Till.pre (fun _ hr => XS.iconst X47.here hx rfl (hb hby at_108) hr) ?_
  show Till p e below s (Q0 Z q1 p2 p3 p4 p5 h0 n0) room_1.cells room_1.slots (T45.setTop (mkF m 109 #[.val (.long q1), .second, .val (.int p2), .val (.int p3), .val (.int p4), .val (.int p5), .val (.long g0), .second, .val (.long g1), .second, .val (.long g2), .second, .val (.long tot), .second, .val (.long cnt), .second, .val (.ref b3), .val (.ref b32), .val (.ref b49), .unset, .unset, .unset, .unset, .unset, .unset, .unset, .unset] [(.int (2 : Int32)), (.ref b3)]))
  refine Till.laload R_b3 (by decide) (by decide) X47 hx hZ rfl (hb hby at_109) ?_
  show Till p e below s (Q0 Z q1 p2 p3 p4 p5 h0 n0) room_1.cells room_1.slots (T45.setTop (mkF m 110 #[.val (.long q1), .second, .val (.int p2), .val (.int p3), .val (.int p4), .val (.int p5), .val (.long g0), .second, .val (.long g1), .second, .val (.long g2), .second, .val (.long tot), .second, .val (.long cnt), .second, .val (.ref b3), .val (.ref b32), .val (.ref b49), .unset, .unset, .unset, .unset, .unset, .unset, .unset, .unset] [(.long ((oupd (oupd (oupd (fun _ => (0 : Int64)) 0 g0) 1 g1) 2 g2) 2))]))
  refine Till.pre (fun _ hr => XS.lload X47.here hx rfl (hb hby at_110) rfl hr) ?_
  show Till p e below s (Q0 Z q1 p2 p3 p4 p5 h0 n0) room_1.cells room_1.slots (T45.setTop (mkF m 112 #[.val (.long q1), .second, .val (.int p2), .val (.int p3), .val (.int p4), .val (.int p5), .val (.long g0), .second, .val (.long g1), .second, .val (.long g2), .second, .val (.long tot), .second, .val (.long cnt), .second, .val (.ref b3), .val (.ref b32), .val (.ref b49), .unset, .unset, .unset, .unset, .unset, .unset, .unset, .unset] [(.long g2), (.long ((oupd (oupd (oupd (fun _ => (0 : Int64)) 0 g0) 1 g1) 2 g2) 2))]))
  refine Till.pre (fun _ hr => XS.lcmp X47.here hx rfl (hb hby at_112) rfl hr) ?_
  show Till p e below s (Q0 Z q1 p2 p3 p4 p5 h0 n0) room_1.cells room_1.slots (T45.setTop (mkF m 113 #[.val (.long q1), .second, .val (.int p2), .val (.int p3), .val (.int p4), .val (.int p5), .val (.long g0), .second, .val (.long g1), .second, .val (.long g2), .second, .val (.long tot), .second, .val (.long cnt), .second, .val (.ref b3), .val (.ref b32), .val (.ref b49), .unset, .unset, .unset, .unset, .unset, .unset, .unset, .unset] [(.int (lcmpW ((oupd (oupd (oupd (fun _ => (0 : Int64)) 0 g0) 1 g1) 2 g2) 2) g2))]))
  refine Till.ifc (pc' := 118) X47.here hx (hb hby at_113) (by decide) (by decide) (fun q => ?_) (fun q => absurd (rfl : (((oupd (oupd (oupd (fun _ => (0 : Int64)) 0 g0) 1 g1) 2 g2) 2) = g2)) (mt lEq.mpr (hEq.2.1 q)))
  show Till p e below s (Q0 Z q1 p2 p3 p4 p5 h0 n0) room_1.cells room_1.slots (T45.setTop (mkF m 118 #[.val (.long q1), .second, .val (.int p2), .val (.int p3), .val (.int p4), .val (.int p5), .val (.long g0), .second, .val (.long g1), .second, .val (.long g2), .second, .val (.long tot), .second, .val (.long cnt), .second, .val (.ref b3), .val (.ref b32), .val (.ref b49), .unset, .unset, .unset, .unset, .unset, .unset, .unset, .unset] []))
  refine Till.pre (fun _ hr => XS.aload X47.here hx rfl (hb hby at_118) rfl rfl hr) ?_
  show Till p e below s (Q0 Z q1 p2 p3 p4 p5 h0 n0) room_1.cells room_1.slots (T45.setTop (mkF m 120 #[.val (.long q1), .second, .val (.int p2), .val (.int p3), .val (.int p4), .val (.int p5), .val (.long g0), .second, .val (.long g1), .second, .val (.long g2), .second, .val (.long tot), .second, .val (.long cnt), .second, .val (.ref b3), .val (.ref b32), .val (.ref b49), .unset, .unset, .unset, .unset, .unset, .unset, .unset, .unset] [(.ref b49)]))
  refine Till.alen R_b49 X47 hx hZ rfl (hb hby at_120) ?_
  show Till p e below s (Q0 Z q1 p2 p3 p4 p5 h0 n0) room_1.cells room_1.slots (T45.setTop (mkF m 121 #[.val (.long q1), .second, .val (.int p2), .val (.int p3), .val (.int p4), .val (.int p5), .val (.long g0), .second, .val (.long g1), .second, .val (.long g2), .second, .val (.long tot), .second, .val (.long cnt), .second, .val (.ref b3), .val (.ref b32), .val (.ref b49), .unset, .unset, .unset, .unset, .unset, .unset, .unset, .unset] [(.int (3 : Int32))]))
  refine Till.pre (fun _ hr => XS.iconst X47.here hx rfl (hb hby at_121) hr) ?_
  show Till p e below s (Q0 Z q1 p2 p3 p4 p5 h0 n0) room_1.cells room_1.slots (T45.setTop (mkF m 122 #[.val (.long q1), .second, .val (.int p2), .val (.int p3), .val (.int p4), .val (.int p5), .val (.long g0), .second, .val (.long g1), .second, .val (.long g2), .second, .val (.long tot), .second, .val (.long cnt), .second, .val (.ref b3), .val (.ref b32), .val (.ref b49), .unset, .unset, .unset, .unset, .unset, .unset, .unset, .unset] [(.int (3 : Int32)), (.int (3 : Int32))]))
  refine Till.icmp (pc' := 127) X47.here hx (hb hby at_122) (by decide) (by decide) (fun q => ?_) (fun q => absurd (by decide : ((3 : Int32) = (3 : Int32))) (hEq.2.1 q))
  show Till p e below s (Q0 Z q1 p2 p3 p4 p5 h0 n0) room_1.cells room_1.slots (T45.setTop (mkF m 127 #[.val (.long q1), .second, .val (.int p2), .val (.int p3), .val (.int p4), .val (.int p5), .val (.long g0), .second, .val (.long g1), .second, .val (.long g2), .second, .val (.long tot), .second, .val (.long cnt), .second, .val (.ref b3), .val (.ref b32), .val (.ref b49), .unset, .unset, .unset, .unset, .unset, .unset, .unset, .unset] []))
  refine Till.pre (fun _ hr => XS.aload X47.here hx rfl (hb hby at_127) rfl rfl hr) ?_
  show Till p e below s (Q0 Z q1 p2 p3 p4 p5 h0 n0) room_1.cells room_1.slots (T45.setTop (mkF m 129 #[.val (.long q1), .second, .val (.int p2), .val (.int p3), .val (.int p4), .val (.int p5), .val (.long g0), .second, .val (.long g1), .second, .val (.long g2), .second, .val (.long tot), .second, .val (.long cnt), .second, .val (.ref b3), .val (.ref b32), .val (.ref b49), .unset, .unset, .unset, .unset, .unset, .unset, .unset, .unset] [(.ref b49)]))
  refine Till.pre (fun _ hr => XS.iconst X47.here hx rfl (hb hby at_129) hr) ?_
  show Till p e below s (Q0 Z q1 p2 p3 p4 p5 h0 n0) room_1.cells room_1.slots (T45.setTop (mkF m 130 #[.val (.long q1), .second, .val (.int p2), .val (.int p3), .val (.int p4), .val (.int p5), .val (.long g0), .second, .val (.long g1), .second, .val (.long g2), .second, .val (.long tot), .second, .val (.long cnt), .second, .val (.ref b3), .val (.ref b32), .val (.ref b49), .unset, .unset, .unset, .unset, .unset, .unset, .unset, .unset] [(.int (0 : Int32)), (.ref b49)]))
  refine Till.laload R_b49 (by decide) (by decide) X47 hx hZ rfl (hb hby at_130) ?_
  show Till p e below s (Q0 Z q1 p2 p3 p4 p5 h0 n0) room_1.cells room_1.slots (T45.setTop (mkF m 131 #[.val (.long q1), .second, .val (.int p2), .val (.int p3), .val (.int p4), .val (.int p5), .val (.long g0), .second, .val (.long g1), .second, .val (.long g2), .second, .val (.long tot), .second, .val (.long cnt), .second, .val (.ref b3), .val (.ref b32), .val (.ref b49), .unset, .unset, .unset, .unset, .unset, .unset, .unset, .unset] [(.long (d51 0))]))
  refine Till.pre (fun _ hr => XS.lconst X47.here hx rfl (hb hby at_131) hr) ?_
  show Till p e below s (Q0 Z q1 p2 p3 p4 p5 h0 n0) room_1.cells room_1.slots (T45.setTop (mkF m 132 #[.val (.long q1), .second, .val (.int p2), .val (.int p3), .val (.int p4), .val (.int p5), .val (.long g0), .second, .val (.long g1), .second, .val (.long g2), .second, .val (.long tot), .second, .val (.long cnt), .second, .val (.ref b3), .val (.ref b32), .val (.ref b49), .unset, .unset, .unset, .unset, .unset, .unset, .unset, .unset] [(.long (0 : Int64)), (.long (d51 0))]))
  refine Till.pre (fun _ hr => XS.lcmp X47.here hx rfl (hb hby at_132) rfl hr) ?_
  show Till p e below s (Q0 Z q1 p2 p3 p4 p5 h0 n0) room_1.cells room_1.slots (T45.setTop (mkF m 133 #[.val (.long q1), .second, .val (.int p2), .val (.int p3), .val (.int p4), .val (.int p5), .val (.long g0), .second, .val (.long g1), .second, .val (.long g2), .second, .val (.long tot), .second, .val (.long cnt), .second, .val (.ref b3), .val (.ref b32), .val (.ref b49), .unset, .unset, .unset, .unset, .unset, .unset, .unset, .unset] [(.int (lcmpW (d51 0) (0 : Int64)))]))
  refine Till.ifc (pc' := 184) X47.here hx (hb hby at_133) (by decide) (by decide) (fun q => absurd (lLt.mp (hLt.1 q)) (own_d0 po56 : ¬ ((d51 0) < (0 : Int64)))) (fun q => ?_)
  show Till p e below s (Q0 Z q1 p2 p3 p4 p5 h0 n0) room_1.cells room_1.slots (T45.setTop (mkF m 136 #[.val (.long q1), .second, .val (.int p2), .val (.int p3), .val (.int p4), .val (.int p5), .val (.long g0), .second, .val (.long g1), .second, .val (.long g2), .second, .val (.long tot), .second, .val (.long cnt), .second, .val (.ref b3), .val (.ref b32), .val (.ref b49), .unset, .unset, .unset, .unset, .unset, .unset, .unset, .unset] []))
  refine Till.pre (fun _ hr => XS.aload X47.here hx rfl (hb hby at_136) rfl rfl hr) ?_
  show Till p e below s (Q0 Z q1 p2 p3 p4 p5 h0 n0) room_1.cells room_1.slots (T45.setTop (mkF m 138 #[.val (.long q1), .second, .val (.int p2), .val (.int p3), .val (.int p4), .val (.int p5), .val (.long g0), .second, .val (.long g1), .second, .val (.long g2), .second, .val (.long tot), .second, .val (.long cnt), .second, .val (.ref b3), .val (.ref b32), .val (.ref b49), .unset, .unset, .unset, .unset, .unset, .unset, .unset, .unset] [(.ref b49)]))
  refine Till.pre (fun _ hr => XS.iconst X47.here hx rfl (hb hby at_138) hr) ?_
  show Till p e below s (Q0 Z q1 p2 p3 p4 p5 h0 n0) room_1.cells room_1.slots (T45.setTop (mkF m 139 #[.val (.long q1), .second, .val (.int p2), .val (.int p3), .val (.int p4), .val (.int p5), .val (.long g0), .second, .val (.long g1), .second, .val (.long g2), .second, .val (.long tot), .second, .val (.long cnt), .second, .val (.ref b3), .val (.ref b32), .val (.ref b49), .unset, .unset, .unset, .unset, .unset, .unset, .unset, .unset] [(.int (0 : Int32)), (.ref b49)]))
  refine Till.laload R_b49 (by decide) (by decide) X47 hx hZ rfl (hb hby at_139) ?_
  show Till p e below s (Q0 Z q1 p2 p3 p4 p5 h0 n0) room_1.cells room_1.slots (T45.setTop (mkF m 140 #[.val (.long q1), .second, .val (.int p2), .val (.int p3), .val (.int p4), .val (.int p5), .val (.long g0), .second, .val (.long g1), .second, .val (.long g2), .second, .val (.long tot), .second, .val (.long cnt), .second, .val (.ref b3), .val (.ref b32), .val (.ref b49), .unset, .unset, .unset, .unset, .unset, .unset, .unset, .unset] [(.long (d51 0))]))
  refine Till.pre (fun _ hr => XS.lload X47.here hx rfl (hb hby at_140) rfl hr) ?_
  show Till p e below s (Q0 Z q1 p2 p3 p4 p5 h0 n0) room_1.cells room_1.slots (T45.setTop (mkF m 142 #[.val (.long q1), .second, .val (.int p2), .val (.int p3), .val (.int p4), .val (.int p5), .val (.long g0), .second, .val (.long g1), .second, .val (.long g2), .second, .val (.long tot), .second, .val (.long cnt), .second, .val (.ref b3), .val (.ref b32), .val (.ref b49), .unset, .unset, .unset, .unset, .unset, .unset, .unset, .unset] [(.long g0), (.long (d51 0))]))
  refine Till.pre (fun _ hr => XS.lcmp X47.here hx rfl (hb hby at_142) rfl hr) ?_
  show Till p e below s (Q0 Z q1 p2 p3 p4 p5 h0 n0) room_1.cells room_1.slots (T45.setTop (mkF m 143 #[.val (.long q1), .second, .val (.int p2), .val (.int p3), .val (.int p4), .val (.int p5), .val (.long g0), .second, .val (.long g1), .second, .val (.long g2), .second, .val (.long tot), .second, .val (.long cnt), .second, .val (.ref b3), .val (.ref b32), .val (.ref b49), .unset, .unset, .unset, .unset, .unset, .unset, .unset, .unset] [(.int (lcmpW (d51 0) g0))]))
  refine Till.ifc (pc' := 184) X47.here hx (hb hby at_143) (by decide) (by decide) (fun q => absurd (lGt.mp (hLt.2.2.2.2.1 q)) (own_e0 po56 : ¬ (g0 < (d51 0)))) (fun q => ?_)
  show Till p e below s (Q0 Z q1 p2 p3 p4 p5 h0 n0) room_1.cells room_1.slots (T45.setTop (mkF m 146 #[.val (.long q1), .second, .val (.int p2), .val (.int p3), .val (.int p4), .val (.int p5), .val (.long g0), .second, .val (.long g1), .second, .val (.long g2), .second, .val (.long tot), .second, .val (.long cnt), .second, .val (.ref b3), .val (.ref b32), .val (.ref b49), .unset, .unset, .unset, .unset, .unset, .unset, .unset, .unset] []))
  refine Till.pre (fun _ hr => XS.aload X47.here hx rfl (hb hby at_146) rfl rfl hr) ?_
  show Till p e below s (Q0 Z q1 p2 p3 p4 p5 h0 n0) room_1.cells room_1.slots (T45.setTop (mkF m 148 #[.val (.long q1), .second, .val (.int p2), .val (.int p3), .val (.int p4), .val (.int p5), .val (.long g0), .second, .val (.long g1), .second, .val (.long g2), .second, .val (.long tot), .second, .val (.long cnt), .second, .val (.ref b3), .val (.ref b32), .val (.ref b49), .unset, .unset, .unset, .unset, .unset, .unset, .unset, .unset] [(.ref b49)]))
  refine Till.pre (fun _ hr => XS.iconst X47.here hx rfl (hb hby at_148) hr) ?_
  show Till p e below s (Q0 Z q1 p2 p3 p4 p5 h0 n0) room_1.cells room_1.slots (T45.setTop (mkF m 149 #[.val (.long q1), .second, .val (.int p2), .val (.int p3), .val (.int p4), .val (.int p5), .val (.long g0), .second, .val (.long g1), .second, .val (.long g2), .second, .val (.long tot), .second, .val (.long cnt), .second, .val (.ref b3), .val (.ref b32), .val (.ref b49), .unset, .unset, .unset, .unset, .unset, .unset, .unset, .unset] [(.int (1 : Int32)), (.ref b49)]))
  refine Till.laload R_b49 (by decide) (by decide) X47 hx hZ rfl (hb hby at_149) ?_
  show Till p e below s (Q0 Z q1 p2 p3 p4 p5 h0 n0) room_1.cells room_1.slots (T45.setTop (mkF m 150 #[.val (.long q1), .second, .val (.int p2), .val (.int p3), .val (.int p4), .val (.int p5), .val (.long g0), .second, .val (.long g1), .second, .val (.long g2), .second, .val (.long tot), .second, .val (.long cnt), .second, .val (.ref b3), .val (.ref b32), .val (.ref b49), .unset, .unset, .unset, .unset, .unset, .unset, .unset, .unset] [(.long (d51 1))]))
  refine Till.pre (fun _ hr => XS.lconst X47.here hx rfl (hb hby at_150) hr) ?_
  show Till p e below s (Q0 Z q1 p2 p3 p4 p5 h0 n0) room_1.cells room_1.slots (T45.setTop (mkF m 151 #[.val (.long q1), .second, .val (.int p2), .val (.int p3), .val (.int p4), .val (.int p5), .val (.long g0), .second, .val (.long g1), .second, .val (.long g2), .second, .val (.long tot), .second, .val (.long cnt), .second, .val (.ref b3), .val (.ref b32), .val (.ref b49), .unset, .unset, .unset, .unset, .unset, .unset, .unset, .unset] [(.long (0 : Int64)), (.long (d51 1))]))
  refine Till.pre (fun _ hr => XS.lcmp X47.here hx rfl (hb hby at_151) rfl hr) ?_
  show Till p e below s (Q0 Z q1 p2 p3 p4 p5 h0 n0) room_1.cells room_1.slots (T45.setTop (mkF m 152 #[.val (.long q1), .second, .val (.int p2), .val (.int p3), .val (.int p4), .val (.int p5), .val (.long g0), .second, .val (.long g1), .second, .val (.long g2), .second, .val (.long tot), .second, .val (.long cnt), .second, .val (.ref b3), .val (.ref b32), .val (.ref b49), .unset, .unset, .unset, .unset, .unset, .unset, .unset, .unset] [(.int (lcmpW (d51 1) (0 : Int64)))]))
  refine Till.ifc (pc' := 184) X47.here hx (hb hby at_152) (by decide) (by decide) (fun q => absurd (lLt.mp (hLt.1 q)) (own_d1 po56 : ¬ ((d51 1) < (0 : Int64)))) (fun q => ?_)
  show Till p e below s (Q0 Z q1 p2 p3 p4 p5 h0 n0) room_1.cells room_1.slots (T45.setTop (mkF m 155 #[.val (.long q1), .second, .val (.int p2), .val (.int p3), .val (.int p4), .val (.int p5), .val (.long g0), .second, .val (.long g1), .second, .val (.long g2), .second, .val (.long tot), .second, .val (.long cnt), .second, .val (.ref b3), .val (.ref b32), .val (.ref b49), .unset, .unset, .unset, .unset, .unset, .unset, .unset, .unset] []))
  refine Till.pre (fun _ hr => XS.aload X47.here hx rfl (hb hby at_155) rfl rfl hr) ?_
  show Till p e below s (Q0 Z q1 p2 p3 p4 p5 h0 n0) room_1.cells room_1.slots (T45.setTop (mkF m 157 #[.val (.long q1), .second, .val (.int p2), .val (.int p3), .val (.int p4), .val (.int p5), .val (.long g0), .second, .val (.long g1), .second, .val (.long g2), .second, .val (.long tot), .second, .val (.long cnt), .second, .val (.ref b3), .val (.ref b32), .val (.ref b49), .unset, .unset, .unset, .unset, .unset, .unset, .unset, .unset] [(.ref b49)]))
  refine Till.pre (fun _ hr => XS.iconst X47.here hx rfl (hb hby at_157) hr) ?_
  show Till p e below s (Q0 Z q1 p2 p3 p4 p5 h0 n0) room_1.cells room_1.slots (T45.setTop (mkF m 158 #[.val (.long q1), .second, .val (.int p2), .val (.int p3), .val (.int p4), .val (.int p5), .val (.long g0), .second, .val (.long g1), .second, .val (.long g2), .second, .val (.long tot), .second, .val (.long cnt), .second, .val (.ref b3), .val (.ref b32), .val (.ref b49), .unset, .unset, .unset, .unset, .unset, .unset, .unset, .unset] [(.int (1 : Int32)), (.ref b49)]))
  refine Till.laload R_b49 (by decide) (by decide) X47 hx hZ rfl (hb hby at_158) ?_
  show Till p e below s (Q0 Z q1 p2 p3 p4 p5 h0 n0) room_1.cells room_1.slots (T45.setTop (mkF m 159 #[.val (.long q1), .second, .val (.int p2), .val (.int p3), .val (.int p4), .val (.int p5), .val (.long g0), .second, .val (.long g1), .second, .val (.long g2), .second, .val (.long tot), .second, .val (.long cnt), .second, .val (.ref b3), .val (.ref b32), .val (.ref b49), .unset, .unset, .unset, .unset, .unset, .unset, .unset, .unset] [(.long (d51 1))]))
  refine Till.pre (fun _ hr => XS.lload X47.here hx rfl (hb hby at_159) rfl hr) ?_
  show Till p e below s (Q0 Z q1 p2 p3 p4 p5 h0 n0) room_1.cells room_1.slots (T45.setTop (mkF m 161 #[.val (.long q1), .second, .val (.int p2), .val (.int p3), .val (.int p4), .val (.int p5), .val (.long g0), .second, .val (.long g1), .second, .val (.long g2), .second, .val (.long tot), .second, .val (.long cnt), .second, .val (.ref b3), .val (.ref b32), .val (.ref b49), .unset, .unset, .unset, .unset, .unset, .unset, .unset, .unset] [(.long g1), (.long (d51 1))]))
  refine Till.pre (fun _ hr => XS.lcmp X47.here hx rfl (hb hby at_161) rfl hr) ?_
  show Till p e below s (Q0 Z q1 p2 p3 p4 p5 h0 n0) room_1.cells room_1.slots (T45.setTop (mkF m 162 #[.val (.long q1), .second, .val (.int p2), .val (.int p3), .val (.int p4), .val (.int p5), .val (.long g0), .second, .val (.long g1), .second, .val (.long g2), .second, .val (.long tot), .second, .val (.long cnt), .second, .val (.ref b3), .val (.ref b32), .val (.ref b49), .unset, .unset, .unset, .unset, .unset, .unset, .unset, .unset] [(.int (lcmpW (d51 1) g1))]))
  refine Till.ifc (pc' := 184) X47.here hx (hb hby at_162) (by decide) (by decide) (fun q => absurd (lGt.mp (hLt.2.2.2.2.1 q)) (own_e1 po56 : ¬ (g1 < (d51 1)))) (fun q => ?_)
  show Till p e below s (Q0 Z q1 p2 p3 p4 p5 h0 n0) room_1.cells room_1.slots (T45.setTop (mkF m 165 #[.val (.long q1), .second, .val (.int p2), .val (.int p3), .val (.int p4), .val (.int p5), .val (.long g0), .second, .val (.long g1), .second, .val (.long g2), .second, .val (.long tot), .second, .val (.long cnt), .second, .val (.ref b3), .val (.ref b32), .val (.ref b49), .unset, .unset, .unset, .unset, .unset, .unset, .unset, .unset] []))
  refine Till.pre (fun _ hr => XS.aload X47.here hx rfl (hb hby at_165) rfl rfl hr) ?_
  show Till p e below s (Q0 Z q1 p2 p3 p4 p5 h0 n0) room_1.cells room_1.slots (T45.setTop (mkF m 167 #[.val (.long q1), .second, .val (.int p2), .val (.int p3), .val (.int p4), .val (.int p5), .val (.long g0), .second, .val (.long g1), .second, .val (.long g2), .second, .val (.long tot), .second, .val (.long cnt), .second, .val (.ref b3), .val (.ref b32), .val (.ref b49), .unset, .unset, .unset, .unset, .unset, .unset, .unset, .unset] [(.ref b49)]))
  refine Till.pre (fun _ hr => XS.iconst X47.here hx rfl (hb hby at_167) hr) ?_
  show Till p e below s (Q0 Z q1 p2 p3 p4 p5 h0 n0) room_1.cells room_1.slots (T45.setTop (mkF m 168 #[.val (.long q1), .second, .val (.int p2), .val (.int p3), .val (.int p4), .val (.int p5), .val (.long g0), .second, .val (.long g1), .second, .val (.long g2), .second, .val (.long tot), .second, .val (.long cnt), .second, .val (.ref b3), .val (.ref b32), .val (.ref b49), .unset, .unset, .unset, .unset, .unset, .unset, .unset, .unset] [(.int (2 : Int32)), (.ref b49)]))
  refine Till.laload R_b49 (by decide) (by decide) X47 hx hZ rfl (hb hby at_168) ?_
  show Till p e below s (Q0 Z q1 p2 p3 p4 p5 h0 n0) room_1.cells room_1.slots (T45.setTop (mkF m 169 #[.val (.long q1), .second, .val (.int p2), .val (.int p3), .val (.int p4), .val (.int p5), .val (.long g0), .second, .val (.long g1), .second, .val (.long g2), .second, .val (.long tot), .second, .val (.long cnt), .second, .val (.ref b3), .val (.ref b32), .val (.ref b49), .unset, .unset, .unset, .unset, .unset, .unset, .unset, .unset] [(.long (d51 2))]))
  refine Till.pre (fun _ hr => XS.lconst X47.here hx rfl (hb hby at_169) hr) ?_
  show Till p e below s (Q0 Z q1 p2 p3 p4 p5 h0 n0) room_1.cells room_1.slots (T45.setTop (mkF m 170 #[.val (.long q1), .second, .val (.int p2), .val (.int p3), .val (.int p4), .val (.int p5), .val (.long g0), .second, .val (.long g1), .second, .val (.long g2), .second, .val (.long tot), .second, .val (.long cnt), .second, .val (.ref b3), .val (.ref b32), .val (.ref b49), .unset, .unset, .unset, .unset, .unset, .unset, .unset, .unset] [(.long (0 : Int64)), (.long (d51 2))]))
  refine Till.pre (fun _ hr => XS.lcmp X47.here hx rfl (hb hby at_170) rfl hr) ?_
  show Till p e below s (Q0 Z q1 p2 p3 p4 p5 h0 n0) room_1.cells room_1.slots (T45.setTop (mkF m 171 #[.val (.long q1), .second, .val (.int p2), .val (.int p3), .val (.int p4), .val (.int p5), .val (.long g0), .second, .val (.long g1), .second, .val (.long g2), .second, .val (.long tot), .second, .val (.long cnt), .second, .val (.ref b3), .val (.ref b32), .val (.ref b49), .unset, .unset, .unset, .unset, .unset, .unset, .unset, .unset] [(.int (lcmpW (d51 2) (0 : Int64)))]))
  refine Till.ifc (pc' := 184) X47.here hx (hb hby at_171) (by decide) (by decide) (fun q => absurd (lLt.mp (hLt.1 q)) (own_d2 po56 : ¬ ((d51 2) < (0 : Int64)))) (fun q => ?_)
  show Till p e below s (Q0 Z q1 p2 p3 p4 p5 h0 n0) room_1.cells room_1.slots (T45.setTop (mkF m 174 #[.val (.long q1), .second, .val (.int p2), .val (.int p3), .val (.int p4), .val (.int p5), .val (.long g0), .second, .val (.long g1), .second, .val (.long g2), .second, .val (.long tot), .second, .val (.long cnt), .second, .val (.ref b3), .val (.ref b32), .val (.ref b49), .unset, .unset, .unset, .unset, .unset, .unset, .unset, .unset] []))
  refine Till.pre (fun _ hr => XS.aload X47.here hx rfl (hb hby at_174) rfl rfl hr) ?_
  show Till p e below s (Q0 Z q1 p2 p3 p4 p5 h0 n0) room_1.cells room_1.slots (T45.setTop (mkF m 176 #[.val (.long q1), .second, .val (.int p2), .val (.int p3), .val (.int p4), .val (.int p5), .val (.long g0), .second, .val (.long g1), .second, .val (.long g2), .second, .val (.long tot), .second, .val (.long cnt), .second, .val (.ref b3), .val (.ref b32), .val (.ref b49), .unset, .unset, .unset, .unset, .unset, .unset, .unset, .unset] [(.ref b49)]))
  refine Till.pre (fun _ hr => XS.iconst X47.here hx rfl (hb hby at_176) hr) ?_
  show Till p e below s (Q0 Z q1 p2 p3 p4 p5 h0 n0) room_1.cells room_1.slots (T45.setTop (mkF m 177 #[.val (.long q1), .second, .val (.int p2), .val (.int p3), .val (.int p4), .val (.int p5), .val (.long g0), .second, .val (.long g1), .second, .val (.long g2), .second, .val (.long tot), .second, .val (.long cnt), .second, .val (.ref b3), .val (.ref b32), .val (.ref b49), .unset, .unset, .unset, .unset, .unset, .unset, .unset, .unset] [(.int (2 : Int32)), (.ref b49)]))
  refine Till.laload R_b49 (by decide) (by decide) X47 hx hZ rfl (hb hby at_177) ?_
  show Till p e below s (Q0 Z q1 p2 p3 p4 p5 h0 n0) room_1.cells room_1.slots (T45.setTop (mkF m 178 #[.val (.long q1), .second, .val (.int p2), .val (.int p3), .val (.int p4), .val (.int p5), .val (.long g0), .second, .val (.long g1), .second, .val (.long g2), .second, .val (.long tot), .second, .val (.long cnt), .second, .val (.ref b3), .val (.ref b32), .val (.ref b49), .unset, .unset, .unset, .unset, .unset, .unset, .unset, .unset] [(.long (d51 2))]))
  refine Till.pre (fun _ hr => XS.lload X47.here hx rfl (hb hby at_178) rfl hr) ?_
  show Till p e below s (Q0 Z q1 p2 p3 p4 p5 h0 n0) room_1.cells room_1.slots (T45.setTop (mkF m 180 #[.val (.long q1), .second, .val (.int p2), .val (.int p3), .val (.int p4), .val (.int p5), .val (.long g0), .second, .val (.long g1), .second, .val (.long g2), .second, .val (.long tot), .second, .val (.long cnt), .second, .val (.ref b3), .val (.ref b32), .val (.ref b49), .unset, .unset, .unset, .unset, .unset, .unset, .unset, .unset] [(.long g2), (.long (d51 2))]))
  refine Till.pre (fun _ hr => XS.lcmp X47.here hx rfl (hb hby at_180) rfl hr) ?_
  show Till p e below s (Q0 Z q1 p2 p3 p4 p5 h0 n0) room_1.cells room_1.slots (T45.setTop (mkF m 181 #[.val (.long q1), .second, .val (.int p2), .val (.int p3), .val (.int p4), .val (.int p5), .val (.long g0), .second, .val (.long g1), .second, .val (.long g2), .second, .val (.long tot), .second, .val (.long cnt), .second, .val (.ref b3), .val (.ref b32), .val (.ref b49), .unset, .unset, .unset, .unset, .unset, .unset, .unset, .unset] [(.int (lcmpW (d51 2) g2))]))
  refine Till.ifc (pc' := 186) X47.here hx (hb hby at_181) (by decide) (by decide) (fun q => ?_) (fun q => absurd (lGt.mp (hLt.2.2.2.2.2.2.2 q)) (own_e2 po56 : ¬ (g2 < (d51 2))))
  show Till p e below s (Q0 Z q1 p2 p3 p4 p5 h0 n0) room_1.cells room_1.slots (T45.setTop (mkF m 186 #[.val (.long q1), .second, .val (.int p2), .val (.int p3), .val (.int p4), .val (.int p5), .val (.long g0), .second, .val (.long g1), .second, .val (.long g2), .second, .val (.long tot), .second, .val (.long cnt), .second, .val (.ref b3), .val (.ref b32), .val (.ref b49), .unset, .unset, .unset, .unset, .unset, .unset, .unset, .unset] []))
  refine Till.pre (fun _ hr => XS.aload X47.here hx rfl (hb hby at_186) rfl rfl hr) ?_
  show Till p e below s (Q0 Z q1 p2 p3 p4 p5 h0 n0) room_1.cells room_1.slots (T45.setTop (mkF m 188 #[.val (.long q1), .second, .val (.int p2), .val (.int p3), .val (.int p4), .val (.int p5), .val (.long g0), .second, .val (.long g1), .second, .val (.long g2), .second, .val (.long tot), .second, .val (.long cnt), .second, .val (.ref b3), .val (.ref b32), .val (.ref b49), .unset, .unset, .unset, .unset, .unset, .unset, .unset, .unset] [(.ref b49)]))
  refine Till.pre (fun _ hr => XS.iconst X47.here hx rfl (hb hby at_188) hr) ?_
  show Till p e below s (Q0 Z q1 p2 p3 p4 p5 h0 n0) room_1.cells room_1.slots (T45.setTop (mkF m 189 #[.val (.long q1), .second, .val (.int p2), .val (.int p3), .val (.int p4), .val (.int p5), .val (.long g0), .second, .val (.long g1), .second, .val (.long g2), .second, .val (.long tot), .second, .val (.long cnt), .second, .val (.ref b3), .val (.ref b32), .val (.ref b49), .unset, .unset, .unset, .unset, .unset, .unset, .unset, .unset] [(.int (0 : Int32)), (.ref b49)]))
  refine Till.laload R_b49 (by decide) (by decide) X47 hx hZ rfl (hb hby at_189) ?_
  show Till p e below s (Q0 Z q1 p2 p3 p4 p5 h0 n0) room_1.cells room_1.slots (T45.setTop (mkF m 190 #[.val (.long q1), .second, .val (.int p2), .val (.int p3), .val (.int p4), .val (.int p5), .val (.long g0), .second, .val (.long g1), .second, .val (.long g2), .second, .val (.long tot), .second, .val (.long cnt), .second, .val (.ref b3), .val (.ref b32), .val (.ref b49), .unset, .unset, .unset, .unset, .unset, .unset, .unset, .unset] [(.long (d51 0))]))
  refine Till.pre (fun _ hr => XS.aload X47.here hx rfl (hb hby at_190) rfl rfl hr) ?_
  show Till p e below s (Q0 Z q1 p2 p3 p4 p5 h0 n0) room_1.cells room_1.slots (T45.setTop (mkF m 192 #[.val (.long q1), .second, .val (.int p2), .val (.int p3), .val (.int p4), .val (.int p5), .val (.long g0), .second, .val (.long g1), .second, .val (.long g2), .second, .val (.long tot), .second, .val (.long cnt), .second, .val (.ref b3), .val (.ref b32), .val (.ref b49), .unset, .unset, .unset, .unset, .unset, .unset, .unset, .unset] [(.ref b49), (.long (d51 0))]))
  refine Till.pre (fun _ hr => XS.iconst X47.here hx rfl (hb hby at_192) hr) ?_
  show Till p e below s (Q0 Z q1 p2 p3 p4 p5 h0 n0) room_1.cells room_1.slots (T45.setTop (mkF m 193 #[.val (.long q1), .second, .val (.int p2), .val (.int p3), .val (.int p4), .val (.int p5), .val (.long g0), .second, .val (.long g1), .second, .val (.long g2), .second, .val (.long tot), .second, .val (.long cnt), .second, .val (.ref b3), .val (.ref b32), .val (.ref b49), .unset, .unset, .unset, .unset, .unset, .unset, .unset, .unset] [(.int (1 : Int32)), (.ref b49), (.long (d51 0))]))
  refine Till.laload R_b49 (by decide) (by decide) X47 hx hZ rfl (hb hby at_193) ?_
  show Till p e below s (Q0 Z q1 p2 p3 p4 p5 h0 n0) room_1.cells room_1.slots (T45.setTop (mkF m 194 #[.val (.long q1), .second, .val (.int p2), .val (.int p3), .val (.int p4), .val (.int p5), .val (.long g0), .second, .val (.long g1), .second, .val (.long g2), .second, .val (.long tot), .second, .val (.long cnt), .second, .val (.ref b3), .val (.ref b32), .val (.ref b49), .unset, .unset, .unset, .unset, .unset, .unset, .unset, .unset] [(.long (d51 1)), (.long (d51 0))]))
  refine Till.pre (fun _ hr => XS.ladd X47.here hx rfl (hb hby at_194) rfl hr) ?_
  show Till p e below s (Q0 Z q1 p2 p3 p4 p5 h0 n0) room_1.cells room_1.slots (T45.setTop (mkF m 195 #[.val (.long q1), .second, .val (.int p2), .val (.int p3), .val (.int p4), .val (.int p5), .val (.long g0), .second, .val (.long g1), .second, .val (.long g2), .second, .val (.long tot), .second, .val (.long cnt), .second, .val (.ref b3), .val (.ref b32), .val (.ref b49), .unset, .unset, .unset, .unset, .unset, .unset, .unset, .unset] [(.long ((d51 0) + (d51 1)))]))
  refine Till.pre (fun _ hr => XS.aload X47.here hx rfl (hb hby at_195) rfl rfl hr) ?_
  show Till p e below s (Q0 Z q1 p2 p3 p4 p5 h0 n0) room_1.cells room_1.slots (T45.setTop (mkF m 197 #[.val (.long q1), .second, .val (.int p2), .val (.int p3), .val (.int p4), .val (.int p5), .val (.long g0), .second, .val (.long g1), .second, .val (.long g2), .second, .val (.long tot), .second, .val (.long cnt), .second, .val (.ref b3), .val (.ref b32), .val (.ref b49), .unset, .unset, .unset, .unset, .unset, .unset, .unset, .unset] [(.ref b49), (.long ((d51 0) + (d51 1)))]))
  refine Till.pre (fun _ hr => XS.iconst X47.here hx rfl (hb hby at_197) hr) ?_
  show Till p e below s (Q0 Z q1 p2 p3 p4 p5 h0 n0) room_1.cells room_1.slots (T45.setTop (mkF m 198 #[.val (.long q1), .second, .val (.int p2), .val (.int p3), .val (.int p4), .val (.int p5), .val (.long g0), .second, .val (.long g1), .second, .val (.long g2), .second, .val (.long tot), .second, .val (.long cnt), .second, .val (.ref b3), .val (.ref b32), .val (.ref b49), .unset, .unset, .unset, .unset, .unset, .unset, .unset, .unset] [(.int (2 : Int32)), (.ref b49), (.long ((d51 0) + (d51 1)))]))
  refine Till.laload R_b49 (by decide) (by decide) X47 hx hZ rfl (hb hby at_198) ?_
  show Till p e below s (Q0 Z q1 p2 p3 p4 p5 h0 n0) room_1.cells room_1.slots (T45.setTop (mkF m 199 #[.val (.long q1), .second, .val (.int p2), .val (.int p3), .val (.int p4), .val (.int p5), .val (.long g0), .second, .val (.long g1), .second, .val (.long g2), .second, .val (.long tot), .second, .val (.long cnt), .second, .val (.ref b3), .val (.ref b32), .val (.ref b49), .unset, .unset, .unset, .unset, .unset, .unset, .unset, .unset] [(.long (d51 2)), (.long ((d51 0) + (d51 1)))]))
  refine Till.pre (fun _ hr => XS.ladd X47.here hx rfl (hb hby at_199) rfl hr) ?_
  show Till p e below s (Q0 Z q1 p2 p3 p4 p5 h0 n0) room_1.cells room_1.slots (T45.setTop (mkF m 200 #[.val (.long q1), .second, .val (.int p2), .val (.int p3), .val (.int p4), .val (.int p5), .val (.long g0), .second, .val (.long g1), .second, .val (.long g2), .second, .val (.long tot), .second, .val (.long cnt), .second, .val (.ref b3), .val (.ref b32), .val (.ref b49), .unset, .unset, .unset, .unset, .unset, .unset, .unset, .unset] [(.long (((d51 0) + (d51 1)) + (d51 2)))]))
  refine Till.pre (fun _ hr => XS.lload X47.here hx rfl (hb hby at_200) rfl hr) ?_
  show Till p e below s (Q0 Z q1 p2 p3 p4 p5 h0 n0) room_1.cells room_1.slots (T45.setTop (mkF m 202 #[.val (.long q1), .second, .val (.int p2), .val (.int p3), .val (.int p4), .val (.int p5), .val (.long g0), .second, .val (.long g1), .second, .val (.long g2), .second, .val (.long tot), .second, .val (.long cnt), .second, .val (.ref b3), .val (.ref b32), .val (.ref b49), .unset, .unset, .unset, .unset, .unset, .unset, .unset, .unset] [(.long cnt), (.long (((d51 0) + (d51 1)) + (d51 2)))]))
  refine Till.pre (fun _ hr => XS.lcmp X47.here hx rfl (hb hby at_202) rfl hr) ?_
  show Till p e below s (Q0 Z q1 p2 p3 p4 p5 h0 n0) room_1.cells room_1.slots (T45.setTop (mkF m 203 #[.val (.long q1), .second, .val (.int p2), .val (.int p3), .val (.int p4), .val (.int p5), .val (.long g0), .second, .val (.long g1), .second, .val (.long g2), .second, .val (.long tot), .second, .val (.long cnt), .second, .val (.ref b3), .val (.ref b32), .val (.ref b49), .unset, .unset, .unset, .unset, .unset, .unset, .unset, .unset] [(.int (lcmpW (((d51 0) + (d51 1)) + (d51 2)) cnt))]))
  refine Till.ifc (pc' := 208) X47.here hx (hb hby at_203) (by decide) (by decide) (fun q => ?_) (fun q => absurd (own_sm (own_g7 hu_g0) (own_g7 hu_g1) (own_g7 hu_g2) po56 : ((((d51 0) + (d51 1)) + (d51 2)) = cnt)) (mt lEq.mpr (hEq.2.1 q)))
  show Till p e below s (Q0 Z q1 p2 p3 p4 p5 h0 n0) room_1.cells room_1.slots (T45.setTop (mkF m 208 #[.val (.long q1), .second, .val (.int p2), .val (.int p3), .val (.int p4), .val (.int p5), .val (.long g0), .second, .val (.long g1), .second, .val (.long g2), .second, .val (.long tot), .second, .val (.long cnt), .second, .val (.ref b3), .val (.ref b32), .val (.ref b49), .unset, .unset, .unset, .unset, .unset, .unset, .unset, .unset] []))
  refine Till.pre (fun _ hr => XS.lload X47.here hx rfl (hb hby at_208) rfl hr) ?_
  show Till p e below s (Q0 Z q1 p2 p3 p4 p5 h0 n0) room_1.cells room_1.slots (T45.setTop (mkF m 210 #[.val (.long q1), .second, .val (.int p2), .val (.int p3), .val (.int p4), .val (.int p5), .val (.long g0), .second, .val (.long g1), .second, .val (.long g2), .second, .val (.long tot), .second, .val (.long cnt), .second, .val (.ref b3), .val (.ref b32), .val (.ref b49), .unset, .unset, .unset, .unset, .unset, .unset, .unset, .unset] [(.long tot)]))
  refine Till.pre (fun _ hr => XS.lconst X47.here hx rfl (hb hby at_210) hr) ?_
  show Till p e below s (Q0 Z q1 p2 p3 p4 p5 h0 n0) room_1.cells room_1.slots (T45.setTop (mkF m 211 #[.val (.long q1), .second, .val (.int p2), .val (.int p3), .val (.int p4), .val (.int p5), .val (.long g0), .second, .val (.long g1), .second, .val (.long g2), .second, .val (.long tot), .second, .val (.long cnt), .second, .val (.ref b3), .val (.ref b32), .val (.ref b49), .unset, .unset, .unset, .unset, .unset, .unset, .unset, .unset] [(.long (0 : Int64)), (.long tot)]))
  refine Till.pre (fun _ hr => XS.lcmp X47.here hx rfl (hb hby at_211) rfl hr) ?_
  show Till p e below s (Q0 Z q1 p2 p3 p4 p5 h0 n0) room_1.cells room_1.slots (T45.setTop (mkF m 212 #[.val (.long q1), .second, .val (.int p2), .val (.int p3), .val (.int p4), .val (.int p5), .val (.long g0), .second, .val (.long g1), .second, .val (.long g2), .second, .val (.long tot), .second, .val (.long cnt), .second, .val (.ref b3), .val (.ref b32), .val (.ref b49), .unset, .unset, .unset, .unset, .unset, .unset, .unset, .unset] [(.int (lcmpW tot (0 : Int64)))]))
  refine Till.ifc (pc' := 217) X47.here hx (hb hby at_212) (by decide) (by decide) (fun q => ?_) (fun q => ?_)
  · have hc57 := (mt lEq.mpr (hEq.2.2.1 q))
    show Till p e below s (Q0 Z q1 p2 p3 p4 p5 h0 n0) room_1.cells room_1.slots (T45.setTop (mkF m 217 #[.val (.long q1), .second, .val (.int p2), .val (.int p3), .val (.int p4), .val (.int p5), .val (.long g0), .second, .val (.long g1), .second, .val (.long g2), .second, .val (.long tot), .second, .val (.long cnt), .second, .val (.ref b3), .val (.ref b32), .val (.ref b49), .unset, .unset, .unset, .unset, .unset, .unset, .unset, .unset] []))
    refine Till.pre (fun _ hr => XS.lload X47.here hx rfl (hb hby at_217) rfl hr) ?_
    show Till p e below s (Q0 Z q1 p2 p3 p4 p5 h0 n0) room_1.cells room_1.slots (T45.setTop (mkF m 219 #[.val (.long q1), .second, .val (.int p2), .val (.int p3), .val (.int p4), .val (.int p5), .val (.long g0), .second, .val (.long g1), .second, .val (.long g2), .second, .val (.long tot), .second, .val (.long cnt), .second, .val (.ref b3), .val (.ref b32), .val (.ref b49), .unset, .unset, .unset, .unset, .unset, .unset, .unset, .unset] [(.long g0)]))
    refine Till.pre (fun _ hr => XS.lconst X47.here hx rfl (hb hby at_219) hr) ?_
    show Till p e below s (Q0 Z q1 p2 p3 p4 p5 h0 n0) room_1.cells room_1.slots (T45.setTop (mkF m 220 #[.val (.long q1), .second, .val (.int p2), .val (.int p3), .val (.int p4), .val (.int p5), .val (.long g0), .second, .val (.long g1), .second, .val (.long g2), .second, .val (.long tot), .second, .val (.long cnt), .second, .val (.ref b3), .val (.ref b32), .val (.ref b49), .unset, .unset, .unset, .unset, .unset, .unset, .unset, .unset] [(.long (0 : Int64)), (.long g0)]))
    refine Till.pre (fun _ hr => XS.lcmp X47.here hx rfl (hb hby at_220) rfl hr) ?_
    show Till p e below s (Q0 Z q1 p2 p3 p4 p5 h0 n0) room_1.cells room_1.slots (T45.setTop (mkF m 221 #[.val (.long q1), .second, .val (.int p2), .val (.int p3), .val (.int p4), .val (.int p5), .val (.long g0), .second, .val (.long g1), .second, .val (.long g2), .second, .val (.long tot), .second, .val (.long cnt), .second, .val (.ref b3), .val (.ref b32), .val (.ref b49), .unset, .unset, .unset, .unset, .unset, .unset, .unset, .unset] [(.int (lcmpW g0 (0 : Int64)))]))
    refine Till.ifc (pc' := 228) X47.here hx (hb hby at_221) (by decide) (by decide) (fun q => ?_) (fun q => ?_)
    · have hc58 := (mt lGt.mpr (hLt.2.2.2.2.2.2.1 q))
      show Till p e below s (Q0 Z q1 p2 p3 p4 p5 h0 n0) room_1.cells room_1.slots (T45.setTop (mkF m 228 #[.val (.long q1), .second, .val (.int p2), .val (.int p3), .val (.int p4), .val (.int p5), .val (.long g0), .second, .val (.long g1), .second, .val (.long g2), .second, .val (.long tot), .second, .val (.long cnt), .second, .val (.ref b3), .val (.ref b32), .val (.ref b49), .unset, .unset, .unset, .unset, .unset, .unset, .unset, .unset] []))
      refine Till.pre (fun _ hr => XS.lload X47.here hx rfl (hb hby at_228) rfl hr) ?_
      show Till p e below s (Q0 Z q1 p2 p3 p4 p5 h0 n0) room_1.cells room_1.slots (T45.setTop (mkF m 230 #[.val (.long q1), .second, .val (.int p2), .val (.int p3), .val (.int p4), .val (.int p5), .val (.long g0), .second, .val (.long g1), .second, .val (.long g2), .second, .val (.long tot), .second, .val (.long cnt), .second, .val (.ref b3), .val (.ref b32), .val (.ref b49), .unset, .unset, .unset, .unset, .unset, .unset, .unset, .unset] [(.long g1)]))
      refine Till.pre (fun _ hr => XS.lconst X47.here hx rfl (hb hby at_230) hr) ?_
      show Till p e below s (Q0 Z q1 p2 p3 p4 p5 h0 n0) room_1.cells room_1.slots (T45.setTop (mkF m 231 #[.val (.long q1), .second, .val (.int p2), .val (.int p3), .val (.int p4), .val (.int p5), .val (.long g0), .second, .val (.long g1), .second, .val (.long g2), .second, .val (.long tot), .second, .val (.long cnt), .second, .val (.ref b3), .val (.ref b32), .val (.ref b49), .unset, .unset, .unset, .unset, .unset, .unset, .unset, .unset] [(.long (0 : Int64)), (.long g1)]))
      refine Till.pre (fun _ hr => XS.lcmp X47.here hx rfl (hb hby at_231) rfl hr) ?_
      show Till p e below s (Q0 Z q1 p2 p3 p4 p5 h0 n0) room_1.cells room_1.slots (T45.setTop (mkF m 232 #[.val (.long q1), .second, .val (.int p2), .val (.int p3), .val (.int p4), .val (.int p5), .val (.long g0), .second, .val (.long g1), .second, .val (.long g2), .second, .val (.long tot), .second, .val (.long cnt), .second, .val (.ref b3), .val (.ref b32), .val (.ref b49), .unset, .unset, .unset, .unset, .unset, .unset, .unset, .unset] [(.int (lcmpW g1 (0 : Int64)))]))
      refine Till.ifc (pc' := 239) X47.here hx (hb hby at_232) (by decide) (by decide) (fun q => ?_) (fun q => ?_)
      · have hc59 := (mt lGt.mpr (hLt.2.2.2.2.2.2.1 q))
        show Till p e below s (Q0 Z q1 p2 p3 p4 p5 h0 n0) room_1.cells room_1.slots (T45.setTop (mkF m 239 #[.val (.long q1), .second, .val (.int p2), .val (.int p3), .val (.int p4), .val (.int p5), .val (.long g0), .second, .val (.long g1), .second, .val (.long g2), .second, .val (.long tot), .second, .val (.long cnt), .second, .val (.ref b3), .val (.ref b32), .val (.ref b49), .unset, .unset, .unset, .unset, .unset, .unset, .unset, .unset] []))
        refine Till.pre (fun _ hr => XS.iconst X47.here hx rfl (hb hby at_239) hr) ?_
        show Till p e below s (Q0 Z q1 p2 p3 p4 p5 h0 n0) room_1.cells room_1.slots (T45.setTop (mkF m 240 #[.val (.long q1), .second, .val (.int p2), .val (.int p3), .val (.int p4), .val (.int p5), .val (.long g0), .second, .val (.long g1), .second, .val (.long g2), .second, .val (.long tot), .second, .val (.long cnt), .second, .val (.ref b3), .val (.ref b32), .val (.ref b49), .unset, .unset, .unset, .unset, .unset, .unset, .unset, .unset] [(.int (2 : Int32))]))
        refine Till.pre (fun _ hr => XS.istore X47.here hx rfl (hb hby at_240) rfl (l' := #[.val (.long q1), .second, .val (.int p2), .val (.int p3), .val (.int p4), .val (.int p5), .val (.long g0), .second, .val (.long g1), .second, .val (.long g2), .second, .val (.long tot), .second, .val (.long cnt), .second, .val (.ref b3), .val (.ref b32), .val (.ref b49), .val (.int (2 : Int32)), .unset, .unset, .unset, .unset, .unset, .unset, .unset]) rfl hr) ?_
        show Till p e below s (Q0 Z q1 p2 p3 p4 p5 h0 n0) room_1.cells room_1.slots (T45.setTop (mkF m 242 #[.val (.long q1), .second, .val (.int p2), .val (.int p3), .val (.int p4), .val (.int p5), .val (.long g0), .second, .val (.long g1), .second, .val (.long g2), .second, .val (.long tot), .second, .val (.long cnt), .second, .val (.ref b3), .val (.ref b32), .val (.ref b49), .val (.int (2 : Int32)), .unset, .unset, .unset, .unset, .unset, .unset, .unset] []))
        refine Till.pre (fun _ hr => XS.iload X47.here hx rfl (hb hby at_242) rfl hr) ?_
        show Till p e below s (Q0 Z q1 p2 p3 p4 p5 h0 n0) room_1.cells room_1.slots (T45.setTop (mkF m 244 #[.val (.long q1), .second, .val (.int p2), .val (.int p3), .val (.int p4), .val (.int p5), .val (.long g0), .second, .val (.long g1), .second, .val (.long g2), .second, .val (.long tot), .second, .val (.long cnt), .second, .val (.ref b3), .val (.ref b32), .val (.ref b49), .val (.int (2 : Int32)), .unset, .unset, .unset, .unset, .unset, .unset, .unset] [(.int (2 : Int32))]))
        refine Till.ifc (pc' := 252) X47.here hx (hb hby at_244) (by decide) (by decide) (fun q => ?_) (fun q => absurd (hEq.2.2.2 q) (by decide : ¬ ((2 : Int32) = (0 : Int32))))
        show Till p e below s (Q0 Z q1 p2 p3 p4 p5 h0 n0) room_1.cells room_1.slots (T45.setTop (mkF m 252 #[.val (.long q1), .second, .val (.int p2), .val (.int p3), .val (.int p4), .val (.int p5), .val (.long g0), .second, .val (.long g1), .second, .val (.long g2), .second, .val (.long tot), .second, .val (.long cnt), .second, .val (.ref b3), .val (.ref b32), .val (.ref b49), .val (.int (2 : Int32)), .unset, .unset, .unset, .unset, .unset, .unset, .unset] []))
        refine Till.pre (fun _ hr => XS.iload X47.here hx rfl (hb hby at_252) rfl hr) ?_
        show Till p e below s (Q0 Z q1 p2 p3 p4 p5 h0 n0) room_1.cells room_1.slots (T45.setTop (mkF m 254 #[.val (.long q1), .second, .val (.int p2), .val (.int p3), .val (.int p4), .val (.int p5), .val (.long g0), .second, .val (.long g1), .second, .val (.long g2), .second, .val (.long tot), .second, .val (.long cnt), .second, .val (.ref b3), .val (.ref b32), .val (.ref b49), .val (.int (2 : Int32)), .unset, .unset, .unset, .unset, .unset, .unset, .unset] [(.int (2 : Int32))]))
        refine Till.pre (fun _ hr => XS.iconst X47.here hx rfl (hb hby at_254) hr) ?_
        show Till p e below s (Q0 Z q1 p2 p3 p4 p5 h0 n0) room_1.cells room_1.slots (T45.setTop (mkF m 255 #[.val (.long q1), .second, .val (.int p2), .val (.int p3), .val (.int p4), .val (.int p5), .val (.long g0), .second, .val (.long g1), .second, .val (.long g2), .second, .val (.long tot), .second, .val (.long cnt), .second, .val (.ref b3), .val (.ref b32), .val (.ref b49), .val (.int (2 : Int32)), .unset, .unset, .unset, .unset, .unset, .unset, .unset] [(.int (1 : Int32)), (.int (2 : Int32))]))
        refine Till.icmp (pc' := 263) X47.here hx (hb hby at_255) (by decide) (by decide) (fun q => ?_) (fun q => absurd (hEq.2.2.2 q) (by decide : ¬ ((2 : Int32) = (1 : Int32))))
        show Till p e below s (Q0 Z q1 p2 p3 p4 p5 h0 n0) room_1.cells room_1.slots (T45.setTop (mkF m 263 #[.val (.long q1), .second, .val (.int p2), .val (.int p3), .val (.int p4), .val (.int p5), .val (.long g0), .second, .val (.long g1), .second, .val (.long g2), .second, .val (.long tot), .second, .val (.long cnt), .second, .val (.ref b3), .val (.ref b32), .val (.ref b49), .val (.int (2 : Int32)), .unset, .unset, .unset, .unset, .unset, .unset, .unset] []))
        refine Till.pre (fun _ hr => XS.lload X47.here hx rfl (hb hby at_263) rfl hr) ?_
        show Till p e below s (Q0 Z q1 p2 p3 p4 p5 h0 n0) room_1.cells room_1.slots (T45.setTop (mkF m 265 #[.val (.long q1), .second, .val (.int p2), .val (.int p3), .val (.int p4), .val (.int p5), .val (.long g0), .second, .val (.long g1), .second, .val (.long g2), .second, .val (.long tot), .second, .val (.long cnt), .second, .val (.ref b3), .val (.ref b32), .val (.ref b49), .val (.int (2 : Int32)), .unset, .unset, .unset, .unset, .unset, .unset, .unset] [(.long g2)]))
        refine Till.pre (fun _ hr => XS.lstore X47.here hx rfl (hb hby at_265) rfl (l' := #[.val (.long q1), .second, .val (.int p2), .val (.int p3), .val (.int p4), .val (.int p5), .val (.long g0), .second, .val (.long g1), .second, .val (.long g2), .second, .val (.long tot), .second, .val (.long cnt), .second, .val (.ref b3), .val (.ref b32), .val (.ref b49), .val (.int (2 : Int32)), .val (.long g2), .second, .unset, .unset, .unset, .unset, .unset]) rfl hr) ?_
        show Till p e below s (Q0 Z q1 p2 p3 p4 p5 h0 n0) room_1.cells room_1.slots (T45.setTop (mkF m 267 #[.val (.long q1), .second, .val (.int p2), .val (.int p3), .val (.int p4), .val (.int p5), .val (.long g0), .second, .val (.long g1), .second, .val (.long g2), .second, .val (.long tot), .second, .val (.long cnt), .second, .val (.ref b3), .val (.ref b32), .val (.ref b49), .val (.int (2 : Int32)), .val (.long g2), .second, .unset, .unset, .unset, .unset, .unset] []))
        refine Till.newO X47 hx hZ hown (hw _ (List.mem_of_getElem? (i := 2) rfl)) (hw _ (List.mem_of_getElem? (i := 3) rfl)) (hw _ (List.mem_of_getElem? (i := 4) rfl)) rfl (hb hby at_267) (by decide) (by decide) (fun T60 h61 b62 g63 X64 e65 E66 A67 D68 => ?_)
        have ne_b3_b62 : b3 ≠ b62 := Nat.ne_of_lt (Nat.lt_of_lt_of_le R_b3.lt (Nat.le_of_eq g63.symm))
        have ne_b32_b62 : b32 ≠ b62 := Nat.ne_of_lt (Nat.lt_of_lt_of_le R_b32.lt (Nat.le_of_eq g63.symm))
        have ne_b49_b62 : b49 ≠ b62 := Nat.ne_of_lt (Nat.lt_of_lt_of_le R_b49.lt (Nat.le_of_eq g63.symm))
        have g_b62 : n0 ≤ b62 := Nat.le_trans Zs (Nat.le_of_eq g63.symm)
        have R_b3 := R_b3.ext E66
        have R_b32 := R_b32.ext E66
        have R_b49 := R_b49.ext E66
        have Zs := Nat.le_trans Zs E66.1
        have R_b62 : Lot Z h61 b62 (0 : Int64) := ⟨A67, D68 (Or.inl (hw _ (List.mem_of_getElem? (i := 12) rfl))) (ty := .long) (by decide)⟩
        show Till p e below s (Q0 Z q1 p2 p3 p4 p5 h0 n0) room_1.cells room_1.slots (T60.setTop (mkF m 270 #[.val (.long q1), .second, .val (.int p2), .val (.int p3), .val (.int p4), .val (.int p5), .val (.long g0), .second, .val (.long g1), .second, .val (.long g2), .second, .val (.long tot), .second, .val (.long cnt), .second, .val (.ref b3), .val (.ref b32), .val (.ref b49), .val (.int (2 : Int32)), .val (.long g2), .second, .unset, .unset, .unset, .unset, .unset] [(.ref b62)]))
        refine Till.pre (fun _ hr => XS.dup X64.here hx rfl (hb hby at_270) rfl rfl hr) ?_
        show Till p e below s (Q0 Z q1 p2 p3 p4 p5 h0 n0) room_1.cells room_1.slots (T60.setTop (mkF m 271 #[.val (.long q1), .second, .val (.int p2), .val (.int p3), .val (.int p4), .val (.int p5), .val (.long g0), .second, .val (.long g1), .second, .val (.long g2), .second, .val (.long tot), .second, .val (.long cnt), .second, .val (.ref b3), .val (.ref b32), .val (.ref b49), .val (.int (2 : Int32)), .val (.long g2), .second, .unset, .unset, .unset, .unset, .unset] [(.ref b62), (.ref b62)]))
        refine Till.pre (fun _ hr => XS.lloadN X64.here hx rfl (hb hby at_271) rfl hr) ?_
        show Till p e below s (Q0 Z q1 p2 p3 p4 p5 h0 n0) room_1.cells room_1.slots (T60.setTop (mkF m 272 #[.val (.long q1), .second, .val (.int p2), .val (.int p3), .val (.int p4), .val (.int p5), .val (.long g0), .second, .val (.long g1), .second, .val (.long g2), .second, .val (.long tot), .second, .val (.long cnt), .second, .val (.ref b3), .val (.ref b32), .val (.ref b49), .val (.int (2 : Int32)), .val (.long g2), .second, .unset, .unset, .unset, .unset, .unset] [(.long q1), (.ref b62), (.ref b62)]))
        refine Till.callC (rm1 l Z a0 hw b62 q1 (0 : Int64) h61 n0 Zs R_b62 g_b62) X64 hx hZ hown rfl (hw _ (List.mem_of_getElem? (i := 5) rfl)) (hw _ (List.mem_of_getElem? (i := 6) rfl)) (hw _ (List.mem_of_getElem? (i := 4) rfl)) (hw _ (List.mem_of_getElem? (i := 7) rfl)) (by decide) (by decide) (W := 1) (by decide) (by rw [hml]; rfl) (a := b62) (argsL := [(.long q1)]) (rest := [(.ref b62)]) (lenOf pd0_3 rfl) rfl rfl (Nat.le_of_eq rfl) (hb hby at_272) e65 (by decide) (by decide) ?_
        rintro _ T69 L70 X71 ⟨rfl, N72, K73, q74⟩
        have N72 := Fr.app N48 N72
        have R_b3 := R_b3.keep K73 (ninS ne_b3_b62 nin0)
        have R_b32 := R_b32.keep K73 (ninS ne_b32_b62 nin0)
        have R_b49 := R_b49.keep K73 (ninS ne_b49_b62 nin0)
        have Zs := Nat.le_trans Zs K73.1
        have R_b62 : Lot Z T69.heap b62 q1 := q74
        show Till p e below s (Q0 Z q1 p2 p3 p4 p5 h0 n0) room_1.cells room_1.slots (T69.setTop (mkF m 275 #[.val (.long q1), .second, .val (.int p2), .val (.int p3), .val (.int p4), .val (.int p5), .val (.long g0), .second, .val (.long g1), .second, .val (.long g2), .second, .val (.long tot), .second, .val (.long cnt), .second, .val (.ref b3), .val (.ref b32), .val (.ref b49), .val (.int (2 : Int32)), .val (.long g2), .second, .unset, .unset, .unset, .unset, .unset] [(.ref b62)]))
        refine Till.pre (fun _ hr => XS.astore X71.here hx rfl (hb hby at_275) rfl rfl (l' := #[.val (.long q1), .second, .val (.int p2), .val (.int p3), .val (.int p4), .val (.int p5), .val (.long g0), .second, .val (.long g1), .second, .val (.long g2), .second, .val (.long tot), .second, .val (.long cnt), .second, .val (.ref b3), .val (.ref b32), .val (.ref b49), .val (.int (2 : Int32)), .val (.long g2), .second, .val (.ref b62), .unset, .unset, .unset, .unset]) rfl hr) ?_
        show Till p e below s (Q0 Z q1 p2 p3 p4 p5 h0 n0) room_1.cells room_1.slots (T69.setTop (mkF m 277 #[.val (.long q1), .second, .val (.int p2), .val (.int p3), .val (.int p4), .val (.int p5), .val (.long g0), .second, .val (.long g1), .second, .val (.long g2), .second, .val (.long tot), .second, .val (.long cnt), .second, .val (.ref b3), .val (.ref b32), .val (.ref b49), .val (.int (2 : Int32)), .val (.long g2), .second, .val (.ref b62), .unset, .unset, .unset, .unset] []))
        refine Till.pre (fun _ hr => XS.aload X71.here hx rfl (hb hby at_277) rfl rfl hr) ?_
        show Till p e below s (Q0 Z q1 p2 p3 p4 p5 h0 n0) room_1.cells room_1.slots (T69.setTop (mkF m 279 #[.val (.long q1), .second, .val (.int p2), .val (.int p3), .val (.int p4), .val (.int p5), .val (.long g0), .second, .val (.long g1), .second, .val (.long g2), .second, .val (.long tot), .second, .val (.long cnt), .second, .val (.ref b3), .val (.ref b32), .val (.ref b49), .val (.int (2 : Int32)), .val (.long g2), .second, .val (.ref b62), .unset, .unset, .unset, .unset] [(.ref b62)]))
        refine Till.callV (rm5 l Z a0 hw b62 q1 T69.heap n0 Zs R_b62 g_b62) R_b62.1 X71 hx hZ hown (hw _ (List.mem_of_getElem? (i := 34) rfl)) (hw _ (List.mem_of_getElem? (i := 27) rfl)) (hw _ (List.mem_of_getElem? (i := 29) rfl)) (hw _ (List.mem_of_getElem? (i := 28) rfl)) (hw _ (List.mem_of_getElem? (i := 4) rfl)) (hw _ (List.mem_of_getElem? (i := 30) rfl)) (by decide) (by decide) (W := 0) (by decide) (by rw [hml]; rfl) (a := b62) (argsL := []) (rest := []) (lenOf pd0_0 rfl) rfl rfl (Nat.le_of_eq rfl) (hb hby at_279) rfl (by decide) (by decide) ?_
        rintro _ T75 L76 X77 ⟨rfl, N78, K79, q80⟩
        have N78 := Fr.app N72 N78
        have R_b3 := R_b3.keep K79 (ninS ne_b3_b62 nin0)
        have R_b32 := R_b32.keep K79 (ninS ne_b32_b62 nin0)
        have R_b49 := R_b49.keep K79 (ninS ne_b49_b62 nin0)
        have Zs := Nat.le_trans Zs K79.1
        have R_b62 : Lot Z T75.heap b62 (q1 + (-7046029254386353131 : Int64)) := q80
        show Till p e below s (Q0 Z q1 p2 p3 p4 p5 h0 n0) room_1.cells room_1.slots (T75.setTop (mkF m 282 #[.val (.long q1), .second, .val (.int p2), .val (.int p3), .val (.int p4), .val (.int p5), .val (.long g0), .second, .val (.long g1), .second, .val (.long g2), .second, .val (.long tot), .second, .val (.long cnt), .second, .val (.ref b3), .val (.ref b32), .val (.ref b49), .val (.int (2 : Int32)), .val (.long g2), .second, .val (.ref b62), .unset, .unset, .unset, .unset] [(.long (fn5 q1))]))
        refine Till.pre (fun _ hr => XS.iconst X77.here hx rfl (hb hby at_282) hr) ?_
        show Till p e below s (Q0 Z q1 p2 p3 p4 p5 h0 n0) room_1.cells room_1.slots (T75.setTop (mkF m 283 #[.val (.long q1), .second, .val (.int p2), .val (.int p3), .val (.int p4), .val (.int p5), .val (.long g0), .second, .val (.long g1), .second, .val (.long g2), .second, .val (.long tot), .second, .val (.long cnt), .second, .val (.ref b3), .val (.ref b32), .val (.ref b49), .val (.int (2 : Int32)), .val (.long g2), .second, .val (.ref b62), .unset, .unset, .unset, .unset] [(.int (1 : Int32)), (.long (fn5 q1))]))
        refine Till.pre (fun _ hr => XS.lushr X77.here hx rfl (hb hby at_283) rfl hr) ?_
        show Till p e below s (Q0 Z q1 p2 p3 p4 p5 h0 n0) room_1.cells room_1.slots (T75.setTop (mkF m 284 #[.val (.long q1), .second, .val (.int p2), .val (.int p3), .val (.int p4), .val (.int p5), .val (.long g0), .second, .val (.long g1), .second, .val (.long g2), .second, .val (.long tot), .second, .val (.long cnt), .second, .val (.ref b3), .val (.ref b32), .val (.ref b49), .val (.int (2 : Int32)), .val (.long g2), .second, .val (.ref b62), .unset, .unset, .unset, .unset] [(.long (lsr (fn5 q1) (1 : Int32)))]))
        refine Till.pre (fun _ hr => XS.lstore X77.here hx rfl (hb hby at_284) rfl (l' := #[.val (.long q1), .second, .val (.int p2), .val (.int p3), .val (.int p4), .val (.int p5), .val (.long g0), .second, .val (.long g1), .second, .val (.long g2), .second, .val (.long tot), .second, .val (.long cnt), .second, .val (.ref b3), .val (.ref b32), .val (.ref b49), .val (.int (2 : Int32)), .val (.long g2), .second, .val (.ref b62), .val (.long (lsr (fn5 q1) (1 : Int32))), .second, .unset, .unset]) rfl hr) ?_
        show Till p e below s (Q0 Z q1 p2 p3 p4 p5 h0 n0) room_1.cells room_1.slots (T75.setTop (mkF m 286 #[.val (.long q1), .second, .val (.int p2), .val (.int p3), .val (.int p4), .val (.int p5), .val (.long g0), .second, .val (.long g1), .second, .val (.long g2), .second, .val (.long tot), .second, .val (.long cnt), .second, .val (.ref b3), .val (.ref b32), .val (.ref b49), .val (.int (2 : Int32)), .val (.long g2), .second, .val (.ref b62), .val (.long (lsr (fn5 q1) (1 : Int32))), .second, .unset, .unset] []))
        refine Till.pre (fun _ hr => XS.lload X77.here hx rfl (hb hby at_286) rfl hr) ?_
        show Till p e below s (Q0 Z q1 p2 p3 p4 p5 h0 n0) room_1.cells room_1.slots (T75.setTop (mkF m 288 #[.val (.long q1), .second, .val (.int p2), .val (.int p3), .val (.int p4), .val (.int p5), .val (.long g0), .second, .val (.long g1), .second, .val (.long g2), .second, .val (.long tot), .second, .val (.long cnt), .second, .val (.ref b3), .val (.ref b32), .val (.ref b49), .val (.int (2 : Int32)), .val (.long g2), .second, .val (.ref b62), .val (.long (lsr (fn5 q1) (1 : Int32))), .second, .unset, .unset] [(.long (lsr (fn5 q1) (1 : Int32)))]))
        refine Till.pre (fun _ hr => XS.lload X77.here hx rfl (hb hby at_288) rfl hr) ?_
        show Till p e below s (Q0 Z q1 p2 p3 p4 p5 h0 n0) room_1.cells room_1.slots (T75.setTop (mkF m 290 #[.val (.long q1), .second, .val (.int p2), .val (.int p3), .val (.int p4), .val (.int p5), .val (.long g0), .second, .val (.long g1), .second, .val (.long g2), .second, .val (.long tot), .second, .val (.long cnt), .second, .val (.ref b3), .val (.ref b32), .val (.ref b49), .val (.int (2 : Int32)), .val (.long g2), .second, .val (.ref b62), .val (.long (lsr (fn5 q1) (1 : Int32))), .second, .unset, .unset] [(.long tot), (.long (lsr (fn5 q1) (1 : Int32)))]))
        refine Till.pre (fun _ hr => XS.lrem X77.here hx rfl (hb hby at_290) rfl (hc57) hr) ?_
        show Till p e below s (Q0 Z q1 p2 p3 p4 p5 h0 n0) room_1.cells room_1.slots (T75.setTop (mkF m 291 #[.val (.long q1), .second, .val (.int p2), .val (.int p3), .val (.int p4), .val (.int p5), .val (.long g0), .second, .val (.long g1), .second, .val (.long g2), .second, .val (.long tot), .second, .val (.long cnt), .second, .val (.ref b3), .val (.ref b32), .val (.ref b49), .val (.int (2 : Int32)), .val (.long g2), .second, .val (.ref b62), .val (.long (lsr (fn5 q1) (1 : Int32))), .second, .unset, .unset] [(.long ((lsr (fn5 q1) (1 : Int32)) - ((lsr (fn5 q1) (1 : Int32)) / tot) * tot))]))
        refine Till.pre (fun _ hr => XS.lstore X77.here hx rfl (hb hby at_291) rfl (l' := #[.val (.long q1), .second, .val (.int p2), .val (.int p3), .val (.int p4), .val (.int p5), .val (.long g0), .second, .val (.long g1), .second, .val (.long g2), .second, .val (.long tot), .second, .val (.long cnt), .second, .val (.ref b3), .val (.ref b32), .val (.ref b49), .val (.int (2 : Int32)), .val (.long g2), .second, .val (.ref b62), .val (.long (lsr (fn5 q1) (1 : Int32))), .second, .val (.long ((lsr (fn5 q1) (1 : Int32)) - ((lsr (fn5 q1) (1 : Int32)) / tot) * tot)), .second]) rfl hr) ?_
        show Till p e below s (Q0 Z q1 p2 p3 p4 p5 h0 n0) room_1.cells room_1.slots (T75.setTop (mkF m 293 #[.val (.long q1), .second, .val (.int p2), .val (.int p3), .val (.int p4), .val (.int p5), .val (.long g0), .second, .val (.long g1), .second, .val (.long g2), .second, .val (.long tot), .second, .val (.long cnt), .second, .val (.ref b3), .val (.ref b32), .val (.ref b49), .val (.int (2 : Int32)), .val (.long g2), .second, .val (.ref b62), .val (.long (lsr (fn5 q1) (1 : Int32))), .second, .val (.long ((lsr (fn5 q1) (1 : Int32)) - ((lsr (fn5 q1) (1 : Int32)) / tot) * tot)), .second] []))
        refine Till.pre (fun _ hr => XS.lload X77.here hx rfl (hb hby at_293) rfl hr) ?_
        show Till p e below s (Q0 Z q1 p2 p3 p4 p5 h0 n0) room_1.cells room_1.slots (T75.setTop (mkF m 295 #[.val (.long q1), .second, .val (.int p2), .val (.int p3), .val (.int p4), .val (.int p5), .val (.long g0), .second, .val (.long g1), .second, .val (.long g2), .second, .val (.long tot), .second, .val (.long cnt), .second, .val (.ref b3), .val (.ref b32), .val (.ref b49), .val (.int (2 : Int32)), .val (.long g2), .second, .val (.ref b62), .val (.long (lsr (fn5 q1) (1 : Int32))), .second, .val (.long ((lsr (fn5 q1) (1 : Int32)) - ((lsr (fn5 q1) (1 : Int32)) / tot) * tot)), .second] [(.long (lsr (fn5 q1) (1 : Int32)))]))
        refine Till.pre (fun _ hr => XS.lload X77.here hx rfl (hb hby at_295) rfl hr) ?_
        show Till p e below s (Q0 Z q1 p2 p3 p4 p5 h0 n0) room_1.cells room_1.slots (T75.setTop (mkF m 297 #[.val (.long q1), .second, .val (.int p2), .val (.int p3), .val (.int p4), .val (.int p5), .val (.long g0), .second, .val (.long g1), .second, .val (.long g2), .second, .val (.long tot), .second, .val (.long cnt), .second, .val (.ref b3), .val (.ref b32), .val (.ref b49), .val (.int (2 : Int32)), .val (.long g2), .second, .val (.ref b62), .val (.long (lsr (fn5 q1) (1 : Int32))), .second, .val (.long ((lsr (fn5 q1) (1 : Int32)) - ((lsr (fn5 q1) (1 : Int32)) / tot) * tot)), .second] [(.long ((lsr (fn5 q1) (1 : Int32)) - ((lsr (fn5 q1) (1 : Int32)) / tot) * tot)), (.long (lsr (fn5 q1) (1 : Int32)))]))
        refine Till.pre (fun _ hr => XS.lsub X77.here hx rfl (hb hby at_297) rfl hr) ?_
        show Till p e below s (Q0 Z q1 p2 p3 p4 p5 h0 n0) room_1.cells room_1.slots (T75.setTop (mkF m 298 #[.val (.long q1), .second, .val (.int p2), .val (.int p3), .val (.int p4), .val (.int p5), .val (.long g0), .second, .val (.long g1), .second, .val (.long g2), .second, .val (.long tot), .second, .val (.long cnt), .second, .val (.ref b3), .val (.ref b32), .val (.ref b49), .val (.int (2 : Int32)), .val (.long g2), .second, .val (.ref b62), .val (.long (lsr (fn5 q1) (1 : Int32))), .second, .val (.long ((lsr (fn5 q1) (1 : Int32)) - ((lsr (fn5 q1) (1 : Int32)) / tot) * tot)), .second] [(.long ((lsr (fn5 q1) (1 : Int32)) - ((lsr (fn5 q1) (1 : Int32)) - ((lsr (fn5 q1) (1 : Int32)) / tot) * tot)))]))
        refine Till.pre (fun _ hr => XS.lload X77.here hx rfl (hb hby at_298) rfl hr) ?_
        show Till p e below s (Q0 Z q1 p2 p3 p4 p5 h0 n0) room_1.cells room_1.slots (T75.setTop (mkF m 300 #[.val (.long q1), .second, .val (.int p2), .val (.int p3), .val (.int p4), .val (.int p5), .val (.long g0), .second, .val (.long g1), .second, .val (.long g2), .second, .val (.long tot), .second, .val (.long cnt), .second, .val (.ref b3), .val (.ref b32), .val (.ref b49), .val (.int (2 : Int32)), .val (.long g2), .second, .val (.ref b62), .val (.long (lsr (fn5 q1) (1 : Int32))), .second, .val (.long ((lsr (fn5 q1) (1 : Int32)) - ((lsr (fn5 q1) (1 : Int32)) / tot) * tot)), .second] [(.long tot), (.long ((lsr (fn5 q1) (1 : Int32)) - ((lsr (fn5 q1) (1 : Int32)) - ((lsr (fn5 q1) (1 : Int32)) / tot) * tot)))]))
        refine Till.pre (fun _ hr => XS.lconst X77.here hx rfl (hb hby at_300) hr) ?_
        show Till p e below s (Q0 Z q1 p2 p3 p4 p5 h0 n0) room_1.cells room_1.slots (T75.setTop (mkF m 301 #[.val (.long q1), .second, .val (.int p2), .val (.int p3), .val (.int p4), .val (.int p5), .val (.long g0), .second, .val (.long g1), .second, .val (.long g2), .second, .val (.long tot), .second, .val (.long cnt), .second, .val (.ref b3), .val (.ref b32), .val (.ref b49), .val (.int (2 : Int32)), .val (.long g2), .second, .val (.ref b62), .val (.long (lsr (fn5 q1) (1 : Int32))), .second, .val (.long ((lsr (fn5 q1) (1 : Int32)) - ((lsr (fn5 q1) (1 : Int32)) / tot) * tot)), .second] [(.long (1 : Int64)), (.long tot), (.long ((lsr (fn5 q1) (1 : Int32)) - ((lsr (fn5 q1) (1 : Int32)) - ((lsr (fn5 q1) (1 : Int32)) / tot) * tot)))]))
        refine Till.pre (fun _ hr => XS.lsub X77.here hx rfl (hb hby at_301) rfl hr) ?_
        show Till p e below s (Q0 Z q1 p2 p3 p4 p5 h0 n0) room_1.cells room_1.slots (T75.setTop (mkF m 302 #[.val (.long q1), .second, .val (.int p2), .val (.int p3), .val (.int p4), .val (.int p5), .val (.long g0), .second, .val (.long g1), .second, .val (.long g2), .second, .val (.long tot), .second, .val (.long cnt), .second, .val (.ref b3), .val (.ref b32), .val (.ref b49), .val (.int (2 : Int32)), .val (.long g2), .second, .val (.ref b62), .val (.long (lsr (fn5 q1) (1 : Int32))), .second, .val (.long ((lsr (fn5 q1) (1 : Int32)) - ((lsr (fn5 q1) (1 : Int32)) / tot) * tot)), .second] [(.long (tot - (1 : Int64))), (.long ((lsr (fn5 q1) (1 : Int32)) - ((lsr (fn5 q1) (1 : Int32)) - ((lsr (fn5 q1) (1 : Int32)) / tot) * tot)))]))
        refine Till.pre (fun _ hr => XS.ladd X77.here hx rfl (hb hby at_302) rfl hr) ?_
        show Till p e below s (Q0 Z q1 p2 p3 p4 p5 h0 n0) room_1.cells room_1.slots (T75.setTop (mkF m 303 #[.val (.long q1), .second, .val (.int p2), .val (.int p3), .val (.int p4), .val (.int p5), .val (.long g0), .second, .val (.long g1), .second, .val (.long g2), .second, .val (.long tot), .second, .val (.long cnt), .second, .val (.ref b3), .val (.ref b32), .val (.ref b49), .val (.int (2 : Int32)), .val (.long g2), .second, .val (.ref b62), .val (.long (lsr (fn5 q1) (1 : Int32))), .second, .val (.long ((lsr (fn5 q1) (1 : Int32)) - ((lsr (fn5 q1) (1 : Int32)) / tot) * tot)), .second] [(.long (((lsr (fn5 q1) (1 : Int32)) - ((lsr (fn5 q1) (1 : Int32)) - ((lsr (fn5 q1) (1 : Int32)) / tot) * tot)) + (tot - (1 : Int64))))]))
        refine Till.pre (fun _ hr => XS.lconst X77.here hx rfl (hb hby at_303) hr) ?_
        show Till p e below s (Q0 Z q1 p2 p3 p4 p5 h0 n0) room_1.cells room_1.slots (T75.setTop (mkF m 304 #[.val (.long q1), .second, .val (.int p2), .val (.int p3), .val (.int p4), .val (.int p5), .val (.long g0), .second, .val (.long g1), .second, .val (.long g2), .second, .val (.long tot), .second, .val (.long cnt), .second, .val (.ref b3), .val (.ref b32), .val (.ref b49), .val (.int (2 : Int32)), .val (.long g2), .second, .val (.ref b62), .val (.long (lsr (fn5 q1) (1 : Int32))), .second, .val (.long ((lsr (fn5 q1) (1 : Int32)) - ((lsr (fn5 q1) (1 : Int32)) / tot) * tot)), .second] [(.long (0 : Int64)), (.long (((lsr (fn5 q1) (1 : Int32)) - ((lsr (fn5 q1) (1 : Int32)) - ((lsr (fn5 q1) (1 : Int32)) / tot) * tot)) + (tot - (1 : Int64))))]))
        refine Till.pre (fun _ hr => XS.lcmp X77.here hx rfl (hb hby at_304) rfl hr) ?_
        show Till p e below s (Q0 Z q1 p2 p3 p4 p5 h0 n0) room_1.cells room_1.slots (T75.setTop (mkF m 305 #[.val (.long q1), .second, .val (.int p2), .val (.int p3), .val (.int p4), .val (.int p5), .val (.long g0), .second, .val (.long g1), .second, .val (.long g2), .second, .val (.long tot), .second, .val (.long cnt), .second, .val (.ref b3), .val (.ref b32), .val (.ref b49), .val (.int (2 : Int32)), .val (.long g2), .second, .val (.ref b62), .val (.long (lsr (fn5 q1) (1 : Int32))), .second, .val (.long ((lsr (fn5 q1) (1 : Int32)) - ((lsr (fn5 q1) (1 : Int32)) / tot) * tot)), .second] [(.int (lcmpW (((lsr (fn5 q1) (1 : Int32)) - ((lsr (fn5 q1) (1 : Int32)) - ((lsr (fn5 q1) (1 : Int32)) / tot) * tot)) + (tot - (1 : Int64))) (0 : Int64)))]))
        refine Till.ifc (pc' := 310) X77.here hx (hb hby at_305) (by decide) (by decide) (fun q => ?_) (fun q => ?_)
        · have hc81 := (mt lLt.mpr (hLt.2.2.1 q))
          show Till p e below s (Q0 Z q1 p2 p3 p4 p5 h0 n0) room_1.cells room_1.slots (T75.setTop (mkF m 310 #[.val (.long q1), .second, .val (.int p2), .val (.int p3), .val (.int p4), .val (.int p5), .val (.long g0), .second, .val (.long g1), .second, .val (.long g2), .second, .val (.long tot), .second, .val (.long cnt), .second, .val (.ref b3), .val (.ref b32), .val (.ref b49), .val (.int (2 : Int32)), .val (.long g2), .second, .val (.ref b62), .val (.long (lsr (fn5 q1) (1 : Int32))), .second, .val (.long ((lsr (fn5 q1) (1 : Int32)) - ((lsr (fn5 q1) (1 : Int32)) / tot) * tot)), .second] []))
          refine Till.pre (fun _ hr => XS.lload X77.here hx rfl (hb hby at_310) rfl hr) ?_
          show Till p e below s (Q0 Z q1 p2 p3 p4 p5 h0 n0) room_1.cells room_1.slots (T75.setTop (mkF m 312 #[.val (.long q1), .second, .val (.int p2), .val (.int p3), .val (.int p4), .val (.int p5), .val (.long g0), .second, .val (.long g1), .second, .val (.long g2), .second, .val (.long tot), .second, .val (.long cnt), .second, .val (.ref b3), .val (.ref b32), .val (.ref b49), .val (.int (2 : Int32)), .val (.long g2), .second, .val (.ref b62), .val (.long (lsr (fn5 q1) (1 : Int32))), .second, .val (.long ((lsr (fn5 q1) (1 : Int32)) - ((lsr (fn5 q1) (1 : Int32)) / tot) * tot)), .second] [(.long ((lsr (fn5 q1) (1 : Int32)) - ((lsr (fn5 q1) (1 : Int32)) / tot) * tot))]))
          refine Till.pre (fun _ hr => XS.lload X77.here hx rfl (hb hby at_312) rfl hr) ?_
          show Till p e below s (Q0 Z q1 p2 p3 p4 p5 h0 n0) room_1.cells room_1.slots (T75.setTop (mkF m 314 #[.val (.long q1), .second, .val (.int p2), .val (.int p3), .val (.int p4), .val (.int p5), .val (.long g0), .second, .val (.long g1), .second, .val (.long g2), .second, .val (.long tot), .second, .val (.long cnt), .second, .val (.ref b3), .val (.ref b32), .val (.ref b49), .val (.int (2 : Int32)), .val (.long g2), .second, .val (.ref b62), .val (.long (lsr (fn5 q1) (1 : Int32))), .second, .val (.long ((lsr (fn5 q1) (1 : Int32)) - ((lsr (fn5 q1) (1 : Int32)) / tot) * tot)), .second] [(.long cnt), (.long ((lsr (fn5 q1) (1 : Int32)) - ((lsr (fn5 q1) (1 : Int32)) / tot) * tot))]))
          refine Till.pre (fun _ hr => XS.lcmp X77.here hx rfl (hb hby at_314) rfl hr) ?_
          show Till p e below s (Q0 Z q1 p2 p3 p4 p5 h0 n0) room_1.cells room_1.slots (T75.setTop (mkF m 315 #[.val (.long q1), .second, .val (.int p2), .val (.int p3), .val (.int p4), .val (.int p5), .val (.long g0), .second, .val (.long g1), .second, .val (.long g2), .second, .val (.long tot), .second, .val (.long cnt), .second, .val (.ref b3), .val (.ref b32), .val (.ref b49), .val (.int (2 : Int32)), .val (.long g2), .second, .val (.ref b62), .val (.long (lsr (fn5 q1) (1 : Int32))), .second, .val (.long ((lsr (fn5 q1) (1 : Int32)) - ((lsr (fn5 q1) (1 : Int32)) / tot) * tot)), .second] [(.int (lcmpW ((lsr (fn5 q1) (1 : Int32)) - ((lsr (fn5 q1) (1 : Int32)) / tot) * tot) cnt))]))
          refine Till.ifc (pc' := 334) X77.here hx (hb hby at_315) (by decide) (by decide) (fun q => ?_) (fun q => ?_)
          · have hc82 := (mt lLt.mpr (hLt.2.2.1 q))
            show Till p e below s (Q0 Z q1 p2 p3 p4 p5 h0 n0) room_1.cells room_1.slots (T75.setTop (mkF m 334 #[.val (.long q1), .second, .val (.int p2), .val (.int p3), .val (.int p4), .val (.int p5), .val (.long g0), .second, .val (.long g1), .second, .val (.long g2), .second, .val (.long tot), .second, .val (.long cnt), .second, .val (.ref b3), .val (.ref b32), .val (.ref b49), .val (.int (2 : Int32)), .val (.long g2), .second, .val (.ref b62), .val (.long (lsr (fn5 q1) (1 : Int32))), .second, .val (.long ((lsr (fn5 q1) (1 : Int32)) - ((lsr (fn5 q1) (1 : Int32)) / tot) * tot)), .second] []))
            refine Till.pre (fun _ hr => XS.aload X77.here hx rfl (hb hby at_334) rfl rfl hr) ?_
            show Till p e below s (Q0 Z q1 p2 p3 p4 p5 h0 n0) room_1.cells room_1.slots (T75.setTop (mkF m 336 #[.val (.long q1), .second, .val (.int p2), .val (.int p3), .val (.int p4), .val (.int p5), .val (.long g0), .second, .val (.long g1), .second, .val (.long g2), .second, .val (.long tot), .second, .val (.long cnt), .second, .val (.ref b3), .val (.ref b32), .val (.ref b49), .val (.int (2 : Int32)), .val (.long g2), .second, .val (.ref b62), .val (.long (lsr (fn5 q1) (1 : Int32))), .second, .val (.long ((lsr (fn5 q1) (1 : Int32)) - ((lsr (fn5 q1) (1 : Int32)) / tot) * tot)), .second] [(.ref b49)]))
            refine Till.pre (fun _ hr => XS.iload X77.here hx rfl (hb hby at_336) rfl hr) ?_
            show Till p e below s (Q0 Z q1 p2 p3 p4 p5 h0 n0) room_1.cells room_1.slots (T75.setTop (mkF m 338 #[.val (.long q1), .second, .val (.int p2), .val (.int p3), .val (.int p4), .val (.int p5), .val (.long g0), .second, .val (.long g1), .second, .val (.long g2), .second, .val (.long tot), .second, .val (.long cnt), .second, .val (.ref b3), .val (.ref b32), .val (.ref b49), .val (.int (2 : Int32)), .val (.long g2), .second, .val (.ref b62), .val (.long (lsr (fn5 q1) (1 : Int32))), .second, .val (.long ((lsr (fn5 q1) (1 : Int32)) - ((lsr (fn5 q1) (1 : Int32)) / tot) * tot)), .second] [(.int (2 : Int32)), (.ref b49)]))
            refine Till.laload R_b49 (by decide) (by decide) X77 hx hZ rfl (hb hby at_338) ?_
            show Till p e below s (Q0 Z q1 p2 p3 p4 p5 h0 n0) room_1.cells room_1.slots (T75.setTop (mkF m 339 #[.val (.long q1), .second, .val (.int p2), .val (.int p3), .val (.int p4), .val (.int p5), .val (.long g0), .second, .val (.long g1), .second, .val (.long g2), .second, .val (.long tot), .second, .val (.long cnt), .second, .val (.ref b3), .val (.ref b32), .val (.ref b49), .val (.int (2 : Int32)), .val (.long g2), .second, .val (.ref b62), .val (.long (lsr (fn5 q1) (1 : Int32))), .second, .val (.long ((lsr (fn5 q1) (1 : Int32)) - ((lsr (fn5 q1) (1 : Int32)) / tot) * tot)), .second] [(.long (d51 2))]))
            refine Till.pre (fun _ hr => XS.lload X77.here hx rfl (hb hby at_339) rfl hr) ?_
            show Till p e below s (Q0 Z q1 p2 p3 p4 p5 h0 n0) room_1.cells room_1.slots (T75.setTop (mkF m 341 #[.val (.long q1), .second, .val (.int p2), .val (.int p3), .val (.int p4), .val (.int p5), .val (.long g0), .second, .val (.long g1), .second, .val (.long g2), .second, .val (.long tot), .second, .val (.long cnt), .second, .val (.ref b3), .val (.ref b32), .val (.ref b49), .val (.int (2 : Int32)), .val (.long g2), .second, .val (.ref b62), .val (.long (lsr (fn5 q1) (1 : Int32))), .second, .val (.long ((lsr (fn5 q1) (1 : Int32)) - ((lsr (fn5 q1) (1 : Int32)) / tot) * tot)), .second] [(.long g2), (.long (d51 2))]))
            refine Till.pre (fun _ hr => XS.lconst X77.here hx rfl (hb hby at_341) hr) ?_
            show Till p e below s (Q0 Z q1 p2 p3 p4 p5 h0 n0) room_1.cells room_1.slots (T75.setTop (mkF m 342 #[.val (.long q1), .second, .val (.int p2), .val (.int p3), .val (.int p4), .val (.int p5), .val (.long g0), .second, .val (.long g1), .second, .val (.long g2), .second, .val (.long tot), .second, .val (.long cnt), .second, .val (.ref b3), .val (.ref b32), .val (.ref b49), .val (.int (2 : Int32)), .val (.long g2), .second, .val (.ref b62), .val (.long (lsr (fn5 q1) (1 : Int32))), .second, .val (.long ((lsr (fn5 q1) (1 : Int32)) - ((lsr (fn5 q1) (1 : Int32)) / tot) * tot)), .second] [(.long (1 : Int64)), (.long g2), (.long (d51 2))]))
            refine Till.pre (fun _ hr => XS.lsub X77.here hx rfl (hb hby at_342) rfl hr) ?_
            show Till p e below s (Q0 Z q1 p2 p3 p4 p5 h0 n0) room_1.cells room_1.slots (T75.setTop (mkF m 343 #[.val (.long q1), .second, .val (.int p2), .val (.int p3), .val (.int p4), .val (.int p5), .val (.long g0), .second, .val (.long g1), .second, .val (.long g2), .second, .val (.long tot), .second, .val (.long cnt), .second, .val (.ref b3), .val (.ref b32), .val (.ref b49), .val (.int (2 : Int32)), .val (.long g2), .second, .val (.ref b62), .val (.long (lsr (fn5 q1) (1 : Int32))), .second, .val (.long ((lsr (fn5 q1) (1 : Int32)) - ((lsr (fn5 q1) (1 : Int32)) / tot) * tot)), .second] [(.long (g2 - (1 : Int64))), (.long (d51 2))]))
            refine Till.pre (fun _ hr => XS.lcmp X77.here hx rfl (hb hby at_343) rfl hr) ?_
            show Till p e below s (Q0 Z q1 p2 p3 p4 p5 h0 n0) room_1.cells room_1.slots (T75.setTop (mkF m 344 #[.val (.long q1), .second, .val (.int p2), .val (.int p3), .val (.int p4), .val (.int p5), .val (.long g0), .second, .val (.long g1), .second, .val (.long g2), .second, .val (.long tot), .second, .val (.long cnt), .second, .val (.ref b3), .val (.ref b32), .val (.ref b49), .val (.int (2 : Int32)), .val (.long g2), .second, .val (.ref b62), .val (.long (lsr (fn5 q1) (1 : Int32))), .second, .val (.long ((lsr (fn5 q1) (1 : Int32)) - ((lsr (fn5 q1) (1 : Int32)) / tot) * tot)), .second] [(.int (lcmpW (d51 2) (g2 - (1 : Int64))))]))
            have J352_83 : ∀ (v352s0 : Int32) (hv352s0 : v352s0 = (if ((g2 - (1 : Int64)) < (d51 2)) then (0 : Int32) else (1 : Int32))), Till p e below s (Q0 Z q1 p2 p3 p4 p5 h0 n0) room_1.cells room_1.slots (T75.setTop (mkF m 352 #[.val (.long q1), .second, .val (.int p2), .val (.int p3), .val (.int p4), .val (.int p5), .val (.long g0), .second, .val (.long g1), .second, .val (.long g2), .second, .val (.long tot), .second, .val (.long cnt), .second, .val (.ref b3), .val (.ref b32), .val (.ref b49), .val (.int (2 : Int32)), .val (.long g2), .second, .val (.ref b62), .val (.long (lsr (fn5 q1) (1 : Int32))), .second, .val (.long ((lsr (fn5 q1) (1 : Int32)) - ((lsr (fn5 q1) (1 : Int32)) / tot) * tot)), .second] [(.int v352s0)])) := by
              intro v352s0 hv352s0
              show Till p e below s (Q0 Z q1 p2 p3 p4 p5 h0 n0) room_1.cells room_1.slots (T75.setTop (mkF m 352 #[.val (.long q1), .second, .val (.int p2), .val (.int p3), .val (.int p4), .val (.int p5), .val (.long g0), .second, .val (.long g1), .second, .val (.long g2), .second, .val (.long tot), .second, .val (.long cnt), .second, .val (.ref b3), .val (.ref b32), .val (.ref b49), .val (.int (2 : Int32)), .val (.long g2), .second, .val (.ref b62), .val (.long (lsr (fn5 q1) (1 : Int32))), .second, .val (.long ((lsr (fn5 q1) (1 : Int32)) - ((lsr (fn5 q1) (1 : Int32)) / tot) * tot)), .second] [(.int v352s0)]))
              refine Till.retZ (w := (1 : Int32)) X77 hx hret hlk (hb hby at_352) (by decide) (by decide) (by rw [hv352s0, if_neg (own_no (gf := g2) hu_tot po56 (own_f2 (own_g7 hu_g0) (own_g7 hu_g1) (own_g7 hu_g2) hu_tot hc58 hc59 hc57) hc81 hc82 rfl ⟨own_p2 (own_f2 (own_g7 hu_g0) (own_g7 hu_g1) (own_g7 hu_g2) hu_tot hc58 hc59 hc57), (own_g7 hu_g2).2⟩)]; decide) ?_
              exact ⟨rfl, N78⟩
            refine Till.ifc (pc' := 351) X77.here hx (hb hby at_344) (by decide) (by decide) (fun q => ?_) (fun q => ?_)
            · have hc83 := (lGt.mp (hLt.2.2.2.2.1 q))
              show Till p e below s (Q0 Z q1 p2 p3 p4 p5 h0 n0) room_1.cells room_1.slots (T75.setTop (mkF m 351 #[.val (.long q1), .second, .val (.int p2), .val (.int p3), .val (.int p4), .val (.int p5), .val (.long g0), .second, .val (.long g1), .second, .val (.long g2), .second, .val (.long tot), .second, .val (.long cnt), .second, .val (.ref b3), .val (.ref b32), .val (.ref b49), .val (.int (2 : Int32)), .val (.long g2), .second, .val (.ref b62), .val (.long (lsr (fn5 q1) (1 : Int32))), .second, .val (.long ((lsr (fn5 q1) (1 : Int32)) - ((lsr (fn5 q1) (1 : Int32)) / tot) * tot)), .second] []))
              refine Till.pre (fun _ hr => XS.iconst X77.here hx rfl (hb hby at_351) hr) ?_
              show Till p e below s (Q0 Z q1 p2 p3 p4 p5 h0 n0) room_1.cells room_1.slots (T75.setTop (mkF m 352 #[.val (.long q1), .second, .val (.int p2), .val (.int p3), .val (.int p4), .val (.int p5), .val (.long g0), .second, .val (.long g1), .second, .val (.long g2), .second, .val (.long tot), .second, .val (.long cnt), .second, .val (.ref b3), .val (.ref b32), .val (.ref b49), .val (.int (2 : Int32)), .val (.long g2), .second, .val (.ref b62), .val (.long (lsr (fn5 q1) (1 : Int32))), .second, .val (.long ((lsr (fn5 q1) (1 : Int32)) - ((lsr (fn5 q1) (1 : Int32)) / tot) * tot)), .second] [(.int (0 : Int32))]))
              exact J352_83 _ (Eq.symm (if_pos hc83))
            · have hc83 := (mt lGt.mpr (hLt.2.2.2.2.2.1 q))
              show Till p e below s (Q0 Z q1 p2 p3 p4 p5 h0 n0) room_1.cells room_1.slots (T75.setTop (mkF m 347 #[.val (.long q1), .second, .val (.int p2), .val (.int p3), .val (.int p4), .val (.int p5), .val (.long g0), .second, .val (.long g1), .second, .val (.long g2), .second, .val (.long tot), .second, .val (.long cnt), .second, .val (.ref b3), .val (.ref b32), .val (.ref b49), .val (.int (2 : Int32)), .val (.long g2), .second, .val (.ref b62), .val (.long (lsr (fn5 q1) (1 : Int32))), .second, .val (.long ((lsr (fn5 q1) (1 : Int32)) - ((lsr (fn5 q1) (1 : Int32)) / tot) * tot)), .second] []))
              refine Till.pre (fun _ hr => XS.iconst X77.here hx rfl (hb hby at_347) hr) ?_
              show Till p e below s (Q0 Z q1 p2 p3 p4 p5 h0 n0) room_1.cells room_1.slots (T75.setTop (mkF m 348 #[.val (.long q1), .second, .val (.int p2), .val (.int p3), .val (.int p4), .val (.int p5), .val (.long g0), .second, .val (.long g1), .second, .val (.long g2), .second, .val (.long tot), .second, .val (.long cnt), .second, .val (.ref b3), .val (.ref b32), .val (.ref b49), .val (.int (2 : Int32)), .val (.long g2), .second, .val (.ref b62), .val (.long (lsr (fn5 q1) (1 : Int32))), .second, .val (.long ((lsr (fn5 q1) (1 : Int32)) - ((lsr (fn5 q1) (1 : Int32)) / tot) * tot)), .second] [(.int (1 : Int32))]))
              refine Till.pre (fun _ hr => XS.goto X77.here hx rfl (pc0 := 348) (pc' := 352) rfl (hb hby at_348) (by decide) (by decide) hr) ?_
              show Till p e below s (Q0 Z q1 p2 p3 p4 p5 h0 n0) room_1.cells room_1.slots (T75.setTop (mkF m 352 #[.val (.long q1), .second, .val (.int p2), .val (.int p3), .val (.int p4), .val (.int p5), .val (.long g0), .second, .val (.long g1), .second, .val (.long g2), .second, .val (.long tot), .second, .val (.long cnt), .second, .val (.ref b3), .val (.ref b32), .val (.ref b49), .val (.int (2 : Int32)), .val (.long g2), .second, .val (.ref b62), .val (.long (lsr (fn5 q1) (1 : Int32))), .second, .val (.long ((lsr (fn5 q1) (1 : Int32)) - ((lsr (fn5 q1) (1 : Int32)) / tot) * tot)), .second] [(.int (1 : Int32))]))
              exact J352_83 _ (Eq.symm (if_neg hc83))
          · have hc82 := (lLt.mp (hLt.2.2.2.1 q))
            show Till p e below s (Q0 Z q1 p2 p3 p4 p5 h0 n0) room_1.cells room_1.slots (T75.setTop (mkF m 318 #[.val (.long q1), .second, .val (.int p2), .val (.int p3), .val (.int p4), .val (.int p5), .val (.long g0), .second, .val (.long g1), .second, .val (.long g2), .second, .val (.long tot), .second, .val (.long cnt), .second, .val (.ref b3), .val (.ref b32), .val (.ref b49), .val (.int (2 : Int32)), .val (.long g2), .second, .val (.ref b62), .val (.long (lsr (fn5 q1) (1 : Int32))), .second, .val (.long ((lsr (fn5 q1) (1 : Int32)) - ((lsr (fn5 q1) (1 : Int32)) / tot) * tot)), .second] []))
            refine Till.pre (fun _ hr => XS.aload X77.here hx rfl (hb hby at_318) rfl rfl hr) ?_
            show Till p e below s (Q0 Z q1 p2 p3 p4 p5 h0 n0) room_1.cells room_1.slots (T75.setTop (mkF m 320 #[.val (.long q1), .second, .val (.int p2), .val (.int p3), .val (.int p4), .val (.int p5), .val (.long g0), .second, .val (.long g1), .second, .val (.long g2), .second, .val (.long tot), .second, .val (.long cnt), .second, .val (.ref b3), .val (.ref b32), .val (.ref b49), .val (.int (2 : Int32)), .val (.long g2), .second, .val (.ref b62), .val (.long (lsr (fn5 q1) (1 : Int32))), .second, .val (.long ((lsr (fn5 q1) (1 : Int32)) - ((lsr (fn5 q1) (1 : Int32)) / tot) * tot)), .second] [(.ref b49)]))
            refine Till.pre (fun _ hr => XS.iload X77.here hx rfl (hb hby at_320) rfl hr) ?_
            show Till p e below s (Q0 Z q1 p2 p3 p4 p5 h0 n0) room_1.cells room_1.slots (T75.setTop (mkF m 322 #[.val (.long q1), .second, .val (.int p2), .val (.int p3), .val (.int p4), .val (.int p5), .val (.long g0), .second, .val (.long g1), .second, .val (.long g2), .second, .val (.long tot), .second, .val (.long cnt), .second, .val (.ref b3), .val (.ref b32), .val (.ref b49), .val (.int (2 : Int32)), .val (.long g2), .second, .val (.ref b62), .val (.long (lsr (fn5 q1) (1 : Int32))), .second, .val (.long ((lsr (fn5 q1) (1 : Int32)) - ((lsr (fn5 q1) (1 : Int32)) / tot) * tot)), .second] [(.int (2 : Int32)), (.ref b49)]))
            refine Till.laload R_b49 (by decide) (by decide) X77 hx hZ rfl (hb hby at_322) ?_
            show Till p e below s (Q0 Z q1 p2 p3 p4 p5 h0 n0) room_1.cells room_1.slots (T75.setTop (mkF m 323 #[.val (.long q1), .second, .val (.int p2), .val (.int p3), .val (.int p4), .val (.int p5), .val (.long g0), .second, .val (.long g1), .second, .val (.long g2), .second, .val (.long tot), .second, .val (.long cnt), .second, .val (.ref b3), .val (.ref b32), .val (.ref b49), .val (.int (2 : Int32)), .val (.long g2), .second, .val (.ref b62), .val (.long (lsr (fn5 q1) (1 : Int32))), .second, .val (.long ((lsr (fn5 q1) (1 : Int32)) - ((lsr (fn5 q1) (1 : Int32)) / tot) * tot)), .second] [(.long (d51 2))]))
            refine Till.pre (fun _ hr => XS.lconst X77.here hx rfl (hb hby at_323) hr) ?_
            show Till p e below s (Q0 Z q1 p2 p3 p4 p5 h0 n0) room_1.cells room_1.slots (T75.setTop (mkF m 324 #[.val (.long q1), .second, .val (.int p2), .val (.int p3), .val (.int p4), .val (.int p5), .val (.long g0), .second, .val (.long g1), .second, .val (.long g2), .second, .val (.long tot), .second, .val (.long cnt), .second, .val (.ref b3), .val (.ref b32), .val (.ref b49), .val (.int (2 : Int32)), .val (.long g2), .second, .val (.ref b62), .val (.long (lsr (fn5 q1) (1 : Int32))), .second, .val (.long ((lsr (fn5 q1) (1 : Int32)) - ((lsr (fn5 q1) (1 : Int32)) / tot) * tot)), .second] [(.long (1 : Int64)), (.long (d51 2))]))
            refine Till.pre (fun _ hr => XS.lcmp X77.here hx rfl (hb hby at_324) rfl hr) ?_
            show Till p e below s (Q0 Z q1 p2 p3 p4 p5 h0 n0) room_1.cells room_1.slots (T75.setTop (mkF m 325 #[.val (.long q1), .second, .val (.int p2), .val (.int p3), .val (.int p4), .val (.int p5), .val (.long g0), .second, .val (.long g1), .second, .val (.long g2), .second, .val (.long tot), .second, .val (.long cnt), .second, .val (.ref b3), .val (.ref b32), .val (.ref b49), .val (.int (2 : Int32)), .val (.long g2), .second, .val (.ref b62), .val (.long (lsr (fn5 q1) (1 : Int32))), .second, .val (.long ((lsr (fn5 q1) (1 : Int32)) - ((lsr (fn5 q1) (1 : Int32)) / tot) * tot)), .second] [(.int (lcmpW (d51 2) (1 : Int64)))]))
            have J333_85 : ∀ (v333s0 : Int32) (hv333s0 : v333s0 = (if ((d51 2) < (1 : Int64)) then (0 : Int32) else (1 : Int32))), Till p e below s (Q0 Z q1 p2 p3 p4 p5 h0 n0) room_1.cells room_1.slots (T75.setTop (mkF m 333 #[.val (.long q1), .second, .val (.int p2), .val (.int p3), .val (.int p4), .val (.int p5), .val (.long g0), .second, .val (.long g1), .second, .val (.long g2), .second, .val (.long tot), .second, .val (.long cnt), .second, .val (.ref b3), .val (.ref b32), .val (.ref b49), .val (.int (2 : Int32)), .val (.long g2), .second, .val (.ref b62), .val (.long (lsr (fn5 q1) (1 : Int32))), .second, .val (.long ((lsr (fn5 q1) (1 : Int32)) - ((lsr (fn5 q1) (1 : Int32)) / tot) * tot)), .second] [(.int v333s0)])) := by
              intro v333s0 hv333s0
              show Till p e below s (Q0 Z q1 p2 p3 p4 p5 h0 n0) room_1.cells room_1.slots (T75.setTop (mkF m 333 #[.val (.long q1), .second, .val (.int p2), .val (.int p3), .val (.int p4), .val (.int p5), .val (.long g0), .second, .val (.long g1), .second, .val (.long g2), .second, .val (.long tot), .second, .val (.long cnt), .second, .val (.ref b3), .val (.ref b32), .val (.ref b49), .val (.int (2 : Int32)), .val (.long g2), .second, .val (.ref b62), .val (.long (lsr (fn5 q1) (1 : Int32))), .second, .val (.long ((lsr (fn5 q1) (1 : Int32)) - ((lsr (fn5 q1) (1 : Int32)) / tot) * tot)), .second] [(.int v333s0)]))
              refine Till.retZ (w := (1 : Int32)) X77 hx hret hlk (hb hby at_333) (by decide) (by decide) (by rw [hv333s0, if_neg (own_yes hu_tot po56 (own_f2 (own_g7 hu_g0) (own_g7 hu_g1) (own_g7 hu_g2) hu_tot hc58 hc59 hc57) hc81 hc82)]; decide) ?_
              exact ⟨rfl, N78⟩
            refine Till.ifc (pc' := 332) X77.here hx (hb hby at_325) (by decide) (by decide) (fun q => ?_) (fun q => ?_)
            · have hc85 := (lLt.mp (hLt.1 q))
              show Till p e below s (Q0 Z q1 p2 p3 p4 p5 h0 n0) room_1.cells room_1.slots (T75.setTop (mkF m 332 #[.val (.long q1), .second, .val (.int p2), .val (.int p3), .val (.int p4), .val (.int p5), .val (.long g0), .second, .val (.long g1), .second, .val (.long g2), .second, .val (.long tot), .second, .val (.long cnt), .second, .val (.ref b3), .val (.ref b32), .val (.ref b49), .val (.int (2 : Int32)), .val (.long g2), .second, .val (.ref b62), .val (.long (lsr (fn5 q1) (1 : Int32))), .second, .val (.long ((lsr (fn5 q1) (1 : Int32)) - ((lsr (fn5 q1) (1 : Int32)) / tot) * tot)), .second] []))
              refine Till.pre (fun _ hr => XS.iconst X77.here hx rfl (hb hby at_332) hr) ?_
              show Till p e below s (Q0 Z q1 p2 p3 p4 p5 h0 n0) room_1.cells room_1.slots (T75.setTop (mkF m 333 #[.val (.long q1), .second, .val (.int p2), .val (.int p3), .val (.int p4), .val (.int p5), .val (.long g0), .second, .val (.long g1), .second, .val (.long g2), .second, .val (.long tot), .second, .val (.long cnt), .second, .val (.ref b3), .val (.ref b32), .val (.ref b49), .val (.int (2 : Int32)), .val (.long g2), .second, .val (.ref b62), .val (.long (lsr (fn5 q1) (1 : Int32))), .second, .val (.long ((lsr (fn5 q1) (1 : Int32)) - ((lsr (fn5 q1) (1 : Int32)) / tot) * tot)), .second] [(.int (0 : Int32))]))
              exact J333_85 _ (Eq.symm (if_pos hc85))
            · have hc85 := (mt lLt.mpr (hLt.2.1 q))
              show Till p e below s (Q0 Z q1 p2 p3 p4 p5 h0 n0) room_1.cells room_1.slots (T75.setTop (mkF m 328 #[.val (.long q1), .second, .val (.int p2), .val (.int p3), .val (.int p4), .val (.int p5), .val (.long g0), .second, .val (.long g1), .second, .val (.long g2), .second, .val (.long tot), .second, .val (.long cnt), .second, .val (.ref b3), .val (.ref b32), .val (.ref b49), .val (.int (2 : Int32)), .val (.long g2), .second, .val (.ref b62), .val (.long (lsr (fn5 q1) (1 : Int32))), .second, .val (.long ((lsr (fn5 q1) (1 : Int32)) - ((lsr (fn5 q1) (1 : Int32)) / tot) * tot)), .second] []))
              refine Till.pre (fun _ hr => XS.iconst X77.here hx rfl (hb hby at_328) hr) ?_
              show Till p e below s (Q0 Z q1 p2 p3 p4 p5 h0 n0) room_1.cells room_1.slots (T75.setTop (mkF m 329 #[.val (.long q1), .second, .val (.int p2), .val (.int p3), .val (.int p4), .val (.int p5), .val (.long g0), .second, .val (.long g1), .second, .val (.long g2), .second, .val (.long tot), .second, .val (.long cnt), .second, .val (.ref b3), .val (.ref b32), .val (.ref b49), .val (.int (2 : Int32)), .val (.long g2), .second, .val (.ref b62), .val (.long (lsr (fn5 q1) (1 : Int32))), .second, .val (.long ((lsr (fn5 q1) (1 : Int32)) - ((lsr (fn5 q1) (1 : Int32)) / tot) * tot)), .second] [(.int (1 : Int32))]))
              refine Till.pre (fun _ hr => XS.goto X77.here hx rfl (pc0 := 329) (pc' := 333) rfl (hb hby at_329) (by decide) (by decide) hr) ?_
              show Till p e below s (Q0 Z q1 p2 p3 p4 p5 h0 n0) room_1.cells room_1.slots (T75.setTop (mkF m 333 #[.val (.long q1), .second, .val (.int p2), .val (.int p3), .val (.int p4), .val (.int p5), .val (.long g0), .second, .val (.long g1), .second, .val (.long g2), .second, .val (.long tot), .second, .val (.long cnt), .second, .val (.ref b3), .val (.ref b32), .val (.ref b49), .val (.int (2 : Int32)), .val (.long g2), .second, .val (.ref b62), .val (.long (lsr (fn5 q1) (1 : Int32))), .second, .val (.long ((lsr (fn5 q1) (1 : Int32)) - ((lsr (fn5 q1) (1 : Int32)) / tot) * tot)), .second] [(.int (1 : Int32))]))
              exact J333_85 _ (Eq.symm (if_neg hc85))
        · have hc81 := (lLt.mp (hLt.2.2.2.1 q))
          show Till p e below s (Q0 Z q1 p2 p3 p4 p5 h0 n0) room_1.cells room_1.slots (T75.setTop (mkF m 308 #[.val (.long q1), .second, .val (.int p2), .val (.int p3), .val (.int p4), .val (.int p5), .val (.long g0), .second, .val (.long g1), .second, .val (.long g2), .second, .val (.long tot), .second, .val (.long cnt), .second, .val (.ref b3), .val (.ref b32), .val (.ref b49), .val (.int (2 : Int32)), .val (.long g2), .second, .val (.ref b62), .val (.long (lsr (fn5 q1) (1 : Int32))), .second, .val (.long ((lsr (fn5 q1) (1 : Int32)) - ((lsr (fn5 q1) (1 : Int32)) / tot) * tot)), .second] []))
          refine Till.pre (fun _ hr => XS.iconst X77.here hx rfl (hb hby at_308) hr) ?_
          show Till p e below s (Q0 Z q1 p2 p3 p4 p5 h0 n0) room_1.cells room_1.slots (T75.setTop (mkF m 309 #[.val (.long q1), .second, .val (.int p2), .val (.int p3), .val (.int p4), .val (.int p5), .val (.long g0), .second, .val (.long g1), .second, .val (.long g2), .second, .val (.long tot), .second, .val (.long cnt), .second, .val (.ref b3), .val (.ref b32), .val (.ref b49), .val (.int (2 : Int32)), .val (.long g2), .second, .val (.ref b62), .val (.long (lsr (fn5 q1) (1 : Int32))), .second, .val (.long ((lsr (fn5 q1) (1 : Int32)) - ((lsr (fn5 q1) (1 : Int32)) / tot) * tot)), .second] [(.int (1 : Int32))]))
          refine Till.retZ (w := (1 : Int32)) X77 hx hret hlk (hb hby at_309) (by decide) (by decide) (by decide) ?_
          exact ⟨rfl, N78⟩
      · have hc59 := (lGt.mp (hLt.2.2.2.2.2.2.2 q))
        show Till p e below s (Q0 Z q1 p2 p3 p4 p5 h0 n0) room_1.cells room_1.slots (T45.setTop (mkF m 235 #[.val (.long q1), .second, .val (.int p2), .val (.int p3), .val (.int p4), .val (.int p5), .val (.long g0), .second, .val (.long g1), .second, .val (.long g2), .second, .val (.long tot), .second, .val (.long cnt), .second, .val (.ref b3), .val (.ref b32), .val (.ref b49), .unset, .unset, .unset, .unset, .unset, .unset, .unset, .unset] []))
        refine Till.pre (fun _ hr => XS.iconst X47.here hx rfl (hb hby at_235) hr) ?_
        show Till p e below s (Q0 Z q1 p2 p3 p4 p5 h0 n0) room_1.cells room_1.slots (T45.setTop (mkF m 236 #[.val (.long q1), .second, .val (.int p2), .val (.int p3), .val (.int p4), .val (.int p5), .val (.long g0), .second, .val (.long g1), .second, .val (.long g2), .second, .val (.long tot), .second, .val (.long cnt), .second, .val (.ref b3), .val (.ref b32), .val (.ref b49), .unset, .unset, .unset, .unset, .unset, .unset, .unset, .unset] [(.int (1 : Int32))]))
        refine Till.pre (fun _ hr => XS.goto X47.here hx rfl (pc0 := 236) (pc' := 240) rfl (hb hby at_236) (by decide) (by decide) hr) ?_
        show Till p e below s (Q0 Z q1 p2 p3 p4 p5 h0 n0) room_1.cells room_1.slots (T45.setTop (mkF m 240 #[.val (.long q1), .second, .val (.int p2), .val (.int p3), .val (.int p4), .val (.int p5), .val (.long g0), .second, .val (.long g1), .second, .val (.long g2), .second, .val (.long tot), .second, .val (.long cnt), .second, .val (.ref b3), .val (.ref b32), .val (.ref b49), .unset, .unset, .unset, .unset, .unset, .unset, .unset, .unset] [(.int (1 : Int32))]))
        refine Till.pre (fun _ hr => XS.istore X47.here hx rfl (hb hby at_240) rfl (l' := #[.val (.long q1), .second, .val (.int p2), .val (.int p3), .val (.int p4), .val (.int p5), .val (.long g0), .second, .val (.long g1), .second, .val (.long g2), .second, .val (.long tot), .second, .val (.long cnt), .second, .val (.ref b3), .val (.ref b32), .val (.ref b49), .val (.int (1 : Int32)), .unset, .unset, .unset, .unset, .unset, .unset, .unset]) rfl hr) ?_
        show Till p e below s (Q0 Z q1 p2 p3 p4 p5 h0 n0) room_1.cells room_1.slots (T45.setTop (mkF m 242 #[.val (.long q1), .second, .val (.int p2), .val (.int p3), .val (.int p4), .val (.int p5), .val (.long g0), .second, .val (.long g1), .second, .val (.long g2), .second, .val (.long tot), .second, .val (.long cnt), .second, .val (.ref b3), .val (.ref b32), .val (.ref b49), .val (.int (1 : Int32)), .unset, .unset, .unset, .unset, .unset, .unset, .unset] []))
        refine Till.pre (fun _ hr => XS.iload X47.here hx rfl (hb hby at_242) rfl hr) ?_
        show Till p e below s (Q0 Z q1 p2 p3 p4 p5 h0 n0) room_1.cells room_1.slots (T45.setTop (mkF m 244 #[.val (.long q1), .second, .val (.int p2), .val (.int p3), .val (.int p4), .val (.int p5), .val (.long g0), .second, .val (.long g1), .second, .val (.long g2), .second, .val (.long tot), .second, .val (.long cnt), .second, .val (.ref b3), .val (.ref b32), .val (.ref b49), .val (.int (1 : Int32)), .unset, .unset, .unset, .unset, .unset, .unset, .unset] [(.int (1 : Int32))]))
        refine Till.ifc (pc' := 252) X47.here hx (hb hby at_244) (by decide) (by decide) (fun q => ?_) (fun q => absurd (hEq.2.2.2 q) (by decide : ¬ ((1 : Int32) = (0 : Int32))))
        show Till p e below s (Q0 Z q1 p2 p3 p4 p5 h0 n0) room_1.cells room_1.slots (T45.setTop (mkF m 252 #[.val (.long q1), .second, .val (.int p2), .val (.int p3), .val (.int p4), .val (.int p5), .val (.long g0), .second, .val (.long g1), .second, .val (.long g2), .second, .val (.long tot), .second, .val (.long cnt), .second, .val (.ref b3), .val (.ref b32), .val (.ref b49), .val (.int (1 : Int32)), .unset, .unset, .unset, .unset, .unset, .unset, .unset] []))
        refine Till.pre (fun _ hr => XS.iload X47.here hx rfl (hb hby at_252) rfl hr) ?_
        show Till p e below s (Q0 Z q1 p2 p3 p4 p5 h0 n0) room_1.cells room_1.slots (T45.setTop (mkF m 254 #[.val (.long q1), .second, .val (.int p2), .val (.int p3), .val (.int p4), .val (.int p5), .val (.long g0), .second, .val (.long g1), .second, .val (.long g2), .second, .val (.long tot), .second, .val (.long cnt), .second, .val (.ref b3), .val (.ref b32), .val (.ref b49), .val (.int (1 : Int32)), .unset, .unset, .unset, .unset, .unset, .unset, .unset] [(.int (1 : Int32))]))
        refine Till.pre (fun _ hr => XS.iconst X47.here hx rfl (hb hby at_254) hr) ?_
        show Till p e below s (Q0 Z q1 p2 p3 p4 p5 h0 n0) room_1.cells room_1.slots (T45.setTop (mkF m 255 #[.val (.long q1), .second, .val (.int p2), .val (.int p3), .val (.int p4), .val (.int p5), .val (.long g0), .second, .val (.long g1), .second, .val (.long g2), .second, .val (.long tot), .second, .val (.long cnt), .second, .val (.ref b3), .val (.ref b32), .val (.ref b49), .val (.int (1 : Int32)), .unset, .unset, .unset, .unset, .unset, .unset, .unset] [(.int (1 : Int32)), (.int (1 : Int32))]))
        refine Till.icmp (pc' := 263) X47.here hx (hb hby at_255) (by decide) (by decide) (fun q => absurd (by decide : ((1 : Int32) = (1 : Int32))) (hEq.2.2.1 q)) (fun q => ?_)
        show Till p e below s (Q0 Z q1 p2 p3 p4 p5 h0 n0) room_1.cells room_1.slots (T45.setTop (mkF m 258 #[.val (.long q1), .second, .val (.int p2), .val (.int p3), .val (.int p4), .val (.int p5), .val (.long g0), .second, .val (.long g1), .second, .val (.long g2), .second, .val (.long tot), .second, .val (.long cnt), .second, .val (.ref b3), .val (.ref b32), .val (.ref b49), .val (.int (1 : Int32)), .unset, .unset, .unset, .unset, .unset, .unset, .unset] []))
        refine Till.pre (fun _ hr => XS.lload X47.here hx rfl (hb hby at_258) rfl hr) ?_
        show Till p e below s (Q0 Z q1 p2 p3 p4 p5 h0 n0) room_1.cells room_1.slots (T45.setTop (mkF m 260 #[.val (.long q1), .second, .val (.int p2), .val (.int p3), .val (.int p4), .val (.int p5), .val (.long g0), .second, .val (.long g1), .second, .val (.long g2), .second, .val (.long tot), .second, .val (.long cnt), .second, .val (.ref b3), .val (.ref b32), .val (.ref b49), .val (.int (1 : Int32)), .unset, .unset, .unset, .unset, .unset, .unset, .unset] [(.long g1)]))
        refine Till.pre (fun _ hr => XS.goto X47.here hx rfl (pc0 := 260) (pc' := 265) rfl (hb hby at_260) (by decide) (by decide) hr) ?_
        show Till p e below s (Q0 Z q1 p2 p3 p4 p5 h0 n0) room_1.cells room_1.slots (T45.setTop (mkF m 265 #[.val (.long q1), .second, .val (.int p2), .val (.int p3), .val (.int p4), .val (.int p5), .val (.long g0), .second, .val (.long g1), .second, .val (.long g2), .second, .val (.long tot), .second, .val (.long cnt), .second, .val (.ref b3), .val (.ref b32), .val (.ref b49), .val (.int (1 : Int32)), .unset, .unset, .unset, .unset, .unset, .unset, .unset] [(.long g1)]))
        refine Till.pre (fun _ hr => XS.lstore X47.here hx rfl (hb hby at_265) rfl (l' := #[.val (.long q1), .second, .val (.int p2), .val (.int p3), .val (.int p4), .val (.int p5), .val (.long g0), .second, .val (.long g1), .second, .val (.long g2), .second, .val (.long tot), .second, .val (.long cnt), .second, .val (.ref b3), .val (.ref b32), .val (.ref b49), .val (.int (1 : Int32)), .val (.long g1), .second, .unset, .unset, .unset, .unset, .unset]) rfl hr) ?_
        show Till p e below s (Q0 Z q1 p2 p3 p4 p5 h0 n0) room_1.cells room_1.slots (T45.setTop (mkF m 267 #[.val (.long q1), .second, .val (.int p2), .val (.int p3), .val (.int p4), .val (.int p5), .val (.long g0), .second, .val (.long g1), .second, .val (.long g2), .second, .val (.long tot), .second, .val (.long cnt), .second, .val (.ref b3), .val (.ref b32), .val (.ref b49), .val (.int (1 : Int32)), .val (.long g1), .second, .unset, .unset, .unset, .unset, .unset] []))
        refine Till.newO X47 hx hZ hown (hw _ (List.mem_of_getElem? (i := 2) rfl)) (hw _ (List.mem_of_getElem? (i := 3) rfl)) (hw _ (List.mem_of_getElem? (i := 4) rfl)) rfl (hb hby at_267) (by decide) (by decide) (fun T87 h88 b89 g90 X91 e92 E93 A94 D95 => ?_)
        have ne_b3_b89 : b3 ≠ b89 := Nat.ne_of_lt (Nat.lt_of_lt_of_le R_b3.lt (Nat.le_of_eq g90.symm))
        have ne_b32_b89 : b32 ≠ b89 := Nat.ne_of_lt (Nat.lt_of_lt_of_le R_b32.lt (Nat.le_of_eq g90.symm))
        have ne_b49_b89 : b49 ≠ b89 := Nat.ne_of_lt (Nat.lt_of_lt_of_le R_b49.lt (Nat.le_of_eq g90.symm))
        have g_b89 : n0 ≤ b89 := Nat.le_trans Zs (Nat.le_of_eq g90.symm)
        have R_b3 := R_b3.ext E93
        have R_b32 := R_b32.ext E93
        have R_b49 := R_b49.ext E93
        have Zs := Nat.le_trans Zs E93.1
        have R_b89 : Lot Z h88 b89 (0 : Int64) := ⟨A94, D95 (Or.inl (hw _ (List.mem_of_getElem? (i := 12) rfl))) (ty := .long) (by decide)⟩
        show Till p e below s (Q0 Z q1 p2 p3 p4 p5 h0 n0) room_1.cells room_1.slots (T87.setTop (mkF m 270 #[.val (.long q1), .second, .val (.int p2), .val (.int p3), .val (.int p4), .val (.int p5), .val (.long g0), .second, .val (.long g1), .second, .val (.long g2), .second, .val (.long tot), .second, .val (.long cnt), .second, .val (.ref b3), .val (.ref b32), .val (.ref b49), .val (.int (1 : Int32)), .val (.long g1), .second, .unset, .unset, .unset, .unset, .unset] [(.ref b89)]))
        refine Till.pre (fun _ hr => XS.dup X91.here hx rfl (hb hby at_270) rfl rfl hr) ?_
        show Till p e below s (Q0 Z q1 p2 p3 p4 p5 h0 n0) room_1.cells room_1.slots (T87.setTop (mkF m 271 #[.val (.long q1), .second, .val (.int p2), .val (.int p3), .val (.int p4), .val (.int p5), .val (.long g0), .second, .val (.long g1), .second, .val (.long g2), .second, .val (.long tot), .second, .val (.long cnt), .second, .val (.ref b3), .val (.ref b32), .val (.ref b49), .val (.int (1 : Int32)), .val (.long g1), .second, .unset, .unset, .unset, .unset, .unset] [(.ref b89), (.ref b89)]))
        refine Till.pre (fun _ hr => XS.lloadN X91.here hx rfl (hb hby at_271) rfl hr) ?_
        show Till p e below s (Q0 Z q1 p2 p3 p4 p5 h0 n0) room_1.cells room_1.slots (T87.setTop (mkF m 272 #[.val (.long q1), .second, .val (.int p2), .val (.int p3), .val (.int p4), .val (.int p5), .val (.long g0), .second, .val (.long g1), .second, .val (.long g2), .second, .val (.long tot), .second, .val (.long cnt), .second, .val (.ref b3), .val (.ref b32), .val (.ref b49), .val (.int (1 : Int32)), .val (.long g1), .second, .unset, .unset, .unset, .unset, .unset] [(.long q1), (.ref b89), (.ref b89)]))
        refine Till.callC (rm1 l Z a0 hw b89 q1 (0 : Int64) h88 n0 Zs R_b89 g_b89) X91 hx hZ hown rfl (hw _ (List.mem_of_getElem? (i := 5) rfl)) (hw _ (List.mem_of_getElem? (i := 6) rfl)) (hw _ (List.mem_of_getElem? (i := 4) rfl)) (hw _ (List.mem_of_getElem? (i := 7) rfl)) (by decide) (by decide) (W := 1) (by decide) (by rw [hml]; rfl) (a := b89) (argsL := [(.long q1)]) (rest := [(.ref b89)]) (lenOf pd0_3 rfl) rfl rfl (Nat.le_of_eq rfl) (hb hby at_272) e92 (by decide) (by decide) ?_
        rintro _ T96 L97 X98 ⟨rfl, N99, K100, q101⟩
        have N99 := Fr.app N48 N99
        have R_b3 := R_b3.keep K100 (ninS ne_b3_b89 nin0)
        have R_b32 := R_b32.keep K100 (ninS ne_b32_b89 nin0)
        have R_b49 := R_b49.keep K100 (ninS ne_b49_b89 nin0)
        have Zs := Nat.le_trans Zs K100.1
        have R_b89 : Lot Z T96.heap b89 q1 := q101
        show Till p e below s (Q0 Z q1 p2 p3 p4 p5 h0 n0) room_1.cells room_1.slots (T96.setTop (mkF m 275 #[.val (.long q1), .second, .val (.int p2), .val (.int p3), .val (.int p4), .val (.int p5), .val (.long g0), .second, .val (.long g1), .second, .val (.long g2), .second, .val (.long tot), .second, .val (.long cnt), .second, .val (.ref b3), .val (.ref b32), .val (.ref b49), .val (.int (1 : Int32)), .val (.long g1), .second, .unset, .unset, .unset, .unset, .unset] [(.ref b89)]))
        refine Till.pre (fun _ hr => XS.astore X98.here hx rfl (hb hby at_275) rfl rfl (l' := #[.val (.long q1), .second, .val (.int p2), .val (.int p3), .val (.int p4), .val (.int p5), .val (.long g0), .second, .val (.long g1), .second, .val (.long g2), .second, .val (.long tot), .second, .val (.long cnt), .second, .val (.ref b3), .val (.ref b32), .val (.ref b49), .val (.int (1 : Int32)), .val (.long g1), .second, .val (.ref b89), .unset, .unset, .unset, .unset]) rfl hr) ?_
        show Till p e below s (Q0 Z q1 p2 p3 p4 p5 h0 n0) room_1.cells room_1.slots (T96.setTop (mkF m 277 #[.val (.long q1), .second, .val (.int p2), .val (.int p3), .val (.int p4), .val (.int p5), .val (.long g0), .second, .val (.long g1), .second, .val (.long g2), .second, .val (.long tot), .second, .val (.long cnt), .second, .val (.ref b3), .val (.ref b32), .val (.ref b49), .val (.int (1 : Int32)), .val (.long g1), .second, .val (.ref b89), .unset, .unset, .unset, .unset] []))
        refine Till.pre (fun _ hr => XS.aload X98.here hx rfl (hb hby at_277) rfl rfl hr) ?_
        show Till p e below s (Q0 Z q1 p2 p3 p4 p5 h0 n0) room_1.cells room_1.slots (T96.setTop (mkF m 279 #[.val (.long q1), .second, .val (.int p2), .val (.int p3), .val (.int p4), .val (.int p5), .val (.long g0), .second, .val (.long g1), .second, .val (.long g2), .second, .val (.long tot), .second, .val (.long cnt), .second, .val (.ref b3), .val (.ref b32), .val (.ref b49), .val (.int (1 : Int32)), .val (.long g1), .second, .val (.ref b89), .unset, .unset, .unset, .unset] [(.ref b89)]))
        refine Till.callV (rm5 l Z a0 hw b89 q1 T96.heap n0 Zs R_b89 g_b89) R_b89.1 X98 hx hZ hown (hw _ (List.mem_of_getElem? (i := 34) rfl)) (hw _ (List.mem_of_getElem? (i := 27) rfl)) (hw _ (List.mem_of_getElem? (i := 29) rfl)) (hw _ (List.mem_of_getElem? (i := 28) rfl)) (hw _ (List.mem_of_getElem? (i := 4) rfl)) (hw _ (List.mem_of_getElem? (i := 30) rfl)) (by decide) (by decide) (W := 0) (by decide) (by rw [hml]; rfl) (a := b89) (argsL := []) (rest := []) (lenOf pd0_0 rfl) rfl rfl (Nat.le_of_eq rfl) (hb hby at_279) rfl (by decide) (by decide) ?_
        rintro _ T102 L103 X104 ⟨rfl, N105, K106, q107⟩
        have N105 := Fr.app N99 N105
        have R_b3 := R_b3.keep K106 (ninS ne_b3_b89 nin0)
        have R_b32 := R_b32.keep K106 (ninS ne_b32_b89 nin0)
        have R_b49 := R_b49.keep K106 (ninS ne_b49_b89 nin0)
        have Zs := Nat.le_trans Zs K106.1
        have R_b89 : Lot Z T102.heap b89 (q1 + (-7046029254386353131 : Int64)) := q107
        show Till p e below s (Q0 Z q1 p2 p3 p4 p5 h0 n0) room_1.cells room_1.slots (T102.setTop (mkF m 282 #[.val (.long q1), .second, .val (.int p2), .val (.int p3), .val (.int p4), .val (.int p5), .val (.long g0), .second, .val (.long g1), .second, .val (.long g2), .second, .val (.long tot), .second, .val (.long cnt), .second, .val (.ref b3), .val (.ref b32), .val (.ref b49), .val (.int (1 : Int32)), .val (.long g1), .second, .val (.ref b89), .unset, .unset, .unset, .unset] [(.long (fn5 q1))]))
        refine Till.pre (fun _ hr => XS.iconst X104.here hx rfl (hb hby at_282) hr) ?_
        show Till p e below s (Q0 Z q1 p2 p3 p4 p5 h0 n0) room_1.cells room_1.slots (T102.setTop (mkF m 283 #[.val (.long q1), .second, .val (.int p2), .val (.int p3), .val (.int p4), .val (.int p5), .val (.long g0), .second, .val (.long g1), .second, .val (.long g2), .second, .val (.long tot), .second, .val (.long cnt), .second, .val (.ref b3), .val (.ref b32), .val (.ref b49), .val (.int (1 : Int32)), .val (.long g1), .second, .val (.ref b89), .unset, .unset, .unset, .unset] [(.int (1 : Int32)), (.long (fn5 q1))]))
        refine Till.pre (fun _ hr => XS.lushr X104.here hx rfl (hb hby at_283) rfl hr) ?_
        show Till p e below s (Q0 Z q1 p2 p3 p4 p5 h0 n0) room_1.cells room_1.slots (T102.setTop (mkF m 284 #[.val (.long q1), .second, .val (.int p2), .val (.int p3), .val (.int p4), .val (.int p5), .val (.long g0), .second, .val (.long g1), .second, .val (.long g2), .second, .val (.long tot), .second, .val (.long cnt), .second, .val (.ref b3), .val (.ref b32), .val (.ref b49), .val (.int (1 : Int32)), .val (.long g1), .second, .val (.ref b89), .unset, .unset, .unset, .unset] [(.long (lsr (fn5 q1) (1 : Int32)))]))
        refine Till.pre (fun _ hr => XS.lstore X104.here hx rfl (hb hby at_284) rfl (l' := #[.val (.long q1), .second, .val (.int p2), .val (.int p3), .val (.int p4), .val (.int p5), .val (.long g0), .second, .val (.long g1), .second, .val (.long g2), .second, .val (.long tot), .second, .val (.long cnt), .second, .val (.ref b3), .val (.ref b32), .val (.ref b49), .val (.int (1 : Int32)), .val (.long g1), .second, .val (.ref b89), .val (.long (lsr (fn5 q1) (1 : Int32))), .second, .unset, .unset]) rfl hr) ?_
        show Till p e below s (Q0 Z q1 p2 p3 p4 p5 h0 n0) room_1.cells room_1.slots (T102.setTop (mkF m 286 #[.val (.long q1), .second, .val (.int p2), .val (.int p3), .val (.int p4), .val (.int p5), .val (.long g0), .second, .val (.long g1), .second, .val (.long g2), .second, .val (.long tot), .second, .val (.long cnt), .second, .val (.ref b3), .val (.ref b32), .val (.ref b49), .val (.int (1 : Int32)), .val (.long g1), .second, .val (.ref b89), .val (.long (lsr (fn5 q1) (1 : Int32))), .second, .unset, .unset] []))
        refine Till.pre (fun _ hr => XS.lload X104.here hx rfl (hb hby at_286) rfl hr) ?_
        show Till p e below s (Q0 Z q1 p2 p3 p4 p5 h0 n0) room_1.cells room_1.slots (T102.setTop (mkF m 288 #[.val (.long q1), .second, .val (.int p2), .val (.int p3), .val (.int p4), .val (.int p5), .val (.long g0), .second, .val (.long g1), .second, .val (.long g2), .second, .val (.long tot), .second, .val (.long cnt), .second, .val (.ref b3), .val (.ref b32), .val (.ref b49), .val (.int (1 : Int32)), .val (.long g1), .second, .val (.ref b89), .val (.long (lsr (fn5 q1) (1 : Int32))), .second, .unset, .unset] [(.long (lsr (fn5 q1) (1 : Int32)))]))
        refine Till.pre (fun _ hr => XS.lload X104.here hx rfl (hb hby at_288) rfl hr) ?_
        show Till p e below s (Q0 Z q1 p2 p3 p4 p5 h0 n0) room_1.cells room_1.slots (T102.setTop (mkF m 290 #[.val (.long q1), .second, .val (.int p2), .val (.int p3), .val (.int p4), .val (.int p5), .val (.long g0), .second, .val (.long g1), .second, .val (.long g2), .second, .val (.long tot), .second, .val (.long cnt), .second, .val (.ref b3), .val (.ref b32), .val (.ref b49), .val (.int (1 : Int32)), .val (.long g1), .second, .val (.ref b89), .val (.long (lsr (fn5 q1) (1 : Int32))), .second, .unset, .unset] [(.long tot), (.long (lsr (fn5 q1) (1 : Int32)))]))
        refine Till.pre (fun _ hr => XS.lrem X104.here hx rfl (hb hby at_290) rfl (hc57) hr) ?_
        show Till p e below s (Q0 Z q1 p2 p3 p4 p5 h0 n0) room_1.cells room_1.slots (T102.setTop (mkF m 291 #[.val (.long q1), .second, .val (.int p2), .val (.int p3), .val (.int p4), .val (.int p5), .val (.long g0), .second, .val (.long g1), .second, .val (.long g2), .second, .val (.long tot), .second, .val (.long cnt), .second, .val (.ref b3), .val (.ref b32), .val (.ref b49), .val (.int (1 : Int32)), .val (.long g1), .second, .val (.ref b89), .val (.long (lsr (fn5 q1) (1 : Int32))), .second, .unset, .unset] [(.long ((lsr (fn5 q1) (1 : Int32)) - ((lsr (fn5 q1) (1 : Int32)) / tot) * tot))]))
        refine Till.pre (fun _ hr => XS.lstore X104.here hx rfl (hb hby at_291) rfl (l' := #[.val (.long q1), .second, .val (.int p2), .val (.int p3), .val (.int p4), .val (.int p5), .val (.long g0), .second, .val (.long g1), .second, .val (.long g2), .second, .val (.long tot), .second, .val (.long cnt), .second, .val (.ref b3), .val (.ref b32), .val (.ref b49), .val (.int (1 : Int32)), .val (.long g1), .second, .val (.ref b89), .val (.long (lsr (fn5 q1) (1 : Int32))), .second, .val (.long ((lsr (fn5 q1) (1 : Int32)) - ((lsr (fn5 q1) (1 : Int32)) / tot) * tot)), .second]) rfl hr) ?_
        show Till p e below s (Q0 Z q1 p2 p3 p4 p5 h0 n0) room_1.cells room_1.slots (T102.setTop (mkF m 293 #[.val (.long q1), .second, .val (.int p2), .val (.int p3), .val (.int p4), .val (.int p5), .val (.long g0), .second, .val (.long g1), .second, .val (.long g2), .second, .val (.long tot), .second, .val (.long cnt), .second, .val (.ref b3), .val (.ref b32), .val (.ref b49), .val (.int (1 : Int32)), .val (.long g1), .second, .val (.ref b89), .val (.long (lsr (fn5 q1) (1 : Int32))), .second, .val (.long ((lsr (fn5 q1) (1 : Int32)) - ((lsr (fn5 q1) (1 : Int32)) / tot) * tot)), .second] []))
        refine Till.pre (fun _ hr => XS.lload X104.here hx rfl (hb hby at_293) rfl hr) ?_
        show Till p e below s (Q0 Z q1 p2 p3 p4 p5 h0 n0) room_1.cells room_1.slots (T102.setTop (mkF m 295 #[.val (.long q1), .second, .val (.int p2), .val (.int p3), .val (.int p4), .val (.int p5), .val (.long g0), .second, .val (.long g1), .second, .val (.long g2), .second, .val (.long tot), .second, .val (.long cnt), .second, .val (.ref b3), .val (.ref b32), .val (.ref b49), .val (.int (1 : Int32)), .val (.long g1), .second, .val (.ref b89), .val (.long (lsr (fn5 q1) (1 : Int32))), .second, .val (.long ((lsr (fn5 q1) (1 : Int32)) - ((lsr (fn5 q1) (1 : Int32)) / tot) * tot)), .second] [(.long (lsr (fn5 q1) (1 : Int32)))]))
        refine Till.pre (fun _ hr => XS.lload X104.here hx rfl (hb hby at_295) rfl hr) ?_
        show Till p e below s (Q0 Z q1 p2 p3 p4 p5 h0 n0) room_1.cells room_1.slots (T102.setTop (mkF m 297 #[.val (.long q1), .second, .val (.int p2), .val (.int p3), .val (.int p4), .val (.int p5), .val (.long g0), .second, .val (.long g1), .second, .val (.long g2), .second, .val (.long tot), .second, .val (.long cnt), .second, .val (.ref b3), .val (.ref b32), .val (.ref b49), .val (.int (1 : Int32)), .val (.long g1), .second, .val (.ref b89), .val (.long (lsr (fn5 q1) (1 : Int32))), .second, .val (.long ((lsr (fn5 q1) (1 : Int32)) - ((lsr (fn5 q1) (1 : Int32)) / tot) * tot)), .second] [(.long ((lsr (fn5 q1) (1 : Int32)) - ((lsr (fn5 q1) (1 : Int32)) / tot) * tot)), (.long (lsr (fn5 q1) (1 : Int32)))]))
        refine Till.pre (fun _ hr => XS.lsub X104.here hx rfl (hb hby at_297) rfl hr) ?_
        show Till p e below s (Q0 Z q1 p2 p3 p4 p5 h0 n0) room_1.cells room_1.slots (T102.setTop (mkF m 298 #[.val (.long q1), .second, .val (.int p2), .val (.int p3), .val (.int p4), .val (.int p5), .val (.long g0), .second, .val (.long g1), .second, .val (.long g2), .second, .val (.long tot), .second, .val (.long cnt), .second, .val (.ref b3), .val (.ref b32), .val (.ref b49), .val (.int (1 : Int32)), .val (.long g1), .second, .val (.ref b89), .val (.long (lsr (fn5 q1) (1 : Int32))), .second, .val (.long ((lsr (fn5 q1) (1 : Int32)) - ((lsr (fn5 q1) (1 : Int32)) / tot) * tot)), .second] [(.long ((lsr (fn5 q1) (1 : Int32)) - ((lsr (fn5 q1) (1 : Int32)) - ((lsr (fn5 q1) (1 : Int32)) / tot) * tot)))]))
        refine Till.pre (fun _ hr => XS.lload X104.here hx rfl (hb hby at_298) rfl hr) ?_
        show Till p e below s (Q0 Z q1 p2 p3 p4 p5 h0 n0) room_1.cells room_1.slots (T102.setTop (mkF m 300 #[.val (.long q1), .second, .val (.int p2), .val (.int p3), .val (.int p4), .val (.int p5), .val (.long g0), .second, .val (.long g1), .second, .val (.long g2), .second, .val (.long tot), .second, .val (.long cnt), .second, .val (.ref b3), .val (.ref b32), .val (.ref b49), .val (.int (1 : Int32)), .val (.long g1), .second, .val (.ref b89), .val (.long (lsr (fn5 q1) (1 : Int32))), .second, .val (.long ((lsr (fn5 q1) (1 : Int32)) - ((lsr (fn5 q1) (1 : Int32)) / tot) * tot)), .second] [(.long tot), (.long ((lsr (fn5 q1) (1 : Int32)) - ((lsr (fn5 q1) (1 : Int32)) - ((lsr (fn5 q1) (1 : Int32)) / tot) * tot)))]))
        refine Till.pre (fun _ hr => XS.lconst X104.here hx rfl (hb hby at_300) hr) ?_
        show Till p e below s (Q0 Z q1 p2 p3 p4 p5 h0 n0) room_1.cells room_1.slots (T102.setTop (mkF m 301 #[.val (.long q1), .second, .val (.int p2), .val (.int p3), .val (.int p4), .val (.int p5), .val (.long g0), .second, .val (.long g1), .second, .val (.long g2), .second, .val (.long tot), .second, .val (.long cnt), .second, .val (.ref b3), .val (.ref b32), .val (.ref b49), .val (.int (1 : Int32)), .val (.long g1), .second, .val (.ref b89), .val (.long (lsr (fn5 q1) (1 : Int32))), .second, .val (.long ((lsr (fn5 q1) (1 : Int32)) - ((lsr (fn5 q1) (1 : Int32)) / tot) * tot)), .second] [(.long (1 : Int64)), (.long tot), (.long ((lsr (fn5 q1) (1 : Int32)) - ((lsr (fn5 q1) (1 : Int32)) - ((lsr (fn5 q1) (1 : Int32)) / tot) * tot)))]))
        refine Till.pre (fun _ hr => XS.lsub X104.here hx rfl (hb hby at_301) rfl hr) ?_
        show Till p e below s (Q0 Z q1 p2 p3 p4 p5 h0 n0) room_1.cells room_1.slots (T102.setTop (mkF m 302 #[.val (.long q1), .second, .val (.int p2), .val (.int p3), .val (.int p4), .val (.int p5), .val (.long g0), .second, .val (.long g1), .second, .val (.long g2), .second, .val (.long tot), .second, .val (.long cnt), .second, .val (.ref b3), .val (.ref b32), .val (.ref b49), .val (.int (1 : Int32)), .val (.long g1), .second, .val (.ref b89), .val (.long (lsr (fn5 q1) (1 : Int32))), .second, .val (.long ((lsr (fn5 q1) (1 : Int32)) - ((lsr (fn5 q1) (1 : Int32)) / tot) * tot)), .second] [(.long (tot - (1 : Int64))), (.long ((lsr (fn5 q1) (1 : Int32)) - ((lsr (fn5 q1) (1 : Int32)) - ((lsr (fn5 q1) (1 : Int32)) / tot) * tot)))]))
        refine Till.pre (fun _ hr => XS.ladd X104.here hx rfl (hb hby at_302) rfl hr) ?_
        show Till p e below s (Q0 Z q1 p2 p3 p4 p5 h0 n0) room_1.cells room_1.slots (T102.setTop (mkF m 303 #[.val (.long q1), .second, .val (.int p2), .val (.int p3), .val (.int p4), .val (.int p5), .val (.long g0), .second, .val (.long g1), .second, .val (.long g2), .second, .val (.long tot), .second, .val (.long cnt), .second, .val (.ref b3), .val (.ref b32), .val (.ref b49), .val (.int (1 : Int32)), .val (.long g1), .second, .val (.ref b89), .val (.long (lsr (fn5 q1) (1 : Int32))), .second, .val (.long ((lsr (fn5 q1) (1 : Int32)) - ((lsr (fn5 q1) (1 : Int32)) / tot) * tot)), .second] [(.long (((lsr (fn5 q1) (1 : Int32)) - ((lsr (fn5 q1) (1 : Int32)) - ((lsr (fn5 q1) (1 : Int32)) / tot) * tot)) + (tot - (1 : Int64))))]))
        refine Till.pre (fun _ hr => XS.lconst X104.here hx rfl (hb hby at_303) hr) ?_
        show Till p e below s (Q0 Z q1 p2 p3 p4 p5 h0 n0) room_1.cells room_1.slots (T102.setTop (mkF m 304 #[.val (.long q1), .second, .val (.int p2), .val (.int p3), .val (.int p4), .val (.int p5), .val (.long g0), .second, .val (.long g1), .second, .val (.long g2), .second, .val (.long tot), .second, .val (.long cnt), .second, .val (.ref b3), .val (.ref b32), .val (.ref b49), .val (.int (1 : Int32)), .val (.long g1), .second, .val (.ref b89), .val (.long (lsr (fn5 q1) (1 : Int32))), .second, .val (.long ((lsr (fn5 q1) (1 : Int32)) - ((lsr (fn5 q1) (1 : Int32)) / tot) * tot)), .second] [(.long (0 : Int64)), (.long (((lsr (fn5 q1) (1 : Int32)) - ((lsr (fn5 q1) (1 : Int32)) - ((lsr (fn5 q1) (1 : Int32)) / tot) * tot)) + (tot - (1 : Int64))))]))
        refine Till.pre (fun _ hr => XS.lcmp X104.here hx rfl (hb hby at_304) rfl hr) ?_
        show Till p e below s (Q0 Z q1 p2 p3 p4 p5 h0 n0) room_1.cells room_1.slots (T102.setTop (mkF m 305 #[.val (.long q1), .second, .val (.int p2), .val (.int p3), .val (.int p4), .val (.int p5), .val (.long g0), .second, .val (.long g1), .second, .val (.long g2), .second, .val (.long tot), .second, .val (.long cnt), .second, .val (.ref b3), .val (.ref b32), .val (.ref b49), .val (.int (1 : Int32)), .val (.long g1), .second, .val (.ref b89), .val (.long (lsr (fn5 q1) (1 : Int32))), .second, .val (.long ((lsr (fn5 q1) (1 : Int32)) - ((lsr (fn5 q1) (1 : Int32)) / tot) * tot)), .second] [(.int (lcmpW (((lsr (fn5 q1) (1 : Int32)) - ((lsr (fn5 q1) (1 : Int32)) - ((lsr (fn5 q1) (1 : Int32)) / tot) * tot)) + (tot - (1 : Int64))) (0 : Int64)))]))
        refine Till.ifc (pc' := 310) X104.here hx (hb hby at_305) (by decide) (by decide) (fun q => ?_) (fun q => ?_)
        · have hc108 := (mt lLt.mpr (hLt.2.2.1 q))
          show Till p e below s (Q0 Z q1 p2 p3 p4 p5 h0 n0) room_1.cells room_1.slots (T102.setTop (mkF m 310 #[.val (.long q1), .second, .val (.int p2), .val (.int p3), .val (.int p4), .val (.int p5), .val (.long g0), .second, .val (.long g1), .second, .val (.long g2), .second, .val (.long tot), .second, .val (.long cnt), .second, .val (.ref b3), .val (.ref b32), .val (.ref b49), .val (.int (1 : Int32)), .val (.long g1), .second, .val (.ref b89), .val (.long (lsr (fn5 q1) (1 : Int32))), .second, .val (.long ((lsr (fn5 q1) (1 : Int32)) - ((lsr (fn5 q1) (1 : Int32)) / tot) * tot)), .second] []))
          refine Till.pre (fun _ hr => XS.lload X104.here hx rfl (hb hby at_310) rfl hr) ?_
          show Till p e below s (Q0 Z q1 p2 p3 p4 p5 h0 n0) room_1.cells room_1.slots (T102.setTop (mkF m 312 #[.val (.long q1), .second, .val (.int p2), .val (.int p3), .val (.int p4), .val (.int p5), .val (.long g0), .second, .val (.long g1), .second, .val (.long g2), .second, .val (.long tot), .second, .val (.long cnt), .second, .val (.ref b3), .val (.ref b32), .val (.ref b49), .val (.int (1 : Int32)), .val (.long g1), .second, .val (.ref b89), .val (.long (lsr (fn5 q1) (1 : Int32))), .second, .val (.long ((lsr (fn5 q1) (1 : Int32)) - ((lsr (fn5 q1) (1 : Int32)) / tot) * tot)), .second] [(.long ((lsr (fn5 q1) (1 : Int32)) - ((lsr (fn5 q1) (1 : Int32)) / tot) * tot))]))
          refine Till.pre (fun _ hr => XS.lload X104.here hx rfl (hb hby at_312) rfl hr) ?_
          show Till p e below s (Q0 Z q1 p2 p3 p4 p5 h0 n0) room_1.cells room_1.slots (T102.setTop (mkF m 314 #[.val (.long q1), .second, .val (.int p2), .val (.int p3), .val (.int p4), .val (.int p5), .val (.long g0), .second, .val (.long g1), .second, .val (.long g2), .second, .val (.long tot), .second, .val (.long cnt), .second, .val (.ref b3), .val (.ref b32), .val (.ref b49), .val (.int (1 : Int32)), .val (.long g1), .second, .val (.ref b89), .val (.long (lsr (fn5 q1) (1 : Int32))), .second, .val (.long ((lsr (fn5 q1) (1 : Int32)) - ((lsr (fn5 q1) (1 : Int32)) / tot) * tot)), .second] [(.long cnt), (.long ((lsr (fn5 q1) (1 : Int32)) - ((lsr (fn5 q1) (1 : Int32)) / tot) * tot))]))
          refine Till.pre (fun _ hr => XS.lcmp X104.here hx rfl (hb hby at_314) rfl hr) ?_
          show Till p e below s (Q0 Z q1 p2 p3 p4 p5 h0 n0) room_1.cells room_1.slots (T102.setTop (mkF m 315 #[.val (.long q1), .second, .val (.int p2), .val (.int p3), .val (.int p4), .val (.int p5), .val (.long g0), .second, .val (.long g1), .second, .val (.long g2), .second, .val (.long tot), .second, .val (.long cnt), .second, .val (.ref b3), .val (.ref b32), .val (.ref b49), .val (.int (1 : Int32)), .val (.long g1), .second, .val (.ref b89), .val (.long (lsr (fn5 q1) (1 : Int32))), .second, .val (.long ((lsr (fn5 q1) (1 : Int32)) - ((lsr (fn5 q1) (1 : Int32)) / tot) * tot)), .second] [(.int (lcmpW ((lsr (fn5 q1) (1 : Int32)) - ((lsr (fn5 q1) (1 : Int32)) / tot) * tot) cnt))]))
          refine Till.ifc (pc' := 334) X104.here hx (hb hby at_315) (by decide) (by decide) (fun q => ?_) (fun q => ?_)
          · have hc109 := (mt lLt.mpr (hLt.2.2.1 q))
            show Till p e below s (Q0 Z q1 p2 p3 p4 p5 h0 n0) room_1.cells room_1.slots (T102.setTop (mkF m 334 #[.val (.long q1), .second, .val (.int p2), .val (.int p3), .val (.int p4), .val (.int p5), .val (.long g0), .second, .val (.long g1), .second, .val (.long g2), .second, .val (.long tot), .second, .val (.long cnt), .second, .val (.ref b3), .val (.ref b32), .val (.ref b49), .val (.int (1 : Int32)), .val (.long g1), .second, .val (.ref b89), .val (.long (lsr (fn5 q1) (1 : Int32))), .second, .val (.long ((lsr (fn5 q1) (1 : Int32)) - ((lsr (fn5 q1) (1 : Int32)) / tot) * tot)), .second] []))
            refine Till.pre (fun _ hr => XS.aload X104.here hx rfl (hb hby at_334) rfl rfl hr) ?_
            show Till p e below s (Q0 Z q1 p2 p3 p4 p5 h0 n0) room_1.cells room_1.slots (T102.setTop (mkF m 336 #[.val (.long q1), .second, .val (.int p2), .val (.int p3), .val (.int p4), .val (.int p5), .val (.long g0), .second, .val (.long g1), .second, .val (.long g2), .second, .val (.long tot), .second, .val (.long cnt), .second, .val (.ref b3), .val (.ref b32), .val (.ref b49), .val (.int (1 : Int32)), .val (.long g1), .second, .val (.ref b89), .val (.long (lsr (fn5 q1) (1 : Int32))), .second, .val (.long ((lsr (fn5 q1) (1 : Int32)) - ((lsr (fn5 q1) (1 : Int32)) / tot) * tot)), .second] [(.ref b49)]))
            refine Till.pre (fun _ hr => XS.iload X104.here hx rfl (hb hby at_336) rfl hr) ?_
            show Till p e below s (Q0 Z q1 p2 p3 p4 p5 h0 n0) room_1.cells room_1.slots (T102.setTop (mkF m 338 #[.val (.long q1), .second, .val (.int p2), .val (.int p3), .val (.int p4), .val (.int p5), .val (.long g0), .second, .val (.long g1), .second, .val (.long g2), .second, .val (.long tot), .second, .val (.long cnt), .second, .val (.ref b3), .val (.ref b32), .val (.ref b49), .val (.int (1 : Int32)), .val (.long g1), .second, .val (.ref b89), .val (.long (lsr (fn5 q1) (1 : Int32))), .second, .val (.long ((lsr (fn5 q1) (1 : Int32)) - ((lsr (fn5 q1) (1 : Int32)) / tot) * tot)), .second] [(.int (1 : Int32)), (.ref b49)]))
            refine Till.laload R_b49 (by decide) (by decide) X104 hx hZ rfl (hb hby at_338) ?_
            show Till p e below s (Q0 Z q1 p2 p3 p4 p5 h0 n0) room_1.cells room_1.slots (T102.setTop (mkF m 339 #[.val (.long q1), .second, .val (.int p2), .val (.int p3), .val (.int p4), .val (.int p5), .val (.long g0), .second, .val (.long g1), .second, .val (.long g2), .second, .val (.long tot), .second, .val (.long cnt), .second, .val (.ref b3), .val (.ref b32), .val (.ref b49), .val (.int (1 : Int32)), .val (.long g1), .second, .val (.ref b89), .val (.long (lsr (fn5 q1) (1 : Int32))), .second, .val (.long ((lsr (fn5 q1) (1 : Int32)) - ((lsr (fn5 q1) (1 : Int32)) / tot) * tot)), .second] [(.long (d51 1))]))
            refine Till.pre (fun _ hr => XS.lload X104.here hx rfl (hb hby at_339) rfl hr) ?_
            show Till p e below s (Q0 Z q1 p2 p3 p4 p5 h0 n0) room_1.cells room_1.slots (T102.setTop (mkF m 341 #[.val (.long q1), .second, .val (.int p2), .val (.int p3), .val (.int p4), .val (.int p5), .val (.long g0), .second, .val (.long g1), .second, .val (.long g2), .second, .val (.long tot), .second, .val (.long cnt), .second, .val (.ref b3), .val (.ref b32), .val (.ref b49), .val (.int (1 : Int32)), .val (.long g1), .second, .val (.ref b89), .val (.long (lsr (fn5 q1) (1 : Int32))), .second, .val (.long ((lsr (fn5 q1) (1 : Int32)) - ((lsr (fn5 q1) (1 : Int32)) / tot) * tot)), .second] [(.long g1), (.long (d51 1))]))
            refine Till.pre (fun _ hr => XS.lconst X104.here hx rfl (hb hby at_341) hr) ?_
            show Till p e below s (Q0 Z q1 p2 p3 p4 p5 h0 n0) room_1.cells room_1.slots (T102.setTop (mkF m 342 #[.val (.long q1), .second, .val (.int p2), .val (.int p3), .val (.int p4), .val (.int p5), .val (.long g0), .second, .val (.long g1), .second, .val (.long g2), .second, .val (.long tot), .second, .val (.long cnt), .second, .val (.ref b3), .val (.ref b32), .val (.ref b49), .val (.int (1 : Int32)), .val (.long g1), .second, .val (.ref b89), .val (.long (lsr (fn5 q1) (1 : Int32))), .second, .val (.long ((lsr (fn5 q1) (1 : Int32)) - ((lsr (fn5 q1) (1 : Int32)) / tot) * tot)), .second] [(.long (1 : Int64)), (.long g1), (.long (d51 1))]))
            refine Till.pre (fun _ hr => XS.lsub X104.here hx rfl (hb hby at_342) rfl hr) ?_
            show Till p e below s (Q0 Z q1 p2 p3 p4 p5 h0 n0) room_1.cells room_1.slots (T102.setTop (mkF m 343 #[.val (.long q1), .second, .val (.int p2), .val (.int p3), .val (.int p4), .val (.int p5), .val (.long g0), .second, .val (.long g1), .second, .val (.long g2), .second, .val (.long tot), .second, .val (.long cnt), .second, .val (.ref b3), .val (.ref b32), .val (.ref b49), .val (.int (1 : Int32)), .val (.long g1), .second, .val (.ref b89), .val (.long (lsr (fn5 q1) (1 : Int32))), .second, .val (.long ((lsr (fn5 q1) (1 : Int32)) - ((lsr (fn5 q1) (1 : Int32)) / tot) * tot)), .second] [(.long (g1 - (1 : Int64))), (.long (d51 1))]))
            refine Till.pre (fun _ hr => XS.lcmp X104.here hx rfl (hb hby at_343) rfl hr) ?_
            show Till p e below s (Q0 Z q1 p2 p3 p4 p5 h0 n0) room_1.cells room_1.slots (T102.setTop (mkF m 344 #[.val (.long q1), .second, .val (.int p2), .val (.int p3), .val (.int p4), .val (.int p5), .val (.long g0), .second, .val (.long g1), .second, .val (.long g2), .second, .val (.long tot), .second, .val (.long cnt), .second, .val (.ref b3), .val (.ref b32), .val (.ref b49), .val (.int (1 : Int32)), .val (.long g1), .second, .val (.ref b89), .val (.long (lsr (fn5 q1) (1 : Int32))), .second, .val (.long ((lsr (fn5 q1) (1 : Int32)) - ((lsr (fn5 q1) (1 : Int32)) / tot) * tot)), .second] [(.int (lcmpW (d51 1) (g1 - (1 : Int64))))]))
            have J352_110 : ∀ (v352s0x2 : Int32) (hv352s0x2 : v352s0x2 = (if ((g1 - (1 : Int64)) < (d51 1)) then (0 : Int32) else (1 : Int32))), Till p e below s (Q0 Z q1 p2 p3 p4 p5 h0 n0) room_1.cells room_1.slots (T102.setTop (mkF m 352 #[.val (.long q1), .second, .val (.int p2), .val (.int p3), .val (.int p4), .val (.int p5), .val (.long g0), .second, .val (.long g1), .second, .val (.long g2), .second, .val (.long tot), .second, .val (.long cnt), .second, .val (.ref b3), .val (.ref b32), .val (.ref b49), .val (.int (1 : Int32)), .val (.long g1), .second, .val (.ref b89), .val (.long (lsr (fn5 q1) (1 : Int32))), .second, .val (.long ((lsr (fn5 q1) (1 : Int32)) - ((lsr (fn5 q1) (1 : Int32)) / tot) * tot)), .second] [(.int v352s0x2)])) := by
              intro v352s0x2 hv352s0x2
              show Till p e below s (Q0 Z q1 p2 p3 p4 p5 h0 n0) room_1.cells room_1.slots (T102.setTop (mkF m 352 #[.val (.long q1), .second, .val (.int p2), .val (.int p3), .val (.int p4), .val (.int p5), .val (.long g0), .second, .val (.long g1), .second, .val (.long g2), .second, .val (.long tot), .second, .val (.long cnt), .second, .val (.ref b3), .val (.ref b32), .val (.ref b49), .val (.int (1 : Int32)), .val (.long g1), .second, .val (.ref b89), .val (.long (lsr (fn5 q1) (1 : Int32))), .second, .val (.long ((lsr (fn5 q1) (1 : Int32)) - ((lsr (fn5 q1) (1 : Int32)) / tot) * tot)), .second] [(.int v352s0x2)]))
              refine Till.retZ (w := (1 : Int32)) X104 hx hret hlk (hb hby at_352) (by decide) (by decide) (by rw [hv352s0x2, if_neg (own_no (gf := g1) hu_tot po56 (own_f1 (own_g7 hu_g0) hc58 hc59) hc108 hc109 rfl ⟨Int64.lt_iff_toInt_lt.mp hc59, (own_g7 hu_g1).2⟩)]; decide) ?_
              exact ⟨rfl, N105⟩
            refine Till.ifc (pc' := 351) X104.here hx (hb hby at_344) (by decide) (by decide) (fun q => ?_) (fun q => ?_)
            · have hc110 := (lGt.mp (hLt.2.2.2.2.1 q))
              show Till p e below s (Q0 Z q1 p2 p3 p4 p5 h0 n0) room_1.cells room_1.slots (T102.setTop (mkF m 351 #[.val (.long q1), .second, .val (.int p2), .val (.int p3), .val (.int p4), .val (.int p5), .val (.long g0), .second, .val (.long g1), .second, .val (.long g2), .second, .val (.long tot), .second, .val (.long cnt), .second, .val (.ref b3), .val (.ref b32), .val (.ref b49), .val (.int (1 : Int32)), .val (.long g1), .second, .val (.ref b89), .val (.long (lsr (fn5 q1) (1 : Int32))), .second, .val (.long ((lsr (fn5 q1) (1 : Int32)) - ((lsr (fn5 q1) (1 : Int32)) / tot) * tot)), .second] []))
              refine Till.pre (fun _ hr => XS.iconst X104.here hx rfl (hb hby at_351) hr) ?_
              show Till p e below s (Q0 Z q1 p2 p3 p4 p5 h0 n0) room_1.cells room_1.slots (T102.setTop (mkF m 352 #[.val (.long q1), .second, .val (.int p2), .val (.int p3), .val (.int p4), .val (.int p5), .val (.long g0), .second, .val (.long g1), .second, .val (.long g2), .second, .val (.long tot), .second, .val (.long cnt), .second, .val (.ref b3), .val (.ref b32), .val (.ref b49), .val (.int (1 : Int32)), .val (.long g1), .second, .val (.ref b89), .val (.long (lsr (fn5 q1) (1 : Int32))), .second, .val (.long ((lsr (fn5 q1) (1 : Int32)) - ((lsr (fn5 q1) (1 : Int32)) / tot) * tot)), .second] [(.int (0 : Int32))]))
              exact J352_110 _ (Eq.symm (if_pos hc110))
            · have hc110 := (mt lGt.mpr (hLt.2.2.2.2.2.1 q))
              show Till p e below s (Q0 Z q1 p2 p3 p4 p5 h0 n0) room_1.cells room_1.slots (T102.setTop (mkF m 347 #[.val (.long q1), .second, .val (.int p2), .val (.int p3), .val (.int p4), .val (.int p5), .val (.long g0), .second, .val (.long g1), .second, .val (.long g2), .second, .val (.long tot), .second, .val (.long cnt), .second, .val (.ref b3), .val (.ref b32), .val (.ref b49), .val (.int (1 : Int32)), .val (.long g1), .second, .val (.ref b89), .val (.long (lsr (fn5 q1) (1 : Int32))), .second, .val (.long ((lsr (fn5 q1) (1 : Int32)) - ((lsr (fn5 q1) (1 : Int32)) / tot) * tot)), .second] []))
              refine Till.pre (fun _ hr => XS.iconst X104.here hx rfl (hb hby at_347) hr) ?_
              show Till p e below s (Q0 Z q1 p2 p3 p4 p5 h0 n0) room_1.cells room_1.slots (T102.setTop (mkF m 348 #[.val (.long q1), .second, .val (.int p2), .val (.int p3), .val (.int p4), .val (.int p5), .val (.long g0), .second, .val (.long g1), .second, .val (.long g2), .second, .val (.long tot), .second, .val (.long cnt), .second, .val (.ref b3), .val (.ref b32), .val (.ref b49), .val (.int (1 : Int32)), .val (.long g1), .second, .val (.ref b89), .val (.long (lsr (fn5 q1) (1 : Int32))), .second, .val (.long ((lsr (fn5 q1) (1 : Int32)) - ((lsr (fn5 q1) (1 : Int32)) / tot) * tot)), .second] [(.int (1 : Int32))]))
              refine Till.pre (fun _ hr => XS.goto X104.here hx rfl (pc0 := 348) (pc' := 352) rfl (hb hby at_348) (by decide) (by decide) hr) ?_
              show Till p e below s (Q0 Z q1 p2 p3 p4 p5 h0 n0) room_1.cells room_1.slots (T102.setTop (mkF m 352 #[.val (.long q1), .second, .val (.int p2), .val (.int p3), .val (.int p4), .val (.int p5), .val (.long g0), .second, .val (.long g1), .second, .val (.long g2), .second, .val (.long tot), .second, .val (.long cnt), .second, .val (.ref b3), .val (.ref b32), .val (.ref b49), .val (.int (1 : Int32)), .val (.long g1), .second, .val (.ref b89), .val (.long (lsr (fn5 q1) (1 : Int32))), .second, .val (.long ((lsr (fn5 q1) (1 : Int32)) - ((lsr (fn5 q1) (1 : Int32)) / tot) * tot)), .second] [(.int (1 : Int32))]))
              exact J352_110 _ (Eq.symm (if_neg hc110))
          · have hc109 := (lLt.mp (hLt.2.2.2.1 q))
            show Till p e below s (Q0 Z q1 p2 p3 p4 p5 h0 n0) room_1.cells room_1.slots (T102.setTop (mkF m 318 #[.val (.long q1), .second, .val (.int p2), .val (.int p3), .val (.int p4), .val (.int p5), .val (.long g0), .second, .val (.long g1), .second, .val (.long g2), .second, .val (.long tot), .second, .val (.long cnt), .second, .val (.ref b3), .val (.ref b32), .val (.ref b49), .val (.int (1 : Int32)), .val (.long g1), .second, .val (.ref b89), .val (.long (lsr (fn5 q1) (1 : Int32))), .second, .val (.long ((lsr (fn5 q1) (1 : Int32)) - ((lsr (fn5 q1) (1 : Int32)) / tot) * tot)), .second] []))
            refine Till.pre (fun _ hr => XS.aload X104.here hx rfl (hb hby at_318) rfl rfl hr) ?_
            show Till p e below s (Q0 Z q1 p2 p3 p4 p5 h0 n0) room_1.cells room_1.slots (T102.setTop (mkF m 320 #[.val (.long q1), .second, .val (.int p2), .val (.int p3), .val (.int p4), .val (.int p5), .val (.long g0), .second, .val (.long g1), .second, .val (.long g2), .second, .val (.long tot), .second, .val (.long cnt), .second, .val (.ref b3), .val (.ref b32), .val (.ref b49), .val (.int (1 : Int32)), .val (.long g1), .second, .val (.ref b89), .val (.long (lsr (fn5 q1) (1 : Int32))), .second, .val (.long ((lsr (fn5 q1) (1 : Int32)) - ((lsr (fn5 q1) (1 : Int32)) / tot) * tot)), .second] [(.ref b49)]))
            refine Till.pre (fun _ hr => XS.iload X104.here hx rfl (hb hby at_320) rfl hr) ?_
            show Till p e below s (Q0 Z q1 p2 p3 p4 p5 h0 n0) room_1.cells room_1.slots (T102.setTop (mkF m 322 #[.val (.long q1), .second, .val (.int p2), .val (.int p3), .val (.int p4), .val (.int p5), .val (.long g0), .second, .val (.long g1), .second, .val (.long g2), .second, .val (.long tot), .second, .val (.long cnt), .second, .val (.ref b3), .val (.ref b32), .val (.ref b49), .val (.int (1 : Int32)), .val (.long g1), .second, .val (.ref b89), .val (.long (lsr (fn5 q1) (1 : Int32))), .second, .val (.long ((lsr (fn5 q1) (1 : Int32)) - ((lsr (fn5 q1) (1 : Int32)) / tot) * tot)), .second] [(.int (1 : Int32)), (.ref b49)]))
            refine Till.laload R_b49 (by decide) (by decide) X104 hx hZ rfl (hb hby at_322) ?_
            show Till p e below s (Q0 Z q1 p2 p3 p4 p5 h0 n0) room_1.cells room_1.slots (T102.setTop (mkF m 323 #[.val (.long q1), .second, .val (.int p2), .val (.int p3), .val (.int p4), .val (.int p5), .val (.long g0), .second, .val (.long g1), .second, .val (.long g2), .second, .val (.long tot), .second, .val (.long cnt), .second, .val (.ref b3), .val (.ref b32), .val (.ref b49), .val (.int (1 : Int32)), .val (.long g1), .second, .val (.ref b89), .val (.long (lsr (fn5 q1) (1 : Int32))), .second, .val (.long ((lsr (fn5 q1) (1 : Int32)) - ((lsr (fn5 q1) (1 : Int32)) / tot) * tot)), .second] [(.long (d51 1))]))
            refine Till.pre (fun _ hr => XS.lconst X104.here hx rfl (hb hby at_323) hr) ?_
            show Till p e below s (Q0 Z q1 p2 p3 p4 p5 h0 n0) room_1.cells room_1.slots (T102.setTop (mkF m 324 #[.val (.long q1), .second, .val (.int p2), .val (.int p3), .val (.int p4), .val (.int p5), .val (.long g0), .second, .val (.long g1), .second, .val (.long g2), .second, .val (.long tot), .second, .val (.long cnt), .second, .val (.ref b3), .val (.ref b32), .val (.ref b49), .val (.int (1 : Int32)), .val (.long g1), .second, .val (.ref b89), .val (.long (lsr (fn5 q1) (1 : Int32))), .second, .val (.long ((lsr (fn5 q1) (1 : Int32)) - ((lsr (fn5 q1) (1 : Int32)) / tot) * tot)), .second] [(.long (1 : Int64)), (.long (d51 1))]))
            refine Till.pre (fun _ hr => XS.lcmp X104.here hx rfl (hb hby at_324) rfl hr) ?_
            show Till p e below s (Q0 Z q1 p2 p3 p4 p5 h0 n0) room_1.cells room_1.slots (T102.setTop (mkF m 325 #[.val (.long q1), .second, .val (.int p2), .val (.int p3), .val (.int p4), .val (.int p5), .val (.long g0), .second, .val (.long g1), .second, .val (.long g2), .second, .val (.long tot), .second, .val (.long cnt), .second, .val (.ref b3), .val (.ref b32), .val (.ref b49), .val (.int (1 : Int32)), .val (.long g1), .second, .val (.ref b89), .val (.long (lsr (fn5 q1) (1 : Int32))), .second, .val (.long ((lsr (fn5 q1) (1 : Int32)) - ((lsr (fn5 q1) (1 : Int32)) / tot) * tot)), .second] [(.int (lcmpW (d51 1) (1 : Int64)))]))
            have J333_112 : ∀ (v333s0x2 : Int32) (hv333s0x2 : v333s0x2 = (if ((d51 1) < (1 : Int64)) then (0 : Int32) else (1 : Int32))), Till p e below s (Q0 Z q1 p2 p3 p4 p5 h0 n0) room_1.cells room_1.slots (T102.setTop (mkF m 333 #[.val (.long q1), .second, .val (.int p2), .val (.int p3), .val (.int p4), .val (.int p5), .val (.long g0), .second, .val (.long g1), .second, .val (.long g2), .second, .val (.long tot), .second, .val (.long cnt), .second, .val (.ref b3), .val (.ref b32), .val (.ref b49), .val (.int (1 : Int32)), .val (.long g1), .second, .val (.ref b89), .val (.long (lsr (fn5 q1) (1 : Int32))), .second, .val (.long ((lsr (fn5 q1) (1 : Int32)) - ((lsr (fn5 q1) (1 : Int32)) / tot) * tot)), .second] [(.int v333s0x2)])) := by
              intro v333s0x2 hv333s0x2
              show Till p e below s (Q0 Z q1 p2 p3 p4 p5 h0 n0) room_1.cells room_1.slots (T102.setTop (mkF m 333 #[.val (.long q1), .second, .val (.int p2), .val (.int p3), .val (.int p4), .val (.int p5), .val (.long g0), .second, .val (.long g1), .second, .val (.long g2), .second, .val (.long tot), .second, .val (.long cnt), .second, .val (.ref b3), .val (.ref b32), .val (.ref b49), .val (.int (1 : Int32)), .val (.long g1), .second, .val (.ref b89), .val (.long (lsr (fn5 q1) (1 : Int32))), .second, .val (.long ((lsr (fn5 q1) (1 : Int32)) - ((lsr (fn5 q1) (1 : Int32)) / tot) * tot)), .second] [(.int v333s0x2)]))
              refine Till.retZ (w := (1 : Int32)) X104 hx hret hlk (hb hby at_333) (by decide) (by decide) (by rw [hv333s0x2, if_neg (own_yes hu_tot po56 (own_f1 (own_g7 hu_g0) hc58 hc59) hc108 hc109)]; decide) ?_
              exact ⟨rfl, N105⟩
            refine Till.ifc (pc' := 332) X104.here hx (hb hby at_325) (by decide) (by decide) (fun q => ?_) (fun q => ?_)
            · have hc112 := (lLt.mp (hLt.1 q))
              show Till p e below s (Q0 Z q1 p2 p3 p4 p5 h0 n0) room_1.cells room_1.slots (T102.setTop (mkF m 332 #[.val (.long q1), .second, .val (.int p2), .val (.int p3), .val (.int p4), .val (.int p5), .val (.long g0), .second, .val (.long g1), .second, .val (.long g2), .second, .val (.long tot), .second, .val (.long cnt), .second, .val (.ref b3), .val (.ref b32), .val (.ref b49), .val (.int (1 : Int32)), .val (.long g1), .second, .val (.ref b89), .val (.long (lsr (fn5 q1) (1 : Int32))), .second, .val (.long ((lsr (fn5 q1) (1 : Int32)) - ((lsr (fn5 q1) (1 : Int32)) / tot) * tot)), .second] []))
              refine Till.pre (fun _ hr => XS.iconst X104.here hx rfl (hb hby at_332) hr) ?_
              show Till p e below s (Q0 Z q1 p2 p3 p4 p5 h0 n0) room_1.cells room_1.slots (T102.setTop (mkF m 333 #[.val (.long q1), .second, .val (.int p2), .val (.int p3), .val (.int p4), .val (.int p5), .val (.long g0), .second, .val (.long g1), .second, .val (.long g2), .second, .val (.long tot), .second, .val (.long cnt), .second, .val (.ref b3), .val (.ref b32), .val (.ref b49), .val (.int (1 : Int32)), .val (.long g1), .second, .val (.ref b89), .val (.long (lsr (fn5 q1) (1 : Int32))), .second, .val (.long ((lsr (fn5 q1) (1 : Int32)) - ((lsr (fn5 q1) (1 : Int32)) / tot) * tot)), .second] [(.int (0 : Int32))]))
              exact J333_112 _ (Eq.symm (if_pos hc112))
            · have hc112 := (mt lLt.mpr (hLt.2.1 q))
              show Till p e below s (Q0 Z q1 p2 p3 p4 p5 h0 n0) room_1.cells room_1.slots (T102.setTop (mkF m 328 #[.val (.long q1), .second, .val (.int p2), .val (.int p3), .val (.int p4), .val (.int p5), .val (.long g0), .second, .val (.long g1), .second, .val (.long g2), .second, .val (.long tot), .second, .val (.long cnt), .second, .val (.ref b3), .val (.ref b32), .val (.ref b49), .val (.int (1 : Int32)), .val (.long g1), .second, .val (.ref b89), .val (.long (lsr (fn5 q1) (1 : Int32))), .second, .val (.long ((lsr (fn5 q1) (1 : Int32)) - ((lsr (fn5 q1) (1 : Int32)) / tot) * tot)), .second] []))
              refine Till.pre (fun _ hr => XS.iconst X104.here hx rfl (hb hby at_328) hr) ?_
              show Till p e below s (Q0 Z q1 p2 p3 p4 p5 h0 n0) room_1.cells room_1.slots (T102.setTop (mkF m 329 #[.val (.long q1), .second, .val (.int p2), .val (.int p3), .val (.int p4), .val (.int p5), .val (.long g0), .second, .val (.long g1), .second, .val (.long g2), .second, .val (.long tot), .second, .val (.long cnt), .second, .val (.ref b3), .val (.ref b32), .val (.ref b49), .val (.int (1 : Int32)), .val (.long g1), .second, .val (.ref b89), .val (.long (lsr (fn5 q1) (1 : Int32))), .second, .val (.long ((lsr (fn5 q1) (1 : Int32)) - ((lsr (fn5 q1) (1 : Int32)) / tot) * tot)), .second] [(.int (1 : Int32))]))
              refine Till.pre (fun _ hr => XS.goto X104.here hx rfl (pc0 := 329) (pc' := 333) rfl (hb hby at_329) (by decide) (by decide) hr) ?_
              show Till p e below s (Q0 Z q1 p2 p3 p4 p5 h0 n0) room_1.cells room_1.slots (T102.setTop (mkF m 333 #[.val (.long q1), .second, .val (.int p2), .val (.int p3), .val (.int p4), .val (.int p5), .val (.long g0), .second, .val (.long g1), .second, .val (.long g2), .second, .val (.long tot), .second, .val (.long cnt), .second, .val (.ref b3), .val (.ref b32), .val (.ref b49), .val (.int (1 : Int32)), .val (.long g1), .second, .val (.ref b89), .val (.long (lsr (fn5 q1) (1 : Int32))), .second, .val (.long ((lsr (fn5 q1) (1 : Int32)) - ((lsr (fn5 q1) (1 : Int32)) / tot) * tot)), .second] [(.int (1 : Int32))]))
              exact J333_112 _ (Eq.symm (if_neg hc112))
        · have hc108 := (lLt.mp (hLt.2.2.2.1 q))
          show Till p e below s (Q0 Z q1 p2 p3 p4 p5 h0 n0) room_1.cells room_1.slots (T102.setTop (mkF m 308 #[.val (.long q1), .second, .val (.int p2), .val (.int p3), .val (.int p4), .val (.int p5), .val (.long g0), .second, .val (.long g1), .second, .val (.long g2), .second, .val (.long tot), .second, .val (.long cnt), .second, .val (.ref b3), .val (.ref b32), .val (.ref b49), .val (.int (1 : Int32)), .val (.long g1), .second, .val (.ref b89), .val (.long (lsr (fn5 q1) (1 : Int32))), .second, .val (.long ((lsr (fn5 q1) (1 : Int32)) - ((lsr (fn5 q1) (1 : Int32)) / tot) * tot)), .second] []))
          refine Till.pre (fun _ hr => XS.iconst X104.here hx rfl (hb hby at_308) hr) ?_
          show Till p e below s (Q0 Z q1 p2 p3 p4 p5 h0 n0) room_1.cells room_1.slots (T102.setTop (mkF m 309 #[.val (.long q1), .second, .val (.int p2), .val (.int p3), .val (.int p4), .val (.int p5), .val (.long g0), .second, .val (.long g1), .second, .val (.long g2), .second, .val (.long tot), .second, .val (.long cnt), .second, .val (.ref b3), .val (.ref b32), .val (.ref b49), .val (.int (1 : Int32)), .val (.long g1), .second, .val (.ref b89), .val (.long (lsr (fn5 q1) (1 : Int32))), .second, .val (.long ((lsr (fn5 q1) (1 : Int32)) - ((lsr (fn5 q1) (1 : Int32)) / tot) * tot)), .second] [(.int (1 : Int32))]))
          refine Till.retZ (w := (1 : Int32)) X104 hx hret hlk (hb hby at_309) (by decide) (by decide) (by decide) ?_
          exact ⟨rfl, N105⟩
    · have hc58 := (lGt.mp (hLt.2.2.2.2.2.2.2 q))
      show Till p e below s (Q0 Z q1 p2 p3 p4 p5 h0 n0) room_1.cells room_1.slots (T45.setTop (mkF m 224 #[.val (.long q1), .second, .val (.int p2), .val (.int p3), .val (.int p4), .val (.int p5), .val (.long g0), .second, .val (.long g1), .second, .val (.long g2), .second, .val (.long tot), .second, .val (.long cnt), .second, .val (.ref b3), .val (.ref b32), .val (.ref b49), .unset, .unset, .unset, .unset, .unset, .unset, .unset, .unset] []))
      refine Till.pre (fun _ hr => XS.iconst X47.here hx rfl (hb hby at_224) hr) ?_
      show Till p e below s (Q0 Z q1 p2 p3 p4 p5 h0 n0) room_1.cells room_1.slots (T45.setTop (mkF m 225 #[.val (.long q1), .second, .val (.int p2), .val (.int p3), .val (.int p4), .val (.int p5), .val (.long g0), .second, .val (.long g1), .second, .val (.long g2), .second, .val (.long tot), .second, .val (.long cnt), .second, .val (.ref b3), .val (.ref b32), .val (.ref b49), .unset, .unset, .unset, .unset, .unset, .unset, .unset, .unset] [(.int (0 : Int32))]))
      refine Till.pre (fun _ hr => XS.goto X47.here hx rfl (pc0 := 225) (pc' := 240) rfl (hb hby at_225) (by decide) (by decide) hr) ?_
      show Till p e below s (Q0 Z q1 p2 p3 p4 p5 h0 n0) room_1.cells room_1.slots (T45.setTop (mkF m 240 #[.val (.long q1), .second, .val (.int p2), .val (.int p3), .val (.int p4), .val (.int p5), .val (.long g0), .second, .val (.long g1), .second, .val (.long g2), .second, .val (.long tot), .second, .val (.long cnt), .second, .val (.ref b3), .val (.ref b32), .val (.ref b49), .unset, .unset, .unset, .unset, .unset, .unset, .unset, .unset] [(.int (0 : Int32))]))
      refine Till.pre (fun _ hr => XS.istore X47.here hx rfl (hb hby at_240) rfl (l' := #[.val (.long q1), .second, .val (.int p2), .val (.int p3), .val (.int p4), .val (.int p5), .val (.long g0), .second, .val (.long g1), .second, .val (.long g2), .second, .val (.long tot), .second, .val (.long cnt), .second, .val (.ref b3), .val (.ref b32), .val (.ref b49), .val (.int (0 : Int32)), .unset, .unset, .unset, .unset, .unset, .unset, .unset]) rfl hr) ?_
      show Till p e below s (Q0 Z q1 p2 p3 p4 p5 h0 n0) room_1.cells room_1.slots (T45.setTop (mkF m 242 #[.val (.long q1), .second, .val (.int p2), .val (.int p3), .val (.int p4), .val (.int p5), .val (.long g0), .second, .val (.long g1), .second, .val (.long g2), .second, .val (.long tot), .second, .val (.long cnt), .second, .val (.ref b3), .val (.ref b32), .val (.ref b49), .val (.int (0 : Int32)), .unset, .unset, .unset, .unset, .unset, .unset, .unset] []))
      refine Till.pre (fun _ hr => XS.iload X47.here hx rfl (hb hby at_242) rfl hr) ?_
      show Till p e below s (Q0 Z q1 p2 p3 p4 p5 h0 n0) room_1.cells room_1.slots (T45.setTop (mkF m 244 #[.val (.long q1), .second, .val (.int p2), .val (.int p3), .val (.int p4), .val (.int p5), .val (.long g0), .second, .val (.long g1), .second, .val (.long g2), .second, .val (.long tot), .second, .val (.long cnt), .second, .val (.ref b3), .val (.ref b32), .val (.ref b49), .val (.int (0 : Int32)), .unset, .unset, .unset, .unset, .unset, .unset, .unset] [(.int (0 : Int32))]))
      refine Till.ifc (pc' := 252) X47.here hx (hb hby at_244) (by decide) (by decide) (fun q => absurd (by decide : ((0 : Int32) = (0 : Int32))) (hEq.2.2.1 q)) (fun q => ?_)
      show Till p e below s (Q0 Z q1 p2 p3 p4 p5 h0 n0) room_1.cells room_1.slots (T45.setTop (mkF m 247 #[.val (.long q1), .second, .val (.int p2), .val (.int p3), .val (.int p4), .val (.int p5), .val (.long g0), .second, .val (.long g1), .second, .val (.long g2), .second, .val (.long tot), .second, .val (.long cnt), .second, .val (.ref b3), .val (.ref b32), .val (.ref b49), .val (.int (0 : Int32)), .unset, .unset, .unset, .unset, .unset, .unset, .unset] []))
      refine Till.pre (fun _ hr => XS.lload X47.here hx rfl (hb hby at_247) rfl hr) ?_
      show Till p e below s (Q0 Z q1 p2 p3 p4 p5 h0 n0) room_1.cells room_1.slots (T45.setTop (mkF m 249 #[.val (.long q1), .second, .val (.int p2), .val (.int p3), .val (.int p4), .val (.int p5), .val (.long g0), .second, .val (.long g1), .second, .val (.long g2), .second, .val (.long tot), .second, .val (.long cnt), .second, .val (.ref b3), .val (.ref b32), .val (.ref b49), .val (.int (0 : Int32)), .unset, .unset, .unset, .unset, .unset, .unset, .unset] [(.long g0)]))
      refine Till.pre (fun _ hr => XS.goto X47.here hx rfl (pc0 := 249) (pc' := 265) rfl (hb hby at_249) (by decide) (by decide) hr) ?_
      show Till p e below s (Q0 Z q1 p2 p3 p4 p5 h0 n0) room_1.cells room_1.slots (T45.setTop (mkF m 265 #[.val (.long q1), .second, .val (.int p2), .val (.int p3), .val (.int p4), .val (.int p5), .val (.long g0), .second, .val (.long g1), .second, .val (.long g2), .second, .val (.long tot), .second, .val (.long cnt), .second, .val (.ref b3), .val (.ref b32), .val (.ref b49), .val (.int (0 : Int32)), .unset, .unset, .unset, .unset, .unset, .unset, .unset] [(.long g0)]))
      refine Till.pre (fun _ hr => XS.lstore X47.here hx rfl (hb hby at_265) rfl (l' := #[.val (.long q1), .second, .val (.int p2), .val (.int p3), .val (.int p4), .val (.int p5), .val (.long g0), .second, .val (.long g1), .second, .val (.long g2), .second, .val (.long tot), .second, .val (.long cnt), .second, .val (.ref b3), .val (.ref b32), .val (.ref b49), .val (.int (0 : Int32)), .val (.long g0), .second, .unset, .unset, .unset, .unset, .unset]) rfl hr) ?_
      show Till p e below s (Q0 Z q1 p2 p3 p4 p5 h0 n0) room_1.cells room_1.slots (T45.setTop (mkF m 267 #[.val (.long q1), .second, .val (.int p2), .val (.int p3), .val (.int p4), .val (.int p5), .val (.long g0), .second, .val (.long g1), .second, .val (.long g2), .second, .val (.long tot), .second, .val (.long cnt), .second, .val (.ref b3), .val (.ref b32), .val (.ref b49), .val (.int (0 : Int32)), .val (.long g0), .second, .unset, .unset, .unset, .unset, .unset] []))
      refine Till.newO X47 hx hZ hown (hw _ (List.mem_of_getElem? (i := 2) rfl)) (hw _ (List.mem_of_getElem? (i := 3) rfl)) (hw _ (List.mem_of_getElem? (i := 4) rfl)) rfl (hb hby at_267) (by decide) (by decide) (fun T114 h115 b116 g117 X118 e119 E120 A121 D122 => ?_)
      have ne_b3_b116 : b3 ≠ b116 := Nat.ne_of_lt (Nat.lt_of_lt_of_le R_b3.lt (Nat.le_of_eq g117.symm))
      have ne_b32_b116 : b32 ≠ b116 := Nat.ne_of_lt (Nat.lt_of_lt_of_le R_b32.lt (Nat.le_of_eq g117.symm))
      have ne_b49_b116 : b49 ≠ b116 := Nat.ne_of_lt (Nat.lt_of_lt_of_le R_b49.lt (Nat.le_of_eq g117.symm))
      have g_b116 : n0 ≤ b116 := Nat.le_trans Zs (Nat.le_of_eq g117.symm)
      have R_b3 := R_b3.ext E120
      have R_b32 := R_b32.ext E120
      have R_b49 := R_b49.ext E120
      have Zs := Nat.le_trans Zs E120.1
      have R_b116 : Lot Z h115 b116 (0 : Int64) := ⟨A121, D122 (Or.inl (hw _ (List.mem_of_getElem? (i := 12) rfl))) (ty := .long) (by decide)⟩
      show Till p e below s (Q0 Z q1 p2 p3 p4 p5 h0 n0) room_1.cells room_1.slots (T114.setTop (mkF m 270 #[.val (.long q1), .second, .val (.int p2), .val (.int p3), .val (.int p4), .val (.int p5), .val (.long g0), .second, .val (.long g1), .second, .val (.long g2), .second, .val (.long tot), .second, .val (.long cnt), .second, .val (.ref b3), .val (.ref b32), .val (.ref b49), .val (.int (0 : Int32)), .val (.long g0), .second, .unset, .unset, .unset, .unset, .unset] [(.ref b116)]))
      refine Till.pre (fun _ hr => XS.dup X118.here hx rfl (hb hby at_270) rfl rfl hr) ?_
      show Till p e below s (Q0 Z q1 p2 p3 p4 p5 h0 n0) room_1.cells room_1.slots (T114.setTop (mkF m 271 #[.val (.long q1), .second, .val (.int p2), .val (.int p3), .val (.int p4), .val (.int p5), .val (.long g0), .second, .val (.long g1), .second, .val (.long g2), .second, .val (.long tot), .second, .val (.long cnt), .second, .val (.ref b3), .val (.ref b32), .val (.ref b49), .val (.int (0 : Int32)), .val (.long g0), .second, .unset, .unset, .unset, .unset, .unset] [(.ref b116), (.ref b116)]))
      refine Till.pre (fun _ hr => XS.lloadN X118.here hx rfl (hb hby at_271) rfl hr) ?_
      show Till p e below s (Q0 Z q1 p2 p3 p4 p5 h0 n0) room_1.cells room_1.slots (T114.setTop (mkF m 272 #[.val (.long q1), .second, .val (.int p2), .val (.int p3), .val (.int p4), .val (.int p5), .val (.long g0), .second, .val (.long g1), .second, .val (.long g2), .second, .val (.long tot), .second, .val (.long cnt), .second, .val (.ref b3), .val (.ref b32), .val (.ref b49), .val (.int (0 : Int32)), .val (.long g0), .second, .unset, .unset, .unset, .unset, .unset] [(.long q1), (.ref b116), (.ref b116)]))
      refine Till.callC (rm1 l Z a0 hw b116 q1 (0 : Int64) h115 n0 Zs R_b116 g_b116) X118 hx hZ hown rfl (hw _ (List.mem_of_getElem? (i := 5) rfl)) (hw _ (List.mem_of_getElem? (i := 6) rfl)) (hw _ (List.mem_of_getElem? (i := 4) rfl)) (hw _ (List.mem_of_getElem? (i := 7) rfl)) (by decide) (by decide) (W := 1) (by decide) (by rw [hml]; rfl) (a := b116) (argsL := [(.long q1)]) (rest := [(.ref b116)]) (lenOf pd0_3 rfl) rfl rfl (Nat.le_of_eq rfl) (hb hby at_272) e119 (by decide) (by decide) ?_
      rintro _ T123 L124 X125 ⟨rfl, N126, K127, q128⟩
      have N126 := Fr.app N48 N126
      have R_b3 := R_b3.keep K127 (ninS ne_b3_b116 nin0)
      have R_b32 := R_b32.keep K127 (ninS ne_b32_b116 nin0)
      have R_b49 := R_b49.keep K127 (ninS ne_b49_b116 nin0)
      have Zs := Nat.le_trans Zs K127.1
      have R_b116 : Lot Z T123.heap b116 q1 := q128
      show Till p e below s (Q0 Z q1 p2 p3 p4 p5 h0 n0) room_1.cells room_1.slots (T123.setTop (mkF m 275 #[.val (.long q1), .second, .val (.int p2), .val (.int p3), .val (.int p4), .val (.int p5), .val (.long g0), .second, .val (.long g1), .second, .val (.long g2), .second, .val (.long tot), .second, .val (.long cnt), .second, .val (.ref b3), .val (.ref b32), .val (.ref b49), .val (.int (0 : Int32)), .val (.long g0), .second, .unset, .unset, .unset, .unset, .unset] [(.ref b116)]))
      refine Till.pre (fun _ hr => XS.astore X125.here hx rfl (hb hby at_275) rfl rfl (l' := #[.val (.long q1), .second, .val (.int p2), .val (.int p3), .val (.int p4), .val (.int p5), .val (.long g0), .second, .val (.long g1), .second, .val (.long g2), .second, .val (.long tot), .second, .val (.long cnt), .second, .val (.ref b3), .val (.ref b32), .val (.ref b49), .val (.int (0 : Int32)), .val (.long g0), .second, .val (.ref b116), .unset, .unset, .unset, .unset]) rfl hr) ?_
      show Till p e below s (Q0 Z q1 p2 p3 p4 p5 h0 n0) room_1.cells room_1.slots (T123.setTop (mkF m 277 #[.val (.long q1), .second, .val (.int p2), .val (.int p3), .val (.int p4), .val (.int p5), .val (.long g0), .second, .val (.long g1), .second, .val (.long g2), .second, .val (.long tot), .second, .val (.long cnt), .second, .val (.ref b3), .val (.ref b32), .val (.ref b49), .val (.int (0 : Int32)), .val (.long g0), .second, .val (.ref b116), .unset, .unset, .unset, .unset] []))
      refine Till.pre (fun _ hr => XS.aload X125.here hx rfl (hb hby at_277) rfl rfl hr) ?_
      show Till p e below s (Q0 Z q1 p2 p3 p4 p5 h0 n0) room_1.cells room_1.slots (T123.setTop (mkF m 279 #[.val (.long q1), .second, .val (.int p2), .val (.int p3), .val (.int p4), .val (.int p5), .val (.long g0), .second, .val (.long g1), .second, .val (.long g2), .second, .val (.long tot), .second, .val (.long cnt), .second, .val (.ref b3), .val (.ref b32), .val (.ref b49), .val (.int (0 : Int32)), .val (.long g0), .second, .val (.ref b116), .unset, .unset, .unset, .unset] [(.ref b116)]))
      refine Till.callV (rm5 l Z a0 hw b116 q1 T123.heap n0 Zs R_b116 g_b116) R_b116.1 X125 hx hZ hown (hw _ (List.mem_of_getElem? (i := 34) rfl)) (hw _ (List.mem_of_getElem? (i := 27) rfl)) (hw _ (List.mem_of_getElem? (i := 29) rfl)) (hw _ (List.mem_of_getElem? (i := 28) rfl)) (hw _ (List.mem_of_getElem? (i := 4) rfl)) (hw _ (List.mem_of_getElem? (i := 30) rfl)) (by decide) (by decide) (W := 0) (by decide) (by rw [hml]; rfl) (a := b116) (argsL := []) (rest := []) (lenOf pd0_0 rfl) rfl rfl (Nat.le_of_eq rfl) (hb hby at_279) rfl (by decide) (by decide) ?_
      rintro _ T129 L130 X131 ⟨rfl, N132, K133, q134⟩
      have N132 := Fr.app N126 N132
      have R_b3 := R_b3.keep K133 (ninS ne_b3_b116 nin0)
      have R_b32 := R_b32.keep K133 (ninS ne_b32_b116 nin0)
      have R_b49 := R_b49.keep K133 (ninS ne_b49_b116 nin0)
      have Zs := Nat.le_trans Zs K133.1
      have R_b116 : Lot Z T129.heap b116 (q1 + (-7046029254386353131 : Int64)) := q134
      show Till p e below s (Q0 Z q1 p2 p3 p4 p5 h0 n0) room_1.cells room_1.slots (T129.setTop (mkF m 282 #[.val (.long q1), .second, .val (.int p2), .val (.int p3), .val (.int p4), .val (.int p5), .val (.long g0), .second, .val (.long g1), .second, .val (.long g2), .second, .val (.long tot), .second, .val (.long cnt), .second, .val (.ref b3), .val (.ref b32), .val (.ref b49), .val (.int (0 : Int32)), .val (.long g0), .second, .val (.ref b116), .unset, .unset, .unset, .unset] [(.long (fn5 q1))]))
      refine Till.pre (fun _ hr => XS.iconst X131.here hx rfl (hb hby at_282) hr) ?_
      show Till p e below s (Q0 Z q1 p2 p3 p4 p5 h0 n0) room_1.cells room_1.slots (T129.setTop (mkF m 283 #[.val (.long q1), .second, .val (.int p2), .val (.int p3), .val (.int p4), .val (.int p5), .val (.long g0), .second, .val (.long g1), .second, .val (.long g2), .second, .val (.long tot), .second, .val (.long cnt), .second, .val (.ref b3), .val (.ref b32), .val (.ref b49), .val (.int (0 : Int32)), .val (.long g0), .second, .val (.ref b116), .unset, .unset, .unset, .unset] [(.int (1 : Int32)), (.long (fn5 q1))]))
      refine Till.pre (fun _ hr => XS.lushr X131.here hx rfl (hb hby at_283) rfl hr) ?_
      show Till p e below s (Q0 Z q1 p2 p3 p4 p5 h0 n0) room_1.cells room_1.slots (T129.setTop (mkF m 284 #[.val (.long q1), .second, .val (.int p2), .val (.int p3), .val (.int p4), .val (.int p5), .val (.long g0), .second, .val (.long g1), .second, .val (.long g2), .second, .val (.long tot), .second, .val (.long cnt), .second, .val (.ref b3), .val (.ref b32), .val (.ref b49), .val (.int (0 : Int32)), .val (.long g0), .second, .val (.ref b116), .unset, .unset, .unset, .unset] [(.long (lsr (fn5 q1) (1 : Int32)))]))
      refine Till.pre (fun _ hr => XS.lstore X131.here hx rfl (hb hby at_284) rfl (l' := #[.val (.long q1), .second, .val (.int p2), .val (.int p3), .val (.int p4), .val (.int p5), .val (.long g0), .second, .val (.long g1), .second, .val (.long g2), .second, .val (.long tot), .second, .val (.long cnt), .second, .val (.ref b3), .val (.ref b32), .val (.ref b49), .val (.int (0 : Int32)), .val (.long g0), .second, .val (.ref b116), .val (.long (lsr (fn5 q1) (1 : Int32))), .second, .unset, .unset]) rfl hr) ?_
      show Till p e below s (Q0 Z q1 p2 p3 p4 p5 h0 n0) room_1.cells room_1.slots (T129.setTop (mkF m 286 #[.val (.long q1), .second, .val (.int p2), .val (.int p3), .val (.int p4), .val (.int p5), .val (.long g0), .second, .val (.long g1), .second, .val (.long g2), .second, .val (.long tot), .second, .val (.long cnt), .second, .val (.ref b3), .val (.ref b32), .val (.ref b49), .val (.int (0 : Int32)), .val (.long g0), .second, .val (.ref b116), .val (.long (lsr (fn5 q1) (1 : Int32))), .second, .unset, .unset] []))
      refine Till.pre (fun _ hr => XS.lload X131.here hx rfl (hb hby at_286) rfl hr) ?_
      show Till p e below s (Q0 Z q1 p2 p3 p4 p5 h0 n0) room_1.cells room_1.slots (T129.setTop (mkF m 288 #[.val (.long q1), .second, .val (.int p2), .val (.int p3), .val (.int p4), .val (.int p5), .val (.long g0), .second, .val (.long g1), .second, .val (.long g2), .second, .val (.long tot), .second, .val (.long cnt), .second, .val (.ref b3), .val (.ref b32), .val (.ref b49), .val (.int (0 : Int32)), .val (.long g0), .second, .val (.ref b116), .val (.long (lsr (fn5 q1) (1 : Int32))), .second, .unset, .unset] [(.long (lsr (fn5 q1) (1 : Int32)))]))
      refine Till.pre (fun _ hr => XS.lload X131.here hx rfl (hb hby at_288) rfl hr) ?_
      show Till p e below s (Q0 Z q1 p2 p3 p4 p5 h0 n0) room_1.cells room_1.slots (T129.setTop (mkF m 290 #[.val (.long q1), .second, .val (.int p2), .val (.int p3), .val (.int p4), .val (.int p5), .val (.long g0), .second, .val (.long g1), .second, .val (.long g2), .second, .val (.long tot), .second, .val (.long cnt), .second, .val (.ref b3), .val (.ref b32), .val (.ref b49), .val (.int (0 : Int32)), .val (.long g0), .second, .val (.ref b116), .val (.long (lsr (fn5 q1) (1 : Int32))), .second, .unset, .unset] [(.long tot), (.long (lsr (fn5 q1) (1 : Int32)))]))
      refine Till.pre (fun _ hr => XS.lrem X131.here hx rfl (hb hby at_290) rfl (hc57) hr) ?_
      show Till p e below s (Q0 Z q1 p2 p3 p4 p5 h0 n0) room_1.cells room_1.slots (T129.setTop (mkF m 291 #[.val (.long q1), .second, .val (.int p2), .val (.int p3), .val (.int p4), .val (.int p5), .val (.long g0), .second, .val (.long g1), .second, .val (.long g2), .second, .val (.long tot), .second, .val (.long cnt), .second, .val (.ref b3), .val (.ref b32), .val (.ref b49), .val (.int (0 : Int32)), .val (.long g0), .second, .val (.ref b116), .val (.long (lsr (fn5 q1) (1 : Int32))), .second, .unset, .unset] [(.long ((lsr (fn5 q1) (1 : Int32)) - ((lsr (fn5 q1) (1 : Int32)) / tot) * tot))]))
      refine Till.pre (fun _ hr => XS.lstore X131.here hx rfl (hb hby at_291) rfl (l' := #[.val (.long q1), .second, .val (.int p2), .val (.int p3), .val (.int p4), .val (.int p5), .val (.long g0), .second, .val (.long g1), .second, .val (.long g2), .second, .val (.long tot), .second, .val (.long cnt), .second, .val (.ref b3), .val (.ref b32), .val (.ref b49), .val (.int (0 : Int32)), .val (.long g0), .second, .val (.ref b116), .val (.long (lsr (fn5 q1) (1 : Int32))), .second, .val (.long ((lsr (fn5 q1) (1 : Int32)) - ((lsr (fn5 q1) (1 : Int32)) / tot) * tot)), .second]) rfl hr) ?_
      show Till p e below s (Q0 Z q1 p2 p3 p4 p5 h0 n0) room_1.cells room_1.slots (T129.setTop (mkF m 293 #[.val (.long q1), .second, .val (.int p2), .val (.int p3), .val (.int p4), .val (.int p5), .val (.long g0), .second, .val (.long g1), .second, .val (.long g2), .second, .val (.long tot), .second, .val (.long cnt), .second, .val (.ref b3), .val (.ref b32), .val (.ref b49), .val (.int (0 : Int32)), .val (.long g0), .second, .val (.ref b116), .val (.long (lsr (fn5 q1) (1 : Int32))), .second, .val (.long ((lsr (fn5 q1) (1 : Int32)) - ((lsr (fn5 q1) (1 : Int32)) / tot) * tot)), .second] []))
      refine Till.pre (fun _ hr => XS.lload X131.here hx rfl (hb hby at_293) rfl hr) ?_
      show Till p e below s (Q0 Z q1 p2 p3 p4 p5 h0 n0) room_1.cells room_1.slots (T129.setTop (mkF m 295 #[.val (.long q1), .second, .val (.int p2), .val (.int p3), .val (.int p4), .val (.int p5), .val (.long g0), .second, .val (.long g1), .second, .val (.long g2), .second, .val (.long tot), .second, .val (.long cnt), .second, .val (.ref b3), .val (.ref b32), .val (.ref b49), .val (.int (0 : Int32)), .val (.long g0), .second, .val (.ref b116), .val (.long (lsr (fn5 q1) (1 : Int32))), .second, .val (.long ((lsr (fn5 q1) (1 : Int32)) - ((lsr (fn5 q1) (1 : Int32)) / tot) * tot)), .second] [(.long (lsr (fn5 q1) (1 : Int32)))]))
      refine Till.pre (fun _ hr => XS.lload X131.here hx rfl (hb hby at_295) rfl hr) ?_
      show Till p e below s (Q0 Z q1 p2 p3 p4 p5 h0 n0) room_1.cells room_1.slots (T129.setTop (mkF m 297 #[.val (.long q1), .second, .val (.int p2), .val (.int p3), .val (.int p4), .val (.int p5), .val (.long g0), .second, .val (.long g1), .second, .val (.long g2), .second, .val (.long tot), .second, .val (.long cnt), .second, .val (.ref b3), .val (.ref b32), .val (.ref b49), .val (.int (0 : Int32)), .val (.long g0), .second, .val (.ref b116), .val (.long (lsr (fn5 q1) (1 : Int32))), .second, .val (.long ((lsr (fn5 q1) (1 : Int32)) - ((lsr (fn5 q1) (1 : Int32)) / tot) * tot)), .second] [(.long ((lsr (fn5 q1) (1 : Int32)) - ((lsr (fn5 q1) (1 : Int32)) / tot) * tot)), (.long (lsr (fn5 q1) (1 : Int32)))]))
      refine Till.pre (fun _ hr => XS.lsub X131.here hx rfl (hb hby at_297) rfl hr) ?_
      show Till p e below s (Q0 Z q1 p2 p3 p4 p5 h0 n0) room_1.cells room_1.slots (T129.setTop (mkF m 298 #[.val (.long q1), .second, .val (.int p2), .val (.int p3), .val (.int p4), .val (.int p5), .val (.long g0), .second, .val (.long g1), .second, .val (.long g2), .second, .val (.long tot), .second, .val (.long cnt), .second, .val (.ref b3), .val (.ref b32), .val (.ref b49), .val (.int (0 : Int32)), .val (.long g0), .second, .val (.ref b116), .val (.long (lsr (fn5 q1) (1 : Int32))), .second, .val (.long ((lsr (fn5 q1) (1 : Int32)) - ((lsr (fn5 q1) (1 : Int32)) / tot) * tot)), .second] [(.long ((lsr (fn5 q1) (1 : Int32)) - ((lsr (fn5 q1) (1 : Int32)) - ((lsr (fn5 q1) (1 : Int32)) / tot) * tot)))]))
      refine Till.pre (fun _ hr => XS.lload X131.here hx rfl (hb hby at_298) rfl hr) ?_
      show Till p e below s (Q0 Z q1 p2 p3 p4 p5 h0 n0) room_1.cells room_1.slots (T129.setTop (mkF m 300 #[.val (.long q1), .second, .val (.int p2), .val (.int p3), .val (.int p4), .val (.int p5), .val (.long g0), .second, .val (.long g1), .second, .val (.long g2), .second, .val (.long tot), .second, .val (.long cnt), .second, .val (.ref b3), .val (.ref b32), .val (.ref b49), .val (.int (0 : Int32)), .val (.long g0), .second, .val (.ref b116), .val (.long (lsr (fn5 q1) (1 : Int32))), .second, .val (.long ((lsr (fn5 q1) (1 : Int32)) - ((lsr (fn5 q1) (1 : Int32)) / tot) * tot)), .second] [(.long tot), (.long ((lsr (fn5 q1) (1 : Int32)) - ((lsr (fn5 q1) (1 : Int32)) - ((lsr (fn5 q1) (1 : Int32)) / tot) * tot)))]))
      refine Till.pre (fun _ hr => XS.lconst X131.here hx rfl (hb hby at_300) hr) ?_
      show Till p e below s (Q0 Z q1 p2 p3 p4 p5 h0 n0) room_1.cells room_1.slots (T129.setTop (mkF m 301 #[.val (.long q1), .second, .val (.int p2), .val (.int p3), .val (.int p4), .val (.int p5), .val (.long g0), .second, .val (.long g1), .second, .val (.long g2), .second, .val (.long tot), .second, .val (.long cnt), .second, .val (.ref b3), .val (.ref b32), .val (.ref b49), .val (.int (0 : Int32)), .val (.long g0), .second, .val (.ref b116), .val (.long (lsr (fn5 q1) (1 : Int32))), .second, .val (.long ((lsr (fn5 q1) (1 : Int32)) - ((lsr (fn5 q1) (1 : Int32)) / tot) * tot)), .second] [(.long (1 : Int64)), (.long tot), (.long ((lsr (fn5 q1) (1 : Int32)) - ((lsr (fn5 q1) (1 : Int32)) - ((lsr (fn5 q1) (1 : Int32)) / tot) * tot)))]))
      refine Till.pre (fun _ hr => XS.lsub X131.here hx rfl (hb hby at_301) rfl hr) ?_
      show Till p e below s (Q0 Z q1 p2 p3 p4 p5 h0 n0) room_1.cells room_1.slots (T129.setTop (mkF m 302 #[.val (.long q1), .second, .val (.int p2), .val (.int p3), .val (.int p4), .val (.int p5), .val (.long g0), .second, .val (.long g1), .second, .val (.long g2), .second, .val (.long tot), .second, .val (.long cnt), .second, .val (.ref b3), .val (.ref b32), .val (.ref b49), .val (.int (0 : Int32)), .val (.long g0), .second, .val (.ref b116), .val (.long (lsr (fn5 q1) (1 : Int32))), .second, .val (.long ((lsr (fn5 q1) (1 : Int32)) - ((lsr (fn5 q1) (1 : Int32)) / tot) * tot)), .second] [(.long (tot - (1 : Int64))), (.long ((lsr (fn5 q1) (1 : Int32)) - ((lsr (fn5 q1) (1 : Int32)) - ((lsr (fn5 q1) (1 : Int32)) / tot) * tot)))]))
      refine Till.pre (fun _ hr => XS.ladd X131.here hx rfl (hb hby at_302) rfl hr) ?_
      show Till p e below s (Q0 Z q1 p2 p3 p4 p5 h0 n0) room_1.cells room_1.slots (T129.setTop (mkF m 303 #[.val (.long q1), .second, .val (.int p2), .val (.int p3), .val (.int p4), .val (.int p5), .val (.long g0), .second, .val (.long g1), .second, .val (.long g2), .second, .val (.long tot), .second, .val (.long cnt), .second, .val (.ref b3), .val (.ref b32), .val (.ref b49), .val (.int (0 : Int32)), .val (.long g0), .second, .val (.ref b116), .val (.long (lsr (fn5 q1) (1 : Int32))), .second, .val (.long ((lsr (fn5 q1) (1 : Int32)) - ((lsr (fn5 q1) (1 : Int32)) / tot) * tot)), .second] [(.long (((lsr (fn5 q1) (1 : Int32)) - ((lsr (fn5 q1) (1 : Int32)) - ((lsr (fn5 q1) (1 : Int32)) / tot) * tot)) + (tot - (1 : Int64))))]))
      refine Till.pre (fun _ hr => XS.lconst X131.here hx rfl (hb hby at_303) hr) ?_
      show Till p e below s (Q0 Z q1 p2 p3 p4 p5 h0 n0) room_1.cells room_1.slots (T129.setTop (mkF m 304 #[.val (.long q1), .second, .val (.int p2), .val (.int p3), .val (.int p4), .val (.int p5), .val (.long g0), .second, .val (.long g1), .second, .val (.long g2), .second, .val (.long tot), .second, .val (.long cnt), .second, .val (.ref b3), .val (.ref b32), .val (.ref b49), .val (.int (0 : Int32)), .val (.long g0), .second, .val (.ref b116), .val (.long (lsr (fn5 q1) (1 : Int32))), .second, .val (.long ((lsr (fn5 q1) (1 : Int32)) - ((lsr (fn5 q1) (1 : Int32)) / tot) * tot)), .second] [(.long (0 : Int64)), (.long (((lsr (fn5 q1) (1 : Int32)) - ((lsr (fn5 q1) (1 : Int32)) - ((lsr (fn5 q1) (1 : Int32)) / tot) * tot)) + (tot - (1 : Int64))))]))
      refine Till.pre (fun _ hr => XS.lcmp X131.here hx rfl (hb hby at_304) rfl hr) ?_
      show Till p e below s (Q0 Z q1 p2 p3 p4 p5 h0 n0) room_1.cells room_1.slots (T129.setTop (mkF m 305 #[.val (.long q1), .second, .val (.int p2), .val (.int p3), .val (.int p4), .val (.int p5), .val (.long g0), .second, .val (.long g1), .second, .val (.long g2), .second, .val (.long tot), .second, .val (.long cnt), .second, .val (.ref b3), .val (.ref b32), .val (.ref b49), .val (.int (0 : Int32)), .val (.long g0), .second, .val (.ref b116), .val (.long (lsr (fn5 q1) (1 : Int32))), .second, .val (.long ((lsr (fn5 q1) (1 : Int32)) - ((lsr (fn5 q1) (1 : Int32)) / tot) * tot)), .second] [(.int (lcmpW (((lsr (fn5 q1) (1 : Int32)) - ((lsr (fn5 q1) (1 : Int32)) - ((lsr (fn5 q1) (1 : Int32)) / tot) * tot)) + (tot - (1 : Int64))) (0 : Int64)))]))
      refine Till.ifc (pc' := 310) X131.here hx (hb hby at_305) (by decide) (by decide) (fun q => ?_) (fun q => ?_)
      · have hc135 := (mt lLt.mpr (hLt.2.2.1 q))
        show Till p e below s (Q0 Z q1 p2 p3 p4 p5 h0 n0) room_1.cells room_1.slots (T129.setTop (mkF m 310 #[.val (.long q1), .second, .val (.int p2), .val (.int p3), .val (.int p4), .val (.int p5), .val (.long g0), .second, .val (.long g1), .second, .val (.long g2), .second, .val (.long tot), .second, .val (.long cnt), .second, .val (.ref b3), .val (.ref b32), .val (.ref b49), .val (.int (0 : Int32)), .val (.long g0), .second, .val (.ref b116), .val (.long (lsr (fn5 q1) (1 : Int32))), .second, .val (.long ((lsr (fn5 q1) (1 : Int32)) - ((lsr (fn5 q1) (1 : Int32)) / tot) * tot)), .second] []))
        refine Till.pre (fun _ hr => XS.lload X131.here hx rfl (hb hby at_310) rfl hr) ?_
        show Till p e below s (Q0 Z q1 p2 p3 p4 p5 h0 n0) room_1.cells room_1.slots (T129.setTop (mkF m 312 #[.val (.long q1), .second, .val (.int p2), .val (.int p3), .val (.int p4), .val (.int p5), .val (.long g0), .second, .val (.long g1), .second, .val (.long g2), .second, .val (.long tot), .second, .val (.long cnt), .second, .val (.ref b3), .val (.ref b32), .val (.ref b49), .val (.int (0 : Int32)), .val (.long g0), .second, .val (.ref b116), .val (.long (lsr (fn5 q1) (1 : Int32))), .second, .val (.long ((lsr (fn5 q1) (1 : Int32)) - ((lsr (fn5 q1) (1 : Int32)) / tot) * tot)), .second] [(.long ((lsr (fn5 q1) (1 : Int32)) - ((lsr (fn5 q1) (1 : Int32)) / tot) * tot))]))
        refine Till.pre (fun _ hr => XS.lload X131.here hx rfl (hb hby at_312) rfl hr) ?_
        show Till p e below s (Q0 Z q1 p2 p3 p4 p5 h0 n0) room_1.cells room_1.slots (T129.setTop (mkF m 314 #[.val (.long q1), .second, .val (.int p2), .val (.int p3), .val (.int p4), .val (.int p5), .val (.long g0), .second, .val (.long g1), .second, .val (.long g2), .second, .val (.long tot), .second, .val (.long cnt), .second, .val (.ref b3), .val (.ref b32), .val (.ref b49), .val (.int (0 : Int32)), .val (.long g0), .second, .val (.ref b116), .val (.long (lsr (fn5 q1) (1 : Int32))), .second, .val (.long ((lsr (fn5 q1) (1 : Int32)) - ((lsr (fn5 q1) (1 : Int32)) / tot) * tot)), .second] [(.long cnt), (.long ((lsr (fn5 q1) (1 : Int32)) - ((lsr (fn5 q1) (1 : Int32)) / tot) * tot))]))
        refine Till.pre (fun _ hr => XS.lcmp X131.here hx rfl (hb hby at_314) rfl hr) ?_
        show Till p e below s (Q0 Z q1 p2 p3 p4 p5 h0 n0) room_1.cells room_1.slots (T129.setTop (mkF m 315 #[.val (.long q1), .second, .val (.int p2), .val (.int p3), .val (.int p4), .val (.int p5), .val (.long g0), .second, .val (.long g1), .second, .val (.long g2), .second, .val (.long tot), .second, .val (.long cnt), .second, .val (.ref b3), .val (.ref b32), .val (.ref b49), .val (.int (0 : Int32)), .val (.long g0), .second, .val (.ref b116), .val (.long (lsr (fn5 q1) (1 : Int32))), .second, .val (.long ((lsr (fn5 q1) (1 : Int32)) - ((lsr (fn5 q1) (1 : Int32)) / tot) * tot)), .second] [(.int (lcmpW ((lsr (fn5 q1) (1 : Int32)) - ((lsr (fn5 q1) (1 : Int32)) / tot) * tot) cnt))]))
        refine Till.ifc (pc' := 334) X131.here hx (hb hby at_315) (by decide) (by decide) (fun q => ?_) (fun q => ?_)
        · have hc136 := (mt lLt.mpr (hLt.2.2.1 q))
          show Till p e below s (Q0 Z q1 p2 p3 p4 p5 h0 n0) room_1.cells room_1.slots (T129.setTop (mkF m 334 #[.val (.long q1), .second, .val (.int p2), .val (.int p3), .val (.int p4), .val (.int p5), .val (.long g0), .second, .val (.long g1), .second, .val (.long g2), .second, .val (.long tot), .second, .val (.long cnt), .second, .val (.ref b3), .val (.ref b32), .val (.ref b49), .val (.int (0 : Int32)), .val (.long g0), .second, .val (.ref b116), .val (.long (lsr (fn5 q1) (1 : Int32))), .second, .val (.long ((lsr (fn5 q1) (1 : Int32)) - ((lsr (fn5 q1) (1 : Int32)) / tot) * tot)), .second] []))
          refine Till.pre (fun _ hr => XS.aload X131.here hx rfl (hb hby at_334) rfl rfl hr) ?_
          show Till p e below s (Q0 Z q1 p2 p3 p4 p5 h0 n0) room_1.cells room_1.slots (T129.setTop (mkF m 336 #[.val (.long q1), .second, .val (.int p2), .val (.int p3), .val (.int p4), .val (.int p5), .val (.long g0), .second, .val (.long g1), .second, .val (.long g2), .second, .val (.long tot), .second, .val (.long cnt), .second, .val (.ref b3), .val (.ref b32), .val (.ref b49), .val (.int (0 : Int32)), .val (.long g0), .second, .val (.ref b116), .val (.long (lsr (fn5 q1) (1 : Int32))), .second, .val (.long ((lsr (fn5 q1) (1 : Int32)) - ((lsr (fn5 q1) (1 : Int32)) / tot) * tot)), .second] [(.ref b49)]))
          refine Till.pre (fun _ hr => XS.iload X131.here hx rfl (hb hby at_336) rfl hr) ?_
          show Till p e below s (Q0 Z q1 p2 p3 p4 p5 h0 n0) room_1.cells room_1.slots (T129.setTop (mkF m 338 #[.val (.long q1), .second, .val (.int p2), .val (.int p3), .val (.int p4), .val (.int p5), .val (.long g0), .second, .val (.long g1), .second, .val (.long g2), .second, .val (.long tot), .second, .val (.long cnt), .second, .val (.ref b3), .val (.ref b32), .val (.ref b49), .val (.int (0 : Int32)), .val (.long g0), .second, .val (.ref b116), .val (.long (lsr (fn5 q1) (1 : Int32))), .second, .val (.long ((lsr (fn5 q1) (1 : Int32)) - ((lsr (fn5 q1) (1 : Int32)) / tot) * tot)), .second] [(.int (0 : Int32)), (.ref b49)]))
          refine Till.laload R_b49 (by decide) (by decide) X131 hx hZ rfl (hb hby at_338) ?_
          show Till p e below s (Q0 Z q1 p2 p3 p4 p5 h0 n0) room_1.cells room_1.slots (T129.setTop (mkF m 339 #[.val (.long q1), .second, .val (.int p2), .val (.int p3), .val (.int p4), .val (.int p5), .val (.long g0), .second, .val (.long g1), .second, .val (.long g2), .second, .val (.long tot), .second, .val (.long cnt), .second, .val (.ref b3), .val (.ref b32), .val (.ref b49), .val (.int (0 : Int32)), .val (.long g0), .second, .val (.ref b116), .val (.long (lsr (fn5 q1) (1 : Int32))), .second, .val (.long ((lsr (fn5 q1) (1 : Int32)) - ((lsr (fn5 q1) (1 : Int32)) / tot) * tot)), .second] [(.long (d51 0))]))
          refine Till.pre (fun _ hr => XS.lload X131.here hx rfl (hb hby at_339) rfl hr) ?_
          show Till p e below s (Q0 Z q1 p2 p3 p4 p5 h0 n0) room_1.cells room_1.slots (T129.setTop (mkF m 341 #[.val (.long q1), .second, .val (.int p2), .val (.int p3), .val (.int p4), .val (.int p5), .val (.long g0), .second, .val (.long g1), .second, .val (.long g2), .second, .val (.long tot), .second, .val (.long cnt), .second, .val (.ref b3), .val (.ref b32), .val (.ref b49), .val (.int (0 : Int32)), .val (.long g0), .second, .val (.ref b116), .val (.long (lsr (fn5 q1) (1 : Int32))), .second, .val (.long ((lsr (fn5 q1) (1 : Int32)) - ((lsr (fn5 q1) (1 : Int32)) / tot) * tot)), .second] [(.long g0), (.long (d51 0))]))
          refine Till.pre (fun _ hr => XS.lconst X131.here hx rfl (hb hby at_341) hr) ?_
          show Till p e below s (Q0 Z q1 p2 p3 p4 p5 h0 n0) room_1.cells room_1.slots (T129.setTop (mkF m 342 #[.val (.long q1), .second, .val (.int p2), .val (.int p3), .val (.int p4), .val (.int p5), .val (.long g0), .second, .val (.long g1), .second, .val (.long g2), .second, .val (.long tot), .second, .val (.long cnt), .second, .val (.ref b3), .val (.ref b32), .val (.ref b49), .val (.int (0 : Int32)), .val (.long g0), .second, .val (.ref b116), .val (.long (lsr (fn5 q1) (1 : Int32))), .second, .val (.long ((lsr (fn5 q1) (1 : Int32)) - ((lsr (fn5 q1) (1 : Int32)) / tot) * tot)), .second] [(.long (1 : Int64)), (.long g0), (.long (d51 0))]))
          refine Till.pre (fun _ hr => XS.lsub X131.here hx rfl (hb hby at_342) rfl hr) ?_
          show Till p e below s (Q0 Z q1 p2 p3 p4 p5 h0 n0) room_1.cells room_1.slots (T129.setTop (mkF m 343 #[.val (.long q1), .second, .val (.int p2), .val (.int p3), .val (.int p4), .val (.int p5), .val (.long g0), .second, .val (.long g1), .second, .val (.long g2), .second, .val (.long tot), .second, .val (.long cnt), .second, .val (.ref b3), .val (.ref b32), .val (.ref b49), .val (.int (0 : Int32)), .val (.long g0), .second, .val (.ref b116), .val (.long (lsr (fn5 q1) (1 : Int32))), .second, .val (.long ((lsr (fn5 q1) (1 : Int32)) - ((lsr (fn5 q1) (1 : Int32)) / tot) * tot)), .second] [(.long (g0 - (1 : Int64))), (.long (d51 0))]))
          refine Till.pre (fun _ hr => XS.lcmp X131.here hx rfl (hb hby at_343) rfl hr) ?_
          show Till p e below s (Q0 Z q1 p2 p3 p4 p5 h0 n0) room_1.cells room_1.slots (T129.setTop (mkF m 344 #[.val (.long q1), .second, .val (.int p2), .val (.int p3), .val (.int p4), .val (.int p5), .val (.long g0), .second, .val (.long g1), .second, .val (.long g2), .second, .val (.long tot), .second, .val (.long cnt), .second, .val (.ref b3), .val (.ref b32), .val (.ref b49), .val (.int (0 : Int32)), .val (.long g0), .second, .val (.ref b116), .val (.long (lsr (fn5 q1) (1 : Int32))), .second, .val (.long ((lsr (fn5 q1) (1 : Int32)) - ((lsr (fn5 q1) (1 : Int32)) / tot) * tot)), .second] [(.int (lcmpW (d51 0) (g0 - (1 : Int64))))]))
          have J352_137 : ∀ (v352s0x3 : Int32) (hv352s0x3 : v352s0x3 = (if ((g0 - (1 : Int64)) < (d51 0)) then (0 : Int32) else (1 : Int32))), Till p e below s (Q0 Z q1 p2 p3 p4 p5 h0 n0) room_1.cells room_1.slots (T129.setTop (mkF m 352 #[.val (.long q1), .second, .val (.int p2), .val (.int p3), .val (.int p4), .val (.int p5), .val (.long g0), .second, .val (.long g1), .second, .val (.long g2), .second, .val (.long tot), .second, .val (.long cnt), .second, .val (.ref b3), .val (.ref b32), .val (.ref b49), .val (.int (0 : Int32)), .val (.long g0), .second, .val (.ref b116), .val (.long (lsr (fn5 q1) (1 : Int32))), .second, .val (.long ((lsr (fn5 q1) (1 : Int32)) - ((lsr (fn5 q1) (1 : Int32)) / tot) * tot)), .second] [(.int v352s0x3)])) := by
            intro v352s0x3 hv352s0x3
            show Till p e below s (Q0 Z q1 p2 p3 p4 p5 h0 n0) room_1.cells room_1.slots (T129.setTop (mkF m 352 #[.val (.long q1), .second, .val (.int p2), .val (.int p3), .val (.int p4), .val (.int p5), .val (.long g0), .second, .val (.long g1), .second, .val (.long g2), .second, .val (.long tot), .second, .val (.long cnt), .second, .val (.ref b3), .val (.ref b32), .val (.ref b49), .val (.int (0 : Int32)), .val (.long g0), .second, .val (.ref b116), .val (.long (lsr (fn5 q1) (1 : Int32))), .second, .val (.long ((lsr (fn5 q1) (1 : Int32)) - ((lsr (fn5 q1) (1 : Int32)) / tot) * tot)), .second] [(.int v352s0x3)]))
            refine Till.retZ (w := (1 : Int32)) X131 hx hret hlk (hb hby at_352) (by decide) (by decide) (by rw [hv352s0x3, if_neg (own_no (gf := g0) hu_tot po56 (own_f0 hc58) hc135 hc136 rfl ⟨Int64.lt_iff_toInt_lt.mp hc58, (own_g7 hu_g0).2⟩)]; decide) ?_
            exact ⟨rfl, N132⟩
          refine Till.ifc (pc' := 351) X131.here hx (hb hby at_344) (by decide) (by decide) (fun q => ?_) (fun q => ?_)
          · have hc137 := (lGt.mp (hLt.2.2.2.2.1 q))
            show Till p e below s (Q0 Z q1 p2 p3 p4 p5 h0 n0) room_1.cells room_1.slots (T129.setTop (mkF m 351 #[.val (.long q1), .second, .val (.int p2), .val (.int p3), .val (.int p4), .val (.int p5), .val (.long g0), .second, .val (.long g1), .second, .val (.long g2), .second, .val (.long tot), .second, .val (.long cnt), .second, .val (.ref b3), .val (.ref b32), .val (.ref b49), .val (.int (0 : Int32)), .val (.long g0), .second, .val (.ref b116), .val (.long (lsr (fn5 q1) (1 : Int32))), .second, .val (.long ((lsr (fn5 q1) (1 : Int32)) - ((lsr (fn5 q1) (1 : Int32)) / tot) * tot)), .second] []))
            refine Till.pre (fun _ hr => XS.iconst X131.here hx rfl (hb hby at_351) hr) ?_
            show Till p e below s (Q0 Z q1 p2 p3 p4 p5 h0 n0) room_1.cells room_1.slots (T129.setTop (mkF m 352 #[.val (.long q1), .second, .val (.int p2), .val (.int p3), .val (.int p4), .val (.int p5), .val (.long g0), .second, .val (.long g1), .second, .val (.long g2), .second, .val (.long tot), .second, .val (.long cnt), .second, .val (.ref b3), .val (.ref b32), .val (.ref b49), .val (.int (0 : Int32)), .val (.long g0), .second, .val (.ref b116), .val (.long (lsr (fn5 q1) (1 : Int32))), .second, .val (.long ((lsr (fn5 q1) (1 : Int32)) - ((lsr (fn5 q1) (1 : Int32)) / tot) * tot)), .second] [(.int (0 : Int32))]))
            exact J352_137 _ (Eq.symm (if_pos hc137))
          · have hc137 := (mt lGt.mpr (hLt.2.2.2.2.2.1 q))
            show Till p e below s (Q0 Z q1 p2 p3 p4 p5 h0 n0) room_1.cells room_1.slots (T129.setTop (mkF m 347 #[.val (.long q1), .second, .val (.int p2), .val (.int p3), .val (.int p4), .val (.int p5), .val (.long g0), .second, .val (.long g1), .second, .val (.long g2), .second, .val (.long tot), .second, .val (.long cnt), .second, .val (.ref b3), .val (.ref b32), .val (.ref b49), .val (.int (0 : Int32)), .val (.long g0), .second, .val (.ref b116), .val (.long (lsr (fn5 q1) (1 : Int32))), .second, .val (.long ((lsr (fn5 q1) (1 : Int32)) - ((lsr (fn5 q1) (1 : Int32)) / tot) * tot)), .second] []))
            refine Till.pre (fun _ hr => XS.iconst X131.here hx rfl (hb hby at_347) hr) ?_
            show Till p e below s (Q0 Z q1 p2 p3 p4 p5 h0 n0) room_1.cells room_1.slots (T129.setTop (mkF m 348 #[.val (.long q1), .second, .val (.int p2), .val (.int p3), .val (.int p4), .val (.int p5), .val (.long g0), .second, .val (.long g1), .second, .val (.long g2), .second, .val (.long tot), .second, .val (.long cnt), .second, .val (.ref b3), .val (.ref b32), .val (.ref b49), .val (.int (0 : Int32)), .val (.long g0), .second, .val (.ref b116), .val (.long (lsr (fn5 q1) (1 : Int32))), .second, .val (.long ((lsr (fn5 q1) (1 : Int32)) - ((lsr (fn5 q1) (1 : Int32)) / tot) * tot)), .second] [(.int (1 : Int32))]))
            refine Till.pre (fun _ hr => XS.goto X131.here hx rfl (pc0 := 348) (pc' := 352) rfl (hb hby at_348) (by decide) (by decide) hr) ?_
            show Till p e below s (Q0 Z q1 p2 p3 p4 p5 h0 n0) room_1.cells room_1.slots (T129.setTop (mkF m 352 #[.val (.long q1), .second, .val (.int p2), .val (.int p3), .val (.int p4), .val (.int p5), .val (.long g0), .second, .val (.long g1), .second, .val (.long g2), .second, .val (.long tot), .second, .val (.long cnt), .second, .val (.ref b3), .val (.ref b32), .val (.ref b49), .val (.int (0 : Int32)), .val (.long g0), .second, .val (.ref b116), .val (.long (lsr (fn5 q1) (1 : Int32))), .second, .val (.long ((lsr (fn5 q1) (1 : Int32)) - ((lsr (fn5 q1) (1 : Int32)) / tot) * tot)), .second] [(.int (1 : Int32))]))
            exact J352_137 _ (Eq.symm (if_neg hc137))
        · have hc136 := (lLt.mp (hLt.2.2.2.1 q))
          show Till p e below s (Q0 Z q1 p2 p3 p4 p5 h0 n0) room_1.cells room_1.slots (T129.setTop (mkF m 318 #[.val (.long q1), .second, .val (.int p2), .val (.int p3), .val (.int p4), .val (.int p5), .val (.long g0), .second, .val (.long g1), .second, .val (.long g2), .second, .val (.long tot), .second, .val (.long cnt), .second, .val (.ref b3), .val (.ref b32), .val (.ref b49), .val (.int (0 : Int32)), .val (.long g0), .second, .val (.ref b116), .val (.long (lsr (fn5 q1) (1 : Int32))), .second, .val (.long ((lsr (fn5 q1) (1 : Int32)) - ((lsr (fn5 q1) (1 : Int32)) / tot) * tot)), .second] []))
          refine Till.pre (fun _ hr => XS.aload X131.here hx rfl (hb hby at_318) rfl rfl hr) ?_
          show Till p e below s (Q0 Z q1 p2 p3 p4 p5 h0 n0) room_1.cells room_1.slots (T129.setTop (mkF m 320 #[.val (.long q1), .second, .val (.int p2), .val (.int p3), .val (.int p4), .val (.int p5), .val (.long g0), .second, .val (.long g1), .second, .val (.long g2), .second, .val (.long tot), .second, .val (.long cnt), .second, .val (.ref b3), .val (.ref b32), .val (.ref b49), .val (.int (0 : Int32)), .val (.long g0), .second, .val (.ref b116), .val (.long (lsr (fn5 q1) (1 : Int32))), .second, .val (.long ((lsr (fn5 q1) (1 : Int32)) - ((lsr (fn5 q1) (1 : Int32)) / tot) * tot)), .second] [(.ref b49)]))
          refine Till.pre (fun _ hr => XS.iload X131.here hx rfl (hb hby at_320) rfl hr) ?_
          show Till p e below s (Q0 Z q1 p2 p3 p4 p5 h0 n0) room_1.cells room_1.slots (T129.setTop (mkF m 322 #[.val (.long q1), .second, .val (.int p2), .val (.int p3), .val (.int p4), .val (.int p5), .val (.long g0), .second, .val (.long g1), .second, .val (.long g2), .second, .val (.long tot), .second, .val (.long cnt), .second, .val (.ref b3), .val (.ref b32), .val (.ref b49), .val (.int (0 : Int32)), .val (.long g0), .second, .val (.ref b116), .val (.long (lsr (fn5 q1) (1 : Int32))), .second, .val (.long ((lsr (fn5 q1) (1 : Int32)) - ((lsr (fn5 q1) (1 : Int32)) / tot) * tot)), .second] [(.int (0 : Int32)), (.ref b49)]))
          refine Till.laload R_b49 (by decide) (by decide) X131 hx hZ rfl (hb hby at_322) ?_
          show Till p e below s (Q0 Z q1 p2 p3 p4 p5 h0 n0) room_1.cells room_1.slots (T129.setTop (mkF m 323 #[.val (.long q1), .second, .val (.int p2), .val (.int p3), .val (.int p4), .val (.int p5), .val (.long g0), .second, .val (.long g1), .second, .val (.long g2), .second, .val (.long tot), .second, .val (.long cnt), .second, .val (.ref b3), .val (.ref b32), .val (.ref b49), .val (.int (0 : Int32)), .val (.long g0), .second, .val (.ref b116), .val (.long (lsr (fn5 q1) (1 : Int32))), .second, .val (.long ((lsr (fn5 q1) (1 : Int32)) - ((lsr (fn5 q1) (1 : Int32)) / tot) * tot)), .second] [(.long (d51 0))]))
          refine Till.pre (fun _ hr => XS.lconst X131.here hx rfl (hb hby at_323) hr) ?_
          show Till p e below s (Q0 Z q1 p2 p3 p4 p5 h0 n0) room_1.cells room_1.slots (T129.setTop (mkF m 324 #[.val (.long q1), .second, .val (.int p2), .val (.int p3), .val (.int p4), .val (.int p5), .val (.long g0), .second, .val (.long g1), .second, .val (.long g2), .second, .val (.long tot), .second, .val (.long cnt), .second, .val (.ref b3), .val (.ref b32), .val (.ref b49), .val (.int (0 : Int32)), .val (.long g0), .second, .val (.ref b116), .val (.long (lsr (fn5 q1) (1 : Int32))), .second, .val (.long ((lsr (fn5 q1) (1 : Int32)) - ((lsr (fn5 q1) (1 : Int32)) / tot) * tot)), .second] [(.long (1 : Int64)), (.long (d51 0))]))
          refine Till.pre (fun _ hr => XS.lcmp X131.here hx rfl (hb hby at_324) rfl hr) ?_
          show Till p e below s (Q0 Z q1 p2 p3 p4 p5 h0 n0) room_1.cells room_1.slots (T129.setTop (mkF m 325 #[.val (.long q1), .second, .val (.int p2), .val (.int p3), .val (.int p4), .val (.int p5), .val (.long g0), .second, .val (.long g1), .second, .val (.long g2), .second, .val (.long tot), .second, .val (.long cnt), .second, .val (.ref b3), .val (.ref b32), .val (.ref b49), .val (.int (0 : Int32)), .val (.long g0), .second, .val (.ref b116), .val (.long (lsr (fn5 q1) (1 : Int32))), .second, .val (.long ((lsr (fn5 q1) (1 : Int32)) - ((lsr (fn5 q1) (1 : Int32)) / tot) * tot)), .second] [(.int (lcmpW (d51 0) (1 : Int64)))]))
          have J333_139 : ∀ (v333s0x3 : Int32) (hv333s0x3 : v333s0x3 = (if ((d51 0) < (1 : Int64)) then (0 : Int32) else (1 : Int32))), Till p e below s (Q0 Z q1 p2 p3 p4 p5 h0 n0) room_1.cells room_1.slots (T129.setTop (mkF m 333 #[.val (.long q1), .second, .val (.int p2), .val (.int p3), .val (.int p4), .val (.int p5), .val (.long g0), .second, .val (.long g1), .second, .val (.long g2), .second, .val (.long tot), .second, .val (.long cnt), .second, .val (.ref b3), .val (.ref b32), .val (.ref b49), .val (.int (0 : Int32)), .val (.long g0), .second, .val (.ref b116), .val (.long (lsr (fn5 q1) (1 : Int32))), .second, .val (.long ((lsr (fn5 q1) (1 : Int32)) - ((lsr (fn5 q1) (1 : Int32)) / tot) * tot)), .second] [(.int v333s0x3)])) := by
            intro v333s0x3 hv333s0x3
            show Till p e below s (Q0 Z q1 p2 p3 p4 p5 h0 n0) room_1.cells room_1.slots (T129.setTop (mkF m 333 #[.val (.long q1), .second, .val (.int p2), .val (.int p3), .val (.int p4), .val (.int p5), .val (.long g0), .second, .val (.long g1), .second, .val (.long g2), .second, .val (.long tot), .second, .val (.long cnt), .second, .val (.ref b3), .val (.ref b32), .val (.ref b49), .val (.int (0 : Int32)), .val (.long g0), .second, .val (.ref b116), .val (.long (lsr (fn5 q1) (1 : Int32))), .second, .val (.long ((lsr (fn5 q1) (1 : Int32)) - ((lsr (fn5 q1) (1 : Int32)) / tot) * tot)), .second] [(.int v333s0x3)]))
            refine Till.retZ (w := (1 : Int32)) X131 hx hret hlk (hb hby at_333) (by decide) (by decide) (by rw [hv333s0x3, if_neg (own_yes hu_tot po56 (own_f0 hc58) hc135 hc136)]; decide) ?_
            exact ⟨rfl, N132⟩
          refine Till.ifc (pc' := 332) X131.here hx (hb hby at_325) (by decide) (by decide) (fun q => ?_) (fun q => ?_)
          · have hc139 := (lLt.mp (hLt.1 q))
            show Till p e below s (Q0 Z q1 p2 p3 p4 p5 h0 n0) room_1.cells room_1.slots (T129.setTop (mkF m 332 #[.val (.long q1), .second, .val (.int p2), .val (.int p3), .val (.int p4), .val (.int p5), .val (.long g0), .second, .val (.long g1), .second, .val (.long g2), .second, .val (.long tot), .second, .val (.long cnt), .second, .val (.ref b3), .val (.ref b32), .val (.ref b49), .val (.int (0 : Int32)), .val (.long g0), .second, .val (.ref b116), .val (.long (lsr (fn5 q1) (1 : Int32))), .second, .val (.long ((lsr (fn5 q1) (1 : Int32)) - ((lsr (fn5 q1) (1 : Int32)) / tot) * tot)), .second] []))
            refine Till.pre (fun _ hr => XS.iconst X131.here hx rfl (hb hby at_332) hr) ?_
            show Till p e below s (Q0 Z q1 p2 p3 p4 p5 h0 n0) room_1.cells room_1.slots (T129.setTop (mkF m 333 #[.val (.long q1), .second, .val (.int p2), .val (.int p3), .val (.int p4), .val (.int p5), .val (.long g0), .second, .val (.long g1), .second, .val (.long g2), .second, .val (.long tot), .second, .val (.long cnt), .second, .val (.ref b3), .val (.ref b32), .val (.ref b49), .val (.int (0 : Int32)), .val (.long g0), .second, .val (.ref b116), .val (.long (lsr (fn5 q1) (1 : Int32))), .second, .val (.long ((lsr (fn5 q1) (1 : Int32)) - ((lsr (fn5 q1) (1 : Int32)) / tot) * tot)), .second] [(.int (0 : Int32))]))
            exact J333_139 _ (Eq.symm (if_pos hc139))
          · have hc139 := (mt lLt.mpr (hLt.2.1 q))
            show Till p e below s (Q0 Z q1 p2 p3 p4 p5 h0 n0) room_1.cells room_1.slots (T129.setTop (mkF m 328 #[.val (.long q1), .second, .val (.int p2), .val (.int p3), .val (.int p4), .val (.int p5), .val (.long g0), .second, .val (.long g1), .second, .val (.long g2), .second, .val (.long tot), .second, .val (.long cnt), .second, .val (.ref b3), .val (.ref b32), .val (.ref b49), .val (.int (0 : Int32)), .val (.long g0), .second, .val (.ref b116), .val (.long (lsr (fn5 q1) (1 : Int32))), .second, .val (.long ((lsr (fn5 q1) (1 : Int32)) - ((lsr (fn5 q1) (1 : Int32)) / tot) * tot)), .second] []))
            refine Till.pre (fun _ hr => XS.iconst X131.here hx rfl (hb hby at_328) hr) ?_
            show Till p e below s (Q0 Z q1 p2 p3 p4 p5 h0 n0) room_1.cells room_1.slots (T129.setTop (mkF m 329 #[.val (.long q1), .second, .val (.int p2), .val (.int p3), .val (.int p4), .val (.int p5), .val (.long g0), .second, .val (.long g1), .second, .val (.long g2), .second, .val (.long tot), .second, .val (.long cnt), .second, .val (.ref b3), .val (.ref b32), .val (.ref b49), .val (.int (0 : Int32)), .val (.long g0), .second, .val (.ref b116), .val (.long (lsr (fn5 q1) (1 : Int32))), .second, .val (.long ((lsr (fn5 q1) (1 : Int32)) - ((lsr (fn5 q1) (1 : Int32)) / tot) * tot)), .second] [(.int (1 : Int32))]))
            refine Till.pre (fun _ hr => XS.goto X131.here hx rfl (pc0 := 329) (pc' := 333) rfl (hb hby at_329) (by decide) (by decide) hr) ?_
            show Till p e below s (Q0 Z q1 p2 p3 p4 p5 h0 n0) room_1.cells room_1.slots (T129.setTop (mkF m 333 #[.val (.long q1), .second, .val (.int p2), .val (.int p3), .val (.int p4), .val (.int p5), .val (.long g0), .second, .val (.long g1), .second, .val (.long g2), .second, .val (.long tot), .second, .val (.long cnt), .second, .val (.ref b3), .val (.ref b32), .val (.ref b49), .val (.int (0 : Int32)), .val (.long g0), .second, .val (.ref b116), .val (.long (lsr (fn5 q1) (1 : Int32))), .second, .val (.long ((lsr (fn5 q1) (1 : Int32)) - ((lsr (fn5 q1) (1 : Int32)) / tot) * tot)), .second] [(.int (1 : Int32))]))
            exact J333_139 _ (Eq.symm (if_neg hc139))
      · have hc135 := (lLt.mp (hLt.2.2.2.1 q))
        show Till p e below s (Q0 Z q1 p2 p3 p4 p5 h0 n0) room_1.cells room_1.slots (T129.setTop (mkF m 308 #[.val (.long q1), .second, .val (.int p2), .val (.int p3), .val (.int p4), .val (.int p5), .val (.long g0), .second, .val (.long g1), .second, .val (.long g2), .second, .val (.long tot), .second, .val (.long cnt), .second, .val (.ref b3), .val (.ref b32), .val (.ref b49), .val (.int (0 : Int32)), .val (.long g0), .second, .val (.ref b116), .val (.long (lsr (fn5 q1) (1 : Int32))), .second, .val (.long ((lsr (fn5 q1) (1 : Int32)) - ((lsr (fn5 q1) (1 : Int32)) / tot) * tot)), .second] []))
        refine Till.pre (fun _ hr => XS.iconst X131.here hx rfl (hb hby at_308) hr) ?_
        show Till p e below s (Q0 Z q1 p2 p3 p4 p5 h0 n0) room_1.cells room_1.slots (T129.setTop (mkF m 309 #[.val (.long q1), .second, .val (.int p2), .val (.int p3), .val (.int p4), .val (.int p5), .val (.long g0), .second, .val (.long g1), .second, .val (.long g2), .second, .val (.long tot), .second, .val (.long cnt), .second, .val (.ref b3), .val (.ref b32), .val (.ref b49), .val (.int (0 : Int32)), .val (.long g0), .second, .val (.ref b116), .val (.long (lsr (fn5 q1) (1 : Int32))), .second, .val (.long ((lsr (fn5 q1) (1 : Int32)) - ((lsr (fn5 q1) (1 : Int32)) / tot) * tot)), .second] [(.int (1 : Int32))]))
        refine Till.retZ (w := (1 : Int32)) X131 hx hret hlk (hb hby at_309) (by decide) (by decide) (by decide) ?_
        exact ⟨rfl, N132⟩
  · have hc57 := (lEq.mp (hEq.2.2.2 q))
    show Till p e below s (Q0 Z q1 p2 p3 p4 p5 h0 n0) room_1.cells room_1.slots (T45.setTop (mkF m 215 #[.val (.long q1), .second, .val (.int p2), .val (.int p3), .val (.int p4), .val (.int p5), .val (.long g0), .second, .val (.long g1), .second, .val (.long g2), .second, .val (.long tot), .second, .val (.long cnt), .second, .val (.ref b3), .val (.ref b32), .val (.ref b49), .unset, .unset, .unset, .unset, .unset, .unset, .unset, .unset] []))
    refine Till.pre (fun _ hr => XS.iconst X47.here hx rfl (hb hby at_215) hr) ?_
    show Till p e below s (Q0 Z q1 p2 p3 p4 p5 h0 n0) room_1.cells room_1.slots (T45.setTop (mkF m 216 #[.val (.long q1), .second, .val (.int p2), .val (.int p3), .val (.int p4), .val (.int p5), .val (.long g0), .second, .val (.long g1), .second, .val (.long g2), .second, .val (.long tot), .second, .val (.long cnt), .second, .val (.ref b3), .val (.ref b32), .val (.ref b49), .unset, .unset, .unset, .unset, .unset, .unset, .unset, .unset] [(.int (1 : Int32))]))
    refine Till.retZ (w := (1 : Int32)) X47 hx hret hlk (hb hby at_216) (by decide) (by decide) (by decide) ?_
    exact ⟨rfl, N48⟩
set_option maxRecDepth 65536 in
set_option maxHeartbeats 40000000 in
theorem comes_1 {Post : Tables → Env → Array Value → State → Outcome → State → Prop} (hpost : ∀ tb e args s v u, (limb_1_1.after args s (.returned v) u = true ∧ limb_1_2.after args s (.returned v) u = true ∧ True) → FrameEnd s (.returned v) u (Jvm.fieldLocs frame_1_writes args s ++ Jvm.arrayLocs frame_1_arrays args s ++ Jvm.staticLocs frame_1_statics s) 16 128 → Post tb e args s (.returned v) u) :
    ArmFor flags0 classFile x code maxLocals ret World_1 tables_1 room_1 Calls_1 rest_1 Pre_1 Post := by
  intro l hfl _ _ p e ha hc hk s m args below hf hA hF happ hP
  obtain ⟨hcalls, hrest, hpre⟩ := hP
  obtain ⟨-, -, -, hnamed, -, -, -, hat⟩ := (Spec.applies_iff hf).mp happ
  obtain ⟨hg, hn⟩ := and_e (Cond.before_iff.mp (show (Jvm.Cond.and given_1 narrow_1).before args s = true from hpre))
  obtain ⟨h1, hg⟩ := and_e hg
  obtain ⟨k0, hg⟩ := and_e hg
  obtain ⟨k1, hg⟩ := and_e hg
  obtain ⟨k2, hg⟩ := and_e hg
  obtain ⟨k3, hg⟩ := and_e hg
  have k4 := hg
  obtain ⟨w0, w1, w2, w3, w4, rfl⟩ : ∃ w0 w1 w2 w3 w4 : Value, args = #[w0, w1, w2, w3, w4] := by
    have hs : args.size = 5 := by simpa [Cond.value, given_1] using h1
    obtain ⟨L⟩ := args
    match L, hs with
    | [w0, w1, w2, w3, w4], _ => exact ⟨w0, w1, w2, w3, w4, rfl⟩
  have hw := fun d (hd : d ∈ tables_1) => atoms_spec (ws := Jvm.Cond.code x code maxLocals ret :: tables_1) hat d (List.mem_cons_of_mem _ hd)
  obtain ⟨i0, ei0⟩ := isL_v k0
  obtain rfl : w0 = (.long i0) := Option.some.inj ei0
  obtain ⟨i1, ei1⟩ := is_v k1
  obtain rfl : w1 = (.int i1) := Option.some.inj ei1
  obtain ⟨i2, ei2⟩ := is_v k2
  obtain rfl : w2 = (.int i2) := Option.some.inj ei2
  obtain ⟨i3, ei3⟩ := is_v k3
  obtain rfl : w3 = (.int i3) := Option.some.inj ei3
  obtain ⟨i4, ei4⟩ := is_v k4
  obtain rfl : w4 = (.int i4) := Option.some.inj ei4
  obtain ⟨n, o, h1, h2, h3, _, L, rfl, ⟨rfl, N⟩, hq⟩ := rm0 l s _ hw i0 i1 i2 i3 i4 s.heap s.heap.size (Nat.le_refl _) tables_1 p e ha hc hk s m _ below hf ((Spec.applies_iff_loose hf).mp happ).1 ⟨rfl, State.Warmed39.refl s, rfl⟩ trivial
  refine ⟨n, _, h1, h2, h3, hpost _ _ _ _ _ _ ⟨Cond.after_iff.mpr rfl, Cond.after_iff.mpr (eq_i res_at (Term.int_eval (1)) rfl), trivial⟩ ⟨hq.1, hq.2.1, (hq.2.2.sift fun y hy => Or.inr (N y hy)).mono (by decide) (by decide)⟩⟩
theorem main_1_1 : Claimed_1_1 := comes_1 fun _ _ _ _ _ _ h hF => ⟨h.1, hF⟩
theorem main_1_2 : Claimed_1_2 := comes_1 fun _ _ _ _ _ _ h hF => ⟨h.2.1, hF⟩
end Jvm.Pilot.@@N@@
namespace Jvm.Pilot.@@N@@
open Jvm Jvm.ClassFile Sem Op Lib Jvm.Free Jvm.Stand Jvm.Pilot.@@N@@.Jvm.D
/-! MADE BY PROGRAM (witnessworld.py) out of the Statement's table words and the real class files: 12 classes; the members and pool entries that the words name. The judged class is class 1, her method 1. -/
namespace start1
open Jvm.ClassFile
def u (s : String) : CpInfo := .utf8 (stringToUtf16 s)
/-- a pool by its gaps: so many unusable entries, then the entry; so many at the end -/
def gap : Nat → List CpInfo → List CpInfo
  | 0, r => r
  | n + 1, r => .unusable :: gap n r
def poolList (es : List (Nat × CpInfo)) (last : Nat) : List CpInfo := es.foldr (fun e r => gap e.1 (e.2 :: r)) (gap last [])
def pool (es : List (Nat × CpInfo)) (last : Nat) : Array CpInfo := ⟨poolList es last⟩
def fileOf (pool : Array CpInfo) (this : Nat) (attrs : Array Attribute := #[]) (ms : Array MethodInfo := #[]) (fl : Nat := 33) (sup : Nat := 0) (ifs : Array Nat := #[]) (fds : Array FieldInfo := #[]) : ClassFile where
  minorVersion := 0
  majorVersion := 65
  constantPool := pool
  accessFlags := fl
  thisClass := this
  superClass := sup
  interfaces := ifs
  fields := fds
  methods := ms
  attributes := attrs
def plain (name : String) (sup : Option ClassId) : Class where
  name := name
  kind := .ordinary
  loader := none
  accessFlags := 33
  super := sup
  interfaces := #[]
  cf := none
  fields := #[]
  methods := #[]
  instanceTypes := #[]
  staticTypes := #[]
  resolved := #[]
  callSites := []
  init := .initialized
  statics := none
  mirror := none

def pool0 : Array CpInfo := pool [(5, u "<init>"), (0, u "()V"), (1, .class_ 10), (1, u "java/lang/Object")] 113

def k0c0 : Code := { maxStack := 0, maxLocals := 1, code := object_method_1_code, exceptionTable := #[], attributes := #[] }
def k0m0 : Method := { name := "<init>", desc := "()V", sig := { parameters := [], returnType := none }, accessFlags := 1, code := some k0c0 }
/-- java/lang/Object -/
def k0 : Class := { plain "java/lang/Object" none with
  accessFlags := 33
  interfaces := #[]
  cf := some (fileOf pool0 8 #[] #[{ accessFlags := 1, nameIndex := 5, descriptorIndex := 6, attributes := #[] }] 33 0 #[] #[])
  fields := #[]
  methods := #[k0m0]
  instanceTypes := #[]
  staticTypes := #[]
  resolved := Array.replicate 124 none
  statics := none }

def pool1 : Array CpInfo := pool [(2, .class_ 4), (1, u "java/lang/Object"), (0, u "<init>"), (0, u "()V"), (0, .integer 2147483647), (0, .class_ 9), (0, u "com/example/bondroll/bondroll/util/Lot"), (0, .methodref 8 11), (0, .nameAndType 5 12), (0, u "(J)V"), (0, .methodref 8 14), (0, .nameAndType 15 16), (0, u "draw"), (0, u "([JJ)[J"), (0, .methodref 8 18), (0, .nameAndType 19 20), (0, u "next"), (0, u "()J"), (0, .class_ 22), (0, u "com/example/bondroll/bondroll/util/LotDrawPinLaw"), (2, u "law"), (0, u "(JIIII)Z")] 5

def k1m0 : Method := { name := "<init>", desc := "()V", sig := { parameters := [], returnType := none }, accessFlags := 1, code := none }
def k1c1 : Code := { maxStack := 6, maxLocals := 27, code := code, exceptionTable := #[], attributes := #[] }
def k1m1 : Method := { name := "law", desc := "(JIIII)Z", sig := { parameters := [.long, .int, .int, .int, .int], returnType := some .boolean }, accessFlags := 9, code := some k1c1 }
/-- com/example/bondroll/bondroll/util/LotDrawPinLaw -/
def k1 : Class := { plain "com/example/bondroll/bondroll/util/LotDrawPinLaw" (some 0) with
  accessFlags := 49
  interfaces := #[]
  cf := some (fileOf pool1 21 #[] #[{ accessFlags := 1, nameIndex := 5, descriptorIndex := 6, attributes := #[] }, { accessFlags := 9, nameIndex := 25, descriptorIndex := 26, attributes := #[] }] 49 2 #[] #[])
  fields := #[]
  methods := #[k1m0, k1m1]
  instanceTypes := #[]
  staticTypes := #[]
  resolved := Array.replicate 32 none
  statics := none }

def pool2 : Array CpInfo := pool [(1, .methodref 2 3), (0, .class_ 4), (0, .nameAndType 5 6), (0, u "java/lang/Object"), (0, u "<init>"), (0, u "()V"), (0, .fieldref 8 9), (0, .class_ 10), (0, .nameAndType 11 12), (0, u "com/example/bondroll/bondroll/util/Lot"), (0, u "state"), (0, u "J"), (0, .methodref 14 15), (0, .class_ 16), (0, .nameAndType 17 18), (0, u "java/lang/Math"), (0, u "addExact"), (0, u "(JJ)J"), (9, .methodref 8 29), (0, .nameAndType 30 31), (0, u "below"), (0, u "(J)J"), (0, .long 11400714819323198485), (1, .long 13787848793156543929), (1, .long 10723151780598845931), (1, .methodref 8 39), (0, .nameAndType 40 41), (0, u "next"), (0, u "()J"), (0, u "(J)V"), (2, u "draw"), (0, u "([JJ)[J")] 20

def k2c0 : Code := { maxStack := 3, maxLocals := 3, code := prog_66_method_1_code, exceptionTable := #[], attributes := #[] }
def k2m0 : Method := { name := "<init>", desc := "(J)V", sig := { parameters := [.long], returnType := none }, accessFlags := 1, code := some k2c0 }
def k2c1 : Code := { maxStack := 6, maxLocals := 12, code := prog_66_method_2_code, exceptionTable := #[], attributes := #[] }
def k2m1 : Method := { name := "draw", desc := "([JJ)[J", sig := { parameters := [(.array .long), .long], returnType := some (.array .long) }, accessFlags := 1, code := some k2c1 }
def k2c2 : Code := { maxStack := 5, maxLocals := 3, code := prog_66_method_3_code, exceptionTable := #[], attributes := #[] }
def k2m2 : Method := { name := "next", desc := "()J", sig := { parameters := [], returnType := some .long }, accessFlags := 0, code := some k2c2 }
def k2c3 : Code := { maxStack := 6, maxLocals := 7, code := prog_66_method_4_code, exceptionTable := #[], attributes := #[] }
def k2m3 : Method := { name := "below", desc := "(J)J", sig := { parameters := [.long], returnType := some .long }, accessFlags := 2, code := some k2c3 }
/-- com/example/bondroll/bondroll/util/Lot -/
def k2 : Class := { plain "com/example/bondroll/bondroll/util/Lot" (some 0) with
  accessFlags := 49
  interfaces := #[]
  cf := some (fileOf pool2 8 #[] #[{ accessFlags := 1, nameIndex := 5, descriptorIndex := 42, attributes := #[] }, { accessFlags := 1, nameIndex := 45, descriptorIndex := 46, attributes := #[] }, { accessFlags := 0, nameIndex := 40, descriptorIndex := 41, attributes := #[] }, { accessFlags := 2, nameIndex := 30, descriptorIndex := 31, attributes := #[] }] 49 2 #[] #[{ accessFlags := 2, nameIndex := 11, descriptorIndex := 12, attributes := #[] }])
  fields := #[{ name := "state", type := .long, accessFlags := 2, slot := 0, constantValue := 0 }]
  methods := #[k2m0, k2m1, k2m2, k2m3]
  instanceTypes := #[.long]
  staticTypes := #[]
  resolved := Array.replicate 67 none
  statics := none }

def pool3 : Array CpInfo := pool [(1, .class_ 2), (0, u "java/lang/Math"), (1, .class_ 6), (1, u "java/lang/Object"), (0, u "<init>"), (0, u "()V"), (89, .class_ 100), (1, u "java/lang/Math$RandomNumberGeneratorHolder"), (20, u "(JJ)J"), (50, u "negativeZeroFloatBits"), (0, u "J"), (2, u "negativeZeroDoubleBits"), (68, u "$assertionsDisabled"), (0, u "Z"), (91, u "twoToTheDoubleScaleDown"), (0, u "D"), (4, u "twoToTheDoubleScaleUp"), (9, u "E"), (3, u "PI"), (2, u "TAU"), (2, u "DEGREES_TO_RADIANS"), (0, u "RADIANS_TO_DEGREES"), (27, u "addExact")] 66

def k3m0 : Method := { name := "<init>", desc := "()V", sig := { parameters := [], returnType := none }, accessFlags := 2, code := none }
def k3c1 : Code := { maxStack := 6, maxLocals := 6, code := jdk_29_method_25_code, exceptionTable := #[], attributes := #[] }
def k3m1 : Method := { name := "addExact", desc := "(JJ)J", sig := { parameters := [.long, .long], returnType := some .long }, accessFlags := 9, code := some k3c1 }
/-- java/lang/Math -/
def k3 : Class := { plain "java/lang/Math" (some 0) with
  accessFlags := 49
  interfaces := #[]
  cf := some (fileOf pool3 1 #[.nestMembers #[98]] #[{ accessFlags := 2, nameIndex := 7, descriptorIndex := 8, attributes := #[] }, { accessFlags := 9, nameIndex := 393, descriptorIndex := 121, attributes := #[] }] 49 4 #[] #[{ accessFlags := 25, nameIndex := 354, descriptorIndex := 339, attributes := #[] }, { accessFlags := 25, nameIndex := 358, descriptorIndex := 339, attributes := #[] }, { accessFlags := 25, nameIndex := 361, descriptorIndex := 339, attributes := #[] }, { accessFlags := 26, nameIndex := 364, descriptorIndex := 339, attributes := #[] }, { accessFlags := 26, nameIndex := 365, descriptorIndex := 339, attributes := #[] }, { accessFlags := 26, nameIndex := 172, descriptorIndex := 173, attributes := #[] }, { accessFlags := 26, nameIndex := 176, descriptorIndex := 173, attributes := #[] }, { accessFlags := 8, nameIndex := 344, descriptorIndex := 339, attributes := #[] }, { accessFlags := 8, nameIndex := 338, descriptorIndex := 339, attributes := #[] }, { accessFlags := 4120, nameIndex := 245, descriptorIndex := 246, attributes := #[] }])
  fields := #[{ name := "E", type := .double, accessFlags := 25, slot := 0, constantValue := 0 }, { name := "PI", type := .double, accessFlags := 25, slot := 1, constantValue := 0 }, { name := "TAU", type := .double, accessFlags := 25, slot := 2, constantValue := 0 }, { name := "DEGREES_TO_RADIANS", type := .double, accessFlags := 26, slot := 3, constantValue := 0 }, { name := "RADIANS_TO_DEGREES", type := .double, accessFlags := 26, slot := 4, constantValue := 0 }, { name := "negativeZeroFloatBits", type := .long, accessFlags := 26, slot := 5, constantValue := 0 }, { name := "negativeZeroDoubleBits", type := .long, accessFlags := 26, slot := 6, constantValue := 0 }, { name := "twoToTheDoubleScaleUp", type := .double, accessFlags := 8, slot := 7, constantValue := 0 }, { name := "twoToTheDoubleScaleDown", type := .double, accessFlags := 8, slot := 8, constantValue := 0 }, { name := "$assertionsDisabled", type := .boolean, accessFlags := 4120, slot := 9, constantValue := 0 }]
  methods := #[k3m0, k3m1]
  instanceTypes := #[]
  staticTypes := #[.double, .double, .double, .double, .double, .long, .long, .double, .double, .boolean]
  resolved := Array.replicate 460 none
  statics := none }

def pool4 : Array CpInfo := pool [(1, u "java/lang/Cloneable"), (0, .class_ 1), (0, u "java/lang/Object"), (0, .class_ 3)] 3

/-- java/lang/Cloneable -/
def k4 : Class := { plain "java/lang/Cloneable" (some 0) with
  accessFlags := 1537
  interfaces := #[]
  cf := some (fileOf pool4 2 #[] #[] 1537 4 #[] #[])
  fields := #[]
  methods := #[]
  instanceTypes := #[]
  staticTypes := #[]
  resolved := Array.replicate 8 none
  statics := none }

def pool5 : Array CpInfo := pool [(1, u "java/io/Serializable"), (0, .class_ 1), (0, u "java/lang/Object"), (0, .class_ 3)] 3

/-- java/io/Serializable -/
def k5 : Class := { plain "java/io/Serializable" (some 0) with
  accessFlags := 1537
  interfaces := #[]
  cf := some (fileOf pool5 2 #[] #[] 1537 4 #[] #[])
  fields := #[]
  methods := #[]
  instanceTypes := #[]
  staticTypes := #[]
  resolved := Array.replicate 8 none
  statics := none }

/-- the primitive byte -/
def k6 : Class := { plain "byte" none with kind := .primitive 'B', accessFlags := 0x411 }
/-- [B -/
def k7 : Class := { plain "[B" (some 0) with kind := .array 6 .byte, interfaces := #[4, 5], accessFlags := 1041 }

/-- the primitive int -/
def k8 : Class := { plain "int" none with kind := .primitive 'I', accessFlags := 0x411 }
/-- [I -/
def k9 : Class := { plain "[I" (some 0) with kind := .array 8 .int, interfaces := #[4, 5], accessFlags := 1041 }

/-- the primitive long -/
def k10 : Class := { plain "long" none with kind := .primitive 'J', accessFlags := 0x411 }
/-- [J -/
def k11 : Class := { plain "[J" (some 0) with kind := .array 10 .long, interfaces := #[4, 5], accessFlags := 1041 }

def heap : Heap := #[]
def classes : Array Class := #[k0, k1, k2, k3, k4, k5, k6, k7, k8, k9, k10, k11]
def interned : List (Array UInt16 × Addr) := []
def slotsUsed : Nat := 0
def theMethod : MethodId := ⟨1, 1⟩
def args0 : Array Value := #[.long 5, .int 5, .int 5, .int 5, .int 5]
def aboutOver (below : List Frame) : State where
  vm := { classes := classes, interned := interned.toArray }
  heap := heap
  slotsUsed := slotsUsed
  threads := #[{ frames := .invoking theMethod args0 :: below }]
def below0 : List Frame := [.native { method := ⟨0, 0⟩, args := #[] }]
def about1 : State := aboutOver below0
def p0 : Program := .bare "" "" ""
def e0 : Env := launch0.env 0 0 0
theorem w_frames : about1.frames = Frame.invoking theMethod args0 :: below0 := rfl
set_option maxRecDepth 65536 in
theorem w_args : argsFit about1.vm theMethod args0 = true := by decide +kernel
set_option maxRecDepth 65536 in
theorem w_heap : heapFits about1 = true := by decide +kernel
set_option maxRecDepth 65536 in
theorem w_runnable : about1.curStatus? = some .runnable := by decide +kernel
set_option maxRecDepth 65536 in
theorem w_alone : about1.alone = true := by decide +kernel
set_option maxRecDepth 65536 in
theorem w_named : about1.methodNamed? x = some theMethod := by decide +kernel
set_option maxRecDepth 65536 in
theorem w_hears : about1.hears theMethod below0 = true := by decide +kernel
set_option maxRecDepth 65536 in
theorem w_ripe : about1.ripe theMethod args0 below0 = true := by decide +kernel
theorem w_running : about1.status = .running := rfl
set_option maxRecDepth 65536 in
theorem w_room : about1.hasRoom e0.platform room_1 = true :=
  launch0.hasRoom_least _ room_1 (by decide +kernel) (by decide +kernel) (by decide +kernel) (by decide +kernel) (by decide +kernel) (by decide +kernel)
theorem allAtoms_all (ts : List Jvm.Cond) (a : Array Jvm.Value) (st : Jvm.State) : (allAtoms ts).before a st = ts.all (fun c => c.before a st) := by
  induction ts with
  | nil => rfl
  | cons c t ih =>
    show (Jvm.Cond.and c (allAtoms t)).before a st = _
    rw [Jvm.Cond.before_and, ih, List.all_cons]
def words1 : List Jvm.Cond := Jvm.Cond.code x code maxLocals ret :: tables_1
/-- a 'code' word, met by the world's own term for the bytes: nothing is compared byte by byte -/
theorem code_word {y : MethodName} {bytes : ByteArray} {mx : Nat} {rt : Option FieldType} {a : Array Value} {s : State} {m : MethodId} {meth : Method} {c : Code} (h1 : s.methodNamed? y = some m) (h2 : s.vm.method? m = some meth) (h3 : meth.code = some c) (h4 : c.code = bytes)
    (h5 : (c.maxLocals == mx && c.exceptionTable.isEmpty && decide (c.maxStack ≤ mostOperands) && decide (meth.sig.returnType = rt) && !meth.locks && decide (parseMethodDescriptor y.desc = some meth.sig)) = true) : (Jvm.Cond.code y bytes mx rt).before a s = true := by
  simp only [Bool.and_eq_true, beq_iff_eq, Bool.not_eq_true', decide_eq_true_eq] at h5
  obtain ⟨⟨⟨⟨⟨g1, g2⟩, g3⟩, g4⟩, g5⟩, g6⟩ := h5
  simp [Cond.before, Cond.holds, Cond.value, h1, h2, h3, h4, g1, g2, g3, g4, g5, g6]
def isCode : Jvm.Cond → Bool
  | .code _ _ _ _ => true
  | _ => false
theorem all_split {L : List Jvm.Cond} {P : Jvm.Cond → Bool} (h1 : L.all (fun c => isCode c || P c) = true) (h2 : ∀ c ∈ L.filter isCode, P c = true) : L.all P = true := by
  refine List.all_eq_true.mpr fun c hc => ?_
  have h := List.all_eq_true.mp h1 c hc
  rcases Bool.eq_false_or_eq_true (isCode c) with hi | hi
  · exact h2 c (List.mem_filter.mpr ⟨hc, hi⟩)
  · simpa [hi] using h
set_option maxRecDepth 65536 in
theorem w_c0 : (Jvm.Cond.code x code maxLocals ret).before args0 about1 = true := code_word (m := ⟨1, 1⟩) (meth := k1m1) (c := k1c1) (by decide +kernel) rfl rfl rfl (by decide +kernel)
set_option maxRecDepth 65536 in
theorem w_c1 : (Jvm.Cond.code ({ cls := "com/example/bondroll/bondroll/util/Lot", name := "<init>", desc := "(J)V" } : Jvm.MethodName) prog_66_method_1_code (3 : Nat) (Option.none : Option Jvm.ClassFile.FieldType)).before args0 about1 = true := code_word (m := ⟨2, 0⟩) (meth := k2m0) (c := k2c0) (by decide +kernel) rfl rfl rfl (by decide +kernel)
set_option maxRecDepth 65536 in
theorem w_c2 : (Jvm.Cond.code ({ cls := "java/lang/Object", name := "<init>", desc := "()V" } : Jvm.MethodName) object_method_1_code (1 : Nat) (Option.none : Option Jvm.ClassFile.FieldType)).before args0 about1 = true := code_word (m := ⟨0, 0⟩) (meth := k0m0) (c := k0c0) (by decide +kernel) rfl rfl rfl (by decide +kernel)
set_option maxRecDepth 65536 in
theorem w_c3 : (Jvm.Cond.code ({ cls := "com/example/bondroll/bondroll/util/Lot", name := "draw", desc := "([JJ)[J" } : Jvm.MethodName) prog_66_method_2_code (12 : Nat) (Option.some (Jvm.ClassFile.FieldType.array Jvm.ClassFile.FieldType.long))).before args0 about1 = true := code_word (m := ⟨2, 1⟩) (meth := k2m1) (c := k2c1) (by decide +kernel) rfl rfl rfl (by decide +kernel)
set_option maxRecDepth 65536 in
theorem w_c4 : (Jvm.Cond.code ({ cls := "java/lang/Math", name := "addExact", desc := "(JJ)J" } : Jvm.MethodName) jdk_29_method_25_code (6 : Nat) (Option.some Jvm.ClassFile.FieldType.long)).before args0 about1 = true := code_word (m := ⟨3, 1⟩) (meth := k3m1) (c := k3c1) (by decide +kernel) rfl rfl rfl (by decide +kernel)
set_option maxRecDepth 65536 in
theorem w_c5 : (Jvm.Cond.code ({ cls := "com/example/bondroll/bondroll/util/Lot", name := "below", desc := "(J)J" } : Jvm.MethodName) prog_66_method_4_code (7 : Nat) (Option.some Jvm.ClassFile.FieldType.long)).before args0 about1 = true := code_word (m := ⟨2, 3⟩) (meth := k2m3) (c := k2c3) (by decide +kernel) rfl rfl rfl (by decide +kernel)
set_option maxRecDepth 65536 in
theorem w_c6 : (Jvm.Cond.code ({ cls := "com/example/bondroll/bondroll/util/Lot", name := "next", desc := "()J" } : Jvm.MethodName) prog_66_method_3_code (3 : Nat) (Option.some Jvm.ClassFile.FieldType.long)).before args0 about1 = true := code_word (m := ⟨2, 2⟩) (meth := k2m2) (c := k2c2) (by decide +kernel) rfl rfl rfl (by decide +kernel)
def codes1 : List Jvm.Cond := [Jvm.Cond.code x code maxLocals ret, Jvm.Cond.code ({ cls := "com/example/bondroll/bondroll/util/Lot", name := "<init>", desc := "(J)V" } : Jvm.MethodName) prog_66_method_1_code (3 : Nat) (Option.none : Option Jvm.ClassFile.FieldType), Jvm.Cond.code ({ cls := "java/lang/Object", name := "<init>", desc := "()V" } : Jvm.MethodName) object_method_1_code (1 : Nat) (Option.none : Option Jvm.ClassFile.FieldType), Jvm.Cond.code ({ cls := "com/example/bondroll/bondroll/util/Lot", name := "draw", desc := "([JJ)[J" } : Jvm.MethodName) prog_66_method_2_code (12 : Nat) (Option.some (Jvm.ClassFile.FieldType.array Jvm.ClassFile.FieldType.long)), Jvm.Cond.code ({ cls := "java/lang/Math", name := "addExact", desc := "(JJ)J" } : Jvm.MethodName) jdk_29_method_25_code (6 : Nat) (Option.some Jvm.ClassFile.FieldType.long), Jvm.Cond.code ({ cls := "com/example/bondroll/bondroll/util/Lot", name := "below", desc := "(J)J" } : Jvm.MethodName) prog_66_method_4_code (7 : Nat) (Option.some Jvm.ClassFile.FieldType.long), Jvm.Cond.code ({ cls := "com/example/bondroll/bondroll/util/Lot", name := "next", desc := "()J" } : Jvm.MethodName) prog_66_method_3_code (3 : Nat) (Option.some Jvm.ClassFile.FieldType.long)]
set_option maxRecDepth 65536 in
theorem codes_eq : words1.filter isCode = codes1 := rfl
theorem w_codes : ∀ c ∈ words1.filter isCode, c.before args0 about1 = true := by
  rw [codes_eq]
  intro c hc
  simp only [codes1, List.mem_cons, List.not_mem_nil, or_false] at hc
  rcases hc with rfl | rfl | rfl | rfl | rfl | rfl | rfl
  · exact w_c0
  · exact w_c1
  · exact w_c2
  · exact w_c3
  · exact w_c4
  · exact w_c5
  · exact w_c6
set_option maxRecDepth 65536 in
theorem w_t1 : (words1.take 24).all (fun c => isCode c || c.before args0 about1) = true := by decide +kernel
set_option maxRecDepth 65536 in
theorem w_t2 : (words1.drop 24).all (fun c => isCode c || c.before args0 about1) = true := by decide +kernel
theorem w_tables : (allAtoms (Jvm.Cond.code x code maxLocals ret :: tables_1)).before args0 about1 = true := by
  rw [allAtoms_all]
  show words1.all (fun c => c.before args0 about1) = true
  refine all_split ?_ w_codes
  rw [← List.take_append_drop 24 words1, List.all_append, w_t1, w_t2]
  rfl
set_option maxRecDepth 65536 in
theorem w_case : (Jvm.Cond.and given_1 narrow_1).before args0 about1 = true := by decide +kernel
theorem w_applies : (headSpec (Jvm.Cond.code x code maxLocals ret :: tables_1) room_1).applies x e0.platform about1 = true :=
  (Spec.applies_iff w_frames).mpr ⟨w_running, w_runnable, w_alone, w_named, w_hears, w_ripe, w_room, w_tables⟩
theorem atStart : AtStart classFile x code maxLocals ret World_1 tables_1 room_1 Calls_1 rest_1 Pre_1 launch0 p0 e0 about1 theMethod args0 below0 :=
  ⟨lists_1, trivial, launch0.admits_env _ _ _, launch0.least_env, fairChoices_fair.cas, fairChoices_fair.clock, w_frames, w_args, w_heap, w_applies, trivial, trivial, w_case⟩
end start1
theorem witness_1 : WitnessClaimed_1 := ⟨start1.p0, start1.e0, start1.about1, start1.theMethod, start1.args0, start1.below0, start1.atStart⟩
end Jvm.Pilot.@@N@@
