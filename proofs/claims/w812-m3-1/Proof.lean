import JvmDerived
import JvmDerived.Pilot.@@N@@Statement
import JvmDerived.Pilot.@@N@@Code
set_option linter.unusedVariables false
set_option linter.unusedSimpArgs false
namespace Jvm.Own
open Sem ClassFile Op Lib Jvm.Stand Jvm.Free Jvm.LawKit Jvm.RoadKit
section Own
variable {p : Program} {l : Launch} {e : Env} {R : Room} {s : State} {m : MethodId} {args : Array Value} {below : List Frame} {meth : Method} {c : Code} {T : State} {locs : List Loc} {cells slots : Nat} {Q : Option Value → Heap → List Loc → Prop} {k n : Nat} {Z : State} {a0 : Array Value} {h h' h0 : Heap} {pc pc' : Nat} {Ls : Array Slot} {rest : List Value}
/-- from U the invocation comes to its end, returns, and Q holds there -/
def Till (p : Program) (e : Env) (below : List Frame) (s : State) (Q : Option Value → Heap → List Loc → Prop) (k n : Nat) (U : State) : Prop :=
  ∃ s₂ o, Steps p.tables e below U s₂ ∧ s₂.status = .running ∧ Ended s₂ below o ∧ ∃ v L, o = .returned v ∧ Q v s₂.heap L ∧ FrameEnd s o s₂ L k n
/-- a body's contract -/
def Ctr (l : Launch) (Z : State) (y : MethodName) (bytes : ByteArray) (maxL : Nat) (ret : Option FieldType) (rm : Room) (as : Array Value) (h : Heap) (Q : Option Value → Heap → List Loc → Prop) : Prop :=
  ∀ ws, MetFree l y (head1 (Jvm.Cond.code y bytes maxL ret :: ws) rm) (fun a U => a = as ∧ Z.Warmed39 U.vm ∧ U.heap = h) (fun _ _ _ _ _ => True) (fun _ U o U' => ∃ v L, o = .returned v ∧ Q v U'.heap L ∧ FrameEnd U o U' L rm.cells rm.slots)
theorem Till.pre {U V : State} (hs : ∀ t, Steps p.tables e below V t → Steps p.tables e below U t) (r : Till p e below s Q k n V) : Till p e below s Q k n U := by
  obtain ⟨s₂, o, h1, r⟩ := r; exact ⟨s₂, o, hs _ h1, r⟩
theorem Till.via {U V : State} (hs : Steps p.tables e below U V) (r : Till p e below s Q k n V) : Till p e below s Q k n U := by
  obtain ⟨s₂, o, h1, r⟩ := r; exact ⟨s₂, o, hs.trans h1, r⟩
theorem Till.cast {g g' : JFrame} (q : g = g') (r : Till p e below s Q k n (T.setTop g')) : Till p e below s Q k n (T.setTop g) := q ▸ r
theorem Ctr.of {y : MethodName} {bytes : ByteArray} {maxL : Nat} {ret : Option FieldType} {rm : Room} {as : Array Value} (hp : plainFor y = true)
    (body : ∀ p e s m below meth c s₁, p.tables.exec = Jvm.exec → c.code = bytes → c.maxLocals = maxL → s.vm.findClass y.cls = some m.cls → meth.name = y.name → meth.sig.returnType = ret → meth.locks = false → Z.Warmed39 s.vm → s₁.heap = h →
      Stand p l e rm s m as below meth c s₁ [] 0 0 → Till p e below s Q rm.cells rm.slots (s₁.setTop (entryFrame m as maxL))) : Ctr l Z y bytes maxL ret rm as h Q := by
  intro ws
  refine MetFree.of_bodySF hp hisR ?_
  intro p e s m args below meth c s₁ Bd hml hP hK
  obtain ⟨rfl, hZ, hh⟩ := hP
  exact body p e s m below meth c s₁ Bd.exec Bd.bytes hml (findClass_of_methodNamed Bd.named) (name_of_methodNamed Bd.named Bd.method).1 Bd.returns Bd.notSynchronized hZ (by rw [← hh, Bd.state]; rfl) (Stand.of_body Bd)
/-! branches -/
theorem Till.icmp {cd : ClassFile.Cond} {x y : Int32} {o : Int} (h : At T m c below) (hx : p.tables.exec = Jvm.exec) (hd : decode c.code pc = .ok (.if_icmp cd o, 3)) (ho : 0 ≤ (pc : Int) + o) (hp : ((pc : Int) + o).toNat = pc')
    (r1 : if_icmp.holds cd x y = true → Till p e below s Q k n (T.setTop (mkF m pc' Ls rest))) (r2 : if_icmp.holds cd x y = false → Till p e below s Q k n (T.setTop (mkF m (pc + 3) Ls rest))) : Till p e below s Q k n (T.setTop (mkF m pc Ls (.int y :: .int x :: rest))) := by
  cases hb : if_icmp.holds cd x y with
  | true => exact Till.pre (fun _ hr => XS.icmpYes h hx rfl (pc0 := pc) (pc' := pc') rfl hd rfl hb ho hp hr) (r1 hb)
  | false => exact Till.pre (fun _ hr => XS.icmpNo h hx rfl hd rfl hb hr) (r2 hb)
theorem Till.ifc {cd : ClassFile.Cond} {x : Int32} {o : Int} (h : At T m c below) (hx : p.tables.exec = Jvm.exec) (hd : decode c.code pc = .ok (.ifCond cd o, 3)) (ho : 0 ≤ (pc : Int) + o) (hp : ((pc : Int) + o).toNat = pc')
    (r1 : if_icmp.holds cd x 0 = true → Till p e below s Q k n (T.setTop (mkF m pc' Ls rest))) (r2 : if_icmp.holds cd x 0 = false → Till p e below s Q k n (T.setTop (mkF m (pc + 3) Ls rest))) : Till p e below s Q k n (T.setTop (mkF m pc Ls (.int x :: rest))) := by
  cases hb : if_icmp.holds cd x 0 with
  | true => exact Till.pre (fun _ hr => XS.ifYes h hx rfl (pc0 := pc) (pc' := pc') rfl hd rfl ((if0 _ _).trans hb) ho hp hr) (r1 hb)
  | false => exact Till.pre (fun _ hr => XS.ifNo h hx rfl hd rfl ((if0 _ _).trans hb) hr) (r2 hb)
theorem hEq {x y : Int32} : (if_icmp.holds .eq x y = true → x = y) ∧ (if_icmp.holds .eq x y = false → ¬ x = y) ∧ (if_icmp.holds .ne x y = true → ¬ x = y) ∧ (if_icmp.holds .ne x y = false → x = y) := by
  by_cases q : x = y
  · obtain ⟨h1, h2⟩ := teq q; rw [h1, h2]; simp [q]
  · obtain ⟨h1, h2⟩ := feq q; rw [h1, h2]; simp [q]
theorem hLt {x y : Int32} : (if_icmp.holds .lt x y = true → x < y) ∧ (if_icmp.holds .lt x y = false → ¬ x < y) ∧ (if_icmp.holds .ge x y = true → ¬ x < y) ∧ (if_icmp.holds .ge x y = false → x < y) ∧ (if_icmp.holds .gt y x = true → x < y) ∧ (if_icmp.holds .gt y x = false → ¬ x < y) ∧ (if_icmp.holds .le y x = true → ¬ x < y) ∧ (if_icmp.holds .le y x = false → x < y) := by
  by_cases q : x < y
  · obtain ⟨h1, h2, h3, h4⟩ := tlt q; rw [h1, h2, h3, h4]; simp [q]
  · obtain ⟨h1, h2, h3, h4⟩ := flt q; rw [h1, h2, h3, h4]; simp [q]
theorem lEq {x y : Int64} : lcmpW x y = 0 ↔ x = y := by rw [lcW x y]; exact lc_eq x y
theorem lLt {x y : Int64} : lcmpW x y < 0 ↔ x < y := by rw [lcW x y]; exact lc_lt x y
theorem lGt {x y : Int64} : 0 < lcmpW x y ↔ y < x := by rw [lcW x y]; exact lc_gt x y
/-- Java's >>> on longs -/
def lsr (x : Int64) (y : Int32) : Int64 := (x.toUInt64 >>> (y &&& 0x3f).toInt64.toUInt64).toInt64
/-! returns -/
theorem Till.retI (X : Stand p l e R s m args below meth c T locs cells slots) (hx : p.tables.exec = Jvm.exec) (hret : meth.sig.returnType = some .int) (hlk : meth.locks = false) {z : Int32} (hd : decode c.code pc = .ok (.ireturn, 1)) (hk : cells ≤ k) (hn : slots ≤ n) (hq : Q (some (.int z)) T.heap locs) : Till p e below s Q k n (T.setTop (mkF m pc Ls (.int z :: rest))) := by
  obtain ⟨fs, hr, hrun, hended, hW, hsame⟩ := X.leave (v := some (.int z)) (fun q => by rw [hret] at q; cases q) hlk
  exact ⟨_, _, retOut X hx hret rfl (Or.inl ⟨rfl, Or.inl rfl, z, rfl⟩) hd hr, hrun, hended, _, _, rfl, hq, ⟨_, rfl⟩, hW, hsame.mono hk hn⟩
theorem Till.retZ (X : Stand p l e R s m args below meth c T locs cells slots) (hx : p.tables.exec = Jvm.exec) (hret : meth.sig.returnType = some .boolean) (hlk : meth.locks = false) {z w : Int32} (hd : decode c.code pc = .ok (.ireturn, 1)) (hk : cells ≤ k) (hn : slots ≤ n) (hz : z &&& 1 = w) (hq : Q (some (.int w)) T.heap locs) : Till p e below s Q k n (T.setTop (mkF m pc Ls (.int z :: rest))) := by
  subst hz
  obtain ⟨fs, hr, hrun, hended, hW, hsame⟩ := X.leave (v := some (.int (z &&& 1))) (fun q => by rw [hret] at q; cases q) hlk
  exact ⟨_, _, retN X hx (t := .boolean) hret (Or.inl rfl) hd hr, hrun, hended, _, _, rfl, hq, ⟨_, rfl⟩, hW, hsame.mono hk hn⟩
theorem Till.retJ (X : Stand p l e R s m args below meth c T locs cells slots) (hx : p.tables.exec = Jvm.exec) (hret : meth.sig.returnType = some .long) (hlk : meth.locks = false) {z : Int64} (hd : decode c.code pc = .ok (.lreturn, 1)) (hk : cells ≤ k) (hn : slots ≤ n) (hq : Q (some (.long z)) T.heap locs) : Till p e below s Q k n (T.setTop (mkF m pc Ls (.long z :: rest))) := by
  obtain ⟨fs, hr, hrun, hended, hW, hsame⟩ := X.leave (v := some (.long z)) (fun q => by rw [hret] at q; cases q) hlk
  exact ⟨_, _, retOut X hx hret rfl (Or.inr (Or.inl ⟨rfl, rfl, z, rfl⟩)) hd hr, hrun, hended, _, _, rfl, hq, ⟨_, rfl⟩, hW, hsame.mono hk hn⟩
theorem Till.retA (X : Stand p l e R s m args below meth c T locs cells slots) (hx : p.tables.exec = Jvm.exec) {t : FieldType} (hret : meth.sig.returnType = some t) (ht : t.isReference = true) (hlk : meth.locks = false) {w : Value} (hw : w.isRef = true) (hnw : narrow t w = w) (hd : decode c.code pc = .ok (.areturn, 1)) (hk : cells ≤ k) (hn : slots ≤ n) (hq : Q (some w) T.heap locs) : Till p e below s Q k n (T.setTop (mkF m pc Ls (w :: rest))) := by
  obtain ⟨fs, hr, hrun, hended, hW, hsame⟩ := X.leave (v := some w) (fun q => by rw [hret] at q; cases q) hlk
  exact ⟨_, _, retOut X hx hret hnw (Or.inr (Or.inr (Or.inr (Or.inr ⟨rfl, ht, hw⟩)))) hd hr, hrun, hended, _, _, rfl, hq, ⟨_, rfl⟩, hW, hsame.mono hk hn⟩
theorem Till.retV (X : Stand p l e R s m args below meth c T locs cells slots) (hx : p.tables.exec = Jvm.exec) (hret : meth.sig.returnType = none) (hlk : meth.locks = false) (hd : decode c.code pc = .ok (.return_, 1)) (hk : cells ≤ k) (hn : slots ≤ n) (hq : Q none T.heap locs) : Till p e below s Q k n (T.setTop (mkF m pc Ls [])) := by
  obtain ⟨fs, hr, hrun, hended, hW, hsame⟩ := X.leave (v := none) (fun _ => rfl) hlk
  exact ⟨_, _, X.returnOut hx hret hd hr, hrun, hended, _, _, rfl, hq, ⟨_, rfl⟩, hW, hsame.mono hk hn⟩
/-! the heap -/
theorem Till.getF (X : Stand p l e R s m args below meth c T locs cells slots) (hx : p.tables.exec = Jvm.exec) (hZ : Z.Warmed39 s.vm) {own O nm d : String} {index : Nat} (hown : s.vm.findClass own = some m.cls) (w : (Jvm.Cond.fieldLink own index O nm d).before a0 Z = true) (eT : T.heap = h) {a : Addr} {v : Value} (F : Fld Z h a O nm d v) (hd : decode c.code pc = .ok (.getfield index, 3))
    (r : ∀ T', Stand p l e R s m args below meth c T' locs cells slots → T'.heap = h → Till p e below s Q k n (T'.setTop (mkF m (pc + 3) Ls (v :: rest)))) : Till p e below s Q k n (T.setTop (mkF m pc Ls (.ref a :: rest))) := by
  obtain ⟨T', X', e', st⟩ := Jvm.RoadKit.getF X hx hZ hown (host := "") (Or.inl w) Via.refl eT F (g := mkF m pc Ls (.ref a :: rest)) rfl rfl hd
  exact Till.pre st (r T' X' e')
theorem Till.putF (X : Stand p l e R s m args below meth c T locs cells slots) (hx : p.tables.exec = Jvm.exec) (hZ : Z.Warmed39 s.vm) {own O nm d C : String} {index kk : Nat} {ty : FieldType} (hown : s.vm.findClass own = some m.cls) (w : (Jvm.Cond.fieldLink own index O nm d).before a0 Z = true) (eT : T.heap = h) {a : Addr} {v old : Value} (F : Fld Z h a O nm d old) (E : Exa Z h a C)
    (L : (Jvm.Cond.lays C O nm d).before a0 Z = true ∨ ((Jvm.Cond.laysFinal C O nm d).before a0 Z = true ∧ own = O ∧ meth.name = "<init>")) (wi : (Jvm.Cond.instantiable C kk).before a0 Z = true) (hty : parseFieldDescriptor d = some ty) (hn : narrow ty v = v) (hf : fits ty v = true) (hd : decode c.code pc = .ok (.putfield index, 3))
    (r : ∀ T' h', Stand p l e R s m args below meth c T' (locs ++ [⟨a, Jvm.RoadKit.slotOf Z O nm d⟩]) cells slots → T'.heap = h' → Wr h h' a (Jvm.RoadKit.slotOf Z O nm d) v → Till p e below s Q k n (T'.setTop (mkF m (pc + 3) Ls rest))) : Till p e below s Q k n (T.setTop (mkF m pc Ls (v :: .ref a :: rest))) := by
  obtain ⟨T', h', X', e', W, st⟩ := Jvm.RoadKit.putF X hx hZ hown (host := "") (Or.inl w) Via.refl eT F E L wi hty hn hf (g := mkF m pc Ls (v :: .ref a :: rest)) rfl rfl hd
  exact Till.pre st (r T' h' X' e' W)
theorem Till.newO (X : Stand p l e R s m args below meth c T locs cells slots) (hx : p.tables.exec = Jvm.exec) (hZ : Z.Warmed39 s.vm) {own C : String} {index sl : Nat} (hown : s.vm.findClass own = some m.cls) (w : (Jvm.Cond.classLink own index C).before a0 Z = true) (wi : (Jvm.Cond.instantiable C sl).before a0 Z = true) (wz : (Jvm.Cond.initialized C).before a0 Z = true) (eT : T.heap = h) (hd : decode c.code pc = .ok (.new index, 3)) (hc : cells + 1 ≤ R.cells) (hl : slots + sl ≤ R.slots)
    (r : ∀ T' h' b, b = h.size → Stand p l e R s m args below meth c T' locs (cells + 1) (slots + sl) → T'.heap = h' → Ext h h' → Exa Z h' b C → (∀ {O nm d : String} {ty : FieldType}, Laid Z a0 C O nm d → parseFieldDescriptor d = some ty → Fld Z h' b O nm d (defaultValue ty)) → Till p e below s Q k n (T'.setTop (mkF m (pc + 3) Ls (.ref b :: rest)))) : Till p e below s Q k n (T.setTop (mkF m pc Ls rest)) := by
  obtain ⟨T', h', X', e', E, A, D, -, st⟩ := Jvm.RoadKit.newO X hx hZ hown w wi wz eT (g := mkF m pc Ls rest) rfl hd hc hl
  exact Till.pre st (r T' h' _ rfl X' e' E A D)
theorem Till.initO (X : Stand p l e R s m args below meth c T locs cells slots) (hx : p.tables.exec = Jvm.exec) (hZ : Z.Warmed39 s.vm) {own : String} {idx : Nat} (hown : s.vm.findClass own = some m.cls) (w1 : (Jvm.Cond.methodLink own idx Lib.objectInit).before a0 Z = true) (w2 : (Jvm.Cond.instanceMethod Lib.objectInit).before a0 Z = true) (w3 : (Jvm.Cond.code Lib.objectInit ⟨#[0xb1]⟩ 1 none).before a0 Z = true) (eT : T.heap = h) (hsize : Ls.size = c.maxLocals) {a : Addr} (hd : decode c.code pc = .ok (.invokespecial idx, 3))
    (hf : 1 ≤ R.frames) {W : Nat} (hW : (rest.map fun v => v.category).sum ≤ W) (hl : W + 12 ≤ R.locals)
    (r : ∀ T', Stand p l e R s m args below meth c T' locs cells slots → T'.heap = h → Till p e below s Q k n (T'.setTop (mkF m (pc + 3) Ls rest))) : Till p e below s Q k n (T.setTop (mkF m pc Ls (.ref a :: rest))) := by
  obtain ⟨T', X', e', st⟩ := Jvm.RoadKit.initO X hx hZ hown w1 w2 w3 eT (g := mkF m pc Ls (.ref a :: rest)) rfl hsize rfl hd hf (W := W) (by show 2 * 0 + _ ≤ _; omega) hl
  exact Till.pre st (r T' X' e')
/-! arrays: what they hold, as a function of the place -/
def AR {α : Type} (ty : FieldType) (w : α → Value) (Z : State) (h : Heap) (a : Addr) (z : Int32) (f : Nat → α) : Prop := ∃ c : Cell, Arr Z h a c ty ∧ c.slots.size = z.toNatClampNeg ∧ ¬ z < 0 ∧ ∀ i, i < c.slots.size → c.slots[i]? = some (w (f i))
abbrev LA := @AR Int64 .long Value.long
abbrev IA := @AR Int32 .int Value.int
abbrev BA := @AR Int32 .byte Value.int
def oupd {α : Type} (f : Nat → α) (i : Nat) (v : α) : Nat → α := fun x => if x = i then v else f x
theorem upd_hit {α : Type} {f : Nat → α} {i j : Nat} {v : α} (q : j = i) : oupd f i v j = v := if_pos q
theorem upd_miss {α : Type} {f : Nat → α} {i j : Nat} {v : α} (q : ¬ j = i) : oupd f i v j = f j := if_neg q
section Ary
variable {α : Type} {ty : FieldType} {w : α → Value} {a b : Addr} {z j : Int32} {f : Nat → α} {ws : List Addr} {sl : Nat} {v : Value}
theorem AR.lt (A : AR ty w Z h a z f) : a < h.size := by obtain ⟨c, A, -⟩ := A; exact A.lt
theorem AR.pos (A : AR ty w Z h a z f) : ¬ z < 0 := by obtain ⟨c, -, -, q, -⟩ := A; exact q
theorem AR.ext (A : AR ty w Z h a z f) (E : Ext h h') : AR ty w Z h' a z f := by obtain ⟨c, A, r⟩ := A; exact ⟨c, A.ext E, r⟩
theorem AR.keep (A : AR ty w Z h a z f) (K : Keep h h' ws) (q : a ∉ ws) : AR ty w Z h' a z f := by obtain ⟨c, A, r⟩ := A; exact ⟨c, ⟨K.2.1 a c A.1 q, A.2⟩, r⟩
theorem AR.wr (A : AR ty w Z h a z f) (W : Wr h h' b sl v) (q : a ≠ b) : AR ty w Z h' a z f := by obtain ⟨c, A, r⟩ := A; exact ⟨c, A.other W q, r⟩
theorem AR.congr {g : Nat → α} (A : AR ty w Z h a z f) (q : ∀ i, i < z.toNatClampNeg → f i = g i) : AR ty w Z h a z g := by obtain ⟨c, A, S, N, H⟩ := A; exact ⟨c, A, S, N, fun i hi => by rw [H i hi, q i (S ▸ hi)]⟩
theorem AR.set {x : α} (A : AR ty w Z h a z f) (W : Wr h h' a j.toNatClampNeg (w x)) : AR ty w Z h' a z (oupd f j.toNatClampNeg x) := by
  obtain ⟨c, A, S, N, H⟩ := A
  refine ⟨_, A.same W, by rw [sz_set]; exact S, N, fun i hi => ?_⟩
  rw [sz_set] at hi
  by_cases u : i = j.toNatClampNeg
  · rw [upd_hit u]; subst u; simp [Cell.setSlot, hi]
  · rw [upd_miss u]; simp only [Cell.setSlot]; rw [Array.getElem?_setIfInBounds_ne (Ne.symm u)]; exact H i hi
theorem Till.newA {aty : ArrayType} {d0 : α} (X : Stand p l e R s m args below meth c T locs cells slots) (hx : p.tables.exec = Jvm.exec) (hZ : Z.Warmed39 s.vm) (wa : (Jvm.Cond.arrayClass (newarray.typeOf aty)).before a0 Z = true) (eT : T.heap = h) (hd : decode c.code pc = .ok (.newarray aty, 2)) (hdv : defaultValue (newarray.typeOf aty) = w d0) (hz : ¬ z < 0) (cap : Nat) (hcap : z.toNatClampNeg ≤ cap) (hb : cap * 8 ≤ 536870912) (hc : cells + 1 ≤ R.cells) (hl : slots + cap ≤ R.slots)
    (r : ∀ T' h' b, b = h.size → Stand p l e R s m args below meth c T' locs (cells + 1) (slots + cap) → T'.heap = h' → Ext h h' → AR (newarray.typeOf aty) w Z h' b z (fun _ => d0) → Till p e below s Q k n (T'.setTop (mkF m (pc + 2) Ls (.ref b :: rest)))) : Till p e below s Q k n (T.setTop (mkF m pc Ls (.int z :: rest))) := by
  obtain ⟨T', h', cA, X', e', E, A, st⟩ := newP X hx hZ wa eT (g := mkF m pc Ls (.int z :: rest)) rfl hd rfl hz (cap := cap) hcap hb hc hl
  exact Till.pre st (r T' h' _ rfl X' e' E ⟨_, A, sz_new _ _ _, hz, fun i hi => by rw [sz_new] at hi; simp [Jvm.RoadKit.newA, hi, hdv]⟩)
theorem Till.alen (A : AR ty w Z h a z f) (X : Stand p l e R s m args below meth c T locs cells slots) (hx : p.tables.exec = Jvm.exec) (hZ : Z.Warmed39 s.vm) (eT : T.heap = h) (hd : decode c.code pc = .ok (.arraylength, 1))
    (r : Till p e below s Q k n (T.setTop (mkF m (pc + 1) Ls (.int z :: rest)))) : Till p e below s Q k n (T.setTop (mkF m pc Ls (.ref a :: rest))) := by
  obtain ⟨c', A, S, N, H⟩ := A
  refine Till.pre (X.arraylength hx (by rw [eT]; exact A.1) (State.isArrayOf_alike hZ.alike A.2.1) (g := mkF m pc Ls (.ref a :: rest)) rfl rfl hd) ?_
  rw [len_of S N]; exact r
theorem AR.at (A : AR ty w Z h a z f) (h1 : ¬ j < 0) (h2 : j < z) : ∃ c : Cell, Arr Z h a c ty ∧ ¬ (j < 0 ∨ c.slots.size ≤ j.toNatClampNeg) ∧ c.slots[j.toNatClampNeg]? = some (w (f j.toNatClampNeg)) := by
  obtain ⟨c', A, S, N, H⟩ := A
  have hin := inb_of S ⟨h1, h2⟩
  exact ⟨c', A, hin, H _ (Nat.lt_of_not_le fun y => hin (Or.inr y))⟩
end Ary
section Acc
variable {a : Addr} {z j : Int32}
theorem Till.laload {f : Nat → Int64} (A : LA Z h a z f) (h1 : ¬ j < 0) (h2 : j < z) (X : Stand p l e R s m args below meth c T locs cells slots) (hx : p.tables.exec = Jvm.exec) (hZ : Z.Warmed39 s.vm) (eT : T.heap = h) (hd : decode c.code pc = .ok (.laload, 1))
    (r : Till p e below s Q k n (T.setTop (mkF m (pc + 1) Ls (.long (f j.toNatClampNeg) :: rest)))) : Till p e below s Q k n (T.setTop (mkF m pc Ls (.int j :: .ref a :: rest))) := by
  obtain ⟨c', A, hin, hv⟩ := A.at h1 h2
  exact Till.pre (X.laload hx (by rw [eT]; exact A.1) (State.isArrayOf_alike hZ.alike A.2.1) A.2.2 hin hv (g := mkF m pc Ls (.int j :: .ref a :: rest)) rfl rfl hd) r
theorem Till.iaload {f : Nat → Int32} (A : IA Z h a z f) (h1 : ¬ j < 0) (h2 : j < z) (X : Stand p l e R s m args below meth c T locs cells slots) (hx : p.tables.exec = Jvm.exec) (hZ : Z.Warmed39 s.vm) (eT : T.heap = h) (hd : decode c.code pc = .ok (.iaload, 1))
    (r : Till p e below s Q k n (T.setTop (mkF m (pc + 1) Ls (.int (f j.toNatClampNeg) :: rest)))) : Till p e below s Q k n (T.setTop (mkF m pc Ls (.int j :: .ref a :: rest))) := by
  obtain ⟨c', A, hin, hv⟩ := A.at h1 h2
  exact Till.pre (X.iaload hx (by rw [eT]; exact A.1) (State.isArrayOf_alike hZ.alike A.2.1) A.2.2 hin hv (g := mkF m pc Ls (.int j :: .ref a :: rest)) rfl rfl hd) r
theorem Till.baload {f : Nat → Int32} (A : BA Z h a z f) (h1 : ¬ j < 0) (h2 : j < z) (X : Stand p l e R s m args below meth c T locs cells slots) (hx : p.tables.exec = Jvm.exec) (hZ : Z.Warmed39 s.vm) (eT : T.heap = h) (hd : decode c.code pc = .ok (.baload, 1))
    (r : Till p e below s Q k n (T.setTop (mkF m (pc + 1) Ls (.int (f j.toNatClampNeg) :: rest)))) : Till p e below s Q k n (T.setTop (mkF m pc Ls (.int j :: .ref a :: rest))) := by
  obtain ⟨c', A, hin, hv⟩ := A.at h1 h2
  exact Till.pre (X.baloadBytes hx (by rw [eT]; exact A.1) (State.isArrayOf_alike hZ.alike A.2.1) A.2.2 hin hv (g := mkF m pc Ls (.int j :: .ref a :: rest)) rfl rfl hd) r
theorem Till.lastore {f : Nat → Int64} {x : Int64} (A : LA Z h a z f) (h1 : ¬ j < 0) (h2 : j < z) (X : Stand p l e R s m args below meth c T locs cells slots) (hx : p.tables.exec = Jvm.exec) (hZ : Z.Warmed39 s.vm) (eT : T.heap = h) (hd : decode c.code pc = .ok (.lastore, 1))
    (r : ∀ T' h', Stand p l e R s m args below meth c T' (locs ++ [⟨a, j.toNatClampNeg⟩]) cells slots → T'.heap = h' → Wr h h' a j.toNatClampNeg (.long x) → LA Z h' a z (oupd f j.toNatClampNeg x) → Till p e below s Q k n (T'.setTop (mkF m (pc + 1) Ls rest))) : Till p e below s Q k n (T.setTop (mkF m pc Ls (.long x :: .int j :: .ref a :: rest))) := by
  obtain ⟨c', A', hin, hv⟩ := A.at h1 h2
  obtain ⟨T', h', X', e', W, st⟩ := stJ X hx hZ eT A' hin (x := x) (g := mkF m pc Ls (.long x :: .int j :: .ref a :: rest)) rfl rfl hd
  exact Till.pre st (r T' h' X' e' W (AR.set A W))
theorem Till.iastore {f : Nat → Int32} {x : Int32} (A : IA Z h a z f) (h1 : ¬ j < 0) (h2 : j < z) (X : Stand p l e R s m args below meth c T locs cells slots) (hx : p.tables.exec = Jvm.exec) (hZ : Z.Warmed39 s.vm) (eT : T.heap = h) (hd : decode c.code pc = .ok (.iastore, 1))
    (r : ∀ T' h', Stand p l e R s m args below meth c T' (locs ++ [⟨a, j.toNatClampNeg⟩]) cells slots → T'.heap = h' → Wr h h' a j.toNatClampNeg (.int x) → IA Z h' a z (oupd f j.toNatClampNeg x) → Till p e below s Q k n (T'.setTop (mkF m (pc + 1) Ls rest))) : Till p e below s Q k n (T.setTop (mkF m pc Ls (.int x :: .int j :: .ref a :: rest))) := by
  obtain ⟨c', A', hin, hv⟩ := A.at h1 h2
  obtain ⟨T', h', X', e', W, st⟩ := stI X hx hZ eT A' hin (x := x) (g := mkF m pc Ls (.int x :: .int j :: .ref a :: rest)) rfl rfl hd
  exact Till.pre st (r T' h' X' e' W (AR.set A W))
theorem Till.bastore {f : Nat → Int32} {x : Int32} (A : BA Z h a z f) (h1 : ¬ j < 0) (h2 : j < z) (X : Stand p l e R s m args below meth c T locs cells slots) (hx : p.tables.exec = Jvm.exec) (hZ : Z.Warmed39 s.vm) (eT : T.heap = h) (hd : decode c.code pc = .ok (.bastore, 1))
    (r : ∀ T' h', Stand p l e R s m args below meth c T' (locs ++ [⟨a, j.toNatClampNeg⟩]) cells slots → T'.heap = h' → Wr h h' a j.toNatClampNeg (.int x.toInt8.toInt32) → BA Z h' a z (oupd f j.toNatClampNeg x.toInt8.toInt32) → Till p e below s Q k n (T'.setTop (mkF m (pc + 1) Ls rest))) : Till p e below s Q k n (T.setTop (mkF m pc Ls (.int x :: .int j :: .ref a :: rest))) := by
  obtain ⟨c', A', hin, hv⟩ := A.at h1 h2
  obtain ⟨T', h', X', e', W, st⟩ := stB X hx hZ eT A' hin (x := x) (g := mkF m pc Ls (.int x :: .int j :: .ref a :: rest)) rfl rfl hd
  exact Till.pre st (r T' h' X' e' W (AR.set A W))
end Acc
/-! calls -/
section Calls
variable {own : String} {index maxL : Nat} {y : MethodName} {bytes : ByteArray} {ret : Option FieldType} {rm : Room} {as : Array Value} {Qc : Option Value → Heap → List Loc → Prop} {W : Nat} {argsL st : List Value}
theorem Till.callS (C : Ctr l Z y bytes maxL ret rm as h Qc) (X : Stand p l e R s m args below meth c T locs cells slots) (hx : p.tables.exec = Jvm.exec) (hZ : Z.Warmed39 s.vm) (hown : s.vm.findClass own = some m.cls) (w1 : (Jvm.Cond.methodLink own index y).before a0 Z = true) (w2 : (Jvm.Cond.static y).before a0 Z = true) (w3 : (Jvm.Cond.initialized y.cls).before a0 Z = true) (w4 : (Jvm.Cond.code y bytes maxL ret).before a0 Z = true)
    (hy : y.cls ≠ "java/lang/invoke/MethodHandle" ∧ y.cls ≠ "java/lang/invoke/VarHandle") (hf : rm.frames + 1 ≤ R.frames) (hl : W + (maxL + 11) + rm.locals ≤ R.locals) (hsize : Ls.size = c.maxLocals) (hlen : ∀ sig, parseMethodDescriptor y.desc = some sig → argsL.length = sig.parameters.length) (has : argsL.toArray = as) (hst : st = argsL.reverse ++ rest) (hW : (rest.map fun v => v.category).sum ≤ W) (hd : decode c.code pc = .ok (.invokestatic index, 3)) (eT : T.heap = h) (hc : cells + rm.cells ≤ R.cells) (hs : slots + rm.slots ≤ R.slots)
    (r : ∀ v T' L, Stand p l e R s m args below meth c T' (locs ++ L) (cells + rm.cells) (slots + rm.slots) → Qc v T'.heap L → Till p e below s Q k n (T'.setTop (mkF m (pc + 3) Ls (v.toList ++ rest)))) : Till p e below s Q k n (T.setTop (mkF m pc Ls st)) := by
  obtain ⟨v, vm1, ⟨T', L', c', s'⟩, -, X', ⟨Lc, hQ, l1, y1, z1⟩, stp⟩ := Jvm.LawKit.callS X hx hown (mvT hZ w1) (mvT hZ w2) (mvT hZ w3) (mvT hZ w4) hy (backOf (W := W) (C []) hZ w4 w3 hf hl) (g := mkF m pc Ls st) rfl hsize (argsL := argsL) (rest := rest) hlen hst (by show 2 * 0 + _ ≤ _; omega) hd (fun _ _ => ⟨has, eT, hc, hs⟩)
  dsimp only [Pt.U, Pt.locs, Pt.cells, Pt.slots] at X' l1 y1 z1 stp hQ
  subst l1 y1 z1
  exact Till.pre stp (r v T' Lc X' hQ)
theorem Till.callC {a : Addr} (C : Ctr l Z y bytes maxL none rm as h Qc) (X : Stand p l e R s m args below meth c T locs cells slots) (hx : p.tables.exec = Jvm.exec) (hZ : Z.Warmed39 s.vm) (hown : s.vm.findClass own = some m.cls) (hy1 : y.name = "<init>") (w1 : (Jvm.Cond.methodLink own index y).before a0 Z = true) (w2 : (Jvm.Cond.instanceMethod y).before a0 Z = true) (w3 : (Jvm.Cond.initialized y.cls).before a0 Z = true) (w4 : (Jvm.Cond.code y bytes maxL none).before a0 Z = true)
    (hy : y.cls ≠ "java/lang/invoke/MethodHandle" ∧ y.cls ≠ "java/lang/invoke/VarHandle") (hf : rm.frames + 1 ≤ R.frames) (hl : W + (maxL + 11) + rm.locals ≤ R.locals) (hsize : Ls.size = c.maxLocals) (hlen : ∀ sig, parseMethodDescriptor y.desc = some sig → argsL.length = sig.parameters.length) (has : (.ref a :: argsL).toArray = as) (hst : st = argsL.reverse ++ .ref a :: rest) (hW : (rest.map fun v => v.category).sum ≤ W) (hd : decode c.code pc = .ok (.invokespecial index, 3)) (eT : T.heap = h) (hc : cells + rm.cells ≤ R.cells) (hs : slots + rm.slots ≤ R.slots)
    (r : ∀ v T' L, Stand p l e R s m args below meth c T' (locs ++ L) (cells + rm.cells) (slots + rm.slots) → Qc v T'.heap L → Till p e below s Q k n (T'.setTop (mkF m (pc + 3) Ls (v.toList ++ rest)))) : Till p e below s Q k n (T.setTop (mkF m pc Ls st)) := by
  obtain ⟨v, vm1, ⟨T', L', c', s'⟩, -, X', ⟨Lc, hQ, l1, y1, z1⟩, stp⟩ := X.specialBack hx hy1 hown (mvT hZ w1) (mvT hZ w2) (mvT hZ w4) hy (backOf (W := W) (C []) hZ w4 w3 hf hl) (g := mkF m pc Ls st) rfl hsize (Steps.refl _) (a := a) (argsL := argsL) (rest := rest) hlen hst (by show 2 * 0 + _ ≤ _; omega) hd (fun _ _ => ⟨has, eT, hc, hs⟩)
  dsimp only [Pt.U, Pt.locs, Pt.cells, Pt.slots] at X' l1 y1 z1 stp hQ
  subst l1 y1 z1
  exact Till.via stp (r v T' Lc X' hQ)
theorem Till.callV {a : Addr} (C : Ctr l Z y bytes maxL ret rm as h Qc) (E : Exa Z h a y.cls) (X : Stand p l e R s m args below meth c T locs cells slots) (hx : p.tables.exec = Jvm.exec) (hZ : Z.Warmed39 s.vm) (hown : s.vm.findClass own = some m.cls) (w1 : (Jvm.Cond.methodLink own index y).before a0 Z = true) (w5 : (Jvm.Cond.declares y).before a0 Z = true) (w6 : (Jvm.Cond.selects y.cls y y).before a0 Z = true) (w2 : (Jvm.Cond.instanceMethod y).before a0 Z = true) (w3 : (Jvm.Cond.initialized y.cls).before a0 Z = true) (w4 : (Jvm.Cond.code y bytes maxL ret).before a0 Z = true)
    (hy : y.cls ≠ "java/lang/invoke/MethodHandle" ∧ y.cls ≠ "java/lang/invoke/VarHandle") (hf : rm.frames + 1 ≤ R.frames) (hl : W + (maxL + 11) + rm.locals ≤ R.locals) (hsize : Ls.size = c.maxLocals) (hlen : ∀ sig, parseMethodDescriptor y.desc = some sig → argsL.length = sig.parameters.length) (has : (.ref a :: argsL).toArray = as) (hst : st = argsL.reverse ++ .ref a :: rest) (hW : (rest.map fun v => v.category).sum ≤ W) (hd : decode c.code pc = .ok (.invokevirtual index, 3)) (eT : T.heap = h) (hc : cells + rm.cells ≤ R.cells) (hs : slots + rm.slots ≤ R.slots)
    (r : ∀ v T' L, Stand p l e R s m args below meth c T' (locs ++ L) (cells + rm.cells) (slots + rm.slots) → Qc v T'.heap L → Till p e below s Q k n (T'.setTop (mkF m (pc + 3) Ls (v.toList ++ rest)))) : Till p e below s Q k n (T.setTop (mkF m pc Ls st)) := by
  obtain ⟨cq, kq, qa, qb, qc⟩ := isOf hZ eT E
  obtain ⟨v, vm1, ⟨T', L', c', s'⟩, -, X', ⟨Lc, hQ, l1, y1, z1⟩, stp⟩ := X.virtualBack hx (y := y) (z := y) hown (mvT hZ w1) (mvT hZ w5) (notFace_of_selects (args := #[]) (mvT hZ w6)) (mvT hZ w6) (mvT hZ w2) hy (backOf (W := W) (C []) hZ w4 w3 hf hl) qa qc (g := mkF m pc Ls st) rfl hsize (Steps.refl _) (argsL := argsL) (rest := rest) hlen hst (by show 2 * 0 + _ ≤ _; omega) hd (fun _ _ => ⟨has, eT, hc, hs⟩)
  dsimp only [Pt.U, Pt.locs, Pt.cells, Pt.slots] at X' l1 y1 z1 stp hQ
  subst l1 y1 z1
  exact Till.via stp (r v T' Lc X' hQ)
theorem Till.callP {a : Addr} {kk : Nat} (C : Ctr l Z y bytes maxL ret rm as h Qc) (E : Exa Z h a y.cls) (X : Stand p l e R s m args below meth c T locs cells slots) (hx : p.tables.exec = Jvm.exec) (hZ : Z.Warmed39 s.vm) (hown : s.vm.findClass own = some m.cls) (w1 : (Jvm.Cond.methodLink own index y).before a0 Z = true) (w2 : (Jvm.Cond.instanceMethod y).before a0 Z = true) (wp : (Jvm.Cond.privateMethod y).before a0 Z = true) (wi : (Jvm.Cond.instantiable y.cls kk).before a0 Z = true) (w3 : (Jvm.Cond.initialized y.cls).before a0 Z = true) (w4 : (Jvm.Cond.code y bytes maxL ret).before a0 Z = true)
    (hy : y.cls ≠ "java/lang/invoke/MethodHandle" ∧ y.cls ≠ "java/lang/invoke/VarHandle") (hf : rm.frames + 1 ≤ R.frames) (hl : W + (maxL + 11) + rm.locals ≤ R.locals) (hsize : Ls.size = c.maxLocals) (hlen : ∀ sig, parseMethodDescriptor y.desc = some sig → argsL.length = sig.parameters.length) (has : (.ref a :: argsL).toArray = as) (hst : st = argsL.reverse ++ .ref a :: rest) (hW : (rest.map fun v => v.category).sum ≤ W) (hd : decode c.code pc = .ok (.invokevirtual index, 3)) (eT : T.heap = h) (hc : cells + rm.cells ≤ R.cells) (hs : slots + rm.slots ≤ R.slots)
    (r : ∀ v T' L, Stand p l e R s m args below meth c T' (locs ++ L) (cells + rm.cells) (slots + rm.slots) → Qc v T'.heap L → Till p e below s Q k n (T'.setTop (mkF m (pc + 3) Ls (v.toList ++ rest)))) : Till p e below s Q k n (T.setTop (mkF m pc Ls st)) := by
  have wi' : (Jvm.Cond.instantiable y.cls kk).before args s = true := mvT hZ wi
  have w2' : (Jvm.Cond.instanceMethod y).before args s = true := mvT hZ w2
  obtain ⟨c2, k2, i1, i2, -, hniab, -, -⟩ := Cond.instantiable_spec wi'
  have hpr := Cond.privateMethod_at (mvP hZ wp (args := args))
  have hsel : (Jvm.Cond.selects y.cls y y).before args s = true := selects_self_of_private i1 i2 (Bool.or_eq_false_iff.mp hniab).1 hpr w2' hy
  obtain ⟨cell, hcell, hobj⟩ := E.cell
  obtain ⟨v, vm1, ⟨T', L', c', s'⟩, -, X', ⟨Lc, hQ, l1, y1, z1⟩, stp⟩ := X.privateBack hx hown (mvT hZ w1) w2' hsel hpr (mvT hZ w4) hy (backOf (W := W) (C []) hZ w4 w3 hf hl) (g := mkF m pc Ls st) rfl hsize (Steps.refl _) (a := a) (by rw [eT]; exact hcell) hobj (argsL := argsL) (rest := rest) hlen hst (by show 2 * 0 + _ ≤ _; omega) hd (fun _ _ => ⟨has, eT, hc, hs⟩)
  dsimp only [Pt.U, Pt.locs, Pt.cells, Pt.slots] at X' l1 y1 z1 stp hQ
  subst l1 y1 z1
  exact Till.via stp (r v T' Lc X' hQ)
end Calls
theorem Till.pop2L {x : Int64} (X : Stand p l e R s m args below meth c T locs cells slots) (hx : p.tables.exec = Jvm.exec) (hd : decode c.code pc = .ok (.pop2, 1)) (r : Till p e below s Q k n (T.setTop (mkF m (pc + 1) Ls rest))) : Till p e below s Q k n (T.setTop (mkF m pc Ls (.long x :: rest))) := by
  refine Till.pre (fun t hr => ?_) r
  show Steps p.tables e below (T.setTop { method := m, pc := pc, locals := Ls, stack := _ :: rest, locked := none }) _
  jvm_step X.here [X.here.top, hx, hd, Value.category]
  exact hr
end Own
end Jvm.Own
namespace Jvm.Pilot.@@N@@
open Jvm Jvm.ClassFile Sem Op Lib Jvm.Free Jvm.Stand Jvm.LawKit Jvm.RoadKit Bundle Jvm.Own Jvm.Pilot.@@N@@.Jvm.D
def Cs (Z : State) (h : Heap) (a : Addr) (x0 : Int64) (x1 : Int64) (x2 : Int64) (x3 : Int64) (x4 : Int64) (x5 : Int64) (x6 : Int64) (x7 : Int64) : Prop := Exa Z h a "com/example/hivetable/hivetable/course/CourseScore" ∧ Fld Z h a "com/example/hivetable/hivetable/course/CourseScore" "lectures" "J" (.long x0) ∧ Fld Z h a "com/example/hivetable/hivetable/course/CourseScore" "conflicts" "J" (.long x1) ∧ Fld Z h a "com/example/hivetable/hivetable/course/CourseScore" "availability" "J" (.long x2) ∧ Fld Z h a "com/example/hivetable/hivetable/course/CourseScore" "roomOccupation" "J" (.long x3) ∧ Fld Z h a "com/example/hivetable/hivetable/course/CourseScore" "roomCapacity" "J" (.long x4) ∧ Fld Z h a "com/example/hivetable/hivetable/course/CourseScore" "minWorkingDays" "J" (.long x5) ∧ Fld Z h a "com/example/hivetable/hivetable/course/CourseScore" "curriculumCompactness" "J" (.long x6) ∧ Fld Z h a "com/example/hivetable/hivetable/course/CourseScore" "roomStability" "J" (.long x7)
theorem Cs.lt {Z : State} {h : Heap} {a : Addr} {x0 : Int64} {x1 : Int64} {x2 : Int64} {x3 : Int64} {x4 : Int64} {x5 : Int64} {x6 : Int64} {x7 : Int64} (F : Cs Z h a x0 x1 x2 x3 x4 x5 x6 x7) : a < h.size := F.1.lt
theorem Cs.ext {Z : State} {h h' : Heap} {a : Addr} {x0 : Int64} {x1 : Int64} {x2 : Int64} {x3 : Int64} {x4 : Int64} {x5 : Int64} {x6 : Int64} {x7 : Int64} (F : Cs Z h a x0 x1 x2 x3 x4 x5 x6 x7) (E : Ext h h') : Cs Z h' a x0 x1 x2 x3 x4 x5 x6 x7 := ⟨F.1.ext E, F.2.1.ext E, F.2.2.1.ext E, F.2.2.2.1.ext E, F.2.2.2.2.1.ext E, F.2.2.2.2.2.1.ext E, F.2.2.2.2.2.2.1.ext E, F.2.2.2.2.2.2.2.1.ext E, F.2.2.2.2.2.2.2.2.ext E⟩
theorem Cs.keep {Z : State} {h h' : Heap} {a : Addr} {x0 : Int64} {x1 : Int64} {x2 : Int64} {x3 : Int64} {x4 : Int64} {x5 : Int64} {x6 : Int64} {x7 : Int64} {ws : List Addr} (F : Cs Z h a x0 x1 x2 x3 x4 x5 x6 x7) (K : Keep h h' ws) (q : a ∉ ws) : Cs Z h' a x0 x1 x2 x3 x4 x5 x6 x7 := ⟨F.1.keep K, F.2.1.keep K q, F.2.2.1.keep K q, F.2.2.2.1.keep K q, F.2.2.2.2.1.keep K q, F.2.2.2.2.2.1.keep K q, F.2.2.2.2.2.2.1.keep K q, F.2.2.2.2.2.2.2.1.keep K q, F.2.2.2.2.2.2.2.2.keep K q⟩
theorem Cs.wr {Z : State} {h h' : Heap} {a : Addr} {x0 : Int64} {x1 : Int64} {x2 : Int64} {x3 : Int64} {x4 : Int64} {x5 : Int64} {x6 : Int64} {x7 : Int64} {b : Addr} {sl : Nat} {v : Value} (F : Cs Z h a x0 x1 x2 x3 x4 x5 x6 x7) (W : Wr h h' b sl v) (q : a ≠ b) : Cs Z h' a x0 x1 x2 x3 x4 x5 x6 x7 := ⟨F.1.wr W, F.2.1.other W (Or.inl q), F.2.2.1.other W (Or.inl q), F.2.2.2.1.other W (Or.inl q), F.2.2.2.2.1.other W (Or.inl q), F.2.2.2.2.2.1.other W (Or.inl q), F.2.2.2.2.2.2.1.other W (Or.inl q), F.2.2.2.2.2.2.2.1.other W (Or.inl q), F.2.2.2.2.2.2.2.2.other W (Or.inl q)⟩
theorem Cs.set_lectures {Z : State} {h h' : Heap} {a : Addr} {x0 : Int64} {x1 : Int64} {x2 : Int64} {x3 : Int64} {x4 : Int64} {x5 : Int64} {x6 : Int64} {x7 : Int64} {y : Int64} {a0 : Array Value} (hw : ∀ d ∈ tables_1, d.before a0 Z = true) (F : Cs Z h a x0 x1 x2 x3 x4 x5 x6 x7) (W : Wr h h' a (Jvm.RoadKit.slotOf Z "com/example/hivetable/hivetable/course/CourseScore" "lectures" "J") (.long y)) : Cs Z h' a y x1 x2 x3 x4 x5 x6 x7 := ⟨F.1.wr W, F.2.1.same W, F.2.2.1.other W (Or.inr (Jvm.RoadKit.slot_ne (Or.inr (hw _ (List.mem_of_getElem? (i := 17) rfl))) (Or.inr (hw _ (List.mem_of_getElem? (i := 15) rfl))) (by decide) (t := .long) (t' := .long) (by decide) (by decide))), F.2.2.2.1.other W (Or.inr (Jvm.RoadKit.slot_ne (Or.inr (hw _ (List.mem_of_getElem? (i := 19) rfl))) (Or.inr (hw _ (List.mem_of_getElem? (i := 15) rfl))) (by decide) (t := .long) (t' := .long) (by decide) (by decide))), F.2.2.2.2.1.other W (Or.inr (Jvm.RoadKit.slot_ne (Or.inr (hw _ (List.mem_of_getElem? (i := 21) rfl))) (Or.inr (hw _ (List.mem_of_getElem? (i := 15) rfl))) (by decide) (t := .long) (t' := .long) (by decide) (by decide))), F.2.2.2.2.2.1.other W (Or.inr (Jvm.RoadKit.slot_ne (Or.inr (hw _ (List.mem_of_getElem? (i := 23) rfl))) (Or.inr (hw _ (List.mem_of_getElem? (i := 15) rfl))) (by decide) (t := .long) (t' := .long) (by decide) (by decide))), F.2.2.2.2.2.2.1.other W (Or.inr (Jvm.RoadKit.slot_ne (Or.inr (hw _ (List.mem_of_getElem? (i := 25) rfl))) (Or.inr (hw _ (List.mem_of_getElem? (i := 15) rfl))) (by decide) (t := .long) (t' := .long) (by decide) (by decide))), F.2.2.2.2.2.2.2.1.other W (Or.inr (Jvm.RoadKit.slot_ne (Or.inr (hw _ (List.mem_of_getElem? (i := 27) rfl))) (Or.inr (hw _ (List.mem_of_getElem? (i := 15) rfl))) (by decide) (t := .long) (t' := .long) (by decide) (by decide))), F.2.2.2.2.2.2.2.2.other W (Or.inr (Jvm.RoadKit.slot_ne (Or.inr (hw _ (List.mem_of_getElem? (i := 29) rfl))) (Or.inr (hw _ (List.mem_of_getElem? (i := 15) rfl))) (by decide) (t := .long) (t' := .long) (by decide) (by decide)))⟩
theorem Cs.set_conflicts {Z : State} {h h' : Heap} {a : Addr} {x0 : Int64} {x1 : Int64} {x2 : Int64} {x3 : Int64} {x4 : Int64} {x5 : Int64} {x6 : Int64} {x7 : Int64} {y : Int64} {a0 : Array Value} (hw : ∀ d ∈ tables_1, d.before a0 Z = true) (F : Cs Z h a x0 x1 x2 x3 x4 x5 x6 x7) (W : Wr h h' a (Jvm.RoadKit.slotOf Z "com/example/hivetable/hivetable/course/CourseScore" "conflicts" "J") (.long y)) : Cs Z h' a x0 y x2 x3 x4 x5 x6 x7 := ⟨F.1.wr W, F.2.1.other W (Or.inr (Jvm.RoadKit.slot_ne (Or.inr (hw _ (List.mem_of_getElem? (i := 15) rfl))) (Or.inr (hw _ (List.mem_of_getElem? (i := 17) rfl))) (by decide) (t := .long) (t' := .long) (by decide) (by decide))), F.2.2.1.same W, F.2.2.2.1.other W (Or.inr (Jvm.RoadKit.slot_ne (Or.inr (hw _ (List.mem_of_getElem? (i := 19) rfl))) (Or.inr (hw _ (List.mem_of_getElem? (i := 17) rfl))) (by decide) (t := .long) (t' := .long) (by decide) (by decide))), F.2.2.2.2.1.other W (Or.inr (Jvm.RoadKit.slot_ne (Or.inr (hw _ (List.mem_of_getElem? (i := 21) rfl))) (Or.inr (hw _ (List.mem_of_getElem? (i := 17) rfl))) (by decide) (t := .long) (t' := .long) (by decide) (by decide))), F.2.2.2.2.2.1.other W (Or.inr (Jvm.RoadKit.slot_ne (Or.inr (hw _ (List.mem_of_getElem? (i := 23) rfl))) (Or.inr (hw _ (List.mem_of_getElem? (i := 17) rfl))) (by decide) (t := .long) (t' := .long) (by decide) (by decide))), F.2.2.2.2.2.2.1.other W (Or.inr (Jvm.RoadKit.slot_ne (Or.inr (hw _ (List.mem_of_getElem? (i := 25) rfl))) (Or.inr (hw _ (List.mem_of_getElem? (i := 17) rfl))) (by decide) (t := .long) (t' := .long) (by decide) (by decide))), F.2.2.2.2.2.2.2.1.other W (Or.inr (Jvm.RoadKit.slot_ne (Or.inr (hw _ (List.mem_of_getElem? (i := 27) rfl))) (Or.inr (hw _ (List.mem_of_getElem? (i := 17) rfl))) (by decide) (t := .long) (t' := .long) (by decide) (by decide))), F.2.2.2.2.2.2.2.2.other W (Or.inr (Jvm.RoadKit.slot_ne (Or.inr (hw _ (List.mem_of_getElem? (i := 29) rfl))) (Or.inr (hw _ (List.mem_of_getElem? (i := 17) rfl))) (by decide) (t := .long) (t' := .long) (by decide) (by decide)))⟩
theorem Cs.set_availability {Z : State} {h h' : Heap} {a : Addr} {x0 : Int64} {x1 : Int64} {x2 : Int64} {x3 : Int64} {x4 : Int64} {x5 : Int64} {x6 : Int64} {x7 : Int64} {y : Int64} {a0 : Array Value} (hw : ∀ d ∈ tables_1, d.before a0 Z = true) (F : Cs Z h a x0 x1 x2 x3 x4 x5 x6 x7) (W : Wr h h' a (Jvm.RoadKit.slotOf Z "com/example/hivetable/hivetable/course/CourseScore" "availability" "J") (.long y)) : Cs Z h' a x0 x1 y x3 x4 x5 x6 x7 := ⟨F.1.wr W, F.2.1.other W (Or.inr (Jvm.RoadKit.slot_ne (Or.inr (hw _ (List.mem_of_getElem? (i := 15) rfl))) (Or.inr (hw _ (List.mem_of_getElem? (i := 19) rfl))) (by decide) (t := .long) (t' := .long) (by decide) (by decide))), F.2.2.1.other W (Or.inr (Jvm.RoadKit.slot_ne (Or.inr (hw _ (List.mem_of_getElem? (i := 17) rfl))) (Or.inr (hw _ (List.mem_of_getElem? (i := 19) rfl))) (by decide) (t := .long) (t' := .long) (by decide) (by decide))), F.2.2.2.1.same W, F.2.2.2.2.1.other W (Or.inr (Jvm.RoadKit.slot_ne (Or.inr (hw _ (List.mem_of_getElem? (i := 21) rfl))) (Or.inr (hw _ (List.mem_of_getElem? (i := 19) rfl))) (by decide) (t := .long) (t' := .long) (by decide) (by decide))), F.2.2.2.2.2.1.other W (Or.inr (Jvm.RoadKit.slot_ne (Or.inr (hw _ (List.mem_of_getElem? (i := 23) rfl))) (Or.inr (hw _ (List.mem_of_getElem? (i := 19) rfl))) (by decide) (t := .long) (t' := .long) (by decide) (by decide))), F.2.2.2.2.2.2.1.other W (Or.inr (Jvm.RoadKit.slot_ne (Or.inr (hw _ (List.mem_of_getElem? (i := 25) rfl))) (Or.inr (hw _ (List.mem_of_getElem? (i := 19) rfl))) (by decide) (t := .long) (t' := .long) (by decide) (by decide))), F.2.2.2.2.2.2.2.1.other W (Or.inr (Jvm.RoadKit.slot_ne (Or.inr (hw _ (List.mem_of_getElem? (i := 27) rfl))) (Or.inr (hw _ (List.mem_of_getElem? (i := 19) rfl))) (by decide) (t := .long) (t' := .long) (by decide) (by decide))), F.2.2.2.2.2.2.2.2.other W (Or.inr (Jvm.RoadKit.slot_ne (Or.inr (hw _ (List.mem_of_getElem? (i := 29) rfl))) (Or.inr (hw _ (List.mem_of_getElem? (i := 19) rfl))) (by decide) (t := .long) (t' := .long) (by decide) (by decide)))⟩
theorem Cs.set_roomOccupation {Z : State} {h h' : Heap} {a : Addr} {x0 : Int64} {x1 : Int64} {x2 : Int64} {x3 : Int64} {x4 : Int64} {x5 : Int64} {x6 : Int64} {x7 : Int64} {y : Int64} {a0 : Array Value} (hw : ∀ d ∈ tables_1, d.before a0 Z = true) (F : Cs Z h a x0 x1 x2 x3 x4 x5 x6 x7) (W : Wr h h' a (Jvm.RoadKit.slotOf Z "com/example/hivetable/hivetable/course/CourseScore" "roomOccupation" "J") (.long y)) : Cs Z h' a x0 x1 x2 y x4 x5 x6 x7 := ⟨F.1.wr W, F.2.1.other W (Or.inr (Jvm.RoadKit.slot_ne (Or.inr (hw _ (List.mem_of_getElem? (i := 15) rfl))) (Or.inr (hw _ (List.mem_of_getElem? (i := 21) rfl))) (by decide) (t := .long) (t' := .long) (by decide) (by decide))), F.2.2.1.other W (Or.inr (Jvm.RoadKit.slot_ne (Or.inr (hw _ (List.mem_of_getElem? (i := 17) rfl))) (Or.inr (hw _ (List.mem_of_getElem? (i := 21) rfl))) (by decide) (t := .long) (t' := .long) (by decide) (by decide))), F.2.2.2.1.other W (Or.inr (Jvm.RoadKit.slot_ne (Or.inr (hw _ (List.mem_of_getElem? (i := 19) rfl))) (Or.inr (hw _ (List.mem_of_getElem? (i := 21) rfl))) (by decide) (t := .long) (t' := .long) (by decide) (by decide))), F.2.2.2.2.1.same W, F.2.2.2.2.2.1.other W (Or.inr (Jvm.RoadKit.slot_ne (Or.inr (hw _ (List.mem_of_getElem? (i := 23) rfl))) (Or.inr (hw _ (List.mem_of_getElem? (i := 21) rfl))) (by decide) (t := .long) (t' := .long) (by decide) (by decide))), F.2.2.2.2.2.2.1.other W (Or.inr (Jvm.RoadKit.slot_ne (Or.inr (hw _ (List.mem_of_getElem? (i := 25) rfl))) (Or.inr (hw _ (List.mem_of_getElem? (i := 21) rfl))) (by decide) (t := .long) (t' := .long) (by decide) (by decide))), F.2.2.2.2.2.2.2.1.other W (Or.inr (Jvm.RoadKit.slot_ne (Or.inr (hw _ (List.mem_of_getElem? (i := 27) rfl))) (Or.inr (hw _ (List.mem_of_getElem? (i := 21) rfl))) (by decide) (t := .long) (t' := .long) (by decide) (by decide))), F.2.2.2.2.2.2.2.2.other W (Or.inr (Jvm.RoadKit.slot_ne (Or.inr (hw _ (List.mem_of_getElem? (i := 29) rfl))) (Or.inr (hw _ (List.mem_of_getElem? (i := 21) rfl))) (by decide) (t := .long) (t' := .long) (by decide) (by decide)))⟩
theorem Cs.set_roomCapacity {Z : State} {h h' : Heap} {a : Addr} {x0 : Int64} {x1 : Int64} {x2 : Int64} {x3 : Int64} {x4 : Int64} {x5 : Int64} {x6 : Int64} {x7 : Int64} {y : Int64} {a0 : Array Value} (hw : ∀ d ∈ tables_1, d.before a0 Z = true) (F : Cs Z h a x0 x1 x2 x3 x4 x5 x6 x7) (W : Wr h h' a (Jvm.RoadKit.slotOf Z "com/example/hivetable/hivetable/course/CourseScore" "roomCapacity" "J") (.long y)) : Cs Z h' a x0 x1 x2 x3 y x5 x6 x7 := ⟨F.1.wr W, F.2.1.other W (Or.inr (Jvm.RoadKit.slot_ne (Or.inr (hw _ (List.mem_of_getElem? (i := 15) rfl))) (Or.inr (hw _ (List.mem_of_getElem? (i := 23) rfl))) (by decide) (t := .long) (t' := .long) (by decide) (by decide))), F.2.2.1.other W (Or.inr (Jvm.RoadKit.slot_ne (Or.inr (hw _ (List.mem_of_getElem? (i := 17) rfl))) (Or.inr (hw _ (List.mem_of_getElem? (i := 23) rfl))) (by decide) (t := .long) (t' := .long) (by decide) (by decide))), F.2.2.2.1.other W (Or.inr (Jvm.RoadKit.slot_ne (Or.inr (hw _ (List.mem_of_getElem? (i := 19) rfl))) (Or.inr (hw _ (List.mem_of_getElem? (i := 23) rfl))) (by decide) (t := .long) (t' := .long) (by decide) (by decide))), F.2.2.2.2.1.other W (Or.inr (Jvm.RoadKit.slot_ne (Or.inr (hw _ (List.mem_of_getElem? (i := 21) rfl))) (Or.inr (hw _ (List.mem_of_getElem? (i := 23) rfl))) (by decide) (t := .long) (t' := .long) (by decide) (by decide))), F.2.2.2.2.2.1.same W, F.2.2.2.2.2.2.1.other W (Or.inr (Jvm.RoadKit.slot_ne (Or.inr (hw _ (List.mem_of_getElem? (i := 25) rfl))) (Or.inr (hw _ (List.mem_of_getElem? (i := 23) rfl))) (by decide) (t := .long) (t' := .long) (by decide) (by decide))), F.2.2.2.2.2.2.2.1.other W (Or.inr (Jvm.RoadKit.slot_ne (Or.inr (hw _ (List.mem_of_getElem? (i := 27) rfl))) (Or.inr (hw _ (List.mem_of_getElem? (i := 23) rfl))) (by decide) (t := .long) (t' := .long) (by decide) (by decide))), F.2.2.2.2.2.2.2.2.other W (Or.inr (Jvm.RoadKit.slot_ne (Or.inr (hw _ (List.mem_of_getElem? (i := 29) rfl))) (Or.inr (hw _ (List.mem_of_getElem? (i := 23) rfl))) (by decide) (t := .long) (t' := .long) (by decide) (by decide)))⟩
theorem Cs.set_minWorkingDays {Z : State} {h h' : Heap} {a : Addr} {x0 : Int64} {x1 : Int64} {x2 : Int64} {x3 : Int64} {x4 : Int64} {x5 : Int64} {x6 : Int64} {x7 : Int64} {y : Int64} {a0 : Array Value} (hw : ∀ d ∈ tables_1, d.before a0 Z = true) (F : Cs Z h a x0 x1 x2 x3 x4 x5 x6 x7) (W : Wr h h' a (Jvm.RoadKit.slotOf Z "com/example/hivetable/hivetable/course/CourseScore" "minWorkingDays" "J") (.long y)) : Cs Z h' a x0 x1 x2 x3 x4 y x6 x7 := ⟨F.1.wr W, F.2.1.other W (Or.inr (Jvm.RoadKit.slot_ne (Or.inr (hw _ (List.mem_of_getElem? (i := 15) rfl))) (Or.inr (hw _ (List.mem_of_getElem? (i := 25) rfl))) (by decide) (t := .long) (t' := .long) (by decide) (by decide))), F.2.2.1.other W (Or.inr (Jvm.RoadKit.slot_ne (Or.inr (hw _ (List.mem_of_getElem? (i := 17) rfl))) (Or.inr (hw _ (List.mem_of_getElem? (i := 25) rfl))) (by decide) (t := .long) (t' := .long) (by decide) (by decide))), F.2.2.2.1.other W (Or.inr (Jvm.RoadKit.slot_ne (Or.inr (hw _ (List.mem_of_getElem? (i := 19) rfl))) (Or.inr (hw _ (List.mem_of_getElem? (i := 25) rfl))) (by decide) (t := .long) (t' := .long) (by decide) (by decide))), F.2.2.2.2.1.other W (Or.inr (Jvm.RoadKit.slot_ne (Or.inr (hw _ (List.mem_of_getElem? (i := 21) rfl))) (Or.inr (hw _ (List.mem_of_getElem? (i := 25) rfl))) (by decide) (t := .long) (t' := .long) (by decide) (by decide))), F.2.2.2.2.2.1.other W (Or.inr (Jvm.RoadKit.slot_ne (Or.inr (hw _ (List.mem_of_getElem? (i := 23) rfl))) (Or.inr (hw _ (List.mem_of_getElem? (i := 25) rfl))) (by decide) (t := .long) (t' := .long) (by decide) (by decide))), F.2.2.2.2.2.2.1.same W, F.2.2.2.2.2.2.2.1.other W (Or.inr (Jvm.RoadKit.slot_ne (Or.inr (hw _ (List.mem_of_getElem? (i := 27) rfl))) (Or.inr (hw _ (List.mem_of_getElem? (i := 25) rfl))) (by decide) (t := .long) (t' := .long) (by decide) (by decide))), F.2.2.2.2.2.2.2.2.other W (Or.inr (Jvm.RoadKit.slot_ne (Or.inr (hw _ (List.mem_of_getElem? (i := 29) rfl))) (Or.inr (hw _ (List.mem_of_getElem? (i := 25) rfl))) (by decide) (t := .long) (t' := .long) (by decide) (by decide)))⟩
theorem Cs.set_curriculumCompactness {Z : State} {h h' : Heap} {a : Addr} {x0 : Int64} {x1 : Int64} {x2 : Int64} {x3 : Int64} {x4 : Int64} {x5 : Int64} {x6 : Int64} {x7 : Int64} {y : Int64} {a0 : Array Value} (hw : ∀ d ∈ tables_1, d.before a0 Z = true) (F : Cs Z h a x0 x1 x2 x3 x4 x5 x6 x7) (W : Wr h h' a (Jvm.RoadKit.slotOf Z "com/example/hivetable/hivetable/course/CourseScore" "curriculumCompactness" "J") (.long y)) : Cs Z h' a x0 x1 x2 x3 x4 x5 y x7 := ⟨F.1.wr W, F.2.1.other W (Or.inr (Jvm.RoadKit.slot_ne (Or.inr (hw _ (List.mem_of_getElem? (i := 15) rfl))) (Or.inr (hw _ (List.mem_of_getElem? (i := 27) rfl))) (by decide) (t := .long) (t' := .long) (by decide) (by decide))), F.2.2.1.other W (Or.inr (Jvm.RoadKit.slot_ne (Or.inr (hw _ (List.mem_of_getElem? (i := 17) rfl))) (Or.inr (hw _ (List.mem_of_getElem? (i := 27) rfl))) (by decide) (t := .long) (t' := .long) (by decide) (by decide))), F.2.2.2.1.other W (Or.inr (Jvm.RoadKit.slot_ne (Or.inr (hw _ (List.mem_of_getElem? (i := 19) rfl))) (Or.inr (hw _ (List.mem_of_getElem? (i := 27) rfl))) (by decide) (t := .long) (t' := .long) (by decide) (by decide))), F.2.2.2.2.1.other W (Or.inr (Jvm.RoadKit.slot_ne (Or.inr (hw _ (List.mem_of_getElem? (i := 21) rfl))) (Or.inr (hw _ (List.mem_of_getElem? (i := 27) rfl))) (by decide) (t := .long) (t' := .long) (by decide) (by decide))), F.2.2.2.2.2.1.other W (Or.inr (Jvm.RoadKit.slot_ne (Or.inr (hw _ (List.mem_of_getElem? (i := 23) rfl))) (Or.inr (hw _ (List.mem_of_getElem? (i := 27) rfl))) (by decide) (t := .long) (t' := .long) (by decide) (by decide))), F.2.2.2.2.2.2.1.other W (Or.inr (Jvm.RoadKit.slot_ne (Or.inr (hw _ (List.mem_of_getElem? (i := 25) rfl))) (Or.inr (hw _ (List.mem_of_getElem? (i := 27) rfl))) (by decide) (t := .long) (t' := .long) (by decide) (by decide))), F.2.2.2.2.2.2.2.1.same W, F.2.2.2.2.2.2.2.2.other W (Or.inr (Jvm.RoadKit.slot_ne (Or.inr (hw _ (List.mem_of_getElem? (i := 29) rfl))) (Or.inr (hw _ (List.mem_of_getElem? (i := 27) rfl))) (by decide) (t := .long) (t' := .long) (by decide) (by decide)))⟩
theorem Cs.set_roomStability {Z : State} {h h' : Heap} {a : Addr} {x0 : Int64} {x1 : Int64} {x2 : Int64} {x3 : Int64} {x4 : Int64} {x5 : Int64} {x6 : Int64} {x7 : Int64} {y : Int64} {a0 : Array Value} (hw : ∀ d ∈ tables_1, d.before a0 Z = true) (F : Cs Z h a x0 x1 x2 x3 x4 x5 x6 x7) (W : Wr h h' a (Jvm.RoadKit.slotOf Z "com/example/hivetable/hivetable/course/CourseScore" "roomStability" "J") (.long y)) : Cs Z h' a x0 x1 x2 x3 x4 x5 x6 y := ⟨F.1.wr W, F.2.1.other W (Or.inr (Jvm.RoadKit.slot_ne (Or.inr (hw _ (List.mem_of_getElem? (i := 15) rfl))) (Or.inr (hw _ (List.mem_of_getElem? (i := 29) rfl))) (by decide) (t := .long) (t' := .long) (by decide) (by decide))), F.2.2.1.other W (Or.inr (Jvm.RoadKit.slot_ne (Or.inr (hw _ (List.mem_of_getElem? (i := 17) rfl))) (Or.inr (hw _ (List.mem_of_getElem? (i := 29) rfl))) (by decide) (t := .long) (t' := .long) (by decide) (by decide))), F.2.2.2.1.other W (Or.inr (Jvm.RoadKit.slot_ne (Or.inr (hw _ (List.mem_of_getElem? (i := 19) rfl))) (Or.inr (hw _ (List.mem_of_getElem? (i := 29) rfl))) (by decide) (t := .long) (t' := .long) (by decide) (by decide))), F.2.2.2.2.1.other W (Or.inr (Jvm.RoadKit.slot_ne (Or.inr (hw _ (List.mem_of_getElem? (i := 21) rfl))) (Or.inr (hw _ (List.mem_of_getElem? (i := 29) rfl))) (by decide) (t := .long) (t' := .long) (by decide) (by decide))), F.2.2.2.2.2.1.other W (Or.inr (Jvm.RoadKit.slot_ne (Or.inr (hw _ (List.mem_of_getElem? (i := 23) rfl))) (Or.inr (hw _ (List.mem_of_getElem? (i := 29) rfl))) (by decide) (t := .long) (t' := .long) (by decide) (by decide))), F.2.2.2.2.2.2.1.other W (Or.inr (Jvm.RoadKit.slot_ne (Or.inr (hw _ (List.mem_of_getElem? (i := 25) rfl))) (Or.inr (hw _ (List.mem_of_getElem? (i := 29) rfl))) (by decide) (t := .long) (t' := .long) (by decide) (by decide))), F.2.2.2.2.2.2.2.1.other W (Or.inr (Jvm.RoadKit.slot_ne (Or.inr (hw _ (List.mem_of_getElem? (i := 27) rfl))) (Or.inr (hw _ (List.mem_of_getElem? (i := 29) rfl))) (by decide) (t := .long) (t' := .long) (by decide) (by decide))), F.2.2.2.2.2.2.2.2.same W⟩
theorem d2_0 : decode jdk_30_method_1_code 0 = .ok (.aload_n 0, 1) := by decide +kernel
theorem d2_1 : decode jdk_30_method_1_code 1 = .ok (.invokespecial 1, 3) := by decide +kernel
theorem d2_4 : decode jdk_30_method_1_code 4 = .ok (.return_, 1) := by decide +kernel
theorem pn_2 : plainName "java/lang/Record" = true := by first | (simp [plainName, overriddenIn]; done) | decide +kernel
theorem ef_2 (m : MethodId) (a1 : Addr) : entryFrame m #[(.ref a1)] 1 = mkF m 0 #[.val (.ref a1)] [] := by first | (simp [entryFrame, mkF, argsToLocals, Value.category]; done) | rfl
def Q2 (Z : State) (a1 : Addr) (h0 : Heap) (n0 : Nat) : Option Value → Heap → List Loc → Prop := fun v h L => v = none ∧ Fr n0 L ∧ h = h0
def room2 : Room := { frames := 1, cells := 0, slots := 0, locals := 12 }
set_option maxRecDepth 65536 in
set_option maxHeartbeats 40000000 in
theorem rm2 (l : Launch) (Z : State) (a0 : Array Value) (hw : ∀ d ∈ tables_1, d.before a0 Z = true) (a1 : Addr) (h0 : Heap) (n0 : Nat)  : Ctr l Z (⟨"java/lang/Record", "<init>", "()V"⟩ : MethodName) jdk_30_method_1_code 1 none room2 #[(.ref a1)] h0 (Q2 Z a1 h0 n0) := by
  refine Ctr.of (plainFor_of_name pn_2) ?_
  intro p e s m below meth c s₁ hx hby hml hown hnm hret hlk hZ e0 X0
  have hown : s.vm.findClass "java/lang/Record" = some m.cls := hown
  have hml : c.maxLocals = 1 := hml
  have hnm : meth.name = "<init>" := hnm
  have hret : meth.sig.returnType = none := hret
  have N0 := Fr.nil n0
  refine Till.cast (ef_2 m a1) ?_
  show Till p e below s (Q2 Z a1 h0 n0) room2.cells room2.slots (s₁.setTop (mkF m 0 #[.val (.ref a1)] []))
  refine Till.pre (fun _ hr => XS.aloadN X0.here hx rfl (hb hby d2_0) rfl rfl hr) ?_
  show Till p e below s (Q2 Z a1 h0 n0) room2.cells room2.slots (s₁.setTop (mkF m 1 #[.val (.ref a1)] [(.ref a1)]))
  refine Till.initO X0 hx hZ hown (hw _ (List.mem_of_getElem? (i := 11) rfl)) (hw _ (List.mem_of_getElem? (i := 12) rfl)) (hw _ (List.mem_of_getElem? (i := 13) rfl)) e0 (by rw [hml]; rfl) (hb hby d2_1) (by decide) (W := 0) (Nat.le_of_eq rfl) (by decide) (fun T1 X2 e3 => ?_)
  show Till p e below s (Q2 Z a1 h0 n0) room2.cells room2.slots (T1.setTop (mkF m 4 #[.val (.ref a1)] []))
  refine Till.retV X2 hx hret hlk (hb hby d2_4) (by decide) (by decide) ?_
  exact ⟨rfl, N0, e3⟩
theorem d1_0 : decode prog_14_method_1_code 0 = .ok (.aload_n 0, 1) := by decide +kernel
theorem d1_1 : decode prog_14_method_1_code 1 = .ok (.invokespecial 1, 3) := by decide +kernel
theorem d1_4 : decode prog_14_method_1_code 4 = .ok (.aload_n 0, 1) := by decide +kernel
theorem d1_5 : decode prog_14_method_1_code 5 = .ok (.lload_n 1, 1) := by decide +kernel
theorem d1_6 : decode prog_14_method_1_code 6 = .ok (.putfield 7, 3) := by decide +kernel
theorem d1_9 : decode prog_14_method_1_code 9 = .ok (.aload_n 0, 1) := by decide +kernel
theorem d1_10 : decode prog_14_method_1_code 10 = .ok (.lload_n 3, 1) := by decide +kernel
theorem d1_11 : decode prog_14_method_1_code 11 = .ok (.putfield 13, 3) := by decide +kernel
theorem d1_14 : decode prog_14_method_1_code 14 = .ok (.aload_n 0, 1) := by decide +kernel
theorem d1_15 : decode prog_14_method_1_code 15 = .ok (.lload 5, 2) := by decide +kernel
theorem d1_17 : decode prog_14_method_1_code 17 = .ok (.putfield 16, 3) := by decide +kernel
theorem d1_20 : decode prog_14_method_1_code 20 = .ok (.aload_n 0, 1) := by decide +kernel
theorem d1_21 : decode prog_14_method_1_code 21 = .ok (.lload 7, 2) := by decide +kernel
theorem d1_23 : decode prog_14_method_1_code 23 = .ok (.putfield 19, 3) := by decide +kernel
theorem d1_26 : decode prog_14_method_1_code 26 = .ok (.aload_n 0, 1) := by decide +kernel
theorem d1_27 : decode prog_14_method_1_code 27 = .ok (.lload 9, 2) := by decide +kernel
theorem d1_29 : decode prog_14_method_1_code 29 = .ok (.putfield 22, 3) := by decide +kernel
theorem d1_32 : decode prog_14_method_1_code 32 = .ok (.aload_n 0, 1) := by decide +kernel
theorem d1_33 : decode prog_14_method_1_code 33 = .ok (.lload 11, 2) := by decide +kernel
theorem d1_35 : decode prog_14_method_1_code 35 = .ok (.putfield 25, 3) := by decide +kernel
theorem d1_38 : decode prog_14_method_1_code 38 = .ok (.aload_n 0, 1) := by decide +kernel
theorem d1_39 : decode prog_14_method_1_code 39 = .ok (.lload 13, 2) := by decide +kernel
theorem d1_41 : decode prog_14_method_1_code 41 = .ok (.putfield 28, 3) := by decide +kernel
theorem d1_44 : decode prog_14_method_1_code 44 = .ok (.aload_n 0, 1) := by decide +kernel
theorem d1_45 : decode prog_14_method_1_code 45 = .ok (.lload 15, 2) := by decide +kernel
theorem d1_47 : decode prog_14_method_1_code 47 = .ok (.putfield 31, 3) := by decide +kernel
theorem d1_50 : decode prog_14_method_1_code 50 = .ok (.return_, 1) := by decide +kernel
theorem pn_1 : plainName "com/example/hivetable/hivetable/course/CourseScore" = true := by first | (simp [plainName, overriddenIn]; done) | decide +kernel
theorem pd1_1 : parseMethodDescriptor "()V" = some ⟨[], none⟩ := by decide +kernel
theorem ef_1 (m : MethodId) (a1 : Addr) (q2 : Int64) (q3 : Int64) (q4 : Int64) (q5 : Int64) (q6 : Int64) (q7 : Int64) (q8 : Int64) (q9 : Int64) : entryFrame m #[(.ref a1), (.long q2), (.long q3), (.long q4), (.long q5), (.long q6), (.long q7), (.long q8), (.long q9)] 17 = mkF m 0 #[.val (.ref a1), .val (.long q2), .second, .val (.long q3), .second, .val (.long q4), .second, .val (.long q5), .second, .val (.long q6), .second, .val (.long q7), .second, .val (.long q8), .second, .val (.long q9), .second] [] := by first | (simp [entryFrame, mkF, argsToLocals, Value.category]; done) | rfl
def Q1 (Z : State) (a1 : Addr) (q2 : Int64) (q3 : Int64) (q4 : Int64) (q5 : Int64) (q6 : Int64) (q7 : Int64) (q8 : Int64) (q9 : Int64) (w0 : Int64) (w1 : Int64) (w2 : Int64) (w3 : Int64) (w4 : Int64) (w5 : Int64) (w6 : Int64) (w7 : Int64) (h0 : Heap) (n0 : Nat) : Option Value → Heap → List Loc → Prop := fun v h L => v = none ∧ Fr n0 L ∧ Keep h0 h [a1] ∧ Cs Z h a1 q2 q3 q4 q5 q6 q7 q8 q9
def room1 : Room := { frames := 2, cells := 0, slots := 0, locals := 24 }
set_option maxRecDepth 65536 in
set_option maxHeartbeats 40000000 in
theorem rm1 (l : Launch) (Z : State) (a0 : Array Value) (hw : ∀ d ∈ tables_1, d.before a0 Z = true) (a1 : Addr) (q2 : Int64) (q3 : Int64) (q4 : Int64) (q5 : Int64) (q6 : Int64) (q7 : Int64) (q8 : Int64) (q9 : Int64) (w0 : Int64) (w1 : Int64) (w2 : Int64) (w3 : Int64) (w4 : Int64) (w5 : Int64) (w6 : Int64) (w7 : Int64) (h0 : Heap) (n0 : Nat) (Zs : n0 ≤ h0.size) (R_a1 : Cs Z h0 a1 w0 w1 w2 w3 w4 w5 w6 w7) (g_a1 : n0 ≤ a1) : Ctr l Z (⟨"com/example/hivetable/hivetable/course/CourseScore", "<init>", "(JJJJJJJJ)V"⟩ : MethodName) prog_14_method_1_code 17 none room1 #[(.ref a1), (.long q2), (.long q3), (.long q4), (.long q5), (.long q6), (.long q7), (.long q8), (.long q9)] h0 (Q1 Z a1 q2 q3 q4 q5 q6 q7 q8 q9 w0 w1 w2 w3 w4 w5 w6 w7 h0 n0) := by
  refine Ctr.of (plainFor_of_name pn_1) ?_
  intro p e s m below meth c s₁ hx hby hml hown hnm hret hlk hZ e0 X0
  have hown : s.vm.findClass "com/example/hivetable/hivetable/course/CourseScore" = some m.cls := hown
  have hml : c.maxLocals = 17 := hml
  have hnm : meth.name = "<init>" := hnm
  have hret : meth.sig.returnType = none := hret
  have N0 := Fr.nil n0
  refine Till.cast (ef_1 m a1 q2 q3 q4 q5 q6 q7 q8 q9) ?_
  have Kp := Keep.refl h0 [a1]
  show Till p e below s (Q1 Z a1 q2 q3 q4 q5 q6 q7 q8 q9 w0 w1 w2 w3 w4 w5 w6 w7 h0 n0) room1.cells room1.slots (s₁.setTop (mkF m 0 #[.val (.ref a1), .val (.long q2), .second, .val (.long q3), .second, .val (.long q4), .second, .val (.long q5), .second, .val (.long q6), .second, .val (.long q7), .second, .val (.long q8), .second, .val (.long q9), .second] []))
  refine Till.pre (fun _ hr => XS.aloadN X0.here hx rfl (hb hby d1_0) rfl rfl hr) ?_
  show Till p e below s (Q1 Z a1 q2 q3 q4 q5 q6 q7 q8 q9 w0 w1 w2 w3 w4 w5 w6 w7 h0 n0) room1.cells room1.slots (s₁.setTop (mkF m 1 #[.val (.ref a1), .val (.long q2), .second, .val (.long q3), .second, .val (.long q4), .second, .val (.long q5), .second, .val (.long q6), .second, .val (.long q7), .second, .val (.long q8), .second, .val (.long q9), .second] [(.ref a1)]))
  refine Till.callC (rm2 l Z a0 hw a1 h0 n0) X0 hx hZ hown rfl (hw _ (List.mem_of_getElem? (i := 6) rfl)) (hw _ (List.mem_of_getElem? (i := 7) rfl)) (hw _ (List.mem_of_getElem? (i := 9) rfl)) (hw _ (List.mem_of_getElem? (i := 10) rfl)) (by decide) (by decide) (W := 0) (by decide) (by rw [hml]; rfl) (a := a1) (argsL := []) (rest := []) (lenOf pd1_1 rfl) rfl rfl (Nat.le_of_eq rfl) (hb hby d1_1) e0 (by decide) (by decide) ?_
  rintro _ T1 L2 X3 ⟨rfl, N4, e5⟩
  have N4 := Fr.app N0 N4
  show Till p e below s (Q1 Z a1 q2 q3 q4 q5 q6 q7 q8 q9 w0 w1 w2 w3 w4 w5 w6 w7 h0 n0) room1.cells room1.slots (T1.setTop (mkF m 4 #[.val (.ref a1), .val (.long q2), .second, .val (.long q3), .second, .val (.long q4), .second, .val (.long q5), .second, .val (.long q6), .second, .val (.long q7), .second, .val (.long q8), .second, .val (.long q9), .second] []))
  refine Till.pre (fun _ hr => XS.aloadN X3.here hx rfl (hb hby d1_4) rfl rfl hr) ?_
  show Till p e below s (Q1 Z a1 q2 q3 q4 q5 q6 q7 q8 q9 w0 w1 w2 w3 w4 w5 w6 w7 h0 n0) room1.cells room1.slots (T1.setTop (mkF m 5 #[.val (.ref a1), .val (.long q2), .second, .val (.long q3), .second, .val (.long q4), .second, .val (.long q5), .second, .val (.long q6), .second, .val (.long q7), .second, .val (.long q8), .second, .val (.long q9), .second] [(.ref a1)]))
  refine Till.pre (fun _ hr => XS.lloadN X3.here hx rfl (hb hby d1_5) rfl hr) ?_
  show Till p e below s (Q1 Z a1 q2 q3 q4 q5 q6 q7 q8 q9 w0 w1 w2 w3 w4 w5 w6 w7 h0 n0) room1.cells room1.slots (T1.setTop (mkF m 6 #[.val (.ref a1), .val (.long q2), .second, .val (.long q3), .second, .val (.long q4), .second, .val (.long q5), .second, .val (.long q6), .second, .val (.long q7), .second, .val (.long q8), .second, .val (.long q9), .second] [(.long q2), (.ref a1)]))
  refine Till.putF X3 hx hZ hown (hw _ (List.mem_of_getElem? (i := 14) rfl)) e5 R_a1.2.1 R_a1.1 (Or.inr ⟨(hw _ (List.mem_of_getElem? (i := 15) rfl)), rfl, hnm⟩) (hw _ (List.mem_of_getElem? (i := 1) rfl)) (ty := .long) (by decide) rfl rfl (hb hby d1_6) (fun T6 h7 X8 e9 W10 => ?_)
  have N11 := Fr.snoc X8 N4 g_a1
  have Zs := Nat.le_trans Zs (Keep.of_wr W10).1
  have Kp := Kp.wr W10 (Or.inl (List.mem_of_getElem? (i := 0) rfl))
  have R_a1 := Cs.set_lectures hw R_a1 W10
  show Till p e below s (Q1 Z a1 q2 q3 q4 q5 q6 q7 q8 q9 w0 w1 w2 w3 w4 w5 w6 w7 h0 n0) room1.cells room1.slots (T6.setTop (mkF m 9 #[.val (.ref a1), .val (.long q2), .second, .val (.long q3), .second, .val (.long q4), .second, .val (.long q5), .second, .val (.long q6), .second, .val (.long q7), .second, .val (.long q8), .second, .val (.long q9), .second] []))
  refine Till.pre (fun _ hr => XS.aloadN X8.here hx rfl (hb hby d1_9) rfl rfl hr) ?_
  show Till p e below s (Q1 Z a1 q2 q3 q4 q5 q6 q7 q8 q9 w0 w1 w2 w3 w4 w5 w6 w7 h0 n0) room1.cells room1.slots (T6.setTop (mkF m 10 #[.val (.ref a1), .val (.long q2), .second, .val (.long q3), .second, .val (.long q4), .second, .val (.long q5), .second, .val (.long q6), .second, .val (.long q7), .second, .val (.long q8), .second, .val (.long q9), .second] [(.ref a1)]))
  refine Till.pre (fun _ hr => XS.lloadN X8.here hx rfl (hb hby d1_10) rfl hr) ?_
  show Till p e below s (Q1 Z a1 q2 q3 q4 q5 q6 q7 q8 q9 w0 w1 w2 w3 w4 w5 w6 w7 h0 n0) room1.cells room1.slots (T6.setTop (mkF m 11 #[.val (.ref a1), .val (.long q2), .second, .val (.long q3), .second, .val (.long q4), .second, .val (.long q5), .second, .val (.long q6), .second, .val (.long q7), .second, .val (.long q8), .second, .val (.long q9), .second] [(.long q3), (.ref a1)]))
  refine Till.putF X8 hx hZ hown (hw _ (List.mem_of_getElem? (i := 16) rfl)) e9 R_a1.2.2.1 R_a1.1 (Or.inr ⟨(hw _ (List.mem_of_getElem? (i := 17) rfl)), rfl, hnm⟩) (hw _ (List.mem_of_getElem? (i := 1) rfl)) (ty := .long) (by decide) rfl rfl (hb hby d1_11) (fun T12 h13 X14 e15 W16 => ?_)
  have N17 := Fr.snoc X14 N11 g_a1
  have Zs := Nat.le_trans Zs (Keep.of_wr W16).1
  have Kp := Kp.wr W16 (Or.inl (List.mem_of_getElem? (i := 0) rfl))
  have R_a1 := Cs.set_conflicts hw R_a1 W16
  show Till p e below s (Q1 Z a1 q2 q3 q4 q5 q6 q7 q8 q9 w0 w1 w2 w3 w4 w5 w6 w7 h0 n0) room1.cells room1.slots (T12.setTop (mkF m 14 #[.val (.ref a1), .val (.long q2), .second, .val (.long q3), .second, .val (.long q4), .second, .val (.long q5), .second, .val (.long q6), .second, .val (.long q7), .second, .val (.long q8), .second, .val (.long q9), .second] []))
  refine Till.pre (fun _ hr => XS.aloadN X14.here hx rfl (hb hby d1_14) rfl rfl hr) ?_
  show Till p e below s (Q1 Z a1 q2 q3 q4 q5 q6 q7 q8 q9 w0 w1 w2 w3 w4 w5 w6 w7 h0 n0) room1.cells room1.slots (T12.setTop (mkF m 15 #[.val (.ref a1), .val (.long q2), .second, .val (.long q3), .second, .val (.long q4), .second, .val (.long q5), .second, .val (.long q6), .second, .val (.long q7), .second, .val (.long q8), .second, .val (.long q9), .second] [(.ref a1)]))
  refine Till.pre (fun _ hr => XS.lload X14.here hx rfl (hb hby d1_15) rfl hr) ?_
  show Till p e below s (Q1 Z a1 q2 q3 q4 q5 q6 q7 q8 q9 w0 w1 w2 w3 w4 w5 w6 w7 h0 n0) room1.cells room1.slots (T12.setTop (mkF m 17 #[.val (.ref a1), .val (.long q2), .second, .val (.long q3), .second, .val (.long q4), .second, .val (.long q5), .second, .val (.long q6), .second, .val (.long q7), .second, .val (.long q8), .second, .val (.long q9), .second] [(.long q4), (.ref a1)]))
  refine Till.putF X14 hx hZ hown (hw _ (List.mem_of_getElem? (i := 18) rfl)) e15 R_a1.2.2.2.1 R_a1.1 (Or.inr ⟨(hw _ (List.mem_of_getElem? (i := 19) rfl)), rfl, hnm⟩) (hw _ (List.mem_of_getElem? (i := 1) rfl)) (ty := .long) (by decide) rfl rfl (hb hby d1_17) (fun T18 h19 X20 e21 W22 => ?_)
  have N23 := Fr.snoc X20 N17 g_a1
  have Zs := Nat.le_trans Zs (Keep.of_wr W22).1
  have Kp := Kp.wr W22 (Or.inl (List.mem_of_getElem? (i := 0) rfl))
  have R_a1 := Cs.set_availability hw R_a1 W22
  show Till p e below s (Q1 Z a1 q2 q3 q4 q5 q6 q7 q8 q9 w0 w1 w2 w3 w4 w5 w6 w7 h0 n0) room1.cells room1.slots (T18.setTop (mkF m 20 #[.val (.ref a1), .val (.long q2), .second, .val (.long q3), .second, .val (.long q4), .second, .val (.long q5), .second, .val (.long q6), .second, .val (.long q7), .second, .val (.long q8), .second, .val (.long q9), .second] []))
  refine Till.pre (fun _ hr => XS.aloadN X20.here hx rfl (hb hby d1_20) rfl rfl hr) ?_
  show Till p e below s (Q1 Z a1 q2 q3 q4 q5 q6 q7 q8 q9 w0 w1 w2 w3 w4 w5 w6 w7 h0 n0) room1.cells room1.slots (T18.setTop (mkF m 21 #[.val (.ref a1), .val (.long q2), .second, .val (.long q3), .second, .val (.long q4), .second, .val (.long q5), .second, .val (.long q6), .second, .val (.long q7), .second, .val (.long q8), .second, .val (.long q9), .second] [(.ref a1)]))
  refine Till.pre (fun _ hr => XS.lload X20.here hx rfl (hb hby d1_21) rfl hr) ?_
  show Till p e below s (Q1 Z a1 q2 q3 q4 q5 q6 q7 q8 q9 w0 w1 w2 w3 w4 w5 w6 w7 h0 n0) room1.cells room1.slots (T18.setTop (mkF m 23 #[.val (.ref a1), .val (.long q2), .second, .val (.long q3), .second, .val (.long q4), .second, .val (.long q5), .second, .val (.long q6), .second, .val (.long q7), .second, .val (.long q8), .second, .val (.long q9), .second] [(.long q5), (.ref a1)]))
  refine Till.putF X20 hx hZ hown (hw _ (List.mem_of_getElem? (i := 20) rfl)) e21 R_a1.2.2.2.2.1 R_a1.1 (Or.inr ⟨(hw _ (List.mem_of_getElem? (i := 21) rfl)), rfl, hnm⟩) (hw _ (List.mem_of_getElem? (i := 1) rfl)) (ty := .long) (by decide) rfl rfl (hb hby d1_23) (fun T24 h25 X26 e27 W28 => ?_)
  have N29 := Fr.snoc X26 N23 g_a1
  have Zs := Nat.le_trans Zs (Keep.of_wr W28).1
  have Kp := Kp.wr W28 (Or.inl (List.mem_of_getElem? (i := 0) rfl))
  have R_a1 := Cs.set_roomOccupation hw R_a1 W28
  show Till p e below s (Q1 Z a1 q2 q3 q4 q5 q6 q7 q8 q9 w0 w1 w2 w3 w4 w5 w6 w7 h0 n0) room1.cells room1.slots (T24.setTop (mkF m 26 #[.val (.ref a1), .val (.long q2), .second, .val (.long q3), .second, .val (.long q4), .second, .val (.long q5), .second, .val (.long q6), .second, .val (.long q7), .second, .val (.long q8), .second, .val (.long q9), .second] []))
  refine Till.pre (fun _ hr => XS.aloadN X26.here hx rfl (hb hby d1_26) rfl rfl hr) ?_
  show Till p e below s (Q1 Z a1 q2 q3 q4 q5 q6 q7 q8 q9 w0 w1 w2 w3 w4 w5 w6 w7 h0 n0) room1.cells room1.slots (T24.setTop (mkF m 27 #[.val (.ref a1), .val (.long q2), .second, .val (.long q3), .second, .val (.long q4), .second, .val (.long q5), .second, .val (.long q6), .second, .val (.long q7), .second, .val (.long q8), .second, .val (.long q9), .second] [(.ref a1)]))
  refine Till.pre (fun _ hr => XS.lload X26.here hx rfl (hb hby d1_27) rfl hr) ?_
  show Till p e below s (Q1 Z a1 q2 q3 q4 q5 q6 q7 q8 q9 w0 w1 w2 w3 w4 w5 w6 w7 h0 n0) room1.cells room1.slots (T24.setTop (mkF m 29 #[.val (.ref a1), .val (.long q2), .second, .val (.long q3), .second, .val (.long q4), .second, .val (.long q5), .second, .val (.long q6), .second, .val (.long q7), .second, .val (.long q8), .second, .val (.long q9), .second] [(.long q6), (.ref a1)]))
  refine Till.putF X26 hx hZ hown (hw _ (List.mem_of_getElem? (i := 22) rfl)) e27 R_a1.2.2.2.2.2.1 R_a1.1 (Or.inr ⟨(hw _ (List.mem_of_getElem? (i := 23) rfl)), rfl, hnm⟩) (hw _ (List.mem_of_getElem? (i := 1) rfl)) (ty := .long) (by decide) rfl rfl (hb hby d1_29) (fun T30 h31 X32 e33 W34 => ?_)
  have N35 := Fr.snoc X32 N29 g_a1
  have Zs := Nat.le_trans Zs (Keep.of_wr W34).1
  have Kp := Kp.wr W34 (Or.inl (List.mem_of_getElem? (i := 0) rfl))
  have R_a1 := Cs.set_roomCapacity hw R_a1 W34
  show Till p e below s (Q1 Z a1 q2 q3 q4 q5 q6 q7 q8 q9 w0 w1 w2 w3 w4 w5 w6 w7 h0 n0) room1.cells room1.slots (T30.setTop (mkF m 32 #[.val (.ref a1), .val (.long q2), .second, .val (.long q3), .second, .val (.long q4), .second, .val (.long q5), .second, .val (.long q6), .second, .val (.long q7), .second, .val (.long q8), .second, .val (.long q9), .second] []))
  refine Till.pre (fun _ hr => XS.aloadN X32.here hx rfl (hb hby d1_32) rfl rfl hr) ?_
  show Till p e below s (Q1 Z a1 q2 q3 q4 q5 q6 q7 q8 q9 w0 w1 w2 w3 w4 w5 w6 w7 h0 n0) room1.cells room1.slots (T30.setTop (mkF m 33 #[.val (.ref a1), .val (.long q2), .second, .val (.long q3), .second, .val (.long q4), .second, .val (.long q5), .second, .val (.long q6), .second, .val (.long q7), .second, .val (.long q8), .second, .val (.long q9), .second] [(.ref a1)]))
  refine Till.pre (fun _ hr => XS.lload X32.here hx rfl (hb hby d1_33) rfl hr) ?_
  show Till p e below s (Q1 Z a1 q2 q3 q4 q5 q6 q7 q8 q9 w0 w1 w2 w3 w4 w5 w6 w7 h0 n0) room1.cells room1.slots (T30.setTop (mkF m 35 #[.val (.ref a1), .val (.long q2), .second, .val (.long q3), .second, .val (.long q4), .second, .val (.long q5), .second, .val (.long q6), .second, .val (.long q7), .second, .val (.long q8), .second, .val (.long q9), .second] [(.long q7), (.ref a1)]))
  refine Till.putF X32 hx hZ hown (hw _ (List.mem_of_getElem? (i := 24) rfl)) e33 R_a1.2.2.2.2.2.2.1 R_a1.1 (Or.inr ⟨(hw _ (List.mem_of_getElem? (i := 25) rfl)), rfl, hnm⟩) (hw _ (List.mem_of_getElem? (i := 1) rfl)) (ty := .long) (by decide) rfl rfl (hb hby d1_35) (fun T36 h37 X38 e39 W40 => ?_)
  have N41 := Fr.snoc X38 N35 g_a1
  have Zs := Nat.le_trans Zs (Keep.of_wr W40).1
  have Kp := Kp.wr W40 (Or.inl (List.mem_of_getElem? (i := 0) rfl))
  have R_a1 := Cs.set_minWorkingDays hw R_a1 W40
  show Till p e below s (Q1 Z a1 q2 q3 q4 q5 q6 q7 q8 q9 w0 w1 w2 w3 w4 w5 w6 w7 h0 n0) room1.cells room1.slots (T36.setTop (mkF m 38 #[.val (.ref a1), .val (.long q2), .second, .val (.long q3), .second, .val (.long q4), .second, .val (.long q5), .second, .val (.long q6), .second, .val (.long q7), .second, .val (.long q8), .second, .val (.long q9), .second] []))
  refine Till.pre (fun _ hr => XS.aloadN X38.here hx rfl (hb hby d1_38) rfl rfl hr) ?_
  show Till p e below s (Q1 Z a1 q2 q3 q4 q5 q6 q7 q8 q9 w0 w1 w2 w3 w4 w5 w6 w7 h0 n0) room1.cells room1.slots (T36.setTop (mkF m 39 #[.val (.ref a1), .val (.long q2), .second, .val (.long q3), .second, .val (.long q4), .second, .val (.long q5), .second, .val (.long q6), .second, .val (.long q7), .second, .val (.long q8), .second, .val (.long q9), .second] [(.ref a1)]))
  refine Till.pre (fun _ hr => XS.lload X38.here hx rfl (hb hby d1_39) rfl hr) ?_
  show Till p e below s (Q1 Z a1 q2 q3 q4 q5 q6 q7 q8 q9 w0 w1 w2 w3 w4 w5 w6 w7 h0 n0) room1.cells room1.slots (T36.setTop (mkF m 41 #[.val (.ref a1), .val (.long q2), .second, .val (.long q3), .second, .val (.long q4), .second, .val (.long q5), .second, .val (.long q6), .second, .val (.long q7), .second, .val (.long q8), .second, .val (.long q9), .second] [(.long q8), (.ref a1)]))
  refine Till.putF X38 hx hZ hown (hw _ (List.mem_of_getElem? (i := 26) rfl)) e39 R_a1.2.2.2.2.2.2.2.1 R_a1.1 (Or.inr ⟨(hw _ (List.mem_of_getElem? (i := 27) rfl)), rfl, hnm⟩) (hw _ (List.mem_of_getElem? (i := 1) rfl)) (ty := .long) (by decide) rfl rfl (hb hby d1_41) (fun T42 h43 X44 e45 W46 => ?_)
  have N47 := Fr.snoc X44 N41 g_a1
  have Zs := Nat.le_trans Zs (Keep.of_wr W46).1
  have Kp := Kp.wr W46 (Or.inl (List.mem_of_getElem? (i := 0) rfl))
  have R_a1 := Cs.set_curriculumCompactness hw R_a1 W46
  show Till p e below s (Q1 Z a1 q2 q3 q4 q5 q6 q7 q8 q9 w0 w1 w2 w3 w4 w5 w6 w7 h0 n0) room1.cells room1.slots (T42.setTop (mkF m 44 #[.val (.ref a1), .val (.long q2), .second, .val (.long q3), .second, .val (.long q4), .second, .val (.long q5), .second, .val (.long q6), .second, .val (.long q7), .second, .val (.long q8), .second, .val (.long q9), .second] []))
  refine Till.pre (fun _ hr => XS.aloadN X44.here hx rfl (hb hby d1_44) rfl rfl hr) ?_
  show Till p e below s (Q1 Z a1 q2 q3 q4 q5 q6 q7 q8 q9 w0 w1 w2 w3 w4 w5 w6 w7 h0 n0) room1.cells room1.slots (T42.setTop (mkF m 45 #[.val (.ref a1), .val (.long q2), .second, .val (.long q3), .second, .val (.long q4), .second, .val (.long q5), .second, .val (.long q6), .second, .val (.long q7), .second, .val (.long q8), .second, .val (.long q9), .second] [(.ref a1)]))
  refine Till.pre (fun _ hr => XS.lload X44.here hx rfl (hb hby d1_45) rfl hr) ?_
  show Till p e below s (Q1 Z a1 q2 q3 q4 q5 q6 q7 q8 q9 w0 w1 w2 w3 w4 w5 w6 w7 h0 n0) room1.cells room1.slots (T42.setTop (mkF m 47 #[.val (.ref a1), .val (.long q2), .second, .val (.long q3), .second, .val (.long q4), .second, .val (.long q5), .second, .val (.long q6), .second, .val (.long q7), .second, .val (.long q8), .second, .val (.long q9), .second] [(.long q9), (.ref a1)]))
  refine Till.putF X44 hx hZ hown (hw _ (List.mem_of_getElem? (i := 28) rfl)) e45 R_a1.2.2.2.2.2.2.2.2 R_a1.1 (Or.inr ⟨(hw _ (List.mem_of_getElem? (i := 29) rfl)), rfl, hnm⟩) (hw _ (List.mem_of_getElem? (i := 1) rfl)) (ty := .long) (by decide) rfl rfl (hb hby d1_47) (fun T48 h49 X50 e51 W52 => ?_)
  have N53 := Fr.snoc X50 N47 g_a1
  have Zs := Nat.le_trans Zs (Keep.of_wr W52).1
  have Kp := Kp.wr W52 (Or.inl (List.mem_of_getElem? (i := 0) rfl))
  have R_a1 := Cs.set_roomStability hw R_a1 W52
  show Till p e below s (Q1 Z a1 q2 q3 q4 q5 q6 q7 q8 q9 w0 w1 w2 w3 w4 w5 w6 w7 h0 n0) room1.cells room1.slots (T48.setTop (mkF m 50 #[.val (.ref a1), .val (.long q2), .second, .val (.long q3), .second, .val (.long q4), .second, .val (.long q5), .second, .val (.long q6), .second, .val (.long q7), .second, .val (.long q8), .second, .val (.long q9), .second] []))
  refine Till.retV X50 hx hret hlk (hb hby d1_50) (by decide) (by decide) ?_
  show (Q1 Z a1 q2 q3 q4 q5 q6 q7 q8 q9 w0 w1 w2 w3 w4 w5 w6 w7 h0 n0) _ T48.heap _
  rw [e51]
  exact ⟨rfl, N53, Kp, R_a1⟩
theorem d3_0 : decode prog_14_method_5_code 0 = .ok (.aload_n 0, 1) := by decide +kernel
theorem d3_1 : decode prog_14_method_5_code 1 = .ok (.getfield 22, 3) := by decide +kernel
theorem d3_4 : decode prog_14_method_5_code 4 = .ok (.aload_n 0, 1) := by decide +kernel
theorem d3_5 : decode prog_14_method_5_code 5 = .ok (.getfield 25, 3) := by decide +kernel
theorem d3_8 : decode prog_14_method_5_code 8 = .ok (.ladd, 1) := by decide +kernel
theorem d3_9 : decode prog_14_method_5_code 9 = .ok (.aload_n 0, 1) := by decide +kernel
theorem d3_10 : decode prog_14_method_5_code 10 = .ok (.getfield 28, 3) := by decide +kernel
theorem d3_13 : decode prog_14_method_5_code 13 = .ok (.ladd, 1) := by decide +kernel
theorem d3_14 : decode prog_14_method_5_code 14 = .ok (.aload_n 0, 1) := by decide +kernel
theorem d3_15 : decode prog_14_method_5_code 15 = .ok (.getfield 31, 3) := by decide +kernel
theorem d3_18 : decode prog_14_method_5_code 18 = .ok (.ladd, 1) := by decide +kernel
theorem d3_19 : decode prog_14_method_5_code 19 = .ok (.lreturn, 1) := by decide +kernel
theorem ef_3 (m : MethodId) (a1 : Addr) : entryFrame m #[(.ref a1)] 1 = mkF m 0 #[.val (.ref a1)] [] := by first | (simp [entryFrame, mkF, argsToLocals, Value.category]; done) | rfl
def Q3 (Z : State) (a1 : Addr) (w0 : Int64) (w1 : Int64) (w2 : Int64) (w3 : Int64) (w4 : Int64) (w5 : Int64) (w6 : Int64) (w7 : Int64) (h0 : Heap) (n0 : Nat) : Option Value → Heap → List Loc → Prop := fun v h L => v = some (Value.long (((w4 + w5) + w6) + w7)) ∧ Fr n0 L ∧ h = h0
def room3 : Room := { frames := 0, cells := 0, slots := 0, locals := 0 }
set_option maxRecDepth 65536 in
set_option maxHeartbeats 40000000 in
theorem rm3 (l : Launch) (Z : State) (a0 : Array Value) (hw : ∀ d ∈ tables_1, d.before a0 Z = true) (a1 : Addr) (w0 : Int64) (w1 : Int64) (w2 : Int64) (w3 : Int64) (w4 : Int64) (w5 : Int64) (w6 : Int64) (w7 : Int64) (h0 : Heap) (n0 : Nat) (R_a1 : Cs Z h0 a1 w0 w1 w2 w3 w4 w5 w6 w7) : Ctr l Z (⟨"com/example/hivetable/hivetable/course/CourseScore", "cost", "()J"⟩ : MethodName) prog_14_method_5_code 1 (some .long) room3 #[(.ref a1)] h0 (Q3 Z a1 w0 w1 w2 w3 w4 w5 w6 w7 h0 n0) := by
  refine Ctr.of (plainFor_of_name pn_1) ?_
  intro p e s m below meth c s₁ hx hby hml hown hnm hret hlk hZ e0 X0
  have hown : s.vm.findClass "com/example/hivetable/hivetable/course/CourseScore" = some m.cls := hown
  have hml : c.maxLocals = 1 := hml
  have hnm : meth.name = "cost" := hnm
  have hret : meth.sig.returnType = (some .long) := hret
  have N0 := Fr.nil n0
  refine Till.cast (ef_3 m a1) ?_
  show Till p e below s (Q3 Z a1 w0 w1 w2 w3 w4 w5 w6 w7 h0 n0) room3.cells room3.slots (s₁.setTop (mkF m 0 #[.val (.ref a1)] []))
  refine Till.pre (fun _ hr => XS.aloadN X0.here hx rfl (hb hby d3_0) rfl rfl hr) ?_
  show Till p e below s (Q3 Z a1 w0 w1 w2 w3 w4 w5 w6 w7 h0 n0) room3.cells room3.slots (s₁.setTop (mkF m 1 #[.val (.ref a1)] [(.ref a1)]))
  refine Till.getF X0 hx hZ hown (hw _ (List.mem_of_getElem? (i := 22) rfl)) e0 R_a1.2.2.2.2.2.1 (hb hby d3_1) (fun T1 X2 e3 => ?_)
  show Till p e below s (Q3 Z a1 w0 w1 w2 w3 w4 w5 w6 w7 h0 n0) room3.cells room3.slots (T1.setTop (mkF m 4 #[.val (.ref a1)] [(.long w4)]))
  refine Till.pre (fun _ hr => XS.aloadN X2.here hx rfl (hb hby d3_4) rfl rfl hr) ?_
  show Till p e below s (Q3 Z a1 w0 w1 w2 w3 w4 w5 w6 w7 h0 n0) room3.cells room3.slots (T1.setTop (mkF m 5 #[.val (.ref a1)] [(.ref a1), (.long w4)]))
  refine Till.getF X2 hx hZ hown (hw _ (List.mem_of_getElem? (i := 24) rfl)) e3 R_a1.2.2.2.2.2.2.1 (hb hby d3_5) (fun T4 X5 e6 => ?_)
  show Till p e below s (Q3 Z a1 w0 w1 w2 w3 w4 w5 w6 w7 h0 n0) room3.cells room3.slots (T4.setTop (mkF m 8 #[.val (.ref a1)] [(.long w5), (.long w4)]))
  refine Till.pre (fun _ hr => XS.ladd X5.here hx rfl (hb hby d3_8) rfl hr) ?_
  show Till p e below s (Q3 Z a1 w0 w1 w2 w3 w4 w5 w6 w7 h0 n0) room3.cells room3.slots (T4.setTop (mkF m 9 #[.val (.ref a1)] [(.long (w4 + w5))]))
  refine Till.pre (fun _ hr => XS.aloadN X5.here hx rfl (hb hby d3_9) rfl rfl hr) ?_
  show Till p e below s (Q3 Z a1 w0 w1 w2 w3 w4 w5 w6 w7 h0 n0) room3.cells room3.slots (T4.setTop (mkF m 10 #[.val (.ref a1)] [(.ref a1), (.long (w4 + w5))]))
  refine Till.getF X5 hx hZ hown (hw _ (List.mem_of_getElem? (i := 26) rfl)) e6 R_a1.2.2.2.2.2.2.2.1 (hb hby d3_10) (fun T7 X8 e9 => ?_)
  show Till p e below s (Q3 Z a1 w0 w1 w2 w3 w4 w5 w6 w7 h0 n0) room3.cells room3.slots (T7.setTop (mkF m 13 #[.val (.ref a1)] [(.long w6), (.long (w4 + w5))]))
  refine Till.pre (fun _ hr => XS.ladd X8.here hx rfl (hb hby d3_13) rfl hr) ?_
  show Till p e below s (Q3 Z a1 w0 w1 w2 w3 w4 w5 w6 w7 h0 n0) room3.cells room3.slots (T7.setTop (mkF m 14 #[.val (.ref a1)] [(.long ((w4 + w5) + w6))]))
  refine Till.pre (fun _ hr => XS.aloadN X8.here hx rfl (hb hby d3_14) rfl rfl hr) ?_
  show Till p e below s (Q3 Z a1 w0 w1 w2 w3 w4 w5 w6 w7 h0 n0) room3.cells room3.slots (T7.setTop (mkF m 15 #[.val (.ref a1)] [(.ref a1), (.long ((w4 + w5) + w6))]))
  refine Till.getF X8 hx hZ hown (hw _ (List.mem_of_getElem? (i := 28) rfl)) e9 R_a1.2.2.2.2.2.2.2.2 (hb hby d3_15) (fun T10 X11 e12 => ?_)
  show Till p e below s (Q3 Z a1 w0 w1 w2 w3 w4 w5 w6 w7 h0 n0) room3.cells room3.slots (T10.setTop (mkF m 18 #[.val (.ref a1)] [(.long w7), (.long ((w4 + w5) + w6))]))
  refine Till.pre (fun _ hr => XS.ladd X11.here hx rfl (hb hby d3_18) rfl hr) ?_
  show Till p e below s (Q3 Z a1 w0 w1 w2 w3 w4 w5 w6 w7 h0 n0) room3.cells room3.slots (T10.setTop (mkF m 19 #[.val (.ref a1)] [(.long (((w4 + w5) + w6) + w7))]))
  refine Till.retJ X11 hx hret hlk (hb hby d3_19) (by decide) (by decide) ?_
  exact ⟨rfl, N0, e12⟩
theorem pn_0 : plainName "com/example/hivetable/hivetable/course/CourseScoreCostPinLaw" = true := by first | (simp [plainName, overriddenIn]; done) | decide +kernel
theorem pd0_0 : parseMethodDescriptor "()J" = some ⟨[], some .long⟩ := by decide +kernel
theorem pd0_2 : parseMethodDescriptor "(JJJJJJJJ)V" = some ⟨[.long, .long, .long, .long, .long, .long, .long, .long], none⟩ := by decide +kernel
theorem ef_0 (m : MethodId) (q1 : Int64) (q2 : Int64) (q3 : Int64) (q4 : Int64) (q5 : Int64) (q6 : Int64) : entryFrame m #[(.long q1), (.long q2), (.long q3), (.long q4), (.long q5), (.long q6)] maxLocals = mkF m 0 #[.val (.long q1), .second, .val (.long q2), .second, .val (.long q3), .second, .val (.long q4), .second, .val (.long q5), .second, .val (.long q6), .second, .unset, .unset, .unset, .unset, .unset, .unset, .unset, .unset, .unset, .unset, .unset, .unset, .unset, .unset, .unset, .unset, .unset] [] := by first | (simp [entryFrame, mkF, argsToLocals, Value.category, maxLocals]; done) | rfl
def Q0 (Z : State) (q1 : Int64) (q2 : Int64) (q3 : Int64) (q4 : Int64) (q5 : Int64) (q6 : Int64) (h0 : Heap) (n0 : Nat) : Option Value → Heap → List Loc → Prop := fun v h L => v = some (.int 1) ∧ Fr n0 L
set_option maxRecDepth 65536 in
set_option maxHeartbeats 40000000 in
theorem rm0 (l : Launch) (Z : State) (a0 : Array Value) (hw : ∀ d ∈ tables_1, d.before a0 Z = true) (q1 : Int64) (q2 : Int64) (q3 : Int64) (q4 : Int64) (q5 : Int64) (q6 : Int64) (h0 : Heap) (n0 : Nat) (Zs : n0 ≤ h0.size) : Ctr l Z x code maxLocals ret room_1 #[(.long q1), (.long q2), (.long q3), (.long q4), (.long q5), (.long q6)] h0 (Q0 Z q1 q2 q3 q4 q5 q6 h0 n0) := by
  refine Ctr.of (plainFor_of_name pn_0) ?_
  intro p e s m below meth c s₁ hx hby hml hown hnm hret hlk hZ e0 X0
  have hown : s.vm.findClass "com/example/hivetable/hivetable/course/CourseScoreCostPinLaw" = some m.cls := hown
  have hml : c.maxLocals = 29 := hml
  have hnm : meth.name = "law" := hnm
  have hret : meth.sig.returnType = (some .boolean) := hret
  have N0 := Fr.nil n0
  refine Till.cast (ef_0 m q1 q2 q3 q4 q5 q6) ?_
  show Till p e below s (Q0 Z q1 q2 q3 q4 q5 q6 h0 n0) room_1.cells room_1.slots (s₁.setTop (mkF m 0 #[.val (.long q1), .second, .val (.long q2), .second, .val (.long q3), .second, .val (.long q4), .second, .val (.long q5), .second, .val (.long q6), .second, .unset, .unset, .unset, .unset, .unset, .unset, .unset, .unset, .unset, .unset, .unset, .unset, .unset, .unset, .unset, .unset, .unset] []))
  refine Till.newO X0 hx hZ hown (hw _ (List.mem_of_getElem? (i := 0) rfl)) (hw _ (List.mem_of_getElem? (i := 1) rfl)) (hw _ (List.mem_of_getElem? (i := 2) rfl)) e0 (hb hby at_0) (by decide) (by decide) (fun T1 h2 b3 g4 X5 e6 E7 A8 D9 => ?_)
  have g_b3 : n0 ≤ b3 := Nat.le_trans Zs (Nat.le_of_eq g4.symm)
  have Zs := Nat.le_trans Zs E7.1
  have R_b3 : Cs Z h2 b3 (0 : Int64) (0 : Int64) (0 : Int64) (0 : Int64) (0 : Int64) (0 : Int64) (0 : Int64) (0 : Int64) := ⟨A8, D9 (Or.inr (hw _ (List.mem_of_getElem? (i := 15) rfl))) (ty := .long) (by decide), D9 (Or.inr (hw _ (List.mem_of_getElem? (i := 17) rfl))) (ty := .long) (by decide), D9 (Or.inr (hw _ (List.mem_of_getElem? (i := 19) rfl))) (ty := .long) (by decide), D9 (Or.inr (hw _ (List.mem_of_getElem? (i := 21) rfl))) (ty := .long) (by decide), D9 (Or.inr (hw _ (List.mem_of_getElem? (i := 23) rfl))) (ty := .long) (by decide), D9 (Or.inr (hw _ (List.mem_of_getElem? (i := 25) rfl))) (ty := .long) (by decide), D9 (Or.inr (hw _ (List.mem_of_getElem? (i := 27) rfl))) (ty := .long) (by decide), D9 (Or.inr (hw _ (List.mem_of_getElem? (i := 29) rfl))) (ty := .long) (by decide)⟩
  show Till p e below s (Q0 Z q1 q2 q3 q4 q5 q6 h0 n0) room_1.cells room_1.slots (T1.setTop (mkF m 3 #[.val (.long q1), .second, .val (.long q2), .second, .val (.long q3), .second, .val (.long q4), .second, .val (.long q5), .second, .val (.long q6), .second, .unset, .unset, .unset, .unset, .unset, .unset, .unset, .unset, .unset, .unset, .unset, .unset, .unset, .unset, .unset, .unset, .unset] [(.ref b3)]))
  refine Till.pre (fun _ hr => XS.dup X5.here hx rfl (hb hby at_3) rfl rfl hr) ?_
  show Till p e below s (Q0 Z q1 q2 q3 q4 q5 q6 h0 n0) room_1.cells room_1.slots (T1.setTop (mkF m 4 #[.val (.long q1), .second, .val (.long q2), .second, .val (.long q3), .second, .val (.long q4), .second, .val (.long q5), .second, .val (.long q6), .second, .unset, .unset, .unset, .unset, .unset, .unset, .unset, .unset, .unset, .unset, .unset, .unset, .unset, .unset, .unset, .unset, .unset] [(.ref b3), (.ref b3)]))
  refine Till.pre (fun _ hr => XS.lload X5.here hx rfl (hb hby at_4) rfl hr) ?_
  show Till p e below s (Q0 Z q1 q2 q3 q4 q5 q6 h0 n0) room_1.cells room_1.slots (T1.setTop (mkF m 6 #[.val (.long q1), .second, .val (.long q2), .second, .val (.long q3), .second, .val (.long q4), .second, .val (.long q5), .second, .val (.long q6), .second, .unset, .unset, .unset, .unset, .unset, .unset, .unset, .unset, .unset, .unset, .unset, .unset, .unset, .unset, .unset, .unset, .unset] [(.long q5), (.ref b3), (.ref b3)]))
  refine Till.pre (fun _ hr => XS.lload X5.here hx rfl (hb hby at_6) rfl hr) ?_
  show Till p e below s (Q0 Z q1 q2 q3 q4 q5 q6 h0 n0) room_1.cells room_1.slots (T1.setTop (mkF m 8 #[.val (.long q1), .second, .val (.long q2), .second, .val (.long q3), .second, .val (.long q4), .second, .val (.long q5), .second, .val (.long q6), .second, .unset, .unset, .unset, .unset, .unset, .unset, .unset, .unset, .unset, .unset, .unset, .unset, .unset, .unset, .unset, .unset, .unset] [(.long q6), (.long q5), (.ref b3), (.ref b3)]))
  refine Till.pre (fun _ hr => XS.lload X5.here hx rfl (hb hby at_8) rfl hr) ?_
  show Till p e below s (Q0 Z q1 q2 q3 q4 q5 q6 h0 n0) room_1.cells room_1.slots (T1.setTop (mkF m 10 #[.val (.long q1), .second, .val (.long q2), .second, .val (.long q3), .second, .val (.long q4), .second, .val (.long q5), .second, .val (.long q6), .second, .unset, .unset, .unset, .unset, .unset, .unset, .unset, .unset, .unset, .unset, .unset, .unset, .unset, .unset, .unset, .unset, .unset] [(.long q5), (.long q6), (.long q5), (.ref b3), (.ref b3)]))
  refine Till.pre (fun _ hr => XS.lload X5.here hx rfl (hb hby at_10) rfl hr) ?_
  show Till p e below s (Q0 Z q1 q2 q3 q4 q5 q6 h0 n0) room_1.cells room_1.slots (T1.setTop (mkF m 12 #[.val (.long q1), .second, .val (.long q2), .second, .val (.long q3), .second, .val (.long q4), .second, .val (.long q5), .second, .val (.long q6), .second, .unset, .unset, .unset, .unset, .unset, .unset, .unset, .unset, .unset, .unset, .unset, .unset, .unset, .unset, .unset, .unset, .unset] [(.long q6), (.long q5), (.long q6), (.long q5), (.ref b3), (.ref b3)]))
  refine Till.pre (fun _ hr => XS.lloadN X5.here hx rfl (hb hby at_12) rfl hr) ?_
  show Till p e below s (Q0 Z q1 q2 q3 q4 q5 q6 h0 n0) room_1.cells room_1.slots (T1.setTop (mkF m 13 #[.val (.long q1), .second, .val (.long q2), .second, .val (.long q3), .second, .val (.long q4), .second, .val (.long q5), .second, .val (.long q6), .second, .unset, .unset, .unset, .unset, .unset, .unset, .unset, .unset, .unset, .unset, .unset, .unset, .unset, .unset, .unset, .unset, .unset] [(.long q1), (.long q6), (.long q5), (.long q6), (.long q5), (.ref b3), (.ref b3)]))
  refine Till.pre (fun _ hr => XS.lloadN X5.here hx rfl (hb hby at_13) rfl hr) ?_
  show Till p e below s (Q0 Z q1 q2 q3 q4 q5 q6 h0 n0) room_1.cells room_1.slots (T1.setTop (mkF m 14 #[.val (.long q1), .second, .val (.long q2), .second, .val (.long q3), .second, .val (.long q4), .second, .val (.long q5), .second, .val (.long q6), .second, .unset, .unset, .unset, .unset, .unset, .unset, .unset, .unset, .unset, .unset, .unset, .unset, .unset, .unset, .unset, .unset, .unset] [(.long q2), (.long q1), (.long q6), (.long q5), (.long q6), (.long q5), (.ref b3), (.ref b3)]))
  refine Till.pre (fun _ hr => XS.lload X5.here hx rfl (hb hby at_14) rfl hr) ?_
  show Till p e below s (Q0 Z q1 q2 q3 q4 q5 q6 h0 n0) room_1.cells room_1.slots (T1.setTop (mkF m 16 #[.val (.long q1), .second, .val (.long q2), .second, .val (.long q3), .second, .val (.long q4), .second, .val (.long q5), .second, .val (.long q6), .second, .unset, .unset, .unset, .unset, .unset, .unset, .unset, .unset, .unset, .unset, .unset, .unset, .unset, .unset, .unset, .unset, .unset] [(.long q3), (.long q2), (.long q1), (.long q6), (.long q5), (.long q6), (.long q5), (.ref b3), (.ref b3)]))
  refine Till.pre (fun _ hr => XS.lload X5.here hx rfl (hb hby at_16) rfl hr) ?_
  show Till p e below s (Q0 Z q1 q2 q3 q4 q5 q6 h0 n0) room_1.cells room_1.slots (T1.setTop (mkF m 18 #[.val (.long q1), .second, .val (.long q2), .second, .val (.long q3), .second, .val (.long q4), .second, .val (.long q5), .second, .val (.long q6), .second, .unset, .unset, .unset, .unset, .unset, .unset, .unset, .unset, .unset, .unset, .unset, .unset, .unset, .unset, .unset, .unset, .unset] [(.long q4), (.long q3), (.long q2), (.long q1), (.long q6), (.long q5), (.long q6), (.long q5), (.ref b3), (.ref b3)]))
  refine Till.callC (rm1 l Z a0 hw b3 q5 q6 q5 q6 q1 q2 q3 q4 (0 : Int64) (0 : Int64) (0 : Int64) (0 : Int64) (0 : Int64) (0 : Int64) (0 : Int64) (0 : Int64) h2 n0 Zs R_b3 g_b3) X5 hx hZ hown rfl (hw _ (List.mem_of_getElem? (i := 3) rfl)) (hw _ (List.mem_of_getElem? (i := 4) rfl)) (hw _ (List.mem_of_getElem? (i := 2) rfl)) (hw _ (List.mem_of_getElem? (i := 5) rfl)) (by decide) (by decide) (W := 1) (by decide) (by rw [hml]; rfl) (a := b3) (argsL := [(.long q5), (.long q6), (.long q5), (.long q6), (.long q1), (.long q2), (.long q3), (.long q4)]) (rest := [(.ref b3)]) (lenOf pd0_2 rfl) rfl rfl (Nat.le_of_eq rfl) (hb hby at_18) e6 (by decide) (by decide) ?_
  rintro _ T10 L11 X12 ⟨rfl, N13, K14, q15⟩
  have N13 := Fr.app N0 N13
  have Zs := Nat.le_trans Zs K14.1
  have R_b3 : Cs Z T10.heap b3 q5 q6 q5 q6 q1 q2 q3 q4 := q15
  show Till p e below s (Q0 Z q1 q2 q3 q4 q5 q6 h0 n0) room_1.cells room_1.slots (T10.setTop (mkF m 21 #[.val (.long q1), .second, .val (.long q2), .second, .val (.long q3), .second, .val (.long q4), .second, .val (.long q5), .second, .val (.long q6), .second, .unset, .unset, .unset, .unset, .unset, .unset, .unset, .unset, .unset, .unset, .unset, .unset, .unset, .unset, .unset, .unset, .unset] [(.ref b3)]))
  refine Till.pre (fun _ hr => XS.astore X12.here hx rfl (hb hby at_21) rfl rfl (l' := #[.val (.long q1), .second, .val (.long q2), .second, .val (.long q3), .second, .val (.long q4), .second, .val (.long q5), .second, .val (.long q6), .second, .val (.ref b3), .unset, .unset, .unset, .unset, .unset, .unset, .unset, .unset, .unset, .unset, .unset, .unset, .unset, .unset, .unset, .unset]) rfl hr) ?_
  show Till p e below s (Q0 Z q1 q2 q3 q4 q5 q6 h0 n0) room_1.cells room_1.slots (T10.setTop (mkF m 23 #[.val (.long q1), .second, .val (.long q2), .second, .val (.long q3), .second, .val (.long q4), .second, .val (.long q5), .second, .val (.long q6), .second, .val (.ref b3), .unset, .unset, .unset, .unset, .unset, .unset, .unset, .unset, .unset, .unset, .unset, .unset, .unset, .unset, .unset, .unset] []))
  refine Till.newO X12 hx hZ hown (hw _ (List.mem_of_getElem? (i := 0) rfl)) (hw _ (List.mem_of_getElem? (i := 1) rfl)) (hw _ (List.mem_of_getElem? (i := 2) rfl)) rfl (hb hby at_23) (by decide) (by decide) (fun T16 h17 b18 g19 X20 e21 E22 A23 D24 => ?_)
  have ne_b3_b18 : b3 ≠ b18 := Nat.ne_of_lt (Nat.lt_of_lt_of_le R_b3.lt (Nat.le_of_eq g19.symm))
  have g_b18 : n0 ≤ b18 := Nat.le_trans Zs (Nat.le_of_eq g19.symm)
  have R_b3 := R_b3.ext E22
  have Zs := Nat.le_trans Zs E22.1
  have R_b18 : Cs Z h17 b18 (0 : Int64) (0 : Int64) (0 : Int64) (0 : Int64) (0 : Int64) (0 : Int64) (0 : Int64) (0 : Int64) := ⟨A23, D24 (Or.inr (hw _ (List.mem_of_getElem? (i := 15) rfl))) (ty := .long) (by decide), D24 (Or.inr (hw _ (List.mem_of_getElem? (i := 17) rfl))) (ty := .long) (by decide), D24 (Or.inr (hw _ (List.mem_of_getElem? (i := 19) rfl))) (ty := .long) (by decide), D24 (Or.inr (hw _ (List.mem_of_getElem? (i := 21) rfl))) (ty := .long) (by decide), D24 (Or.inr (hw _ (List.mem_of_getElem? (i := 23) rfl))) (ty := .long) (by decide), D24 (Or.inr (hw _ (List.mem_of_getElem? (i := 25) rfl))) (ty := .long) (by decide), D24 (Or.inr (hw _ (List.mem_of_getElem? (i := 27) rfl))) (ty := .long) (by decide), D24 (Or.inr (hw _ (List.mem_of_getElem? (i := 29) rfl))) (ty := .long) (by decide)⟩
  show Till p e below s (Q0 Z q1 q2 q3 q4 q5 q6 h0 n0) room_1.cells room_1.slots (T16.setTop (mkF m 26 #[.val (.long q1), .second, .val (.long q2), .second, .val (.long q3), .second, .val (.long q4), .second, .val (.long q5), .second, .val (.long q6), .second, .val (.ref b3), .unset, .unset, .unset, .unset, .unset, .unset, .unset, .unset, .unset, .unset, .unset, .unset, .unset, .unset, .unset, .unset] [(.ref b18)]))
  refine Till.pre (fun _ hr => XS.dup X20.here hx rfl (hb hby at_26) rfl rfl hr) ?_
  show Till p e below s (Q0 Z q1 q2 q3 q4 q5 q6 h0 n0) room_1.cells room_1.slots (T16.setTop (mkF m 27 #[.val (.long q1), .second, .val (.long q2), .second, .val (.long q3), .second, .val (.long q4), .second, .val (.long q5), .second, .val (.long q6), .second, .val (.ref b3), .unset, .unset, .unset, .unset, .unset, .unset, .unset, .unset, .unset, .unset, .unset, .unset, .unset, .unset, .unset, .unset] [(.ref b18), (.ref b18)]))
  refine Till.pre (fun _ hr => XS.lload X20.here hx rfl (hb hby at_27) rfl hr) ?_
  show Till p e below s (Q0 Z q1 q2 q3 q4 q5 q6 h0 n0) room_1.cells room_1.slots (T16.setTop (mkF m 29 #[.val (.long q1), .second, .val (.long q2), .second, .val (.long q3), .second, .val (.long q4), .second, .val (.long q5), .second, .val (.long q6), .second, .val (.ref b3), .unset, .unset, .unset, .unset, .unset, .unset, .unset, .unset, .unset, .unset, .unset, .unset, .unset, .unset, .unset, .unset] [(.long q6), (.ref b18), (.ref b18)]))
  refine Till.pre (fun _ hr => XS.lload X20.here hx rfl (hb hby at_29) rfl hr) ?_
  show Till p e below s (Q0 Z q1 q2 q3 q4 q5 q6 h0 n0) room_1.cells room_1.slots (T16.setTop (mkF m 31 #[.val (.long q1), .second, .val (.long q2), .second, .val (.long q3), .second, .val (.long q4), .second, .val (.long q5), .second, .val (.long q6), .second, .val (.ref b3), .unset, .unset, .unset, .unset, .unset, .unset, .unset, .unset, .unset, .unset, .unset, .unset, .unset, .unset, .unset, .unset] [(.long q5), (.long q6), (.ref b18), (.ref b18)]))
  refine Till.pre (fun _ hr => XS.lloadN X20.here hx rfl (hb hby at_31) rfl hr) ?_
  show Till p e below s (Q0 Z q1 q2 q3 q4 q5 q6 h0 n0) room_1.cells room_1.slots (T16.setTop (mkF m 32 #[.val (.long q1), .second, .val (.long q2), .second, .val (.long q3), .second, .val (.long q4), .second, .val (.long q5), .second, .val (.long q6), .second, .val (.ref b3), .unset, .unset, .unset, .unset, .unset, .unset, .unset, .unset, .unset, .unset, .unset, .unset, .unset, .unset, .unset, .unset] [(.long q1), (.long q5), (.long q6), (.ref b18), (.ref b18)]))
  refine Till.pre (fun _ hr => XS.lloadN X20.here hx rfl (hb hby at_32) rfl hr) ?_
  show Till p e below s (Q0 Z q1 q2 q3 q4 q5 q6 h0 n0) room_1.cells room_1.slots (T16.setTop (mkF m 33 #[.val (.long q1), .second, .val (.long q2), .second, .val (.long q3), .second, .val (.long q4), .second, .val (.long q5), .second, .val (.long q6), .second, .val (.ref b3), .unset, .unset, .unset, .unset, .unset, .unset, .unset, .unset, .unset, .unset, .unset, .unset, .unset, .unset, .unset, .unset] [(.long q2), (.long q1), (.long q5), (.long q6), (.ref b18), (.ref b18)]))
  refine Till.pre (fun _ hr => XS.lloadN X20.here hx rfl (hb hby at_33) rfl hr) ?_
  show Till p e below s (Q0 Z q1 q2 q3 q4 q5 q6 h0 n0) room_1.cells room_1.slots (T16.setTop (mkF m 34 #[.val (.long q1), .second, .val (.long q2), .second, .val (.long q3), .second, .val (.long q4), .second, .val (.long q5), .second, .val (.long q6), .second, .val (.ref b3), .unset, .unset, .unset, .unset, .unset, .unset, .unset, .unset, .unset, .unset, .unset, .unset, .unset, .unset, .unset, .unset] [(.long q1), (.long q2), (.long q1), (.long q5), (.long q6), (.ref b18), (.ref b18)]))
  refine Till.pre (fun _ hr => XS.lconst X20.here hx rfl (hb hby at_34) hr) ?_
  show Till p e below s (Q0 Z q1 q2 q3 q4 q5 q6 h0 n0) room_1.cells room_1.slots (T16.setTop (mkF m 35 #[.val (.long q1), .second, .val (.long q2), .second, .val (.long q3), .second, .val (.long q4), .second, .val (.long q5), .second, .val (.long q6), .second, .val (.ref b3), .unset, .unset, .unset, .unset, .unset, .unset, .unset, .unset, .unset, .unset, .unset, .unset, .unset, .unset, .unset, .unset] [(.long (0 : Int64)), (.long q1), (.long q2), (.long q1), (.long q5), (.long q6), (.ref b18), (.ref b18)]))
  refine Till.pre (fun _ hr => XS.lconst X20.here hx rfl (hb hby at_35) hr) ?_
  show Till p e below s (Q0 Z q1 q2 q3 q4 q5 q6 h0 n0) room_1.cells room_1.slots (T16.setTop (mkF m 36 #[.val (.long q1), .second, .val (.long q2), .second, .val (.long q3), .second, .val (.long q4), .second, .val (.long q5), .second, .val (.long q6), .second, .val (.ref b3), .unset, .unset, .unset, .unset, .unset, .unset, .unset, .unset, .unset, .unset, .unset, .unset, .unset, .unset, .unset, .unset] [(.long (0 : Int64)), (.long (0 : Int64)), (.long q1), (.long q2), (.long q1), (.long q5), (.long q6), (.ref b18), (.ref b18)]))
  refine Till.pre (fun _ hr => XS.lconst X20.here hx rfl (hb hby at_36) hr) ?_
  show Till p e below s (Q0 Z q1 q2 q3 q4 q5 q6 h0 n0) room_1.cells room_1.slots (T16.setTop (mkF m 37 #[.val (.long q1), .second, .val (.long q2), .second, .val (.long q3), .second, .val (.long q4), .second, .val (.long q5), .second, .val (.long q6), .second, .val (.ref b3), .unset, .unset, .unset, .unset, .unset, .unset, .unset, .unset, .unset, .unset, .unset, .unset, .unset, .unset, .unset, .unset] [(.long (0 : Int64)), (.long (0 : Int64)), (.long (0 : Int64)), (.long q1), (.long q2), (.long q1), (.long q5), (.long q6), (.ref b18), (.ref b18)]))
  refine Till.callC (rm1 l Z a0 hw b18 q6 q5 q1 q2 q1 (0 : Int64) (0 : Int64) (0 : Int64) (0 : Int64) (0 : Int64) (0 : Int64) (0 : Int64) (0 : Int64) (0 : Int64) (0 : Int64) (0 : Int64) h17 n0 Zs R_b18 g_b18) X20 hx hZ hown rfl (hw _ (List.mem_of_getElem? (i := 3) rfl)) (hw _ (List.mem_of_getElem? (i := 4) rfl)) (hw _ (List.mem_of_getElem? (i := 2) rfl)) (hw _ (List.mem_of_getElem? (i := 5) rfl)) (by decide) (by decide) (W := 1) (by decide) (by rw [hml]; rfl) (a := b18) (argsL := [(.long q6), (.long q5), (.long q1), (.long q2), (.long q1), (.long (0 : Int64)), (.long (0 : Int64)), (.long (0 : Int64))]) (rest := [(.ref b18)]) (lenOf pd0_2 rfl) rfl rfl (Nat.le_of_eq rfl) (hb hby at_37) e21 (by decide) (by decide) ?_
  rintro _ T25 L26 X27 ⟨rfl, N28, K29, q30⟩
  have N28 := Fr.app N13 N28
  have R_b3 := R_b3.keep K29 (ninS ne_b3_b18 nin0)
  have Zs := Nat.le_trans Zs K29.1
  have R_b18 : Cs Z T25.heap b18 q6 q5 q1 q2 q1 (0 : Int64) (0 : Int64) (0 : Int64) := q30
  show Till p e below s (Q0 Z q1 q2 q3 q4 q5 q6 h0 n0) room_1.cells room_1.slots (T25.setTop (mkF m 40 #[.val (.long q1), .second, .val (.long q2), .second, .val (.long q3), .second, .val (.long q4), .second, .val (.long q5), .second, .val (.long q6), .second, .val (.ref b3), .unset, .unset, .unset, .unset, .unset, .unset, .unset, .unset, .unset, .unset, .unset, .unset, .unset, .unset, .unset, .unset] [(.ref b18)]))
  refine Till.pre (fun _ hr => XS.astore X27.here hx rfl (hb hby at_40) rfl rfl (l' := #[.val (.long q1), .second, .val (.long q2), .second, .val (.long q3), .second, .val (.long q4), .second, .val (.long q5), .second, .val (.long q6), .second, .val (.ref b3), .val (.ref b18), .unset, .unset, .unset, .unset, .unset, .unset, .unset, .unset, .unset, .unset, .unset, .unset, .unset, .unset, .unset]) rfl hr) ?_
  show Till p e below s (Q0 Z q1 q2 q3 q4 q5 q6 h0 n0) room_1.cells room_1.slots (T25.setTop (mkF m 42 #[.val (.long q1), .second, .val (.long q2), .second, .val (.long q3), .second, .val (.long q4), .second, .val (.long q5), .second, .val (.long q6), .second, .val (.ref b3), .val (.ref b18), .unset, .unset, .unset, .unset, .unset, .unset, .unset, .unset, .unset, .unset, .unset, .unset, .unset, .unset, .unset] []))
  refine Till.newO X27 hx hZ hown (hw _ (List.mem_of_getElem? (i := 0) rfl)) (hw _ (List.mem_of_getElem? (i := 1) rfl)) (hw _ (List.mem_of_getElem? (i := 2) rfl)) rfl (hb hby at_42) (by decide) (by decide) (fun T31 h32 b33 g34 X35 e36 E37 A38 D39 => ?_)
  have ne_b3_b33 : b3 ≠ b33 := Nat.ne_of_lt (Nat.lt_of_lt_of_le R_b3.lt (Nat.le_of_eq g34.symm))
  have ne_b18_b33 : b18 ≠ b33 := Nat.ne_of_lt (Nat.lt_of_lt_of_le R_b18.lt (Nat.le_of_eq g34.symm))
  have g_b33 : n0 ≤ b33 := Nat.le_trans Zs (Nat.le_of_eq g34.symm)
  have R_b3 := R_b3.ext E37
  have R_b18 := R_b18.ext E37
  have Zs := Nat.le_trans Zs E37.1
  have R_b33 : Cs Z h32 b33 (0 : Int64) (0 : Int64) (0 : Int64) (0 : Int64) (0 : Int64) (0 : Int64) (0 : Int64) (0 : Int64) := ⟨A38, D39 (Or.inr (hw _ (List.mem_of_getElem? (i := 15) rfl))) (ty := .long) (by decide), D39 (Or.inr (hw _ (List.mem_of_getElem? (i := 17) rfl))) (ty := .long) (by decide), D39 (Or.inr (hw _ (List.mem_of_getElem? (i := 19) rfl))) (ty := .long) (by decide), D39 (Or.inr (hw _ (List.mem_of_getElem? (i := 21) rfl))) (ty := .long) (by decide), D39 (Or.inr (hw _ (List.mem_of_getElem? (i := 23) rfl))) (ty := .long) (by decide), D39 (Or.inr (hw _ (List.mem_of_getElem? (i := 25) rfl))) (ty := .long) (by decide), D39 (Or.inr (hw _ (List.mem_of_getElem? (i := 27) rfl))) (ty := .long) (by decide), D39 (Or.inr (hw _ (List.mem_of_getElem? (i := 29) rfl))) (ty := .long) (by decide)⟩
  show Till p e below s (Q0 Z q1 q2 q3 q4 q5 q6 h0 n0) room_1.cells room_1.slots (T31.setTop (mkF m 45 #[.val (.long q1), .second, .val (.long q2), .second, .val (.long q3), .second, .val (.long q4), .second, .val (.long q5), .second, .val (.long q6), .second, .val (.ref b3), .val (.ref b18), .unset, .unset, .unset, .unset, .unset, .unset, .unset, .unset, .unset, .unset, .unset, .unset, .unset, .unset, .unset] [(.ref b33)]))
  refine Till.pre (fun _ hr => XS.dup X35.here hx rfl (hb hby at_45) rfl rfl hr) ?_
  show Till p e below s (Q0 Z q1 q2 q3 q4 q5 q6 h0 n0) room_1.cells room_1.slots (T31.setTop (mkF m 46 #[.val (.long q1), .second, .val (.long q2), .second, .val (.long q3), .second, .val (.long q4), .second, .val (.long q5), .second, .val (.long q6), .second, .val (.ref b3), .val (.ref b18), .unset, .unset, .unset, .unset, .unset, .unset, .unset, .unset, .unset, .unset, .unset, .unset, .unset, .unset, .unset] [(.ref b33), (.ref b33)]))
  refine Till.pre (fun _ hr => XS.lload X35.here hx rfl (hb hby at_46) rfl hr) ?_
  show Till p e below s (Q0 Z q1 q2 q3 q4 q5 q6 h0 n0) room_1.cells room_1.slots (T31.setTop (mkF m 48 #[.val (.long q1), .second, .val (.long q2), .second, .val (.long q3), .second, .val (.long q4), .second, .val (.long q5), .second, .val (.long q6), .second, .val (.ref b3), .val (.ref b18), .unset, .unset, .unset, .unset, .unset, .unset, .unset, .unset, .unset, .unset, .unset, .unset, .unset, .unset, .unset] [(.long q3), (.ref b33), (.ref b33)]))
  refine Till.pre (fun _ hr => XS.lload X35.here hx rfl (hb hby at_48) rfl hr) ?_
  show Till p e below s (Q0 Z q1 q2 q3 q4 q5 q6 h0 n0) room_1.cells room_1.slots (T31.setTop (mkF m 50 #[.val (.long q1), .second, .val (.long q2), .second, .val (.long q3), .second, .val (.long q4), .second, .val (.long q5), .second, .val (.long q6), .second, .val (.ref b3), .val (.ref b18), .unset, .unset, .unset, .unset, .unset, .unset, .unset, .unset, .unset, .unset, .unset, .unset, .unset, .unset, .unset] [(.long q4), (.long q3), (.ref b33), (.ref b33)]))
  refine Till.pre (fun _ hr => XS.lload X35.here hx rfl (hb hby at_50) rfl hr) ?_
  show Till p e below s (Q0 Z q1 q2 q3 q4 q5 q6 h0 n0) room_1.cells room_1.slots (T31.setTop (mkF m 52 #[.val (.long q1), .second, .val (.long q2), .second, .val (.long q3), .second, .val (.long q4), .second, .val (.long q5), .second, .val (.long q6), .second, .val (.ref b3), .val (.ref b18), .unset, .unset, .unset, .unset, .unset, .unset, .unset, .unset, .unset, .unset, .unset, .unset, .unset, .unset, .unset] [(.long q6), (.long q4), (.long q3), (.ref b33), (.ref b33)]))
  refine Till.pre (fun _ hr => XS.lload X35.here hx rfl (hb hby at_52) rfl hr) ?_
  show Till p e below s (Q0 Z q1 q2 q3 q4 q5 q6 h0 n0) room_1.cells room_1.slots (T31.setTop (mkF m 54 #[.val (.long q1), .second, .val (.long q2), .second, .val (.long q3), .second, .val (.long q4), .second, .val (.long q5), .second, .val (.long q6), .second, .val (.ref b3), .val (.ref b18), .unset, .unset, .unset, .unset, .unset, .unset, .unset, .unset, .unset, .unset, .unset, .unset, .unset, .unset, .unset] [(.long q5), (.long q6), (.long q4), (.long q3), (.ref b33), (.ref b33)]))
  refine Till.pre (fun _ hr => XS.lconst X35.here hx rfl (hb hby at_54) hr) ?_
  show Till p e below s (Q0 Z q1 q2 q3 q4 q5 q6 h0 n0) room_1.cells room_1.slots (T31.setTop (mkF m 55 #[.val (.long q1), .second, .val (.long q2), .second, .val (.long q3), .second, .val (.long q4), .second, .val (.long q5), .second, .val (.long q6), .second, .val (.ref b3), .val (.ref b18), .unset, .unset, .unset, .unset, .unset, .unset, .unset, .unset, .unset, .unset, .unset, .unset, .unset, .unset, .unset] [(.long (0 : Int64)), (.long q5), (.long q6), (.long q4), (.long q3), (.ref b33), (.ref b33)]))
  refine Till.pre (fun _ hr => XS.lloadN X35.here hx rfl (hb hby at_55) rfl hr) ?_
  show Till p e below s (Q0 Z q1 q2 q3 q4 q5 q6 h0 n0) room_1.cells room_1.slots (T31.setTop (mkF m 56 #[.val (.long q1), .second, .val (.long q2), .second, .val (.long q3), .second, .val (.long q4), .second, .val (.long q5), .second, .val (.long q6), .second, .val (.ref b3), .val (.ref b18), .unset, .unset, .unset, .unset, .unset, .unset, .unset, .unset, .unset, .unset, .unset, .unset, .unset, .unset, .unset] [(.long q2), (.long (0 : Int64)), (.long q5), (.long q6), (.long q4), (.long q3), (.ref b33), (.ref b33)]))
  refine Till.pre (fun _ hr => XS.lconst X35.here hx rfl (hb hby at_56) hr) ?_
  show Till p e below s (Q0 Z q1 q2 q3 q4 q5 q6 h0 n0) room_1.cells room_1.slots (T31.setTop (mkF m 57 #[.val (.long q1), .second, .val (.long q2), .second, .val (.long q3), .second, .val (.long q4), .second, .val (.long q5), .second, .val (.long q6), .second, .val (.ref b3), .val (.ref b18), .unset, .unset, .unset, .unset, .unset, .unset, .unset, .unset, .unset, .unset, .unset, .unset, .unset, .unset, .unset] [(.long (0 : Int64)), (.long q2), (.long (0 : Int64)), (.long q5), (.long q6), (.long q4), (.long q3), (.ref b33), (.ref b33)]))
  refine Till.pre (fun _ hr => XS.lconst X35.here hx rfl (hb hby at_57) hr) ?_
  show Till p e below s (Q0 Z q1 q2 q3 q4 q5 q6 h0 n0) room_1.cells room_1.slots (T31.setTop (mkF m 58 #[.val (.long q1), .second, .val (.long q2), .second, .val (.long q3), .second, .val (.long q4), .second, .val (.long q5), .second, .val (.long q6), .second, .val (.ref b3), .val (.ref b18), .unset, .unset, .unset, .unset, .unset, .unset, .unset, .unset, .unset, .unset, .unset, .unset, .unset, .unset, .unset] [(.long (0 : Int64)), (.long (0 : Int64)), (.long q2), (.long (0 : Int64)), (.long q5), (.long q6), (.long q4), (.long q3), (.ref b33), (.ref b33)]))
  refine Till.callC (rm1 l Z a0 hw b33 q3 q4 q6 q5 (0 : Int64) q2 (0 : Int64) (0 : Int64) (0 : Int64) (0 : Int64) (0 : Int64) (0 : Int64) (0 : Int64) (0 : Int64) (0 : Int64) (0 : Int64) h32 n0 Zs R_b33 g_b33) X35 hx hZ hown rfl (hw _ (List.mem_of_getElem? (i := 3) rfl)) (hw _ (List.mem_of_getElem? (i := 4) rfl)) (hw _ (List.mem_of_getElem? (i := 2) rfl)) (hw _ (List.mem_of_getElem? (i := 5) rfl)) (by decide) (by decide) (W := 1) (by decide) (by rw [hml]; rfl) (a := b33) (argsL := [(.long q3), (.long q4), (.long q6), (.long q5), (.long (0 : Int64)), (.long q2), (.long (0 : Int64)), (.long (0 : Int64))]) (rest := [(.ref b33)]) (lenOf pd0_2 rfl) rfl rfl (Nat.le_of_eq rfl) (hb hby at_58) e36 (by decide) (by decide) ?_
  rintro _ T40 L41 X42 ⟨rfl, N43, K44, q45⟩
  have N43 := Fr.app N28 N43
  have R_b3 := R_b3.keep K44 (ninS ne_b3_b33 nin0)
  have R_b18 := R_b18.keep K44 (ninS ne_b18_b33 nin0)
  have Zs := Nat.le_trans Zs K44.1
  have R_b33 : Cs Z T40.heap b33 q3 q4 q6 q5 (0 : Int64) q2 (0 : Int64) (0 : Int64) := q45
  show Till p e below s (Q0 Z q1 q2 q3 q4 q5 q6 h0 n0) room_1.cells room_1.slots (T40.setTop (mkF m 61 #[.val (.long q1), .second, .val (.long q2), .second, .val (.long q3), .second, .val (.long q4), .second, .val (.long q5), .second, .val (.long q6), .second, .val (.ref b3), .val (.ref b18), .unset, .unset, .unset, .unset, .unset, .unset, .unset, .unset, .unset, .unset, .unset, .unset, .unset, .unset, .unset] [(.ref b33)]))
  refine Till.pre (fun _ hr => XS.astore X42.here hx rfl (hb hby at_61) rfl rfl (l' := #[.val (.long q1), .second, .val (.long q2), .second, .val (.long q3), .second, .val (.long q4), .second, .val (.long q5), .second, .val (.long q6), .second, .val (.ref b3), .val (.ref b18), .val (.ref b33), .unset, .unset, .unset, .unset, .unset, .unset, .unset, .unset, .unset, .unset, .unset, .unset, .unset, .unset]) rfl hr) ?_
  show Till p e below s (Q0 Z q1 q2 q3 q4 q5 q6 h0 n0) room_1.cells room_1.slots (T40.setTop (mkF m 63 #[.val (.long q1), .second, .val (.long q2), .second, .val (.long q3), .second, .val (.long q4), .second, .val (.long q5), .second, .val (.long q6), .second, .val (.ref b3), .val (.ref b18), .val (.ref b33), .unset, .unset, .unset, .unset, .unset, .unset, .unset, .unset, .unset, .unset, .unset, .unset, .unset, .unset] []))
  refine Till.newO X42 hx hZ hown (hw _ (List.mem_of_getElem? (i := 0) rfl)) (hw _ (List.mem_of_getElem? (i := 1) rfl)) (hw _ (List.mem_of_getElem? (i := 2) rfl)) rfl (hb hby at_63) (by decide) (by decide) (fun T46 h47 b48 g49 X50 e51 E52 A53 D54 => ?_)
  have ne_b3_b48 : b3 ≠ b48 := Nat.ne_of_lt (Nat.lt_of_lt_of_le R_b3.lt (Nat.le_of_eq g49.symm))
  have ne_b18_b48 : b18 ≠ b48 := Nat.ne_of_lt (Nat.lt_of_lt_of_le R_b18.lt (Nat.le_of_eq g49.symm))
  have ne_b33_b48 : b33 ≠ b48 := Nat.ne_of_lt (Nat.lt_of_lt_of_le R_b33.lt (Nat.le_of_eq g49.symm))
  have g_b48 : n0 ≤ b48 := Nat.le_trans Zs (Nat.le_of_eq g49.symm)
  have R_b3 := R_b3.ext E52
  have R_b18 := R_b18.ext E52
  have R_b33 := R_b33.ext E52
  have Zs := Nat.le_trans Zs E52.1
  have R_b48 : Cs Z h47 b48 (0 : Int64) (0 : Int64) (0 : Int64) (0 : Int64) (0 : Int64) (0 : Int64) (0 : Int64) (0 : Int64) := ⟨A53, D54 (Or.inr (hw _ (List.mem_of_getElem? (i := 15) rfl))) (ty := .long) (by decide), D54 (Or.inr (hw _ (List.mem_of_getElem? (i := 17) rfl))) (ty := .long) (by decide), D54 (Or.inr (hw _ (List.mem_of_getElem? (i := 19) rfl))) (ty := .long) (by decide), D54 (Or.inr (hw _ (List.mem_of_getElem? (i := 21) rfl))) (ty := .long) (by decide), D54 (Or.inr (hw _ (List.mem_of_getElem? (i := 23) rfl))) (ty := .long) (by decide), D54 (Or.inr (hw _ (List.mem_of_getElem? (i := 25) rfl))) (ty := .long) (by decide), D54 (Or.inr (hw _ (List.mem_of_getElem? (i := 27) rfl))) (ty := .long) (by decide), D54 (Or.inr (hw _ (List.mem_of_getElem? (i := 29) rfl))) (ty := .long) (by decide)⟩
  show Till p e below s (Q0 Z q1 q2 q3 q4 q5 q6 h0 n0) room_1.cells room_1.slots (T46.setTop (mkF m 66 #[.val (.long q1), .second, .val (.long q2), .second, .val (.long q3), .second, .val (.long q4), .second, .val (.long q5), .second, .val (.long q6), .second, .val (.ref b3), .val (.ref b18), .val (.ref b33), .unset, .unset, .unset, .unset, .unset, .unset, .unset, .unset, .unset, .unset, .unset, .unset, .unset, .unset] [(.ref b48)]))
  refine Till.pre (fun _ hr => XS.dup X50.here hx rfl (hb hby at_66) rfl rfl hr) ?_
  show Till p e below s (Q0 Z q1 q2 q3 q4 q5 q6 h0 n0) room_1.cells room_1.slots (T46.setTop (mkF m 67 #[.val (.long q1), .second, .val (.long q2), .second, .val (.long q3), .second, .val (.long q4), .second, .val (.long q5), .second, .val (.long q6), .second, .val (.ref b3), .val (.ref b18), .val (.ref b33), .unset, .unset, .unset, .unset, .unset, .unset, .unset, .unset, .unset, .unset, .unset, .unset, .unset, .unset] [(.ref b48), (.ref b48)]))
  refine Till.pre (fun _ hr => XS.lload X50.here hx rfl (hb hby at_67) rfl hr) ?_
  show Till p e below s (Q0 Z q1 q2 q3 q4 q5 q6 h0 n0) room_1.cells room_1.slots (T46.setTop (mkF m 69 #[.val (.long q1), .second, .val (.long q2), .second, .val (.long q3), .second, .val (.long q4), .second, .val (.long q5), .second, .val (.long q6), .second, .val (.ref b3), .val (.ref b18), .val (.ref b33), .unset, .unset, .unset, .unset, .unset, .unset, .unset, .unset, .unset, .unset, .unset, .unset, .unset, .unset] [(.long q4), (.ref b48), (.ref b48)]))
  refine Till.pre (fun _ hr => XS.lloadN X50.here hx rfl (hb hby at_69) rfl hr) ?_
  show Till p e below s (Q0 Z q1 q2 q3 q4 q5 q6 h0 n0) room_1.cells room_1.slots (T46.setTop (mkF m 70 #[.val (.long q1), .second, .val (.long q2), .second, .val (.long q3), .second, .val (.long q4), .second, .val (.long q5), .second, .val (.long q6), .second, .val (.ref b3), .val (.ref b18), .val (.ref b33), .unset, .unset, .unset, .unset, .unset, .unset, .unset, .unset, .unset, .unset, .unset, .unset, .unset, .unset] [(.long q1), (.long q4), (.ref b48), (.ref b48)]))
  refine Till.pre (fun _ hr => XS.lloadN X50.here hx rfl (hb hby at_70) rfl hr) ?_
  show Till p e below s (Q0 Z q1 q2 q3 q4 q5 q6 h0 n0) room_1.cells room_1.slots (T46.setTop (mkF m 71 #[.val (.long q1), .second, .val (.long q2), .second, .val (.long q3), .second, .val (.long q4), .second, .val (.long q5), .second, .val (.long q6), .second, .val (.ref b3), .val (.ref b18), .val (.ref b33), .unset, .unset, .unset, .unset, .unset, .unset, .unset, .unset, .unset, .unset, .unset, .unset, .unset, .unset] [(.long q2), (.long q1), (.long q4), (.ref b48), (.ref b48)]))
  refine Till.pre (fun _ hr => XS.lload X50.here hx rfl (hb hby at_71) rfl hr) ?_
  show Till p e below s (Q0 Z q1 q2 q3 q4 q5 q6 h0 n0) room_1.cells room_1.slots (T46.setTop (mkF m 73 #[.val (.long q1), .second, .val (.long q2), .second, .val (.long q3), .second, .val (.long q4), .second, .val (.long q5), .second, .val (.long q6), .second, .val (.ref b3), .val (.ref b18), .val (.ref b33), .unset, .unset, .unset, .unset, .unset, .unset, .unset, .unset, .unset, .unset, .unset, .unset, .unset, .unset] [(.long q3), (.long q2), (.long q1), (.long q4), (.ref b48), (.ref b48)]))
  refine Till.pre (fun _ hr => XS.lconst X50.here hx rfl (hb hby at_73) hr) ?_
  show Till p e below s (Q0 Z q1 q2 q3 q4 q5 q6 h0 n0) room_1.cells room_1.slots (T46.setTop (mkF m 74 #[.val (.long q1), .second, .val (.long q2), .second, .val (.long q3), .second, .val (.long q4), .second, .val (.long q5), .second, .val (.long q6), .second, .val (.ref b3), .val (.ref b18), .val (.ref b33), .unset, .unset, .unset, .unset, .unset, .unset, .unset, .unset, .unset, .unset, .unset, .unset, .unset, .unset] [(.long (0 : Int64)), (.long q3), (.long q2), (.long q1), (.long q4), (.ref b48), (.ref b48)]))
  refine Till.pre (fun _ hr => XS.lconst X50.here hx rfl (hb hby at_74) hr) ?_
  show Till p e below s (Q0 Z q1 q2 q3 q4 q5 q6 h0 n0) room_1.cells room_1.slots (T46.setTop (mkF m 75 #[.val (.long q1), .second, .val (.long q2), .second, .val (.long q3), .second, .val (.long q4), .second, .val (.long q5), .second, .val (.long q6), .second, .val (.ref b3), .val (.ref b18), .val (.ref b33), .unset, .unset, .unset, .unset, .unset, .unset, .unset, .unset, .unset, .unset, .unset, .unset, .unset, .unset] [(.long (0 : Int64)), (.long (0 : Int64)), (.long q3), (.long q2), (.long q1), (.long q4), (.ref b48), (.ref b48)]))
  refine Till.pre (fun _ hr => XS.lload X50.here hx rfl (hb hby at_75) rfl hr) ?_
  show Till p e below s (Q0 Z q1 q2 q3 q4 q5 q6 h0 n0) room_1.cells room_1.slots (T46.setTop (mkF m 77 #[.val (.long q1), .second, .val (.long q2), .second, .val (.long q3), .second, .val (.long q4), .second, .val (.long q5), .second, .val (.long q6), .second, .val (.ref b3), .val (.ref b18), .val (.ref b33), .unset, .unset, .unset, .unset, .unset, .unset, .unset, .unset, .unset, .unset, .unset, .unset, .unset, .unset] [(.long q3), (.long (0 : Int64)), (.long (0 : Int64)), (.long q3), (.long q2), (.long q1), (.long q4), (.ref b48), (.ref b48)]))
  refine Till.pre (fun _ hr => XS.lconst X50.here hx rfl (hb hby at_77) hr) ?_
  show Till p e below s (Q0 Z q1 q2 q3 q4 q5 q6 h0 n0) room_1.cells room_1.slots (T46.setTop (mkF m 78 #[.val (.long q1), .second, .val (.long q2), .second, .val (.long q3), .second, .val (.long q4), .second, .val (.long q5), .second, .val (.long q6), .second, .val (.ref b3), .val (.ref b18), .val (.ref b33), .unset, .unset, .unset, .unset, .unset, .unset, .unset, .unset, .unset, .unset, .unset, .unset, .unset, .unset] [(.long (0 : Int64)), (.long q3), (.long (0 : Int64)), (.long (0 : Int64)), (.long q3), (.long q2), (.long q1), (.long q4), (.ref b48), (.ref b48)]))
  refine Till.callC (rm1 l Z a0 hw b48 q4 q1 q2 q3 (0 : Int64) (0 : Int64) q3 (0 : Int64) (0 : Int64) (0 : Int64) (0 : Int64) (0 : Int64) (0 : Int64) (0 : Int64) (0 : Int64) (0 : Int64) h47 n0 Zs R_b48 g_b48) X50 hx hZ hown rfl (hw _ (List.mem_of_getElem? (i := 3) rfl)) (hw _ (List.mem_of_getElem? (i := 4) rfl)) (hw _ (List.mem_of_getElem? (i := 2) rfl)) (hw _ (List.mem_of_getElem? (i := 5) rfl)) (by decide) (by decide) (W := 1) (by decide) (by rw [hml]; rfl) (a := b48) (argsL := [(.long q4), (.long q1), (.long q2), (.long q3), (.long (0 : Int64)), (.long (0 : Int64)), (.long q3), (.long (0 : Int64))]) (rest := [(.ref b48)]) (lenOf pd0_2 rfl) rfl rfl (Nat.le_of_eq rfl) (hb hby at_78) e51 (by decide) (by decide) ?_
  rintro _ T55 L56 X57 ⟨rfl, N58, K59, q60⟩
  have N58 := Fr.app N43 N58
  have R_b3 := R_b3.keep K59 (ninS ne_b3_b48 nin0)
  have R_b18 := R_b18.keep K59 (ninS ne_b18_b48 nin0)
  have R_b33 := R_b33.keep K59 (ninS ne_b33_b48 nin0)
  have Zs := Nat.le_trans Zs K59.1
  have R_b48 : Cs Z T55.heap b48 q4 q1 q2 q3 (0 : Int64) (0 : Int64) q3 (0 : Int64) := q60
  show Till p e below s (Q0 Z q1 q2 q3 q4 q5 q6 h0 n0) room_1.cells room_1.slots (T55.setTop (mkF m 81 #[.val (.long q1), .second, .val (.long q2), .second, .val (.long q3), .second, .val (.long q4), .second, .val (.long q5), .second, .val (.long q6), .second, .val (.ref b3), .val (.ref b18), .val (.ref b33), .unset, .unset, .unset, .unset, .unset, .unset, .unset, .unset, .unset, .unset, .unset, .unset, .unset, .unset] [(.ref b48)]))
  refine Till.pre (fun _ hr => XS.astore X57.here hx rfl (hb hby at_81) rfl rfl (l' := #[.val (.long q1), .second, .val (.long q2), .second, .val (.long q3), .second, .val (.long q4), .second, .val (.long q5), .second, .val (.long q6), .second, .val (.ref b3), .val (.ref b18), .val (.ref b33), .val (.ref b48), .unset, .unset, .unset, .unset, .unset, .unset, .unset, .unset, .unset, .unset, .unset, .unset, .unset]) rfl hr) ?_
  show Till p e below s (Q0 Z q1 q2 q3 q4 q5 q6 h0 n0) room_1.cells room_1.slots (T55.setTop (mkF m 83 #[.val (.long q1), .second, .val (.long q2), .second, .val (.long q3), .second, .val (.long q4), .second, .val (.long q5), .second, .val (.long q6), .second, .val (.ref b3), .val (.ref b18), .val (.ref b33), .val (.ref b48), .unset, .unset, .unset, .unset, .unset, .unset, .unset, .unset, .unset, .unset, .unset, .unset, .unset] []))
  refine Till.newO X57 hx hZ hown (hw _ (List.mem_of_getElem? (i := 0) rfl)) (hw _ (List.mem_of_getElem? (i := 1) rfl)) (hw _ (List.mem_of_getElem? (i := 2) rfl)) rfl (hb hby at_83) (by decide) (by decide) (fun T61 h62 b63 g64 X65 e66 E67 A68 D69 => ?_)
  have ne_b3_b63 : b3 ≠ b63 := Nat.ne_of_lt (Nat.lt_of_lt_of_le R_b3.lt (Nat.le_of_eq g64.symm))
  have ne_b18_b63 : b18 ≠ b63 := Nat.ne_of_lt (Nat.lt_of_lt_of_le R_b18.lt (Nat.le_of_eq g64.symm))
  have ne_b33_b63 : b33 ≠ b63 := Nat.ne_of_lt (Nat.lt_of_lt_of_le R_b33.lt (Nat.le_of_eq g64.symm))
  have ne_b48_b63 : b48 ≠ b63 := Nat.ne_of_lt (Nat.lt_of_lt_of_le R_b48.lt (Nat.le_of_eq g64.symm))
  have g_b63 : n0 ≤ b63 := Nat.le_trans Zs (Nat.le_of_eq g64.symm)
  have R_b3 := R_b3.ext E67
  have R_b18 := R_b18.ext E67
  have R_b33 := R_b33.ext E67
  have R_b48 := R_b48.ext E67
  have Zs := Nat.le_trans Zs E67.1
  have R_b63 : Cs Z h62 b63 (0 : Int64) (0 : Int64) (0 : Int64) (0 : Int64) (0 : Int64) (0 : Int64) (0 : Int64) (0 : Int64) := ⟨A68, D69 (Or.inr (hw _ (List.mem_of_getElem? (i := 15) rfl))) (ty := .long) (by decide), D69 (Or.inr (hw _ (List.mem_of_getElem? (i := 17) rfl))) (ty := .long) (by decide), D69 (Or.inr (hw _ (List.mem_of_getElem? (i := 19) rfl))) (ty := .long) (by decide), D69 (Or.inr (hw _ (List.mem_of_getElem? (i := 21) rfl))) (ty := .long) (by decide), D69 (Or.inr (hw _ (List.mem_of_getElem? (i := 23) rfl))) (ty := .long) (by decide), D69 (Or.inr (hw _ (List.mem_of_getElem? (i := 25) rfl))) (ty := .long) (by decide), D69 (Or.inr (hw _ (List.mem_of_getElem? (i := 27) rfl))) (ty := .long) (by decide), D69 (Or.inr (hw _ (List.mem_of_getElem? (i := 29) rfl))) (ty := .long) (by decide)⟩
  show Till p e below s (Q0 Z q1 q2 q3 q4 q5 q6 h0 n0) room_1.cells room_1.slots (T61.setTop (mkF m 86 #[.val (.long q1), .second, .val (.long q2), .second, .val (.long q3), .second, .val (.long q4), .second, .val (.long q5), .second, .val (.long q6), .second, .val (.ref b3), .val (.ref b18), .val (.ref b33), .val (.ref b48), .unset, .unset, .unset, .unset, .unset, .unset, .unset, .unset, .unset, .unset, .unset, .unset, .unset] [(.ref b63)]))
  refine Till.pre (fun _ hr => XS.dup X65.here hx rfl (hb hby at_86) rfl rfl hr) ?_
  show Till p e below s (Q0 Z q1 q2 q3 q4 q5 q6 h0 n0) room_1.cells room_1.slots (T61.setTop (mkF m 87 #[.val (.long q1), .second, .val (.long q2), .second, .val (.long q3), .second, .val (.long q4), .second, .val (.long q5), .second, .val (.long q6), .second, .val (.ref b3), .val (.ref b18), .val (.ref b33), .val (.ref b48), .unset, .unset, .unset, .unset, .unset, .unset, .unset, .unset, .unset, .unset, .unset, .unset, .unset] [(.ref b63), (.ref b63)]))
  refine Till.pre (fun _ hr => XS.lloadN X65.here hx rfl (hb hby at_87) rfl hr) ?_
  show Till p e below s (Q0 Z q1 q2 q3 q4 q5 q6 h0 n0) room_1.cells room_1.slots (T61.setTop (mkF m 88 #[.val (.long q1), .second, .val (.long q2), .second, .val (.long q3), .second, .val (.long q4), .second, .val (.long q5), .second, .val (.long q6), .second, .val (.ref b3), .val (.ref b18), .val (.ref b33), .val (.ref b48), .unset, .unset, .unset, .unset, .unset, .unset, .unset, .unset, .unset, .unset, .unset, .unset, .unset] [(.long q1), (.ref b63), (.ref b63)]))
  refine Till.pre (fun _ hr => XS.lloadN X65.here hx rfl (hb hby at_88) rfl hr) ?_
  show Till p e below s (Q0 Z q1 q2 q3 q4 q5 q6 h0 n0) room_1.cells room_1.slots (T61.setTop (mkF m 89 #[.val (.long q1), .second, .val (.long q2), .second, .val (.long q3), .second, .val (.long q4), .second, .val (.long q5), .second, .val (.long q6), .second, .val (.ref b3), .val (.ref b18), .val (.ref b33), .val (.ref b48), .unset, .unset, .unset, .unset, .unset, .unset, .unset, .unset, .unset, .unset, .unset, .unset, .unset] [(.long q2), (.long q1), (.ref b63), (.ref b63)]))
  refine Till.pre (fun _ hr => XS.lload X65.here hx rfl (hb hby at_89) rfl hr) ?_
  show Till p e below s (Q0 Z q1 q2 q3 q4 q5 q6 h0 n0) room_1.cells room_1.slots (T61.setTop (mkF m 91 #[.val (.long q1), .second, .val (.long q2), .second, .val (.long q3), .second, .val (.long q4), .second, .val (.long q5), .second, .val (.long q6), .second, .val (.ref b3), .val (.ref b18), .val (.ref b33), .val (.ref b48), .unset, .unset, .unset, .unset, .unset, .unset, .unset, .unset, .unset, .unset, .unset, .unset, .unset] [(.long q3), (.long q2), (.long q1), (.ref b63), (.ref b63)]))
  refine Till.pre (fun _ hr => XS.lload X65.here hx rfl (hb hby at_91) rfl hr) ?_
  show Till p e below s (Q0 Z q1 q2 q3 q4 q5 q6 h0 n0) room_1.cells room_1.slots (T61.setTop (mkF m 93 #[.val (.long q1), .second, .val (.long q2), .second, .val (.long q3), .second, .val (.long q4), .second, .val (.long q5), .second, .val (.long q6), .second, .val (.ref b3), .val (.ref b18), .val (.ref b33), .val (.ref b48), .unset, .unset, .unset, .unset, .unset, .unset, .unset, .unset, .unset, .unset, .unset, .unset, .unset] [(.long q5), (.long q3), (.long q2), (.long q1), (.ref b63), (.ref b63)]))
  refine Till.pre (fun _ hr => XS.lconst X65.here hx rfl (hb hby at_93) hr) ?_
  show Till p e below s (Q0 Z q1 q2 q3 q4 q5 q6 h0 n0) room_1.cells room_1.slots (T61.setTop (mkF m 94 #[.val (.long q1), .second, .val (.long q2), .second, .val (.long q3), .second, .val (.long q4), .second, .val (.long q5), .second, .val (.long q6), .second, .val (.ref b3), .val (.ref b18), .val (.ref b33), .val (.ref b48), .unset, .unset, .unset, .unset, .unset, .unset, .unset, .unset, .unset, .unset, .unset, .unset, .unset] [(.long (0 : Int64)), (.long q5), (.long q3), (.long q2), (.long q1), (.ref b63), (.ref b63)]))
  refine Till.pre (fun _ hr => XS.lconst X65.here hx rfl (hb hby at_94) hr) ?_
  show Till p e below s (Q0 Z q1 q2 q3 q4 q5 q6 h0 n0) room_1.cells room_1.slots (T61.setTop (mkF m 95 #[.val (.long q1), .second, .val (.long q2), .second, .val (.long q3), .second, .val (.long q4), .second, .val (.long q5), .second, .val (.long q6), .second, .val (.ref b3), .val (.ref b18), .val (.ref b33), .val (.ref b48), .unset, .unset, .unset, .unset, .unset, .unset, .unset, .unset, .unset, .unset, .unset, .unset, .unset] [(.long (0 : Int64)), (.long (0 : Int64)), (.long q5), (.long q3), (.long q2), (.long q1), (.ref b63), (.ref b63)]))
  refine Till.pre (fun _ hr => XS.lconst X65.here hx rfl (hb hby at_95) hr) ?_
  show Till p e below s (Q0 Z q1 q2 q3 q4 q5 q6 h0 n0) room_1.cells room_1.slots (T61.setTop (mkF m 96 #[.val (.long q1), .second, .val (.long q2), .second, .val (.long q3), .second, .val (.long q4), .second, .val (.long q5), .second, .val (.long q6), .second, .val (.ref b3), .val (.ref b18), .val (.ref b33), .val (.ref b48), .unset, .unset, .unset, .unset, .unset, .unset, .unset, .unset, .unset, .unset, .unset, .unset, .unset] [(.long (0 : Int64)), (.long (0 : Int64)), (.long (0 : Int64)), (.long q5), (.long q3), (.long q2), (.long q1), (.ref b63), (.ref b63)]))
  refine Till.pre (fun _ hr => XS.lload X65.here hx rfl (hb hby at_96) rfl hr) ?_
  show Till p e below s (Q0 Z q1 q2 q3 q4 q5 q6 h0 n0) room_1.cells room_1.slots (T61.setTop (mkF m 98 #[.val (.long q1), .second, .val (.long q2), .second, .val (.long q3), .second, .val (.long q4), .second, .val (.long q5), .second, .val (.long q6), .second, .val (.ref b3), .val (.ref b18), .val (.ref b33), .val (.ref b48), .unset, .unset, .unset, .unset, .unset, .unset, .unset, .unset, .unset, .unset, .unset, .unset, .unset] [(.long q4), (.long (0 : Int64)), (.long (0 : Int64)), (.long (0 : Int64)), (.long q5), (.long q3), (.long q2), (.long q1), (.ref b63), (.ref b63)]))
  refine Till.callC (rm1 l Z a0 hw b63 q1 q2 q3 q5 (0 : Int64) (0 : Int64) (0 : Int64) q4 (0 : Int64) (0 : Int64) (0 : Int64) (0 : Int64) (0 : Int64) (0 : Int64) (0 : Int64) (0 : Int64) h62 n0 Zs R_b63 g_b63) X65 hx hZ hown rfl (hw _ (List.mem_of_getElem? (i := 3) rfl)) (hw _ (List.mem_of_getElem? (i := 4) rfl)) (hw _ (List.mem_of_getElem? (i := 2) rfl)) (hw _ (List.mem_of_getElem? (i := 5) rfl)) (by decide) (by decide) (W := 1) (by decide) (by rw [hml]; rfl) (a := b63) (argsL := [(.long q1), (.long q2), (.long q3), (.long q5), (.long (0 : Int64)), (.long (0 : Int64)), (.long (0 : Int64)), (.long q4)]) (rest := [(.ref b63)]) (lenOf pd0_2 rfl) rfl rfl (Nat.le_of_eq rfl) (hb hby at_98) e66 (by decide) (by decide) ?_
  rintro _ T70 L71 X72 ⟨rfl, N73, K74, q75⟩
  have N73 := Fr.app N58 N73
  have R_b3 := R_b3.keep K74 (ninS ne_b3_b63 nin0)
  have R_b18 := R_b18.keep K74 (ninS ne_b18_b63 nin0)
  have R_b33 := R_b33.keep K74 (ninS ne_b33_b63 nin0)
  have R_b48 := R_b48.keep K74 (ninS ne_b48_b63 nin0)
  have Zs := Nat.le_trans Zs K74.1
  have R_b63 : Cs Z T70.heap b63 q1 q2 q3 q5 (0 : Int64) (0 : Int64) (0 : Int64) q4 := q75
  show Till p e below s (Q0 Z q1 q2 q3 q4 q5 q6 h0 n0) room_1.cells room_1.slots (T70.setTop (mkF m 101 #[.val (.long q1), .second, .val (.long q2), .second, .val (.long q3), .second, .val (.long q4), .second, .val (.long q5), .second, .val (.long q6), .second, .val (.ref b3), .val (.ref b18), .val (.ref b33), .val (.ref b48), .unset, .unset, .unset, .unset, .unset, .unset, .unset, .unset, .unset, .unset, .unset, .unset, .unset] [(.ref b63)]))
  refine Till.pre (fun _ hr => XS.astore X72.here hx rfl (hb hby at_101) rfl rfl (l' := #[.val (.long q1), .second, .val (.long q2), .second, .val (.long q3), .second, .val (.long q4), .second, .val (.long q5), .second, .val (.long q6), .second, .val (.ref b3), .val (.ref b18), .val (.ref b33), .val (.ref b48), .val (.ref b63), .unset, .unset, .unset, .unset, .unset, .unset, .unset, .unset, .unset, .unset, .unset, .unset]) rfl hr) ?_
  show Till p e below s (Q0 Z q1 q2 q3 q4 q5 q6 h0 n0) room_1.cells room_1.slots (T70.setTop (mkF m 103 #[.val (.long q1), .second, .val (.long q2), .second, .val (.long q3), .second, .val (.long q4), .second, .val (.long q5), .second, .val (.long q6), .second, .val (.ref b3), .val (.ref b18), .val (.ref b33), .val (.ref b48), .val (.ref b63), .unset, .unset, .unset, .unset, .unset, .unset, .unset, .unset, .unset, .unset, .unset, .unset] []))
  refine Till.pre (fun _ hr => XS.aload X72.here hx rfl (hb hby at_103) rfl rfl hr) ?_
  show Till p e below s (Q0 Z q1 q2 q3 q4 q5 q6 h0 n0) room_1.cells room_1.slots (T70.setTop (mkF m 105 #[.val (.long q1), .second, .val (.long q2), .second, .val (.long q3), .second, .val (.long q4), .second, .val (.long q5), .second, .val (.long q6), .second, .val (.ref b3), .val (.ref b18), .val (.ref b33), .val (.ref b48), .val (.ref b63), .unset, .unset, .unset, .unset, .unset, .unset, .unset, .unset, .unset, .unset, .unset, .unset] [(.ref b18)]))
  refine Till.callV (rm3 l Z a0 hw b18 q6 q5 q1 q2 q1 (0 : Int64) (0 : Int64) (0 : Int64) T70.heap n0 R_b18) R_b18.1 X72 hx hZ hown (hw _ (List.mem_of_getElem? (i := 30) rfl)) (hw _ (List.mem_of_getElem? (i := 31) rfl)) (hw _ (List.mem_of_getElem? (i := 33) rfl)) (hw _ (List.mem_of_getElem? (i := 32) rfl)) (hw _ (List.mem_of_getElem? (i := 2) rfl)) (hw _ (List.mem_of_getElem? (i := 34) rfl)) (by decide) (by decide) (W := 0) (by decide) (by rw [hml]; rfl) (a := b18) (argsL := []) (rest := []) (lenOf pd0_0 rfl) rfl rfl (Nat.le_of_eq rfl) (hb hby at_105) rfl (by decide) (by decide) ?_
  rintro _ T76 L77 X78 ⟨rfl, N79, e80⟩
  have N79 := Fr.app N73 N79
  show Till p e below s (Q0 Z q1 q2 q3 q4 q5 q6 h0 n0) room_1.cells room_1.slots (T76.setTop (mkF m 108 #[.val (.long q1), .second, .val (.long q2), .second, .val (.long q3), .second, .val (.long q4), .second, .val (.long q5), .second, .val (.long q6), .second, .val (.ref b3), .val (.ref b18), .val (.ref b33), .val (.ref b48), .val (.ref b63), .unset, .unset, .unset, .unset, .unset, .unset, .unset, .unset, .unset, .unset, .unset, .unset] [(.long (((q1 + (0 : Int64)) + (0 : Int64)) + (0 : Int64)))]))
  refine Till.pre (fun _ hr => XS.lstore X78.here hx rfl (hb hby at_108) rfl (l' := #[.val (.long q1), .second, .val (.long q2), .second, .val (.long q3), .second, .val (.long q4), .second, .val (.long q5), .second, .val (.long q6), .second, .val (.ref b3), .val (.ref b18), .val (.ref b33), .val (.ref b48), .val (.ref b63), .val (.long (((q1 + (0 : Int64)) + (0 : Int64)) + (0 : Int64))), .second, .unset, .unset, .unset, .unset, .unset, .unset, .unset, .unset, .unset, .unset]) rfl hr) ?_
  show Till p e below s (Q0 Z q1 q2 q3 q4 q5 q6 h0 n0) room_1.cells room_1.slots (T76.setTop (mkF m 110 #[.val (.long q1), .second, .val (.long q2), .second, .val (.long q3), .second, .val (.long q4), .second, .val (.long q5), .second, .val (.long q6), .second, .val (.ref b3), .val (.ref b18), .val (.ref b33), .val (.ref b48), .val (.ref b63), .val (.long (((q1 + (0 : Int64)) + (0 : Int64)) + (0 : Int64))), .second, .unset, .unset, .unset, .unset, .unset, .unset, .unset, .unset, .unset, .unset] []))
  refine Till.pre (fun _ hr => XS.aload X78.here hx rfl (hb hby at_110) rfl rfl hr) ?_
  show Till p e below s (Q0 Z q1 q2 q3 q4 q5 q6 h0 n0) room_1.cells room_1.slots (T76.setTop (mkF m 112 #[.val (.long q1), .second, .val (.long q2), .second, .val (.long q3), .second, .val (.long q4), .second, .val (.long q5), .second, .val (.long q6), .second, .val (.ref b3), .val (.ref b18), .val (.ref b33), .val (.ref b48), .val (.ref b63), .val (.long (((q1 + (0 : Int64)) + (0 : Int64)) + (0 : Int64))), .second, .unset, .unset, .unset, .unset, .unset, .unset, .unset, .unset, .unset, .unset] [(.ref b33)]))
  refine Till.callV (rm3 l Z a0 hw b33 q3 q4 q6 q5 (0 : Int64) q2 (0 : Int64) (0 : Int64) T70.heap n0 R_b33) R_b33.1 X78 hx hZ hown (hw _ (List.mem_of_getElem? (i := 30) rfl)) (hw _ (List.mem_of_getElem? (i := 31) rfl)) (hw _ (List.mem_of_getElem? (i := 33) rfl)) (hw _ (List.mem_of_getElem? (i := 32) rfl)) (hw _ (List.mem_of_getElem? (i := 2) rfl)) (hw _ (List.mem_of_getElem? (i := 34) rfl)) (by decide) (by decide) (W := 0) (by decide) (by rw [hml]; rfl) (a := b33) (argsL := []) (rest := []) (lenOf pd0_0 rfl) rfl rfl (Nat.le_of_eq rfl) (hb hby at_112) e80 (by decide) (by decide) ?_
  rintro _ T81 L82 X83 ⟨rfl, N84, e85⟩
  have N84 := Fr.app N79 N84
  show Till p e below s (Q0 Z q1 q2 q3 q4 q5 q6 h0 n0) room_1.cells room_1.slots (T81.setTop (mkF m 115 #[.val (.long q1), .second, .val (.long q2), .second, .val (.long q3), .second, .val (.long q4), .second, .val (.long q5), .second, .val (.long q6), .second, .val (.ref b3), .val (.ref b18), .val (.ref b33), .val (.ref b48), .val (.ref b63), .val (.long (((q1 + (0 : Int64)) + (0 : Int64)) + (0 : Int64))), .second, .unset, .unset, .unset, .unset, .unset, .unset, .unset, .unset, .unset, .unset] [(.long ((((0 : Int64) + q2) + (0 : Int64)) + (0 : Int64)))]))
  refine Till.pre (fun _ hr => XS.lstore X83.here hx rfl (hb hby at_115) rfl (l' := #[.val (.long q1), .second, .val (.long q2), .second, .val (.long q3), .second, .val (.long q4), .second, .val (.long q5), .second, .val (.long q6), .second, .val (.ref b3), .val (.ref b18), .val (.ref b33), .val (.ref b48), .val (.ref b63), .val (.long (((q1 + (0 : Int64)) + (0 : Int64)) + (0 : Int64))), .second, .val (.long ((((0 : Int64) + q2) + (0 : Int64)) + (0 : Int64))), .second, .unset, .unset, .unset, .unset, .unset, .unset, .unset, .unset]) rfl hr) ?_
  show Till p e below s (Q0 Z q1 q2 q3 q4 q5 q6 h0 n0) room_1.cells room_1.slots (T81.setTop (mkF m 117 #[.val (.long q1), .second, .val (.long q2), .second, .val (.long q3), .second, .val (.long q4), .second, .val (.long q5), .second, .val (.long q6), .second, .val (.ref b3), .val (.ref b18), .val (.ref b33), .val (.ref b48), .val (.ref b63), .val (.long (((q1 + (0 : Int64)) + (0 : Int64)) + (0 : Int64))), .second, .val (.long ((((0 : Int64) + q2) + (0 : Int64)) + (0 : Int64))), .second, .unset, .unset, .unset, .unset, .unset, .unset, .unset, .unset] []))
  refine Till.pre (fun _ hr => XS.aload X83.here hx rfl (hb hby at_117) rfl rfl hr) ?_
  show Till p e below s (Q0 Z q1 q2 q3 q4 q5 q6 h0 n0) room_1.cells room_1.slots (T81.setTop (mkF m 119 #[.val (.long q1), .second, .val (.long q2), .second, .val (.long q3), .second, .val (.long q4), .second, .val (.long q5), .second, .val (.long q6), .second, .val (.ref b3), .val (.ref b18), .val (.ref b33), .val (.ref b48), .val (.ref b63), .val (.long (((q1 + (0 : Int64)) + (0 : Int64)) + (0 : Int64))), .second, .val (.long ((((0 : Int64) + q2) + (0 : Int64)) + (0 : Int64))), .second, .unset, .unset, .unset, .unset, .unset, .unset, .unset, .unset] [(.ref b48)]))
  refine Till.callV (rm3 l Z a0 hw b48 q4 q1 q2 q3 (0 : Int64) (0 : Int64) q3 (0 : Int64) T70.heap n0 R_b48) R_b48.1 X83 hx hZ hown (hw _ (List.mem_of_getElem? (i := 30) rfl)) (hw _ (List.mem_of_getElem? (i := 31) rfl)) (hw _ (List.mem_of_getElem? (i := 33) rfl)) (hw _ (List.mem_of_getElem? (i := 32) rfl)) (hw _ (List.mem_of_getElem? (i := 2) rfl)) (hw _ (List.mem_of_getElem? (i := 34) rfl)) (by decide) (by decide) (W := 0) (by decide) (by rw [hml]; rfl) (a := b48) (argsL := []) (rest := []) (lenOf pd0_0 rfl) rfl rfl (Nat.le_of_eq rfl) (hb hby at_119) e85 (by decide) (by decide) ?_
  rintro _ T86 L87 X88 ⟨rfl, N89, e90⟩
  have N89 := Fr.app N84 N89
  show Till p e below s (Q0 Z q1 q2 q3 q4 q5 q6 h0 n0) room_1.cells room_1.slots (T86.setTop (mkF m 122 #[.val (.long q1), .second, .val (.long q2), .second, .val (.long q3), .second, .val (.long q4), .second, .val (.long q5), .second, .val (.long q6), .second, .val (.ref b3), .val (.ref b18), .val (.ref b33), .val (.ref b48), .val (.ref b63), .val (.long (((q1 + (0 : Int64)) + (0 : Int64)) + (0 : Int64))), .second, .val (.long ((((0 : Int64) + q2) + (0 : Int64)) + (0 : Int64))), .second, .unset, .unset, .unset, .unset, .unset, .unset, .unset, .unset] [(.long ((((0 : Int64) + (0 : Int64)) + q3) + (0 : Int64)))]))
  refine Till.pre (fun _ hr => XS.lstore X88.here hx rfl (hb hby at_122) rfl (l' := #[.val (.long q1), .second, .val (.long q2), .second, .val (.long q3), .second, .val (.long q4), .second, .val (.long q5), .second, .val (.long q6), .second, .val (.ref b3), .val (.ref b18), .val (.ref b33), .val (.ref b48), .val (.ref b63), .val (.long (((q1 + (0 : Int64)) + (0 : Int64)) + (0 : Int64))), .second, .val (.long ((((0 : Int64) + q2) + (0 : Int64)) + (0 : Int64))), .second, .val (.long ((((0 : Int64) + (0 : Int64)) + q3) + (0 : Int64))), .second, .unset, .unset, .unset, .unset, .unset, .unset]) rfl hr) ?_
  show Till p e below s (Q0 Z q1 q2 q3 q4 q5 q6 h0 n0) room_1.cells room_1.slots (T86.setTop (mkF m 124 #[.val (.long q1), .second, .val (.long q2), .second, .val (.long q3), .second, .val (.long q4), .second, .val (.long q5), .second, .val (.long q6), .second, .val (.ref b3), .val (.ref b18), .val (.ref b33), .val (.ref b48), .val (.ref b63), .val (.long (((q1 + (0 : Int64)) + (0 : Int64)) + (0 : Int64))), .second, .val (.long ((((0 : Int64) + q2) + (0 : Int64)) + (0 : Int64))), .second, .val (.long ((((0 : Int64) + (0 : Int64)) + q3) + (0 : Int64))), .second, .unset, .unset, .unset, .unset, .unset, .unset] []))
  refine Till.pre (fun _ hr => XS.aload X88.here hx rfl (hb hby at_124) rfl rfl hr) ?_
  show Till p e below s (Q0 Z q1 q2 q3 q4 q5 q6 h0 n0) room_1.cells room_1.slots (T86.setTop (mkF m 126 #[.val (.long q1), .second, .val (.long q2), .second, .val (.long q3), .second, .val (.long q4), .second, .val (.long q5), .second, .val (.long q6), .second, .val (.ref b3), .val (.ref b18), .val (.ref b33), .val (.ref b48), .val (.ref b63), .val (.long (((q1 + (0 : Int64)) + (0 : Int64)) + (0 : Int64))), .second, .val (.long ((((0 : Int64) + q2) + (0 : Int64)) + (0 : Int64))), .second, .val (.long ((((0 : Int64) + (0 : Int64)) + q3) + (0 : Int64))), .second, .unset, .unset, .unset, .unset, .unset, .unset] [(.ref b63)]))
  refine Till.callV (rm3 l Z a0 hw b63 q1 q2 q3 q5 (0 : Int64) (0 : Int64) (0 : Int64) q4 T70.heap n0 R_b63) R_b63.1 X88 hx hZ hown (hw _ (List.mem_of_getElem? (i := 30) rfl)) (hw _ (List.mem_of_getElem? (i := 31) rfl)) (hw _ (List.mem_of_getElem? (i := 33) rfl)) (hw _ (List.mem_of_getElem? (i := 32) rfl)) (hw _ (List.mem_of_getElem? (i := 2) rfl)) (hw _ (List.mem_of_getElem? (i := 34) rfl)) (by decide) (by decide) (W := 0) (by decide) (by rw [hml]; rfl) (a := b63) (argsL := []) (rest := []) (lenOf pd0_0 rfl) rfl rfl (Nat.le_of_eq rfl) (hb hby at_126) e90 (by decide) (by decide) ?_
  rintro _ T91 L92 X93 ⟨rfl, N94, e95⟩
  have N94 := Fr.app N89 N94
  show Till p e below s (Q0 Z q1 q2 q3 q4 q5 q6 h0 n0) room_1.cells room_1.slots (T91.setTop (mkF m 129 #[.val (.long q1), .second, .val (.long q2), .second, .val (.long q3), .second, .val (.long q4), .second, .val (.long q5), .second, .val (.long q6), .second, .val (.ref b3), .val (.ref b18), .val (.ref b33), .val (.ref b48), .val (.ref b63), .val (.long (((q1 + (0 : Int64)) + (0 : Int64)) + (0 : Int64))), .second, .val (.long ((((0 : Int64) + q2) + (0 : Int64)) + (0 : Int64))), .second, .val (.long ((((0 : Int64) + (0 : Int64)) + q3) + (0 : Int64))), .second, .unset, .unset, .unset, .unset, .unset, .unset] [(.long ((((0 : Int64) + (0 : Int64)) + (0 : Int64)) + q4))]))
  refine Till.pre (fun _ hr => XS.lstore X93.here hx rfl (hb hby at_129) rfl (l' := #[.val (.long q1), .second, .val (.long q2), .second, .val (.long q3), .second, .val (.long q4), .second, .val (.long q5), .second, .val (.long q6), .second, .val (.ref b3), .val (.ref b18), .val (.ref b33), .val (.ref b48), .val (.ref b63), .val (.long (((q1 + (0 : Int64)) + (0 : Int64)) + (0 : Int64))), .second, .val (.long ((((0 : Int64) + q2) + (0 : Int64)) + (0 : Int64))), .second, .val (.long ((((0 : Int64) + (0 : Int64)) + q3) + (0 : Int64))), .second, .val (.long ((((0 : Int64) + (0 : Int64)) + (0 : Int64)) + q4)), .second, .unset, .unset, .unset, .unset]) rfl hr) ?_
  show Till p e below s (Q0 Z q1 q2 q3 q4 q5 q6 h0 n0) room_1.cells room_1.slots (T91.setTop (mkF m 131 #[.val (.long q1), .second, .val (.long q2), .second, .val (.long q3), .second, .val (.long q4), .second, .val (.long q5), .second, .val (.long q6), .second, .val (.ref b3), .val (.ref b18), .val (.ref b33), .val (.ref b48), .val (.ref b63), .val (.long (((q1 + (0 : Int64)) + (0 : Int64)) + (0 : Int64))), .second, .val (.long ((((0 : Int64) + q2) + (0 : Int64)) + (0 : Int64))), .second, .val (.long ((((0 : Int64) + (0 : Int64)) + q3) + (0 : Int64))), .second, .val (.long ((((0 : Int64) + (0 : Int64)) + (0 : Int64)) + q4)), .second, .unset, .unset, .unset, .unset] []))
  refine Till.pre (fun _ hr => XS.aload X93.here hx rfl (hb hby at_131) rfl rfl hr) ?_
  show Till p e below s (Q0 Z q1 q2 q3 q4 q5 q6 h0 n0) room_1.cells room_1.slots (T91.setTop (mkF m 133 #[.val (.long q1), .second, .val (.long q2), .second, .val (.long q3), .second, .val (.long q4), .second, .val (.long q5), .second, .val (.long q6), .second, .val (.ref b3), .val (.ref b18), .val (.ref b33), .val (.ref b48), .val (.ref b63), .val (.long (((q1 + (0 : Int64)) + (0 : Int64)) + (0 : Int64))), .second, .val (.long ((((0 : Int64) + q2) + (0 : Int64)) + (0 : Int64))), .second, .val (.long ((((0 : Int64) + (0 : Int64)) + q3) + (0 : Int64))), .second, .val (.long ((((0 : Int64) + (0 : Int64)) + (0 : Int64)) + q4)), .second, .unset, .unset, .unset, .unset] [(.ref b3)]))
  refine Till.callV (rm3 l Z a0 hw b3 q5 q6 q5 q6 q1 q2 q3 q4 T70.heap n0 R_b3) R_b3.1 X93 hx hZ hown (hw _ (List.mem_of_getElem? (i := 30) rfl)) (hw _ (List.mem_of_getElem? (i := 31) rfl)) (hw _ (List.mem_of_getElem? (i := 33) rfl)) (hw _ (List.mem_of_getElem? (i := 32) rfl)) (hw _ (List.mem_of_getElem? (i := 2) rfl)) (hw _ (List.mem_of_getElem? (i := 34) rfl)) (by decide) (by decide) (W := 0) (by decide) (by rw [hml]; rfl) (a := b3) (argsL := []) (rest := []) (lenOf pd0_0 rfl) rfl rfl (Nat.le_of_eq rfl) (hb hby at_133) e95 (by decide) (by decide) ?_
  rintro _ T96 L97 X98 ⟨rfl, N99, e100⟩
  have N99 := Fr.app N94 N99
  show Till p e below s (Q0 Z q1 q2 q3 q4 q5 q6 h0 n0) room_1.cells room_1.slots (T96.setTop (mkF m 136 #[.val (.long q1), .second, .val (.long q2), .second, .val (.long q3), .second, .val (.long q4), .second, .val (.long q5), .second, .val (.long q6), .second, .val (.ref b3), .val (.ref b18), .val (.ref b33), .val (.ref b48), .val (.ref b63), .val (.long (((q1 + (0 : Int64)) + (0 : Int64)) + (0 : Int64))), .second, .val (.long ((((0 : Int64) + q2) + (0 : Int64)) + (0 : Int64))), .second, .val (.long ((((0 : Int64) + (0 : Int64)) + q3) + (0 : Int64))), .second, .val (.long ((((0 : Int64) + (0 : Int64)) + (0 : Int64)) + q4)), .second, .unset, .unset, .unset, .unset] [(.long (((q1 + q2) + q3) + q4))]))
  refine Till.pre (fun _ hr => XS.lstore X98.here hx rfl (hb hby at_136) rfl (l' := #[.val (.long q1), .second, .val (.long q2), .second, .val (.long q3), .second, .val (.long q4), .second, .val (.long q5), .second, .val (.long q6), .second, .val (.ref b3), .val (.ref b18), .val (.ref b33), .val (.ref b48), .val (.ref b63), .val (.long (((q1 + (0 : Int64)) + (0 : Int64)) + (0 : Int64))), .second, .val (.long ((((0 : Int64) + q2) + (0 : Int64)) + (0 : Int64))), .second, .val (.long ((((0 : Int64) + (0 : Int64)) + q3) + (0 : Int64))), .second, .val (.long ((((0 : Int64) + (0 : Int64)) + (0 : Int64)) + q4)), .second, .val (.long (((q1 + q2) + q3) + q4)), .second, .unset, .unset]) rfl hr) ?_
  show Till p e below s (Q0 Z q1 q2 q3 q4 q5 q6 h0 n0) room_1.cells room_1.slots (T96.setTop (mkF m 138 #[.val (.long q1), .second, .val (.long q2), .second, .val (.long q3), .second, .val (.long q4), .second, .val (.long q5), .second, .val (.long q6), .second, .val (.ref b3), .val (.ref b18), .val (.ref b33), .val (.ref b48), .val (.ref b63), .val (.long (((q1 + (0 : Int64)) + (0 : Int64)) + (0 : Int64))), .second, .val (.long ((((0 : Int64) + q2) + (0 : Int64)) + (0 : Int64))), .second, .val (.long ((((0 : Int64) + (0 : Int64)) + q3) + (0 : Int64))), .second, .val (.long ((((0 : Int64) + (0 : Int64)) + (0 : Int64)) + q4)), .second, .val (.long (((q1 + q2) + q3) + q4)), .second, .unset, .unset] []))
  refine Till.pre (fun _ hr => XS.lload X98.here hx rfl (hb hby at_138) rfl hr) ?_
  show Till p e below s (Q0 Z q1 q2 q3 q4 q5 q6 h0 n0) room_1.cells room_1.slots (T96.setTop (mkF m 140 #[.val (.long q1), .second, .val (.long q2), .second, .val (.long q3), .second, .val (.long q4), .second, .val (.long q5), .second, .val (.long q6), .second, .val (.ref b3), .val (.ref b18), .val (.ref b33), .val (.ref b48), .val (.ref b63), .val (.long (((q1 + (0 : Int64)) + (0 : Int64)) + (0 : Int64))), .second, .val (.long ((((0 : Int64) + q2) + (0 : Int64)) + (0 : Int64))), .second, .val (.long ((((0 : Int64) + (0 : Int64)) + q3) + (0 : Int64))), .second, .val (.long ((((0 : Int64) + (0 : Int64)) + (0 : Int64)) + q4)), .second, .val (.long (((q1 + q2) + q3) + q4)), .second, .unset, .unset] [(.long (((q1 + (0 : Int64)) + (0 : Int64)) + (0 : Int64)))]))
  refine Till.pre (fun _ hr => XS.lloadN X98.here hx rfl (hb hby at_140) rfl hr) ?_
  show Till p e below s (Q0 Z q1 q2 q3 q4 q5 q6 h0 n0) room_1.cells room_1.slots (T96.setTop (mkF m 141 #[.val (.long q1), .second, .val (.long q2), .second, .val (.long q3), .second, .val (.long q4), .second, .val (.long q5), .second, .val (.long q6), .second, .val (.ref b3), .val (.ref b18), .val (.ref b33), .val (.ref b48), .val (.ref b63), .val (.long (((q1 + (0 : Int64)) + (0 : Int64)) + (0 : Int64))), .second, .val (.long ((((0 : Int64) + q2) + (0 : Int64)) + (0 : Int64))), .second, .val (.long ((((0 : Int64) + (0 : Int64)) + q3) + (0 : Int64))), .second, .val (.long ((((0 : Int64) + (0 : Int64)) + (0 : Int64)) + q4)), .second, .val (.long (((q1 + q2) + q3) + q4)), .second, .unset, .unset] [(.long q1), (.long (((q1 + (0 : Int64)) + (0 : Int64)) + (0 : Int64)))]))
  refine Till.pre (fun _ hr => XS.lcmp X98.here hx rfl (hb hby at_141) rfl hr) ?_
  show Till p e below s (Q0 Z q1 q2 q3 q4 q5 q6 h0 n0) room_1.cells room_1.slots (T96.setTop (mkF m 142 #[.val (.long q1), .second, .val (.long q2), .second, .val (.long q3), .second, .val (.long q4), .second, .val (.long q5), .second, .val (.long q6), .second, .val (.ref b3), .val (.ref b18), .val (.ref b33), .val (.ref b48), .val (.ref b63), .val (.long (((q1 + (0 : Int64)) + (0 : Int64)) + (0 : Int64))), .second, .val (.long ((((0 : Int64) + q2) + (0 : Int64)) + (0 : Int64))), .second, .val (.long ((((0 : Int64) + (0 : Int64)) + q3) + (0 : Int64))), .second, .val (.long ((((0 : Int64) + (0 : Int64)) + (0 : Int64)) + q4)), .second, .val (.long (((q1 + q2) + q3) + q4)), .second, .unset, .unset] [(.int (lcmpW (((q1 + (0 : Int64)) + (0 : Int64)) + (0 : Int64)) q1))]))
  have J173_104 : ∀ (v173s0 : Int32) (hv173s0 : v173s0 = (if ((((q1 + (0 : Int64)) + (0 : Int64)) + (0 : Int64)) = q1) then (if (((((0 : Int64) + q2) + (0 : Int64)) + (0 : Int64)) = q2) then (if (((((0 : Int64) + (0 : Int64)) + q3) + (0 : Int64)) = q3) then (if (((((0 : Int64) + (0 : Int64)) + (0 : Int64)) + q4) = q4) then (1 : Int32) else (0 : Int32)) else (0 : Int32)) else (0 : Int32)) else (0 : Int32))), Till p e below s (Q0 Z q1 q2 q3 q4 q5 q6 h0 n0) room_1.cells room_1.slots (T96.setTop (mkF m 173 #[.val (.long q1), .second, .val (.long q2), .second, .val (.long q3), .second, .val (.long q4), .second, .val (.long q5), .second, .val (.long q6), .second, .val (.ref b3), .val (.ref b18), .val (.ref b33), .val (.ref b48), .val (.ref b63), .val (.long (((q1 + (0 : Int64)) + (0 : Int64)) + (0 : Int64))), .second, .val (.long ((((0 : Int64) + q2) + (0 : Int64)) + (0 : Int64))), .second, .val (.long ((((0 : Int64) + (0 : Int64)) + q3) + (0 : Int64))), .second, .val (.long ((((0 : Int64) + (0 : Int64)) + (0 : Int64)) + q4)), .second, .val (.long (((q1 + q2) + q3) + q4)), .second, .unset, .unset] [(.int v173s0)])) := by
    intro v173s0 hv173s0
    show Till p e below s (Q0 Z q1 q2 q3 q4 q5 q6 h0 n0) room_1.cells room_1.slots (T96.setTop (mkF m 173 #[.val (.long q1), .second, .val (.long q2), .second, .val (.long q3), .second, .val (.long q4), .second, .val (.long q5), .second, .val (.long q6), .second, .val (.ref b3), .val (.ref b18), .val (.ref b33), .val (.ref b48), .val (.ref b63), .val (.long (((q1 + (0 : Int64)) + (0 : Int64)) + (0 : Int64))), .second, .val (.long ((((0 : Int64) + q2) + (0 : Int64)) + (0 : Int64))), .second, .val (.long ((((0 : Int64) + (0 : Int64)) + q3) + (0 : Int64))), .second, .val (.long ((((0 : Int64) + (0 : Int64)) + (0 : Int64)) + q4)), .second, .val (.long (((q1 + q2) + q3) + q4)), .second, .unset, .unset] [(.int v173s0)]))
    refine Till.pre (fun _ hr => XS.istore X98.here hx rfl (hb hby at_173) rfl (l' := #[.val (.long q1), .second, .val (.long q2), .second, .val (.long q3), .second, .val (.long q4), .second, .val (.long q5), .second, .val (.long q6), .second, .val (.ref b3), .val (.ref b18), .val (.ref b33), .val (.ref b48), .val (.ref b63), .val (.long (((q1 + (0 : Int64)) + (0 : Int64)) + (0 : Int64))), .second, .val (.long ((((0 : Int64) + q2) + (0 : Int64)) + (0 : Int64))), .second, .val (.long ((((0 : Int64) + (0 : Int64)) + q3) + (0 : Int64))), .second, .val (.long ((((0 : Int64) + (0 : Int64)) + (0 : Int64)) + q4)), .second, .val (.long (((q1 + q2) + q3) + q4)), .second, .val (.int v173s0), .unset]) rfl hr) ?_
    show Till p e below s (Q0 Z q1 q2 q3 q4 q5 q6 h0 n0) room_1.cells room_1.slots (T96.setTop (mkF m 175 #[.val (.long q1), .second, .val (.long q2), .second, .val (.long q3), .second, .val (.long q4), .second, .val (.long q5), .second, .val (.long q6), .second, .val (.ref b3), .val (.ref b18), .val (.ref b33), .val (.ref b48), .val (.ref b63), .val (.long (((q1 + (0 : Int64)) + (0 : Int64)) + (0 : Int64))), .second, .val (.long ((((0 : Int64) + q2) + (0 : Int64)) + (0 : Int64))), .second, .val (.long ((((0 : Int64) + (0 : Int64)) + q3) + (0 : Int64))), .second, .val (.long ((((0 : Int64) + (0 : Int64)) + (0 : Int64)) + q4)), .second, .val (.long (((q1 + q2) + q3) + q4)), .second, .val (.int v173s0), .unset] []))
    refine Till.pre (fun _ hr => XS.lload X98.here hx rfl (hb hby at_175) rfl hr) ?_
    show Till p e below s (Q0 Z q1 q2 q3 q4 q5 q6 h0 n0) room_1.cells room_1.slots (T96.setTop (mkF m 177 #[.val (.long q1), .second, .val (.long q2), .second, .val (.long q3), .second, .val (.long q4), .second, .val (.long q5), .second, .val (.long q6), .second, .val (.ref b3), .val (.ref b18), .val (.ref b33), .val (.ref b48), .val (.ref b63), .val (.long (((q1 + (0 : Int64)) + (0 : Int64)) + (0 : Int64))), .second, .val (.long ((((0 : Int64) + q2) + (0 : Int64)) + (0 : Int64))), .second, .val (.long ((((0 : Int64) + (0 : Int64)) + q3) + (0 : Int64))), .second, .val (.long ((((0 : Int64) + (0 : Int64)) + (0 : Int64)) + q4)), .second, .val (.long (((q1 + q2) + q3) + q4)), .second, .val (.int v173s0), .unset] [(.long (((q1 + q2) + q3) + q4))]))
    refine Till.pre (fun _ hr => XS.lload X98.here hx rfl (hb hby at_177) rfl hr) ?_
    show Till p e below s (Q0 Z q1 q2 q3 q4 q5 q6 h0 n0) room_1.cells room_1.slots (T96.setTop (mkF m 179 #[.val (.long q1), .second, .val (.long q2), .second, .val (.long q3), .second, .val (.long q4), .second, .val (.long q5), .second, .val (.long q6), .second, .val (.ref b3), .val (.ref b18), .val (.ref b33), .val (.ref b48), .val (.ref b63), .val (.long (((q1 + (0 : Int64)) + (0 : Int64)) + (0 : Int64))), .second, .val (.long ((((0 : Int64) + q2) + (0 : Int64)) + (0 : Int64))), .second, .val (.long ((((0 : Int64) + (0 : Int64)) + q3) + (0 : Int64))), .second, .val (.long ((((0 : Int64) + (0 : Int64)) + (0 : Int64)) + q4)), .second, .val (.long (((q1 + q2) + q3) + q4)), .second, .val (.int v173s0), .unset] [(.long (((q1 + (0 : Int64)) + (0 : Int64)) + (0 : Int64))), (.long (((q1 + q2) + q3) + q4))]))
    refine Till.pre (fun _ hr => XS.lload X98.here hx rfl (hb hby at_179) rfl hr) ?_
    show Till p e below s (Q0 Z q1 q2 q3 q4 q5 q6 h0 n0) room_1.cells room_1.slots (T96.setTop (mkF m 181 #[.val (.long q1), .second, .val (.long q2), .second, .val (.long q3), .second, .val (.long q4), .second, .val (.long q5), .second, .val (.long q6), .second, .val (.ref b3), .val (.ref b18), .val (.ref b33), .val (.ref b48), .val (.ref b63), .val (.long (((q1 + (0 : Int64)) + (0 : Int64)) + (0 : Int64))), .second, .val (.long ((((0 : Int64) + q2) + (0 : Int64)) + (0 : Int64))), .second, .val (.long ((((0 : Int64) + (0 : Int64)) + q3) + (0 : Int64))), .second, .val (.long ((((0 : Int64) + (0 : Int64)) + (0 : Int64)) + q4)), .second, .val (.long (((q1 + q2) + q3) + q4)), .second, .val (.int v173s0), .unset] [(.long ((((0 : Int64) + q2) + (0 : Int64)) + (0 : Int64))), (.long (((q1 + (0 : Int64)) + (0 : Int64)) + (0 : Int64))), (.long (((q1 + q2) + q3) + q4))]))
    refine Till.pre (fun _ hr => XS.ladd X98.here hx rfl (hb hby at_181) rfl hr) ?_
    show Till p e below s (Q0 Z q1 q2 q3 q4 q5 q6 h0 n0) room_1.cells room_1.slots (T96.setTop (mkF m 182 #[.val (.long q1), .second, .val (.long q2), .second, .val (.long q3), .second, .val (.long q4), .second, .val (.long q5), .second, .val (.long q6), .second, .val (.ref b3), .val (.ref b18), .val (.ref b33), .val (.ref b48), .val (.ref b63), .val (.long (((q1 + (0 : Int64)) + (0 : Int64)) + (0 : Int64))), .second, .val (.long ((((0 : Int64) + q2) + (0 : Int64)) + (0 : Int64))), .second, .val (.long ((((0 : Int64) + (0 : Int64)) + q3) + (0 : Int64))), .second, .val (.long ((((0 : Int64) + (0 : Int64)) + (0 : Int64)) + q4)), .second, .val (.long (((q1 + q2) + q3) + q4)), .second, .val (.int v173s0), .unset] [(.long ((((q1 + (0 : Int64)) + (0 : Int64)) + (0 : Int64)) + ((((0 : Int64) + q2) + (0 : Int64)) + (0 : Int64)))), (.long (((q1 + q2) + q3) + q4))]))
    refine Till.pre (fun _ hr => XS.lload X98.here hx rfl (hb hby at_182) rfl hr) ?_
    show Till p e below s (Q0 Z q1 q2 q3 q4 q5 q6 h0 n0) room_1.cells room_1.slots (T96.setTop (mkF m 184 #[.val (.long q1), .second, .val (.long q2), .second, .val (.long q3), .second, .val (.long q4), .second, .val (.long q5), .second, .val (.long q6), .second, .val (.ref b3), .val (.ref b18), .val (.ref b33), .val (.ref b48), .val (.ref b63), .val (.long (((q1 + (0 : Int64)) + (0 : Int64)) + (0 : Int64))), .second, .val (.long ((((0 : Int64) + q2) + (0 : Int64)) + (0 : Int64))), .second, .val (.long ((((0 : Int64) + (0 : Int64)) + q3) + (0 : Int64))), .second, .val (.long ((((0 : Int64) + (0 : Int64)) + (0 : Int64)) + q4)), .second, .val (.long (((q1 + q2) + q3) + q4)), .second, .val (.int v173s0), .unset] [(.long ((((0 : Int64) + (0 : Int64)) + q3) + (0 : Int64))), (.long ((((q1 + (0 : Int64)) + (0 : Int64)) + (0 : Int64)) + ((((0 : Int64) + q2) + (0 : Int64)) + (0 : Int64)))), (.long (((q1 + q2) + q3) + q4))]))
    refine Till.pre (fun _ hr => XS.ladd X98.here hx rfl (hb hby at_184) rfl hr) ?_
    show Till p e below s (Q0 Z q1 q2 q3 q4 q5 q6 h0 n0) room_1.cells room_1.slots (T96.setTop (mkF m 185 #[.val (.long q1), .second, .val (.long q2), .second, .val (.long q3), .second, .val (.long q4), .second, .val (.long q5), .second, .val (.long q6), .second, .val (.ref b3), .val (.ref b18), .val (.ref b33), .val (.ref b48), .val (.ref b63), .val (.long (((q1 + (0 : Int64)) + (0 : Int64)) + (0 : Int64))), .second, .val (.long ((((0 : Int64) + q2) + (0 : Int64)) + (0 : Int64))), .second, .val (.long ((((0 : Int64) + (0 : Int64)) + q3) + (0 : Int64))), .second, .val (.long ((((0 : Int64) + (0 : Int64)) + (0 : Int64)) + q4)), .second, .val (.long (((q1 + q2) + q3) + q4)), .second, .val (.int v173s0), .unset] [(.long (((((q1 + (0 : Int64)) + (0 : Int64)) + (0 : Int64)) + ((((0 : Int64) + q2) + (0 : Int64)) + (0 : Int64))) + ((((0 : Int64) + (0 : Int64)) + q3) + (0 : Int64)))), (.long (((q1 + q2) + q3) + q4))]))
    refine Till.pre (fun _ hr => XS.lload X98.here hx rfl (hb hby at_185) rfl hr) ?_
    show Till p e below s (Q0 Z q1 q2 q3 q4 q5 q6 h0 n0) room_1.cells room_1.slots (T96.setTop (mkF m 187 #[.val (.long q1), .second, .val (.long q2), .second, .val (.long q3), .second, .val (.long q4), .second, .val (.long q5), .second, .val (.long q6), .second, .val (.ref b3), .val (.ref b18), .val (.ref b33), .val (.ref b48), .val (.ref b63), .val (.long (((q1 + (0 : Int64)) + (0 : Int64)) + (0 : Int64))), .second, .val (.long ((((0 : Int64) + q2) + (0 : Int64)) + (0 : Int64))), .second, .val (.long ((((0 : Int64) + (0 : Int64)) + q3) + (0 : Int64))), .second, .val (.long ((((0 : Int64) + (0 : Int64)) + (0 : Int64)) + q4)), .second, .val (.long (((q1 + q2) + q3) + q4)), .second, .val (.int v173s0), .unset] [(.long ((((0 : Int64) + (0 : Int64)) + (0 : Int64)) + q4)), (.long (((((q1 + (0 : Int64)) + (0 : Int64)) + (0 : Int64)) + ((((0 : Int64) + q2) + (0 : Int64)) + (0 : Int64))) + ((((0 : Int64) + (0 : Int64)) + q3) + (0 : Int64)))), (.long (((q1 + q2) + q3) + q4))]))
    refine Till.pre (fun _ hr => XS.ladd X98.here hx rfl (hb hby at_187) rfl hr) ?_
    show Till p e below s (Q0 Z q1 q2 q3 q4 q5 q6 h0 n0) room_1.cells room_1.slots (T96.setTop (mkF m 188 #[.val (.long q1), .second, .val (.long q2), .second, .val (.long q3), .second, .val (.long q4), .second, .val (.long q5), .second, .val (.long q6), .second, .val (.ref b3), .val (.ref b18), .val (.ref b33), .val (.ref b48), .val (.ref b63), .val (.long (((q1 + (0 : Int64)) + (0 : Int64)) + (0 : Int64))), .second, .val (.long ((((0 : Int64) + q2) + (0 : Int64)) + (0 : Int64))), .second, .val (.long ((((0 : Int64) + (0 : Int64)) + q3) + (0 : Int64))), .second, .val (.long ((((0 : Int64) + (0 : Int64)) + (0 : Int64)) + q4)), .second, .val (.long (((q1 + q2) + q3) + q4)), .second, .val (.int v173s0), .unset] [(.long ((((((q1 + (0 : Int64)) + (0 : Int64)) + (0 : Int64)) + ((((0 : Int64) + q2) + (0 : Int64)) + (0 : Int64))) + ((((0 : Int64) + (0 : Int64)) + q3) + (0 : Int64))) + ((((0 : Int64) + (0 : Int64)) + (0 : Int64)) + q4))), (.long (((q1 + q2) + q3) + q4))]))
    refine Till.pre (fun _ hr => XS.lcmp X98.here hx rfl (hb hby at_188) rfl hr) ?_
    show Till p e below s (Q0 Z q1 q2 q3 q4 q5 q6 h0 n0) room_1.cells room_1.slots (T96.setTop (mkF m 189 #[.val (.long q1), .second, .val (.long q2), .second, .val (.long q3), .second, .val (.long q4), .second, .val (.long q5), .second, .val (.long q6), .second, .val (.ref b3), .val (.ref b18), .val (.ref b33), .val (.ref b48), .val (.ref b63), .val (.long (((q1 + (0 : Int64)) + (0 : Int64)) + (0 : Int64))), .second, .val (.long ((((0 : Int64) + q2) + (0 : Int64)) + (0 : Int64))), .second, .val (.long ((((0 : Int64) + (0 : Int64)) + q3) + (0 : Int64))), .second, .val (.long ((((0 : Int64) + (0 : Int64)) + (0 : Int64)) + q4)), .second, .val (.long (((q1 + q2) + q3) + q4)), .second, .val (.int v173s0), .unset] [(.int (lcmpW (((q1 + q2) + q3) + q4) ((((((q1 + (0 : Int64)) + (0 : Int64)) + (0 : Int64)) + ((((0 : Int64) + q2) + (0 : Int64)) + (0 : Int64))) + ((((0 : Int64) + (0 : Int64)) + q3) + (0 : Int64))) + ((((0 : Int64) + (0 : Int64)) + (0 : Int64)) + q4))))]))
    have J197_106 : ∀ (v197s0 : Int32) (hv197s0 : v197s0 = (if ((((q1 + q2) + q3) + q4) = ((((((q1 + (0 : Int64)) + (0 : Int64)) + (0 : Int64)) + ((((0 : Int64) + q2) + (0 : Int64)) + (0 : Int64))) + ((((0 : Int64) + (0 : Int64)) + q3) + (0 : Int64))) + ((((0 : Int64) + (0 : Int64)) + (0 : Int64)) + q4))) then (1 : Int32) else (0 : Int32))), Till p e below s (Q0 Z q1 q2 q3 q4 q5 q6 h0 n0) room_1.cells room_1.slots (T96.setTop (mkF m 197 #[.val (.long q1), .second, .val (.long q2), .second, .val (.long q3), .second, .val (.long q4), .second, .val (.long q5), .second, .val (.long q6), .second, .val (.ref b3), .val (.ref b18), .val (.ref b33), .val (.ref b48), .val (.ref b63), .val (.long (((q1 + (0 : Int64)) + (0 : Int64)) + (0 : Int64))), .second, .val (.long ((((0 : Int64) + q2) + (0 : Int64)) + (0 : Int64))), .second, .val (.long ((((0 : Int64) + (0 : Int64)) + q3) + (0 : Int64))), .second, .val (.long ((((0 : Int64) + (0 : Int64)) + (0 : Int64)) + q4)), .second, .val (.long (((q1 + q2) + q3) + q4)), .second, .val (.int v173s0), .unset] [(.int v197s0)])) := by
      intro v197s0 hv197s0
      show Till p e below s (Q0 Z q1 q2 q3 q4 q5 q6 h0 n0) room_1.cells room_1.slots (T96.setTop (mkF m 197 #[.val (.long q1), .second, .val (.long q2), .second, .val (.long q3), .second, .val (.long q4), .second, .val (.long q5), .second, .val (.long q6), .second, .val (.ref b3), .val (.ref b18), .val (.ref b33), .val (.ref b48), .val (.ref b63), .val (.long (((q1 + (0 : Int64)) + (0 : Int64)) + (0 : Int64))), .second, .val (.long ((((0 : Int64) + q2) + (0 : Int64)) + (0 : Int64))), .second, .val (.long ((((0 : Int64) + (0 : Int64)) + q3) + (0 : Int64))), .second, .val (.long ((((0 : Int64) + (0 : Int64)) + (0 : Int64)) + q4)), .second, .val (.long (((q1 + q2) + q3) + q4)), .second, .val (.int v173s0), .unset] [(.int v197s0)]))
      refine Till.pre (fun _ hr => XS.istore X98.here hx rfl (hb hby at_197) rfl (l' := #[.val (.long q1), .second, .val (.long q2), .second, .val (.long q3), .second, .val (.long q4), .second, .val (.long q5), .second, .val (.long q6), .second, .val (.ref b3), .val (.ref b18), .val (.ref b33), .val (.ref b48), .val (.ref b63), .val (.long (((q1 + (0 : Int64)) + (0 : Int64)) + (0 : Int64))), .second, .val (.long ((((0 : Int64) + q2) + (0 : Int64)) + (0 : Int64))), .second, .val (.long ((((0 : Int64) + (0 : Int64)) + q3) + (0 : Int64))), .second, .val (.long ((((0 : Int64) + (0 : Int64)) + (0 : Int64)) + q4)), .second, .val (.long (((q1 + q2) + q3) + q4)), .second, .val (.int v173s0), .val (.int v197s0)]) rfl hr) ?_
      show Till p e below s (Q0 Z q1 q2 q3 q4 q5 q6 h0 n0) room_1.cells room_1.slots (T96.setTop (mkF m 199 #[.val (.long q1), .second, .val (.long q2), .second, .val (.long q3), .second, .val (.long q4), .second, .val (.long q5), .second, .val (.long q6), .second, .val (.ref b3), .val (.ref b18), .val (.ref b33), .val (.ref b48), .val (.ref b63), .val (.long (((q1 + (0 : Int64)) + (0 : Int64)) + (0 : Int64))), .second, .val (.long ((((0 : Int64) + q2) + (0 : Int64)) + (0 : Int64))), .second, .val (.long ((((0 : Int64) + (0 : Int64)) + q3) + (0 : Int64))), .second, .val (.long ((((0 : Int64) + (0 : Int64)) + (0 : Int64)) + q4)), .second, .val (.long (((q1 + q2) + q3) + q4)), .second, .val (.int v173s0), .val (.int v197s0)] []))
      refine Till.pre (fun _ hr => XS.iload X98.here hx rfl (hb hby at_199) rfl hr) ?_
      show Till p e below s (Q0 Z q1 q2 q3 q4 q5 q6 h0 n0) room_1.cells room_1.slots (T96.setTop (mkF m 201 #[.val (.long q1), .second, .val (.long q2), .second, .val (.long q3), .second, .val (.long q4), .second, .val (.long q5), .second, .val (.long q6), .second, .val (.ref b3), .val (.ref b18), .val (.ref b33), .val (.ref b48), .val (.ref b63), .val (.long (((q1 + (0 : Int64)) + (0 : Int64)) + (0 : Int64))), .second, .val (.long ((((0 : Int64) + q2) + (0 : Int64)) + (0 : Int64))), .second, .val (.long ((((0 : Int64) + (0 : Int64)) + q3) + (0 : Int64))), .second, .val (.long ((((0 : Int64) + (0 : Int64)) + (0 : Int64)) + q4)), .second, .val (.long (((q1 + q2) + q3) + q4)), .second, .val (.int v173s0), .val (.int v197s0)] [(.int v173s0)]))
      have J214_109 : ∀ (v214s0 : Int32) (hv214s0 : v214s0 = (if (v173s0 = (0 : Int32)) then (0 : Int32) else (if (v197s0 = (0 : Int32)) then (0 : Int32) else (1 : Int32)))), Till p e below s (Q0 Z q1 q2 q3 q4 q5 q6 h0 n0) room_1.cells room_1.slots (T96.setTop (mkF m 214 #[.val (.long q1), .second, .val (.long q2), .second, .val (.long q3), .second, .val (.long q4), .second, .val (.long q5), .second, .val (.long q6), .second, .val (.ref b3), .val (.ref b18), .val (.ref b33), .val (.ref b48), .val (.ref b63), .val (.long (((q1 + (0 : Int64)) + (0 : Int64)) + (0 : Int64))), .second, .val (.long ((((0 : Int64) + q2) + (0 : Int64)) + (0 : Int64))), .second, .val (.long ((((0 : Int64) + (0 : Int64)) + q3) + (0 : Int64))), .second, .val (.long ((((0 : Int64) + (0 : Int64)) + (0 : Int64)) + q4)), .second, .val (.long (((q1 + q2) + q3) + q4)), .second, .val (.int v173s0), .val (.int v197s0)] [(.int v214s0)])) := by
        intro v214s0 hv214s0
        show Till p e below s (Q0 Z q1 q2 q3 q4 q5 q6 h0 n0) room_1.cells room_1.slots (T96.setTop (mkF m 214 #[.val (.long q1), .second, .val (.long q2), .second, .val (.long q3), .second, .val (.long q4), .second, .val (.long q5), .second, .val (.long q6), .second, .val (.ref b3), .val (.ref b18), .val (.ref b33), .val (.ref b48), .val (.ref b63), .val (.long (((q1 + (0 : Int64)) + (0 : Int64)) + (0 : Int64))), .second, .val (.long ((((0 : Int64) + q2) + (0 : Int64)) + (0 : Int64))), .second, .val (.long ((((0 : Int64) + (0 : Int64)) + q3) + (0 : Int64))), .second, .val (.long ((((0 : Int64) + (0 : Int64)) + (0 : Int64)) + q4)), .second, .val (.long (((q1 + q2) + q3) + q4)), .second, .val (.int v173s0), .val (.int v197s0)] [(.int v214s0)]))
        refine Till.retZ (w := (1 : Int32)) X98 hx hret hlk (hb hby at_214) (by decide) (by decide) (by rw [hv214s0, hv173s0, hv197s0]; simp [Int64.add_zero, Int64.zero_add]) ?_
        exact ⟨rfl, N99⟩
      refine Till.ifc (pc' := 213) X98.here hx (hb hby at_201) (by decide) (by decide) (fun q => ?_) (fun q => ?_)
      · have hc108 := (hEq.1 q)
        show Till p e below s (Q0 Z q1 q2 q3 q4 q5 q6 h0 n0) room_1.cells room_1.slots (T96.setTop (mkF m 213 #[.val (.long q1), .second, .val (.long q2), .second, .val (.long q3), .second, .val (.long q4), .second, .val (.long q5), .second, .val (.long q6), .second, .val (.ref b3), .val (.ref b18), .val (.ref b33), .val (.ref b48), .val (.ref b63), .val (.long (((q1 + (0 : Int64)) + (0 : Int64)) + (0 : Int64))), .second, .val (.long ((((0 : Int64) + q2) + (0 : Int64)) + (0 : Int64))), .second, .val (.long ((((0 : Int64) + (0 : Int64)) + q3) + (0 : Int64))), .second, .val (.long ((((0 : Int64) + (0 : Int64)) + (0 : Int64)) + q4)), .second, .val (.long (((q1 + q2) + q3) + q4)), .second, .val (.int v173s0), .val (.int v197s0)] []))
        refine Till.pre (fun _ hr => XS.iconst X98.here hx rfl (hb hby at_213) hr) ?_
        show Till p e below s (Q0 Z q1 q2 q3 q4 q5 q6 h0 n0) room_1.cells room_1.slots (T96.setTop (mkF m 214 #[.val (.long q1), .second, .val (.long q2), .second, .val (.long q3), .second, .val (.long q4), .second, .val (.long q5), .second, .val (.long q6), .second, .val (.ref b3), .val (.ref b18), .val (.ref b33), .val (.ref b48), .val (.ref b63), .val (.long (((q1 + (0 : Int64)) + (0 : Int64)) + (0 : Int64))), .second, .val (.long ((((0 : Int64) + q2) + (0 : Int64)) + (0 : Int64))), .second, .val (.long ((((0 : Int64) + (0 : Int64)) + q3) + (0 : Int64))), .second, .val (.long ((((0 : Int64) + (0 : Int64)) + (0 : Int64)) + q4)), .second, .val (.long (((q1 + q2) + q3) + q4)), .second, .val (.int v173s0), .val (.int v197s0)] [(.int (0 : Int32))]))
        exact J214_109 _ (Eq.symm (if_pos hc108))
      · have hc108 := (hEq.2.1 q)
        show Till p e below s (Q0 Z q1 q2 q3 q4 q5 q6 h0 n0) room_1.cells room_1.slots (T96.setTop (mkF m 204 #[.val (.long q1), .second, .val (.long q2), .second, .val (.long q3), .second, .val (.long q4), .second, .val (.long q5), .second, .val (.long q6), .second, .val (.ref b3), .val (.ref b18), .val (.ref b33), .val (.ref b48), .val (.ref b63), .val (.long (((q1 + (0 : Int64)) + (0 : Int64)) + (0 : Int64))), .second, .val (.long ((((0 : Int64) + q2) + (0 : Int64)) + (0 : Int64))), .second, .val (.long ((((0 : Int64) + (0 : Int64)) + q3) + (0 : Int64))), .second, .val (.long ((((0 : Int64) + (0 : Int64)) + (0 : Int64)) + q4)), .second, .val (.long (((q1 + q2) + q3) + q4)), .second, .val (.int v173s0), .val (.int v197s0)] []))
        refine Till.pre (fun _ hr => XS.iload X98.here hx rfl (hb hby at_204) rfl hr) ?_
        show Till p e below s (Q0 Z q1 q2 q3 q4 q5 q6 h0 n0) room_1.cells room_1.slots (T96.setTop (mkF m 206 #[.val (.long q1), .second, .val (.long q2), .second, .val (.long q3), .second, .val (.long q4), .second, .val (.long q5), .second, .val (.long q6), .second, .val (.ref b3), .val (.ref b18), .val (.ref b33), .val (.ref b48), .val (.ref b63), .val (.long (((q1 + (0 : Int64)) + (0 : Int64)) + (0 : Int64))), .second, .val (.long ((((0 : Int64) + q2) + (0 : Int64)) + (0 : Int64))), .second, .val (.long ((((0 : Int64) + (0 : Int64)) + q3) + (0 : Int64))), .second, .val (.long ((((0 : Int64) + (0 : Int64)) + (0 : Int64)) + q4)), .second, .val (.long (((q1 + q2) + q3) + q4)), .second, .val (.int v173s0), .val (.int v197s0)] [(.int v197s0)]))
        refine Till.ifc (pc' := 213) X98.here hx (hb hby at_206) (by decide) (by decide) (fun q => ?_) (fun q => ?_)
        · have hc109 := (hEq.1 q)
          show Till p e below s (Q0 Z q1 q2 q3 q4 q5 q6 h0 n0) room_1.cells room_1.slots (T96.setTop (mkF m 213 #[.val (.long q1), .second, .val (.long q2), .second, .val (.long q3), .second, .val (.long q4), .second, .val (.long q5), .second, .val (.long q6), .second, .val (.ref b3), .val (.ref b18), .val (.ref b33), .val (.ref b48), .val (.ref b63), .val (.long (((q1 + (0 : Int64)) + (0 : Int64)) + (0 : Int64))), .second, .val (.long ((((0 : Int64) + q2) + (0 : Int64)) + (0 : Int64))), .second, .val (.long ((((0 : Int64) + (0 : Int64)) + q3) + (0 : Int64))), .second, .val (.long ((((0 : Int64) + (0 : Int64)) + (0 : Int64)) + q4)), .second, .val (.long (((q1 + q2) + q3) + q4)), .second, .val (.int v173s0), .val (.int v197s0)] []))
          refine Till.pre (fun _ hr => XS.iconst X98.here hx rfl (hb hby at_213) hr) ?_
          show Till p e below s (Q0 Z q1 q2 q3 q4 q5 q6 h0 n0) room_1.cells room_1.slots (T96.setTop (mkF m 214 #[.val (.long q1), .second, .val (.long q2), .second, .val (.long q3), .second, .val (.long q4), .second, .val (.long q5), .second, .val (.long q6), .second, .val (.ref b3), .val (.ref b18), .val (.ref b33), .val (.ref b48), .val (.ref b63), .val (.long (((q1 + (0 : Int64)) + (0 : Int64)) + (0 : Int64))), .second, .val (.long ((((0 : Int64) + q2) + (0 : Int64)) + (0 : Int64))), .second, .val (.long ((((0 : Int64) + (0 : Int64)) + q3) + (0 : Int64))), .second, .val (.long ((((0 : Int64) + (0 : Int64)) + (0 : Int64)) + q4)), .second, .val (.long (((q1 + q2) + q3) + q4)), .second, .val (.int v173s0), .val (.int v197s0)] [(.int (0 : Int32))]))
          exact J214_109 _ (Eq.symm ((if_neg hc108).trans (if_pos hc109)))
        · have hc109 := (hEq.2.1 q)
          show Till p e below s (Q0 Z q1 q2 q3 q4 q5 q6 h0 n0) room_1.cells room_1.slots (T96.setTop (mkF m 209 #[.val (.long q1), .second, .val (.long q2), .second, .val (.long q3), .second, .val (.long q4), .second, .val (.long q5), .second, .val (.long q6), .second, .val (.ref b3), .val (.ref b18), .val (.ref b33), .val (.ref b48), .val (.ref b63), .val (.long (((q1 + (0 : Int64)) + (0 : Int64)) + (0 : Int64))), .second, .val (.long ((((0 : Int64) + q2) + (0 : Int64)) + (0 : Int64))), .second, .val (.long ((((0 : Int64) + (0 : Int64)) + q3) + (0 : Int64))), .second, .val (.long ((((0 : Int64) + (0 : Int64)) + (0 : Int64)) + q4)), .second, .val (.long (((q1 + q2) + q3) + q4)), .second, .val (.int v173s0), .val (.int v197s0)] []))
          refine Till.pre (fun _ hr => XS.iconst X98.here hx rfl (hb hby at_209) hr) ?_
          show Till p e below s (Q0 Z q1 q2 q3 q4 q5 q6 h0 n0) room_1.cells room_1.slots (T96.setTop (mkF m 210 #[.val (.long q1), .second, .val (.long q2), .second, .val (.long q3), .second, .val (.long q4), .second, .val (.long q5), .second, .val (.long q6), .second, .val (.ref b3), .val (.ref b18), .val (.ref b33), .val (.ref b48), .val (.ref b63), .val (.long (((q1 + (0 : Int64)) + (0 : Int64)) + (0 : Int64))), .second, .val (.long ((((0 : Int64) + q2) + (0 : Int64)) + (0 : Int64))), .second, .val (.long ((((0 : Int64) + (0 : Int64)) + q3) + (0 : Int64))), .second, .val (.long ((((0 : Int64) + (0 : Int64)) + (0 : Int64)) + q4)), .second, .val (.long (((q1 + q2) + q3) + q4)), .second, .val (.int v173s0), .val (.int v197s0)] [(.int (1 : Int32))]))
          refine Till.pre (fun _ hr => XS.goto X98.here hx rfl (pc0 := 210) (pc' := 214) rfl (hb hby at_210) (by decide) (by decide) hr) ?_
          show Till p e below s (Q0 Z q1 q2 q3 q4 q5 q6 h0 n0) room_1.cells room_1.slots (T96.setTop (mkF m 214 #[.val (.long q1), .second, .val (.long q2), .second, .val (.long q3), .second, .val (.long q4), .second, .val (.long q5), .second, .val (.long q6), .second, .val (.ref b3), .val (.ref b18), .val (.ref b33), .val (.ref b48), .val (.ref b63), .val (.long (((q1 + (0 : Int64)) + (0 : Int64)) + (0 : Int64))), .second, .val (.long ((((0 : Int64) + q2) + (0 : Int64)) + (0 : Int64))), .second, .val (.long ((((0 : Int64) + (0 : Int64)) + q3) + (0 : Int64))), .second, .val (.long ((((0 : Int64) + (0 : Int64)) + (0 : Int64)) + q4)), .second, .val (.long (((q1 + q2) + q3) + q4)), .second, .val (.int v173s0), .val (.int v197s0)] [(.int (1 : Int32))]))
          exact J214_109 _ (Eq.symm ((if_neg hc108).trans (if_neg hc109)))
    refine Till.ifc (pc' := 196) X98.here hx (hb hby at_189) (by decide) (by decide) (fun q => ?_) (fun q => ?_)
    · have hc106 := (mt lEq.mpr (hEq.2.2.1 q))
      show Till p e below s (Q0 Z q1 q2 q3 q4 q5 q6 h0 n0) room_1.cells room_1.slots (T96.setTop (mkF m 196 #[.val (.long q1), .second, .val (.long q2), .second, .val (.long q3), .second, .val (.long q4), .second, .val (.long q5), .second, .val (.long q6), .second, .val (.ref b3), .val (.ref b18), .val (.ref b33), .val (.ref b48), .val (.ref b63), .val (.long (((q1 + (0 : Int64)) + (0 : Int64)) + (0 : Int64))), .second, .val (.long ((((0 : Int64) + q2) + (0 : Int64)) + (0 : Int64))), .second, .val (.long ((((0 : Int64) + (0 : Int64)) + q3) + (0 : Int64))), .second, .val (.long ((((0 : Int64) + (0 : Int64)) + (0 : Int64)) + q4)), .second, .val (.long (((q1 + q2) + q3) + q4)), .second, .val (.int v173s0), .unset] []))
      refine Till.pre (fun _ hr => XS.iconst X98.here hx rfl (hb hby at_196) hr) ?_
      show Till p e below s (Q0 Z q1 q2 q3 q4 q5 q6 h0 n0) room_1.cells room_1.slots (T96.setTop (mkF m 197 #[.val (.long q1), .second, .val (.long q2), .second, .val (.long q3), .second, .val (.long q4), .second, .val (.long q5), .second, .val (.long q6), .second, .val (.ref b3), .val (.ref b18), .val (.ref b33), .val (.ref b48), .val (.ref b63), .val (.long (((q1 + (0 : Int64)) + (0 : Int64)) + (0 : Int64))), .second, .val (.long ((((0 : Int64) + q2) + (0 : Int64)) + (0 : Int64))), .second, .val (.long ((((0 : Int64) + (0 : Int64)) + q3) + (0 : Int64))), .second, .val (.long ((((0 : Int64) + (0 : Int64)) + (0 : Int64)) + q4)), .second, .val (.long (((q1 + q2) + q3) + q4)), .second, .val (.int v173s0), .unset] [(.int (0 : Int32))]))
      exact J197_106 _ (Eq.symm (if_neg hc106))
    · have hc106 := (lEq.mp (hEq.2.2.2 q))
      show Till p e below s (Q0 Z q1 q2 q3 q4 q5 q6 h0 n0) room_1.cells room_1.slots (T96.setTop (mkF m 192 #[.val (.long q1), .second, .val (.long q2), .second, .val (.long q3), .second, .val (.long q4), .second, .val (.long q5), .second, .val (.long q6), .second, .val (.ref b3), .val (.ref b18), .val (.ref b33), .val (.ref b48), .val (.ref b63), .val (.long (((q1 + (0 : Int64)) + (0 : Int64)) + (0 : Int64))), .second, .val (.long ((((0 : Int64) + q2) + (0 : Int64)) + (0 : Int64))), .second, .val (.long ((((0 : Int64) + (0 : Int64)) + q3) + (0 : Int64))), .second, .val (.long ((((0 : Int64) + (0 : Int64)) + (0 : Int64)) + q4)), .second, .val (.long (((q1 + q2) + q3) + q4)), .second, .val (.int v173s0), .unset] []))
      refine Till.pre (fun _ hr => XS.iconst X98.here hx rfl (hb hby at_192) hr) ?_
      show Till p e below s (Q0 Z q1 q2 q3 q4 q5 q6 h0 n0) room_1.cells room_1.slots (T96.setTop (mkF m 193 #[.val (.long q1), .second, .val (.long q2), .second, .val (.long q3), .second, .val (.long q4), .second, .val (.long q5), .second, .val (.long q6), .second, .val (.ref b3), .val (.ref b18), .val (.ref b33), .val (.ref b48), .val (.ref b63), .val (.long (((q1 + (0 : Int64)) + (0 : Int64)) + (0 : Int64))), .second, .val (.long ((((0 : Int64) + q2) + (0 : Int64)) + (0 : Int64))), .second, .val (.long ((((0 : Int64) + (0 : Int64)) + q3) + (0 : Int64))), .second, .val (.long ((((0 : Int64) + (0 : Int64)) + (0 : Int64)) + q4)), .second, .val (.long (((q1 + q2) + q3) + q4)), .second, .val (.int v173s0), .unset] [(.int (1 : Int32))]))
      refine Till.pre (fun _ hr => XS.goto X98.here hx rfl (pc0 := 193) (pc' := 197) rfl (hb hby at_193) (by decide) (by decide) hr) ?_
      show Till p e below s (Q0 Z q1 q2 q3 q4 q5 q6 h0 n0) room_1.cells room_1.slots (T96.setTop (mkF m 197 #[.val (.long q1), .second, .val (.long q2), .second, .val (.long q3), .second, .val (.long q4), .second, .val (.long q5), .second, .val (.long q6), .second, .val (.ref b3), .val (.ref b18), .val (.ref b33), .val (.ref b48), .val (.ref b63), .val (.long (((q1 + (0 : Int64)) + (0 : Int64)) + (0 : Int64))), .second, .val (.long ((((0 : Int64) + q2) + (0 : Int64)) + (0 : Int64))), .second, .val (.long ((((0 : Int64) + (0 : Int64)) + q3) + (0 : Int64))), .second, .val (.long ((((0 : Int64) + (0 : Int64)) + (0 : Int64)) + q4)), .second, .val (.long (((q1 + q2) + q3) + q4)), .second, .val (.int v173s0), .unset] [(.int (1 : Int32))]))
      exact J197_106 _ (Eq.symm (if_pos hc106))
  refine Till.ifc (pc' := 172) X98.here hx (hb hby at_142) (by decide) (by decide) (fun q => ?_) (fun q => ?_)
  · have hc101 := (mt lEq.mpr (hEq.2.2.1 q))
    show Till p e below s (Q0 Z q1 q2 q3 q4 q5 q6 h0 n0) room_1.cells room_1.slots (T96.setTop (mkF m 172 #[.val (.long q1), .second, .val (.long q2), .second, .val (.long q3), .second, .val (.long q4), .second, .val (.long q5), .second, .val (.long q6), .second, .val (.ref b3), .val (.ref b18), .val (.ref b33), .val (.ref b48), .val (.ref b63), .val (.long (((q1 + (0 : Int64)) + (0 : Int64)) + (0 : Int64))), .second, .val (.long ((((0 : Int64) + q2) + (0 : Int64)) + (0 : Int64))), .second, .val (.long ((((0 : Int64) + (0 : Int64)) + q3) + (0 : Int64))), .second, .val (.long ((((0 : Int64) + (0 : Int64)) + (0 : Int64)) + q4)), .second, .val (.long (((q1 + q2) + q3) + q4)), .second, .unset, .unset] []))
    refine Till.pre (fun _ hr => XS.iconst X98.here hx rfl (hb hby at_172) hr) ?_
    show Till p e below s (Q0 Z q1 q2 q3 q4 q5 q6 h0 n0) room_1.cells room_1.slots (T96.setTop (mkF m 173 #[.val (.long q1), .second, .val (.long q2), .second, .val (.long q3), .second, .val (.long q4), .second, .val (.long q5), .second, .val (.long q6), .second, .val (.ref b3), .val (.ref b18), .val (.ref b33), .val (.ref b48), .val (.ref b63), .val (.long (((q1 + (0 : Int64)) + (0 : Int64)) + (0 : Int64))), .second, .val (.long ((((0 : Int64) + q2) + (0 : Int64)) + (0 : Int64))), .second, .val (.long ((((0 : Int64) + (0 : Int64)) + q3) + (0 : Int64))), .second, .val (.long ((((0 : Int64) + (0 : Int64)) + (0 : Int64)) + q4)), .second, .val (.long (((q1 + q2) + q3) + q4)), .second, .unset, .unset] [(.int (0 : Int32))]))
    exact J173_104 _ (Eq.symm (if_neg hc101))
  · have hc101 := (lEq.mp (hEq.2.2.2 q))
    show Till p e below s (Q0 Z q1 q2 q3 q4 q5 q6 h0 n0) room_1.cells room_1.slots (T96.setTop (mkF m 145 #[.val (.long q1), .second, .val (.long q2), .second, .val (.long q3), .second, .val (.long q4), .second, .val (.long q5), .second, .val (.long q6), .second, .val (.ref b3), .val (.ref b18), .val (.ref b33), .val (.ref b48), .val (.ref b63), .val (.long (((q1 + (0 : Int64)) + (0 : Int64)) + (0 : Int64))), .second, .val (.long ((((0 : Int64) + q2) + (0 : Int64)) + (0 : Int64))), .second, .val (.long ((((0 : Int64) + (0 : Int64)) + q3) + (0 : Int64))), .second, .val (.long ((((0 : Int64) + (0 : Int64)) + (0 : Int64)) + q4)), .second, .val (.long (((q1 + q2) + q3) + q4)), .second, .unset, .unset] []))
    refine Till.pre (fun _ hr => XS.lload X98.here hx rfl (hb hby at_145) rfl hr) ?_
    show Till p e below s (Q0 Z q1 q2 q3 q4 q5 q6 h0 n0) room_1.cells room_1.slots (T96.setTop (mkF m 147 #[.val (.long q1), .second, .val (.long q2), .second, .val (.long q3), .second, .val (.long q4), .second, .val (.long q5), .second, .val (.long q6), .second, .val (.ref b3), .val (.ref b18), .val (.ref b33), .val (.ref b48), .val (.ref b63), .val (.long (((q1 + (0 : Int64)) + (0 : Int64)) + (0 : Int64))), .second, .val (.long ((((0 : Int64) + q2) + (0 : Int64)) + (0 : Int64))), .second, .val (.long ((((0 : Int64) + (0 : Int64)) + q3) + (0 : Int64))), .second, .val (.long ((((0 : Int64) + (0 : Int64)) + (0 : Int64)) + q4)), .second, .val (.long (((q1 + q2) + q3) + q4)), .second, .unset, .unset] [(.long ((((0 : Int64) + q2) + (0 : Int64)) + (0 : Int64)))]))
    refine Till.pre (fun _ hr => XS.lloadN X98.here hx rfl (hb hby at_147) rfl hr) ?_
    show Till p e below s (Q0 Z q1 q2 q3 q4 q5 q6 h0 n0) room_1.cells room_1.slots (T96.setTop (mkF m 148 #[.val (.long q1), .second, .val (.long q2), .second, .val (.long q3), .second, .val (.long q4), .second, .val (.long q5), .second, .val (.long q6), .second, .val (.ref b3), .val (.ref b18), .val (.ref b33), .val (.ref b48), .val (.ref b63), .val (.long (((q1 + (0 : Int64)) + (0 : Int64)) + (0 : Int64))), .second, .val (.long ((((0 : Int64) + q2) + (0 : Int64)) + (0 : Int64))), .second, .val (.long ((((0 : Int64) + (0 : Int64)) + q3) + (0 : Int64))), .second, .val (.long ((((0 : Int64) + (0 : Int64)) + (0 : Int64)) + q4)), .second, .val (.long (((q1 + q2) + q3) + q4)), .second, .unset, .unset] [(.long q2), (.long ((((0 : Int64) + q2) + (0 : Int64)) + (0 : Int64)))]))
    refine Till.pre (fun _ hr => XS.lcmp X98.here hx rfl (hb hby at_148) rfl hr) ?_
    show Till p e below s (Q0 Z q1 q2 q3 q4 q5 q6 h0 n0) room_1.cells room_1.slots (T96.setTop (mkF m 149 #[.val (.long q1), .second, .val (.long q2), .second, .val (.long q3), .second, .val (.long q4), .second, .val (.long q5), .second, .val (.long q6), .second, .val (.ref b3), .val (.ref b18), .val (.ref b33), .val (.ref b48), .val (.ref b63), .val (.long (((q1 + (0 : Int64)) + (0 : Int64)) + (0 : Int64))), .second, .val (.long ((((0 : Int64) + q2) + (0 : Int64)) + (0 : Int64))), .second, .val (.long ((((0 : Int64) + (0 : Int64)) + q3) + (0 : Int64))), .second, .val (.long ((((0 : Int64) + (0 : Int64)) + (0 : Int64)) + q4)), .second, .val (.long (((q1 + q2) + q3) + q4)), .second, .unset, .unset] [(.int (lcmpW ((((0 : Int64) + q2) + (0 : Int64)) + (0 : Int64)) q2))]))
    refine Till.ifc (pc' := 172) X98.here hx (hb hby at_149) (by decide) (by decide) (fun q => ?_) (fun q => ?_)
    · have hc102 := (mt lEq.mpr (hEq.2.2.1 q))
      show Till p e below s (Q0 Z q1 q2 q3 q4 q5 q6 h0 n0) room_1.cells room_1.slots (T96.setTop (mkF m 172 #[.val (.long q1), .second, .val (.long q2), .second, .val (.long q3), .second, .val (.long q4), .second, .val (.long q5), .second, .val (.long q6), .second, .val (.ref b3), .val (.ref b18), .val (.ref b33), .val (.ref b48), .val (.ref b63), .val (.long (((q1 + (0 : Int64)) + (0 : Int64)) + (0 : Int64))), .second, .val (.long ((((0 : Int64) + q2) + (0 : Int64)) + (0 : Int64))), .second, .val (.long ((((0 : Int64) + (0 : Int64)) + q3) + (0 : Int64))), .second, .val (.long ((((0 : Int64) + (0 : Int64)) + (0 : Int64)) + q4)), .second, .val (.long (((q1 + q2) + q3) + q4)), .second, .unset, .unset] []))
      refine Till.pre (fun _ hr => XS.iconst X98.here hx rfl (hb hby at_172) hr) ?_
      show Till p e below s (Q0 Z q1 q2 q3 q4 q5 q6 h0 n0) room_1.cells room_1.slots (T96.setTop (mkF m 173 #[.val (.long q1), .second, .val (.long q2), .second, .val (.long q3), .second, .val (.long q4), .second, .val (.long q5), .second, .val (.long q6), .second, .val (.ref b3), .val (.ref b18), .val (.ref b33), .val (.ref b48), .val (.ref b63), .val (.long (((q1 + (0 : Int64)) + (0 : Int64)) + (0 : Int64))), .second, .val (.long ((((0 : Int64) + q2) + (0 : Int64)) + (0 : Int64))), .second, .val (.long ((((0 : Int64) + (0 : Int64)) + q3) + (0 : Int64))), .second, .val (.long ((((0 : Int64) + (0 : Int64)) + (0 : Int64)) + q4)), .second, .val (.long (((q1 + q2) + q3) + q4)), .second, .unset, .unset] [(.int (0 : Int32))]))
      exact J173_104 _ (Eq.symm ((if_pos hc101).trans (if_neg hc102)))
    · have hc102 := (lEq.mp (hEq.2.2.2 q))
      show Till p e below s (Q0 Z q1 q2 q3 q4 q5 q6 h0 n0) room_1.cells room_1.slots (T96.setTop (mkF m 152 #[.val (.long q1), .second, .val (.long q2), .second, .val (.long q3), .second, .val (.long q4), .second, .val (.long q5), .second, .val (.long q6), .second, .val (.ref b3), .val (.ref b18), .val (.ref b33), .val (.ref b48), .val (.ref b63), .val (.long (((q1 + (0 : Int64)) + (0 : Int64)) + (0 : Int64))), .second, .val (.long ((((0 : Int64) + q2) + (0 : Int64)) + (0 : Int64))), .second, .val (.long ((((0 : Int64) + (0 : Int64)) + q3) + (0 : Int64))), .second, .val (.long ((((0 : Int64) + (0 : Int64)) + (0 : Int64)) + q4)), .second, .val (.long (((q1 + q2) + q3) + q4)), .second, .unset, .unset] []))
      refine Till.pre (fun _ hr => XS.lload X98.here hx rfl (hb hby at_152) rfl hr) ?_
      show Till p e below s (Q0 Z q1 q2 q3 q4 q5 q6 h0 n0) room_1.cells room_1.slots (T96.setTop (mkF m 154 #[.val (.long q1), .second, .val (.long q2), .second, .val (.long q3), .second, .val (.long q4), .second, .val (.long q5), .second, .val (.long q6), .second, .val (.ref b3), .val (.ref b18), .val (.ref b33), .val (.ref b48), .val (.ref b63), .val (.long (((q1 + (0 : Int64)) + (0 : Int64)) + (0 : Int64))), .second, .val (.long ((((0 : Int64) + q2) + (0 : Int64)) + (0 : Int64))), .second, .val (.long ((((0 : Int64) + (0 : Int64)) + q3) + (0 : Int64))), .second, .val (.long ((((0 : Int64) + (0 : Int64)) + (0 : Int64)) + q4)), .second, .val (.long (((q1 + q2) + q3) + q4)), .second, .unset, .unset] [(.long ((((0 : Int64) + (0 : Int64)) + q3) + (0 : Int64)))]))
      refine Till.pre (fun _ hr => XS.lload X98.here hx rfl (hb hby at_154) rfl hr) ?_
      show Till p e below s (Q0 Z q1 q2 q3 q4 q5 q6 h0 n0) room_1.cells room_1.slots (T96.setTop (mkF m 156 #[.val (.long q1), .second, .val (.long q2), .second, .val (.long q3), .second, .val (.long q4), .second, .val (.long q5), .second, .val (.long q6), .second, .val (.ref b3), .val (.ref b18), .val (.ref b33), .val (.ref b48), .val (.ref b63), .val (.long (((q1 + (0 : Int64)) + (0 : Int64)) + (0 : Int64))), .second, .val (.long ((((0 : Int64) + q2) + (0 : Int64)) + (0 : Int64))), .second, .val (.long ((((0 : Int64) + (0 : Int64)) + q3) + (0 : Int64))), .second, .val (.long ((((0 : Int64) + (0 : Int64)) + (0 : Int64)) + q4)), .second, .val (.long (((q1 + q2) + q3) + q4)), .second, .unset, .unset] [(.long q3), (.long ((((0 : Int64) + (0 : Int64)) + q3) + (0 : Int64)))]))
      refine Till.pre (fun _ hr => XS.lcmp X98.here hx rfl (hb hby at_156) rfl hr) ?_
      show Till p e below s (Q0 Z q1 q2 q3 q4 q5 q6 h0 n0) room_1.cells room_1.slots (T96.setTop (mkF m 157 #[.val (.long q1), .second, .val (.long q2), .second, .val (.long q3), .second, .val (.long q4), .second, .val (.long q5), .second, .val (.long q6), .second, .val (.ref b3), .val (.ref b18), .val (.ref b33), .val (.ref b48), .val (.ref b63), .val (.long (((q1 + (0 : Int64)) + (0 : Int64)) + (0 : Int64))), .second, .val (.long ((((0 : Int64) + q2) + (0 : Int64)) + (0 : Int64))), .second, .val (.long ((((0 : Int64) + (0 : Int64)) + q3) + (0 : Int64))), .second, .val (.long ((((0 : Int64) + (0 : Int64)) + (0 : Int64)) + q4)), .second, .val (.long (((q1 + q2) + q3) + q4)), .second, .unset, .unset] [(.int (lcmpW ((((0 : Int64) + (0 : Int64)) + q3) + (0 : Int64)) q3))]))
      refine Till.ifc (pc' := 172) X98.here hx (hb hby at_157) (by decide) (by decide) (fun q => ?_) (fun q => ?_)
      · have hc103 := (mt lEq.mpr (hEq.2.2.1 q))
        show Till p e below s (Q0 Z q1 q2 q3 q4 q5 q6 h0 n0) room_1.cells room_1.slots (T96.setTop (mkF m 172 #[.val (.long q1), .second, .val (.long q2), .second, .val (.long q3), .second, .val (.long q4), .second, .val (.long q5), .second, .val (.long q6), .second, .val (.ref b3), .val (.ref b18), .val (.ref b33), .val (.ref b48), .val (.ref b63), .val (.long (((q1 + (0 : Int64)) + (0 : Int64)) + (0 : Int64))), .second, .val (.long ((((0 : Int64) + q2) + (0 : Int64)) + (0 : Int64))), .second, .val (.long ((((0 : Int64) + (0 : Int64)) + q3) + (0 : Int64))), .second, .val (.long ((((0 : Int64) + (0 : Int64)) + (0 : Int64)) + q4)), .second, .val (.long (((q1 + q2) + q3) + q4)), .second, .unset, .unset] []))
        refine Till.pre (fun _ hr => XS.iconst X98.here hx rfl (hb hby at_172) hr) ?_
        show Till p e below s (Q0 Z q1 q2 q3 q4 q5 q6 h0 n0) room_1.cells room_1.slots (T96.setTop (mkF m 173 #[.val (.long q1), .second, .val (.long q2), .second, .val (.long q3), .second, .val (.long q4), .second, .val (.long q5), .second, .val (.long q6), .second, .val (.ref b3), .val (.ref b18), .val (.ref b33), .val (.ref b48), .val (.ref b63), .val (.long (((q1 + (0 : Int64)) + (0 : Int64)) + (0 : Int64))), .second, .val (.long ((((0 : Int64) + q2) + (0 : Int64)) + (0 : Int64))), .second, .val (.long ((((0 : Int64) + (0 : Int64)) + q3) + (0 : Int64))), .second, .val (.long ((((0 : Int64) + (0 : Int64)) + (0 : Int64)) + q4)), .second, .val (.long (((q1 + q2) + q3) + q4)), .second, .unset, .unset] [(.int (0 : Int32))]))
        exact J173_104 _ (Eq.symm ((if_pos hc101).trans ((if_pos hc102).trans (if_neg hc103))))
      · have hc103 := (lEq.mp (hEq.2.2.2 q))
        show Till p e below s (Q0 Z q1 q2 q3 q4 q5 q6 h0 n0) room_1.cells room_1.slots (T96.setTop (mkF m 160 #[.val (.long q1), .second, .val (.long q2), .second, .val (.long q3), .second, .val (.long q4), .second, .val (.long q5), .second, .val (.long q6), .second, .val (.ref b3), .val (.ref b18), .val (.ref b33), .val (.ref b48), .val (.ref b63), .val (.long (((q1 + (0 : Int64)) + (0 : Int64)) + (0 : Int64))), .second, .val (.long ((((0 : Int64) + q2) + (0 : Int64)) + (0 : Int64))), .second, .val (.long ((((0 : Int64) + (0 : Int64)) + q3) + (0 : Int64))), .second, .val (.long ((((0 : Int64) + (0 : Int64)) + (0 : Int64)) + q4)), .second, .val (.long (((q1 + q2) + q3) + q4)), .second, .unset, .unset] []))
        refine Till.pre (fun _ hr => XS.lload X98.here hx rfl (hb hby at_160) rfl hr) ?_
        show Till p e below s (Q0 Z q1 q2 q3 q4 q5 q6 h0 n0) room_1.cells room_1.slots (T96.setTop (mkF m 162 #[.val (.long q1), .second, .val (.long q2), .second, .val (.long q3), .second, .val (.long q4), .second, .val (.long q5), .second, .val (.long q6), .second, .val (.ref b3), .val (.ref b18), .val (.ref b33), .val (.ref b48), .val (.ref b63), .val (.long (((q1 + (0 : Int64)) + (0 : Int64)) + (0 : Int64))), .second, .val (.long ((((0 : Int64) + q2) + (0 : Int64)) + (0 : Int64))), .second, .val (.long ((((0 : Int64) + (0 : Int64)) + q3) + (0 : Int64))), .second, .val (.long ((((0 : Int64) + (0 : Int64)) + (0 : Int64)) + q4)), .second, .val (.long (((q1 + q2) + q3) + q4)), .second, .unset, .unset] [(.long ((((0 : Int64) + (0 : Int64)) + (0 : Int64)) + q4))]))
        refine Till.pre (fun _ hr => XS.lload X98.here hx rfl (hb hby at_162) rfl hr) ?_
        show Till p e below s (Q0 Z q1 q2 q3 q4 q5 q6 h0 n0) room_1.cells room_1.slots (T96.setTop (mkF m 164 #[.val (.long q1), .second, .val (.long q2), .second, .val (.long q3), .second, .val (.long q4), .second, .val (.long q5), .second, .val (.long q6), .second, .val (.ref b3), .val (.ref b18), .val (.ref b33), .val (.ref b48), .val (.ref b63), .val (.long (((q1 + (0 : Int64)) + (0 : Int64)) + (0 : Int64))), .second, .val (.long ((((0 : Int64) + q2) + (0 : Int64)) + (0 : Int64))), .second, .val (.long ((((0 : Int64) + (0 : Int64)) + q3) + (0 : Int64))), .second, .val (.long ((((0 : Int64) + (0 : Int64)) + (0 : Int64)) + q4)), .second, .val (.long (((q1 + q2) + q3) + q4)), .second, .unset, .unset] [(.long q4), (.long ((((0 : Int64) + (0 : Int64)) + (0 : Int64)) + q4))]))
        refine Till.pre (fun _ hr => XS.lcmp X98.here hx rfl (hb hby at_164) rfl hr) ?_
        show Till p e below s (Q0 Z q1 q2 q3 q4 q5 q6 h0 n0) room_1.cells room_1.slots (T96.setTop (mkF m 165 #[.val (.long q1), .second, .val (.long q2), .second, .val (.long q3), .second, .val (.long q4), .second, .val (.long q5), .second, .val (.long q6), .second, .val (.ref b3), .val (.ref b18), .val (.ref b33), .val (.ref b48), .val (.ref b63), .val (.long (((q1 + (0 : Int64)) + (0 : Int64)) + (0 : Int64))), .second, .val (.long ((((0 : Int64) + q2) + (0 : Int64)) + (0 : Int64))), .second, .val (.long ((((0 : Int64) + (0 : Int64)) + q3) + (0 : Int64))), .second, .val (.long ((((0 : Int64) + (0 : Int64)) + (0 : Int64)) + q4)), .second, .val (.long (((q1 + q2) + q3) + q4)), .second, .unset, .unset] [(.int (lcmpW ((((0 : Int64) + (0 : Int64)) + (0 : Int64)) + q4) q4))]))
        refine Till.ifc (pc' := 172) X98.here hx (hb hby at_165) (by decide) (by decide) (fun q => ?_) (fun q => ?_)
        · have hc104 := (mt lEq.mpr (hEq.2.2.1 q))
          show Till p e below s (Q0 Z q1 q2 q3 q4 q5 q6 h0 n0) room_1.cells room_1.slots (T96.setTop (mkF m 172 #[.val (.long q1), .second, .val (.long q2), .second, .val (.long q3), .second, .val (.long q4), .second, .val (.long q5), .second, .val (.long q6), .second, .val (.ref b3), .val (.ref b18), .val (.ref b33), .val (.ref b48), .val (.ref b63), .val (.long (((q1 + (0 : Int64)) + (0 : Int64)) + (0 : Int64))), .second, .val (.long ((((0 : Int64) + q2) + (0 : Int64)) + (0 : Int64))), .second, .val (.long ((((0 : Int64) + (0 : Int64)) + q3) + (0 : Int64))), .second, .val (.long ((((0 : Int64) + (0 : Int64)) + (0 : Int64)) + q4)), .second, .val (.long (((q1 + q2) + q3) + q4)), .second, .unset, .unset] []))
          refine Till.pre (fun _ hr => XS.iconst X98.here hx rfl (hb hby at_172) hr) ?_
          show Till p e below s (Q0 Z q1 q2 q3 q4 q5 q6 h0 n0) room_1.cells room_1.slots (T96.setTop (mkF m 173 #[.val (.long q1), .second, .val (.long q2), .second, .val (.long q3), .second, .val (.long q4), .second, .val (.long q5), .second, .val (.long q6), .second, .val (.ref b3), .val (.ref b18), .val (.ref b33), .val (.ref b48), .val (.ref b63), .val (.long (((q1 + (0 : Int64)) + (0 : Int64)) + (0 : Int64))), .second, .val (.long ((((0 : Int64) + q2) + (0 : Int64)) + (0 : Int64))), .second, .val (.long ((((0 : Int64) + (0 : Int64)) + q3) + (0 : Int64))), .second, .val (.long ((((0 : Int64) + (0 : Int64)) + (0 : Int64)) + q4)), .second, .val (.long (((q1 + q2) + q3) + q4)), .second, .unset, .unset] [(.int (0 : Int32))]))
          exact J173_104 _ (Eq.symm ((if_pos hc101).trans ((if_pos hc102).trans ((if_pos hc103).trans (if_neg hc104)))))
        · have hc104 := (lEq.mp (hEq.2.2.2 q))
          show Till p e below s (Q0 Z q1 q2 q3 q4 q5 q6 h0 n0) room_1.cells room_1.slots (T96.setTop (mkF m 168 #[.val (.long q1), .second, .val (.long q2), .second, .val (.long q3), .second, .val (.long q4), .second, .val (.long q5), .second, .val (.long q6), .second, .val (.ref b3), .val (.ref b18), .val (.ref b33), .val (.ref b48), .val (.ref b63), .val (.long (((q1 + (0 : Int64)) + (0 : Int64)) + (0 : Int64))), .second, .val (.long ((((0 : Int64) + q2) + (0 : Int64)) + (0 : Int64))), .second, .val (.long ((((0 : Int64) + (0 : Int64)) + q3) + (0 : Int64))), .second, .val (.long ((((0 : Int64) + (0 : Int64)) + (0 : Int64)) + q4)), .second, .val (.long (((q1 + q2) + q3) + q4)), .second, .unset, .unset] []))
          refine Till.pre (fun _ hr => XS.iconst X98.here hx rfl (hb hby at_168) hr) ?_
          show Till p e below s (Q0 Z q1 q2 q3 q4 q5 q6 h0 n0) room_1.cells room_1.slots (T96.setTop (mkF m 169 #[.val (.long q1), .second, .val (.long q2), .second, .val (.long q3), .second, .val (.long q4), .second, .val (.long q5), .second, .val (.long q6), .second, .val (.ref b3), .val (.ref b18), .val (.ref b33), .val (.ref b48), .val (.ref b63), .val (.long (((q1 + (0 : Int64)) + (0 : Int64)) + (0 : Int64))), .second, .val (.long ((((0 : Int64) + q2) + (0 : Int64)) + (0 : Int64))), .second, .val (.long ((((0 : Int64) + (0 : Int64)) + q3) + (0 : Int64))), .second, .val (.long ((((0 : Int64) + (0 : Int64)) + (0 : Int64)) + q4)), .second, .val (.long (((q1 + q2) + q3) + q4)), .second, .unset, .unset] [(.int (1 : Int32))]))
          refine Till.pre (fun _ hr => XS.goto X98.here hx rfl (pc0 := 169) (pc' := 173) rfl (hb hby at_169) (by decide) (by decide) hr) ?_
          show Till p e below s (Q0 Z q1 q2 q3 q4 q5 q6 h0 n0) room_1.cells room_1.slots (T96.setTop (mkF m 173 #[.val (.long q1), .second, .val (.long q2), .second, .val (.long q3), .second, .val (.long q4), .second, .val (.long q5), .second, .val (.long q6), .second, .val (.ref b3), .val (.ref b18), .val (.ref b33), .val (.ref b48), .val (.ref b63), .val (.long (((q1 + (0 : Int64)) + (0 : Int64)) + (0 : Int64))), .second, .val (.long ((((0 : Int64) + q2) + (0 : Int64)) + (0 : Int64))), .second, .val (.long ((((0 : Int64) + (0 : Int64)) + q3) + (0 : Int64))), .second, .val (.long ((((0 : Int64) + (0 : Int64)) + (0 : Int64)) + q4)), .second, .val (.long (((q1 + q2) + q3) + q4)), .second, .unset, .unset] [(.int (1 : Int32))]))
          exact J173_104 _ (Eq.symm ((if_pos hc101).trans ((if_pos hc102).trans ((if_pos hc103).trans (if_pos hc104)))))
set_option maxRecDepth 65536 in
set_option maxHeartbeats 40000000 in
theorem comes_1 {Post : Tables → Env → Array Value → State → Outcome → State → Prop} (hpost : ∀ tb e args s v u, (limb_1_1.after args s (.returned v) u = true ∧ limb_1_2.after args s (.returned v) u = true ∧ True) → FrameEnd s (.returned v) u (Jvm.fieldLocs frame_1_writes args s ++ Jvm.arrayLocs frame_1_arrays args s ++ Jvm.staticLocs frame_1_statics s) 24 192 → Post tb e args s (.returned v) u) :
    ArmFor flags0 classFile x code maxLocals ret World_1 tables_1 room_1 Calls_1 rest_1 Pre_1 Post := by
  intro l hfl _ _ p e ha hc hk s m args below hf hA hF happ hP
  obtain ⟨hcalls, hrest, hpre⟩ := hP
  obtain ⟨-, -, -, hnamed, -, -, -, hat⟩ := (Spec.applies_iff hf).mp happ
  obtain ⟨hg, hn⟩ := and_e (Cond.before_iff.mp (show (Jvm.Cond.and given_1 narrow_1).before args s = true from hpre))
  obtain ⟨h1, hg⟩ := and_e hg
  obtain ⟨k0, hg⟩ := and_e hg
  obtain ⟨k1, hg⟩ := and_e hg
  obtain ⟨k2, hg⟩ := and_e hg
  obtain ⟨k3, hg⟩ := and_e hg
  obtain ⟨k4, hg⟩ := and_e hg
  have k5 := hg
  obtain ⟨w0, w1, w2, w3, w4, w5, rfl⟩ : ∃ w0 w1 w2 w3 w4 w5 : Value, args = #[w0, w1, w2, w3, w4, w5] := by
    have hs : args.size = 6 := by simpa [Cond.value, given_1] using h1
    obtain ⟨L⟩ := args
    match L, hs with
    | [w0, w1, w2, w3, w4, w5], _ => exact ⟨w0, w1, w2, w3, w4, w5, rfl⟩
  have hw := fun d (hd : d ∈ tables_1) => atoms_spec (ws := Jvm.Cond.code x code maxLocals ret :: tables_1) hat d (List.mem_cons_of_mem _ hd)
  obtain ⟨i0, ei0⟩ := isL_v k0
  obtain rfl : w0 = (.long i0) := Option.some.inj ei0
  obtain ⟨i1, ei1⟩ := isL_v k1
  obtain rfl : w1 = (.long i1) := Option.some.inj ei1
  obtain ⟨i2, ei2⟩ := isL_v k2
  obtain rfl : w2 = (.long i2) := Option.some.inj ei2
  obtain ⟨i3, ei3⟩ := isL_v k3
  obtain rfl : w3 = (.long i3) := Option.some.inj ei3
  obtain ⟨i4, ei4⟩ := isL_v k4
  obtain rfl : w4 = (.long i4) := Option.some.inj ei4
  obtain ⟨i5, ei5⟩ := isL_v k5
  obtain rfl : w5 = (.long i5) := Option.some.inj ei5
  obtain ⟨n, o, h1, h2, h3, _, L, rfl, ⟨rfl, N⟩, hq⟩ := rm0 l s _ hw i0 i1 i2 i3 i4 i5 s.heap s.heap.size (Nat.le_refl _) tables_1 p e ha hc hk s m _ below hf ((Spec.applies_iff_loose hf).mp happ).1 ⟨rfl, State.Warmed39.refl s, rfl⟩ trivial
  refine ⟨n, _, h1, h2, h3, hpost _ _ _ _ _ _ ⟨Cond.after_iff.mpr rfl, Cond.after_iff.mpr (eq_i res_at (Term.int_eval (1)) rfl), trivial⟩ ⟨hq.1, hq.2.1, (hq.2.2.sift fun y hy => Or.inr (N y hy)).mono (by decide) (by decide)⟩⟩
theorem main_1_1 : Claimed_1_1 := comes_1 fun _ _ _ _ _ _ h hF => ⟨h.1, hF⟩
theorem main_1_2 : Claimed_1_2 := comes_1 fun _ _ _ _ _ _ h hF => ⟨h.2.1, hF⟩
end Jvm.Pilot.@@N@@
namespace Jvm.Pilot.@@N@@
open Jvm Jvm.ClassFile Sem Op Lib Jvm.Free Jvm.Stand Jvm.Pilot.@@N@@.Jvm.D
/-! MADE BY PROGRAM (witnessworld.py) out of the Statement's table words and the real class files: 10 classes; the members and pool entries that the words name. The judged class is class 1, her method 1. -/
namespace start1
open Jvm.ClassFile
def u (s : String) : CpInfo := .utf8 (stringToUtf16 s)
/-- a pool by its gaps: so many unusable entries, then the entry; so many at the end -/
def gap : Nat → List CpInfo → List CpInfo
  | 0, r => r
  | n + 1, r => .unusable :: gap n r
def poolList (es : List (Nat × CpInfo)) (last : Nat) : List CpInfo := es.foldr (fun e r => gap e.1 (e.2 :: r)) (gap last [])
def pool (es : List (Nat × CpInfo)) (last : Nat) : Array CpInfo := ⟨poolList es last⟩
def fileOf (pool : Array CpInfo) (this : Nat) (attrs : Array Attribute := #[]) (ms : Array MethodInfo := #[]) (fl : Nat := 33) (sup : Nat := 0) (ifs : Array Nat := #[]) (fds : Array FieldInfo := #[]) : ClassFile where
  minorVersion := 0
  majorVersion := 65
  constantPool := pool
  accessFlags := fl
  thisClass := this
  superClass := sup
  interfaces := ifs
  fields := fds
  methods := ms
  attributes := attrs
def plain (name : String) (sup : Option ClassId) : Class where
  name := name
  kind := .ordinary
  loader := none
  accessFlags := 33
  super := sup
  interfaces := #[]
  cf := none
  fields := #[]
  methods := #[]
  instanceTypes := #[]
  staticTypes := #[]
  resolved := #[]
  callSites := []
  init := .initialized
  statics := none
  mirror := none

def pool0 : Array CpInfo := pool [(5, u "<init>"), (0, u "()V"), (1, .class_ 10), (1, u "java/lang/Object")] 113

def k0c0 : Code := { maxStack := 0, maxLocals := 1, code := object_method_1_code, exceptionTable := #[], attributes := #[] }
def k0m0 : Method := { name := "<init>", desc := "()V", sig := { parameters := [], returnType := none }, accessFlags := 1, code := some k0c0 }
/-- java/lang/Object -/
def k0 : Class := { plain "java/lang/Object" none with
  accessFlags := 33
  interfaces := #[]
  cf := some (fileOf pool0 8 #[] #[{ accessFlags := 1, nameIndex := 5, descriptorIndex := 6, attributes := #[] }] 33 0 #[] #[])
  fields := #[]
  methods := #[k0m0]
  instanceTypes := #[]
  staticTypes := #[]
  resolved := Array.replicate 124 none
  statics := none }

def pool1 : Array CpInfo := pool [(2, .class_ 4), (1, u "java/lang/Object"), (0, u "<init>"), (0, u "()V"), (0, .class_ 8), (0, u "com/example/hivetable/hivetable/course/CourseScore"), (0, .methodref 7 10), (0, .nameAndType 5 11), (0, u "(JJJJJJJJ)V"), (0, .methodref 7 13), (0, .nameAndType 14 15), (0, u "cost"), (0, u "()J"), (0, .class_ 17), (0, u "com/example/hivetable/hivetable/course/CourseScoreCostPinLaw"), (2, u "law"), (0, u "(JJJJJJ)Z")] 3

def k1m0 : Method := { name := "<init>", desc := "()V", sig := { parameters := [], returnType := none }, accessFlags := 2, code := none }
def k1c1 : Code := { maxStack := 18, maxLocals := 29, code := code, exceptionTable := #[], attributes := #[] }
def k1m1 : Method := { name := "law", desc := "(JJJJJJ)Z", sig := { parameters := [.long, .long, .long, .long, .long, .long], returnType := some .boolean }, accessFlags := 9, code := some k1c1 }
/-- com/example/hivetable/hivetable/course/CourseScoreCostPinLaw -/
def k1 : Class := { plain "com/example/hivetable/hivetable/course/CourseScoreCostPinLaw" (some 0) with
  accessFlags := 49
  interfaces := #[]
  cf := some (fileOf pool1 16 #[] #[{ accessFlags := 2, nameIndex := 5, descriptorIndex := 6, attributes := #[] }, { accessFlags := 9, nameIndex := 20, descriptorIndex := 21, attributes := #[] }] 49 2 #[] #[])
  fields := #[]
  methods := #[k1m0, k1m1]
  instanceTypes := #[]
  staticTypes := #[]
  resolved := Array.replicate 25 none
  statics := none }

def pool2 : Array CpInfo := pool [(1, .methodref 2 3), (0, .class_ 4), (0, .nameAndType 5 6), (0, u "java/lang/Object"), (0, u "<init>"), (0, u "()V"), (0, .class_ 8), (0, u "java/lang/Record")] 13

def k2c0 : Code := { maxStack := 1, maxLocals := 1, code := jdk_30_method_1_code, exceptionTable := #[], attributes := #[] }
def k2m0 : Method := { name := "<init>", desc := "()V", sig := { parameters := [], returnType := none }, accessFlags := 4, code := some k2c0 }
/-- java/lang/Record -/
def k2 : Class := { plain "java/lang/Record" (some 0) with
  accessFlags := 1057
  interfaces := #[]
  cf := some (fileOf pool2 7 #[] #[{ accessFlags := 4, nameIndex := 5, descriptorIndex := 6, attributes := #[] }] 1057 2 #[] #[])
  fields := #[]
  methods := #[k2m0]
  instanceTypes := #[]
  staticTypes := #[]
  resolved := Array.replicate 22 none
  statics := none }

def pool3 : Array CpInfo := pool [(1, .methodref 2 3), (0, .class_ 4), (0, .nameAndType 5 6), (0, u "java/lang/Record"), (0, u "<init>"), (0, u "()V"), (0, .fieldref 8 9), (0, .class_ 10), (0, .nameAndType 11 12), (0, u "com/example/hivetable/hivetable/course/CourseScore"), (0, u "lectures"), (0, u "J"), (0, .fieldref 8 14), (0, .nameAndType 15 12), (0, u "conflicts"), (0, .fieldref 8 17), (0, .nameAndType 18 12), (0, u "availability"), (0, .fieldref 8 20), (0, .nameAndType 21 12), (0, u "roomOccupation"), (0, .fieldref 8 23), (0, .nameAndType 24 12), (0, u "roomCapacity"), (0, .fieldref 8 26), (0, .nameAndType 27 12), (0, u "minWorkingDays"), (0, .fieldref 8 29), (0, .nameAndType 30 12), (0, u "curriculumCompactness"), (0, .fieldref 8 32), (0, .nameAndType 33 12), (0, u "roomStability"), (15, u "()J"), (22, u "(JJJJJJJJ)V"), (11, u "cost"), (15, u "MIN_WORKING_DAYS_WEIGHT"), (0, u "I"), (2, u "CURRICULUM_COMPACTNESS_WEIGHT")] 66

def k3c0 : Code := { maxStack := 3, maxLocals := 17, code := prog_14_method_1_code, exceptionTable := #[], attributes := #[] }
def k3m0 : Method := { name := "<init>", desc := "(JJJJJJJJ)V", sig := { parameters := [.long, .long, .long, .long, .long, .long, .long, .long], returnType := none }, accessFlags := 1, code := some k3c0 }
def k3c1 : Code := { maxStack := 4, maxLocals := 1, code := prog_14_method_5_code, exceptionTable := #[], attributes := #[] }
def k3m1 : Method := { name := "cost", desc := "()J", sig := { parameters := [], returnType := some .long }, accessFlags := 1, code := some k3c1 }
/-- com/example/hivetable/hivetable/course/CourseScore -/
def k3 : Class := { plain "com/example/hivetable/hivetable/course/CourseScore" (some 2) with
  accessFlags := 49
  interfaces := #[]
  cf := some (fileOf pool3 8 #[] #[{ accessFlags := 1, nameIndex := 5, descriptorIndex := 72, attributes := #[] }, { accessFlags := 1, nameIndex := 84, descriptorIndex := 49, attributes := #[] }] 49 2 #[] #[{ accessFlags := 18, nameIndex := 11, descriptorIndex := 12, attributes := #[] }, { accessFlags := 18, nameIndex := 15, descriptorIndex := 12, attributes := #[] }, { accessFlags := 18, nameIndex := 18, descriptorIndex := 12, attributes := #[] }, { accessFlags := 18, nameIndex := 21, descriptorIndex := 12, attributes := #[] }, { accessFlags := 18, nameIndex := 24, descriptorIndex := 12, attributes := #[] }, { accessFlags := 18, nameIndex := 27, descriptorIndex := 12, attributes := #[] }, { accessFlags := 18, nameIndex := 30, descriptorIndex := 12, attributes := #[] }, { accessFlags := 18, nameIndex := 33, descriptorIndex := 12, attributes := #[] }, { accessFlags := 24, nameIndex := 100, descriptorIndex := 101, attributes := #[] }, { accessFlags := 24, nameIndex := 104, descriptorIndex := 101, attributes := #[] }])
  fields := #[{ name := "lectures", type := .long, accessFlags := 18, slot := 0, constantValue := 0 }, { name := "conflicts", type := .long, accessFlags := 18, slot := 1, constantValue := 0 }, { name := "availability", type := .long, accessFlags := 18, slot := 2, constantValue := 0 }, { name := "roomOccupation", type := .long, accessFlags := 18, slot := 3, constantValue := 0 }, { name := "roomCapacity", type := .long, accessFlags := 18, slot := 4, constantValue := 0 }, { name := "minWorkingDays", type := .long, accessFlags := 18, slot := 5, constantValue := 0 }, { name := "curriculumCompactness", type := .long, accessFlags := 18, slot := 6, constantValue := 0 }, { name := "roomStability", type := .long, accessFlags := 18, slot := 7, constantValue := 0 }, { name := "MIN_WORKING_DAYS_WEIGHT", type := .int, accessFlags := 24, slot := 0, constantValue := 0 }, { name := "CURRICULUM_COMPACTNESS_WEIGHT", type := .int, accessFlags := 24, slot := 1, constantValue := 0 }]
  methods := #[k3m0, k3m1]
  instanceTypes := #[.long, .long, .long, .long, .long, .long, .long, .long]
  staticTypes := #[.int, .int]
  resolved := Array.replicate 171 none
  statics := none }

def pool4 : Array CpInfo := pool [(1, u "java/lang/Cloneable"), (0, .class_ 1), (0, u "java/lang/Object"), (0, .class_ 3)] 3

/-- java/lang/Cloneable -/
def k4 : Class := { plain "java/lang/Cloneable" (some 0) with
  accessFlags := 1537
  interfaces := #[]
  cf := some (fileOf pool4 2 #[] #[] 1537 4 #[] #[])
  fields := #[]
  methods := #[]
  instanceTypes := #[]
  staticTypes := #[]
  resolved := Array.replicate 8 none
  statics := none }

def pool5 : Array CpInfo := pool [(1, u "java/io/Serializable"), (0, .class_ 1), (0, u "java/lang/Object"), (0, .class_ 3)] 3

/-- java/io/Serializable -/
def k5 : Class := { plain "java/io/Serializable" (some 0) with
  accessFlags := 1537
  interfaces := #[]
  cf := some (fileOf pool5 2 #[] #[] 1537 4 #[] #[])
  fields := #[]
  methods := #[]
  instanceTypes := #[]
  staticTypes := #[]
  resolved := Array.replicate 8 none
  statics := none }

/-- the primitive byte -/
def k6 : Class := { plain "byte" none with kind := .primitive 'B', accessFlags := 0x411 }
/-- [B -/
def k7 : Class := { plain "[B" (some 0) with kind := .array 6 .byte, interfaces := #[4, 5], accessFlags := 1041 }

/-- the primitive int -/
def k8 : Class := { plain "int" none with kind := .primitive 'I', accessFlags := 0x411 }
/-- [I -/
def k9 : Class := { plain "[I" (some 0) with kind := .array 8 .int, interfaces := #[4, 5], accessFlags := 1041 }

def heap : Heap := #[]
def classes : Array Class := #[k0, k1, k2, k3, k4, k5, k6, k7, k8, k9]
def interned : List (Array UInt16 × Addr) := []
def slotsUsed : Nat := 0
def theMethod : MethodId := ⟨1, 1⟩
def args0 : Array Value := #[.long 5, .long 5, .long 5, .long 5, .long 5, .long 5]
def aboutOver (below : List Frame) : State where
  vm := { classes := classes, interned := interned.toArray }
  heap := heap
  slotsUsed := slotsUsed
  threads := #[{ frames := .invoking theMethod args0 :: below }]
def below0 : List Frame := [.native { method := ⟨0, 0⟩, args := #[] }]
def about1 : State := aboutOver below0
def p0 : Program := .bare "" "" ""
def e0 : Env := launch0.env 0 0 0
theorem w_frames : about1.frames = Frame.invoking theMethod args0 :: below0 := rfl
set_option maxRecDepth 65536 in
theorem w_args : argsFit about1.vm theMethod args0 = true := by decide +kernel
set_option maxRecDepth 65536 in
theorem w_heap : heapFits about1 = true := by decide +kernel
set_option maxRecDepth 65536 in
theorem w_runnable : about1.curStatus? = some .runnable := by decide +kernel
set_option maxRecDepth 65536 in
theorem w_alone : about1.alone = true := by decide +kernel
set_option maxRecDepth 65536 in
theorem w_named : about1.methodNamed? x = some theMethod := by decide +kernel
set_option maxRecDepth 65536 in
theorem w_hears : about1.hears theMethod below0 = true := by decide +kernel
set_option maxRecDepth 65536 in
theorem w_ripe : about1.ripe theMethod args0 below0 = true := by decide +kernel
theorem w_running : about1.status = .running := rfl
set_option maxRecDepth 65536 in
theorem w_room : about1.hasRoom e0.platform room_1 = true :=
  launch0.hasRoom_least _ room_1 (by decide +kernel) (by decide +kernel) (by decide +kernel) (by decide +kernel) (by decide +kernel) (by decide +kernel)
theorem allAtoms_all (ts : List Jvm.Cond) (a : Array Jvm.Value) (st : Jvm.State) : (allAtoms ts).before a st = ts.all (fun c => c.before a st) := by
  induction ts with
  | nil => rfl
  | cons c t ih =>
    show (Jvm.Cond.and c (allAtoms t)).before a st = _
    rw [Jvm.Cond.before_and, ih, List.all_cons]
def words1 : List Jvm.Cond := Jvm.Cond.code x code maxLocals ret :: tables_1
/-- a 'code' word, met by the world's own term for the bytes: nothing is compared byte by byte -/
theorem code_word {y : MethodName} {bytes : ByteArray} {mx : Nat} {rt : Option FieldType} {a : Array Value} {s : State} {m : MethodId} {meth : Method} {c : Code} (h1 : s.methodNamed? y = some m) (h2 : s.vm.method? m = some meth) (h3 : meth.code = some c) (h4 : c.code = bytes)
    (h5 : (c.maxLocals == mx && c.exceptionTable.isEmpty && decide (c.maxStack ≤ mostOperands) && decide (meth.sig.returnType = rt) && !meth.locks && decide (parseMethodDescriptor y.desc = some meth.sig)) = true) : (Jvm.Cond.code y bytes mx rt).before a s = true := by
  simp only [Bool.and_eq_true, beq_iff_eq, Bool.not_eq_true', decide_eq_true_eq] at h5
  obtain ⟨⟨⟨⟨⟨g1, g2⟩, g3⟩, g4⟩, g5⟩, g6⟩ := h5
  simp [Cond.before, Cond.holds, Cond.value, h1, h2, h3, h4, g1, g2, g3, g4, g5, g6]
def isCode : Jvm.Cond → Bool
  | .code _ _ _ _ => true
  | _ => false
theorem all_split {L : List Jvm.Cond} {P : Jvm.Cond → Bool} (h1 : L.all (fun c => isCode c || P c) = true) (h2 : ∀ c ∈ L.filter isCode, P c = true) : L.all P = true := by
  refine List.all_eq_true.mpr fun c hc => ?_
  have h := List.all_eq_true.mp h1 c hc
  rcases Bool.eq_false_or_eq_true (isCode c) with hi | hi
  · exact h2 c (List.mem_filter.mpr ⟨hc, hi⟩)
  · simpa [hi] using h
set_option maxRecDepth 65536 in
theorem w_c0 : (Jvm.Cond.code x code maxLocals ret).before args0 about1 = true := code_word (m := ⟨1, 1⟩) (meth := k1m1) (c := k1c1) (by decide +kernel) rfl rfl rfl (by decide +kernel)
set_option maxRecDepth 65536 in
theorem w_c1 : (Jvm.Cond.code ({ cls := "com/example/hivetable/hivetable/course/CourseScore", name := "<init>", desc := "(JJJJJJJJ)V" } : Jvm.MethodName) prog_14_method_1_code (17 : Nat) (Option.none : Option Jvm.ClassFile.FieldType)).before args0 about1 = true := code_word (m := ⟨3, 0⟩) (meth := k3m0) (c := k3c0) (by decide +kernel) rfl rfl rfl (by decide +kernel)
set_option maxRecDepth 65536 in
theorem w_c2 : (Jvm.Cond.code ({ cls := "java/lang/Record", name := "<init>", desc := "()V" } : Jvm.MethodName) jdk_30_method_1_code (1 : Nat) (Option.none : Option Jvm.ClassFile.FieldType)).before args0 about1 = true := code_word (m := ⟨2, 0⟩) (meth := k2m0) (c := k2c0) (by decide +kernel) rfl rfl rfl (by decide +kernel)
set_option maxRecDepth 65536 in
theorem w_c3 : (Jvm.Cond.code ({ cls := "java/lang/Object", name := "<init>", desc := "()V" } : Jvm.MethodName) object_method_1_code (1 : Nat) (Option.none : Option Jvm.ClassFile.FieldType)).before args0 about1 = true := code_word (m := ⟨0, 0⟩) (meth := k0m0) (c := k0c0) (by decide +kernel) rfl rfl rfl (by decide +kernel)
set_option maxRecDepth 65536 in
theorem w_c4 : (Jvm.Cond.code ({ cls := "com/example/hivetable/hivetable/course/CourseScore", name := "cost", desc := "()J" } : Jvm.MethodName) prog_14_method_5_code (1 : Nat) (Option.some Jvm.ClassFile.FieldType.long)).before args0 about1 = true := code_word (m := ⟨3, 1⟩) (meth := k3m1) (c := k3c1) (by decide +kernel) rfl rfl rfl (by decide +kernel)
def codes1 : List Jvm.Cond := [Jvm.Cond.code x code maxLocals ret, Jvm.Cond.code ({ cls := "com/example/hivetable/hivetable/course/CourseScore", name := "<init>", desc := "(JJJJJJJJ)V" } : Jvm.MethodName) prog_14_method_1_code (17 : Nat) (Option.none : Option Jvm.ClassFile.FieldType), Jvm.Cond.code ({ cls := "java/lang/Record", name := "<init>", desc := "()V" } : Jvm.MethodName) jdk_30_method_1_code (1 : Nat) (Option.none : Option Jvm.ClassFile.FieldType), Jvm.Cond.code ({ cls := "java/lang/Object", name := "<init>", desc := "()V" } : Jvm.MethodName) object_method_1_code (1 : Nat) (Option.none : Option Jvm.ClassFile.FieldType), Jvm.Cond.code ({ cls := "com/example/hivetable/hivetable/course/CourseScore", name := "cost", desc := "()J" } : Jvm.MethodName) prog_14_method_5_code (1 : Nat) (Option.some Jvm.ClassFile.FieldType.long)]
set_option maxRecDepth 65536 in
theorem codes_eq : words1.filter isCode = codes1 := rfl
theorem w_codes : ∀ c ∈ words1.filter isCode, c.before args0 about1 = true := by
  rw [codes_eq]
  intro c hc
  simp only [codes1, List.mem_cons, List.not_mem_nil, or_false] at hc
  rcases hc with rfl | rfl | rfl | rfl | rfl
  · exact w_c0
  · exact w_c1
  · exact w_c2
  · exact w_c3
  · exact w_c4
set_option maxRecDepth 65536 in
theorem w_t1 : (words1.take 24).all (fun c => isCode c || c.before args0 about1) = true := by decide +kernel
set_option maxRecDepth 65536 in
theorem w_t2 : (words1.drop 24).all (fun c => isCode c || c.before args0 about1) = true := by decide +kernel
theorem w_tables : (allAtoms (Jvm.Cond.code x code maxLocals ret :: tables_1)).before args0 about1 = true := by
  rw [allAtoms_all]
  show words1.all (fun c => c.before args0 about1) = true
  refine all_split ?_ w_codes
  rw [← List.take_append_drop 24 words1, List.all_append, w_t1, w_t2]
  rfl
set_option maxRecDepth 65536 in
theorem w_case : (Jvm.Cond.and given_1 narrow_1).before args0 about1 = true := by decide +kernel
theorem w_applies : (headSpec (Jvm.Cond.code x code maxLocals ret :: tables_1) room_1).applies x e0.platform about1 = true :=
  (Spec.applies_iff w_frames).mpr ⟨w_running, w_runnable, w_alone, w_named, w_hears, w_ripe, w_room, w_tables⟩
theorem atStart : AtStart classFile x code maxLocals ret World_1 tables_1 room_1 Calls_1 rest_1 Pre_1 launch0 p0 e0 about1 theMethod args0 below0 :=
  ⟨lists_1, trivial, launch0.admits_env _ _ _, launch0.least_env, fairChoices_fair.cas, fairChoices_fair.clock, w_frames, w_args, w_heap, w_applies, trivial, trivial, w_case⟩
end start1
theorem witness_1 : WitnessClaimed_1 := ⟨start1.p0, start1.e0, start1.about1, start1.theMethod, start1.args0, start1.below0, start1.atStart⟩
end Jvm.Pilot.@@N@@
