import JvmDerived
import JvmDerived.Pilot.@@N@@Statement
import JvmDerived.Pilot.@@N@@Code
set_option linter.unusedVariables false
set_option linter.unusedSimpArgs false
namespace Jvm.Own
open Sem ClassFile Op Lib Jvm.Stand Jvm.Free Jvm.LawKit Jvm.RoadKit
section Own
variable {p : Program} {l : Launch} {e : Env} {R : Room} {s : State} {m : MethodId} {args : Array Value} {below : List Frame} {meth : Method} {c : Code} {T : State} {locs : List Loc} {cells slots : Nat} {Q : Option Value → Heap → List Loc → Prop} {k n : Nat} {Z : State} {a0 : Array Value} {h h' h0 : Heap} {pc pc' : Nat} {Ls : Array Slot} {rest : List Value}
/-- from U the invocation comes to its end, returns, and Q holds there -/
def Till (p : Program) (e : Env) (below : List Frame) (s : State) (Q : Option Value → Heap → List Loc → Prop) (k n : Nat) (U : State) : Prop :=
  ∃ s₂ o, Steps p.tables e below U s₂ ∧ s₂.status = .running ∧ Ended s₂ below o ∧ ∃ v L, o = .returned v ∧ Q v s₂.heap L ∧ FrameEnd s o s₂ L k n
/-- a body's contract -/
def Ctr (l : Launch) (Z : State) (y : MethodName) (bytes : ByteArray) (maxL : Nat) (ret : Option FieldType) (rm : Room) (as : Array Value) (h : Heap) (Q : Option Value → Heap → List Loc → Prop) : Prop :=
  ∀ ws, MetFree l y (head1 (Jvm.Cond.code y bytes maxL ret :: ws) rm) (fun a U => a = as ∧ Z.Warmed39 U.vm ∧ U.heap = h) (fun _ _ _ _ _ => True) (fun _ U o U' => ∃ v L, o = .returned v ∧ Q v U'.heap L ∧ FrameEnd U o U' L rm.cells rm.slots)
theorem Till.pre {U V : State} (hs : ∀ t, Steps p.tables e below V t → Steps p.tables e below U t) (r : Till p e below s Q k n V) : Till p e below s Q k n U := by
  obtain ⟨s₂, o, h1, r⟩ := r; exact ⟨s₂, o, hs _ h1, r⟩
theorem Till.via {U V : State} (hs : Steps p.tables e below U V) (r : Till p e below s Q k n V) : Till p e below s Q k n U := by
  obtain ⟨s₂, o, h1, r⟩ := r; exact ⟨s₂, o, hs.trans h1, r⟩
theorem Till.cast {g g' : JFrame} (q : g = g') (r : Till p e below s Q k n (T.setTop g')) : Till p e below s Q k n (T.setTop g) := q ▸ r
theorem Ctr.of {y : MethodName} {bytes : ByteArray} {maxL : Nat} {ret : Option FieldType} {rm : Room} {as : Array Value} (hp : plainFor y = true)
    (body : ∀ p e s m below meth c s₁, p.tables.exec = Jvm.exec → c.code = bytes → c.maxLocals = maxL → s.vm.findClass y.cls = some m.cls → meth.name = y.name → meth.sig.returnType = ret → meth.locks = false → Z.Warmed39 s.vm → s₁.heap = h →
      Stand p l e rm s m as below meth c s₁ [] 0 0 → Till p e below s Q rm.cells rm.slots (s₁.setTop (entryFrame m as maxL))) : Ctr l Z y bytes maxL ret rm as h Q := by
  intro ws
  refine MetFree.of_bodySF hp hisR ?_
  intro p e s m args below meth c s₁ Bd hml hP hK
  obtain ⟨rfl, hZ, hh⟩ := hP
  exact body p e s m below meth c s₁ Bd.exec Bd.bytes hml (findClass_of_methodNamed Bd.named) (name_of_methodNamed Bd.named Bd.method).1 Bd.returns Bd.notSynchronized hZ (by rw [← hh, Bd.state]; rfl) (Stand.of_body Bd)
/-! branches -/
theorem Till.icmp {cd : ClassFile.Cond} {x y : Int32} {o : Int} (h : At T m c below) (hx : p.tables.exec = Jvm.exec) (hd : decode c.code pc = .ok (.if_icmp cd o, 3)) (ho : 0 ≤ (pc : Int) + o) (hp : ((pc : Int) + o).toNat = pc')
    (r1 : if_icmp.holds cd x y = true → Till p e below s Q k n (T.setTop (mkF m pc' Ls rest))) (r2 : if_icmp.holds cd x y = false → Till p e below s Q k n (T.setTop (mkF m (pc + 3) Ls rest))) : Till p e below s Q k n (T.setTop (mkF m pc Ls (.int y :: .int x :: rest))) := by
  cases hb : if_icmp.holds cd x y with
  | true => exact Till.pre (fun _ hr => XS.icmpYes h hx rfl (pc0 := pc) (pc' := pc') rfl hd rfl hb ho hp hr) (r1 hb)
  | false => exact Till.pre (fun _ hr => XS.icmpNo h hx rfl hd rfl hb hr) (r2 hb)
theorem Till.ifc {cd : ClassFile.Cond} {x : Int32} {o : Int} (h : At T m c below) (hx : p.tables.exec = Jvm.exec) (hd : decode c.code pc = .ok (.ifCond cd o, 3)) (ho : 0 ≤ (pc : Int) + o) (hp : ((pc : Int) + o).toNat = pc')
    (r1 : if_icmp.holds cd x 0 = true → Till p e below s Q k n (T.setTop (mkF m pc' Ls rest))) (r2 : if_icmp.holds cd x 0 = false → Till p e below s Q k n (T.setTop (mkF m (pc + 3) Ls rest))) : Till p e below s Q k n (T.setTop (mkF m pc Ls (.int x :: rest))) := by
  cases hb : if_icmp.holds cd x 0 with
  | true => exact Till.pre (fun _ hr => XS.ifYes h hx rfl (pc0 := pc) (pc' := pc') rfl hd rfl ((if0 _ _).trans hb) ho hp hr) (r1 hb)
  | false => exact Till.pre (fun _ hr => XS.ifNo h hx rfl hd rfl ((if0 _ _).trans hb) hr) (r2 hb)
theorem hEq {x y : Int32} : (if_icmp.holds .eq x y = true → x = y) ∧ (if_icmp.holds .eq x y = false → ¬ x = y) ∧ (if_icmp.holds .ne x y = true → ¬ x = y) ∧ (if_icmp.holds .ne x y = false → x = y) := by
  by_cases q : x = y
  · obtain ⟨h1, h2⟩ := teq q; rw [h1, h2]; simp [q]
  · obtain ⟨h1, h2⟩ := feq q; rw [h1, h2]; simp [q]
theorem hLt {x y : Int32} : (if_icmp.holds .lt x y = true → x < y) ∧ (if_icmp.holds .lt x y = false → ¬ x < y) ∧ (if_icmp.holds .ge x y = true → ¬ x < y) ∧ (if_icmp.holds .ge x y = false → x < y) ∧ (if_icmp.holds .gt y x = true → x < y) ∧ (if_icmp.holds .gt y x = false → ¬ x < y) ∧ (if_icmp.holds .le y x = true → ¬ x < y) ∧ (if_icmp.holds .le y x = false → x < y) := by
  by_cases q : x < y
  · obtain ⟨h1, h2, h3, h4⟩ := tlt q; rw [h1, h2, h3, h4]; simp [q]
  · obtain ⟨h1, h2, h3, h4⟩ := flt q; rw [h1, h2, h3, h4]; simp [q]
theorem lEq {x y : Int64} : lcmpW x y = 0 ↔ x = y := by rw [lcW x y]; exact lc_eq x y
theorem lLt {x y : Int64} : lcmpW x y < 0 ↔ x < y := by rw [lcW x y]; exact lc_lt x y
theorem lGt {x y : Int64} : 0 < lcmpW x y ↔ y < x := by rw [lcW x y]; exact lc_gt x y
/-- Java's >>> on longs -/
def lsr (x : Int64) (y : Int32) : Int64 := (x.toUInt64 >>> (y &&& 0x3f).toInt64.toUInt64).toInt64
/-! returns -/
theorem Till.retI (X : Stand p l e R s m args below meth c T locs cells slots) (hx : p.tables.exec = Jvm.exec) (hret : meth.sig.returnType = some .int) (hlk : meth.locks = false) {z : Int32} (hd : decode c.code pc = .ok (.ireturn, 1)) (hk : cells ≤ k) (hn : slots ≤ n) (hq : Q (some (.int z)) T.heap locs) : Till p e below s Q k n (T.setTop (mkF m pc Ls (.int z :: rest))) := by
  obtain ⟨fs, hr, hrun, hended, hW, hsame⟩ := X.leave (v := some (.int z)) (fun q => by rw [hret] at q; cases q) hlk
  exact ⟨_, _, retOut X hx hret rfl (Or.inl ⟨rfl, Or.inl rfl, z, rfl⟩) hd hr, hrun, hended, _, _, rfl, hq, ⟨_, rfl⟩, hW, hsame.mono hk hn⟩
theorem Till.retZ (X : Stand p l e R s m args below meth c T locs cells slots) (hx : p.tables.exec = Jvm.exec) (hret : meth.sig.returnType = some .boolean) (hlk : meth.locks = false) {z w : Int32} (hd : decode c.code pc = .ok (.ireturn, 1)) (hk : cells ≤ k) (hn : slots ≤ n) (hz : z &&& 1 = w) (hq : Q (some (.int w)) T.heap locs) : Till p e below s Q k n (T.setTop (mkF m pc Ls (.int z :: rest))) := by
  subst hz
  obtain ⟨fs, hr, hrun, hended, hW, hsame⟩ := X.leave (v := some (.int (z &&& 1))) (fun q => by rw [hret] at q; cases q) hlk
  exact ⟨_, _, retN X hx (t := .boolean) hret (Or.inl rfl) hd hr, hrun, hended, _, _, rfl, hq, ⟨_, rfl⟩, hW, hsame.mono hk hn⟩
theorem Till.retJ (X : Stand p l e R s m args below meth c T locs cells slots) (hx : p.tables.exec = Jvm.exec) (hret : meth.sig.returnType = some .long) (hlk : meth.locks = false) {z : Int64} (hd : decode c.code pc = .ok (.lreturn, 1)) (hk : cells ≤ k) (hn : slots ≤ n) (hq : Q (some (.long z)) T.heap locs) : Till p e below s Q k n (T.setTop (mkF m pc Ls (.long z :: rest))) := by
  obtain ⟨fs, hr, hrun, hended, hW, hsame⟩ := X.leave (v := some (.long z)) (fun q => by rw [hret] at q; cases q) hlk
  exact ⟨_, _, retOut X hx hret rfl (Or.inr (Or.inl ⟨rfl, rfl, z, rfl⟩)) hd hr, hrun, hended, _, _, rfl, hq, ⟨_, rfl⟩, hW, hsame.mono hk hn⟩
theorem Till.retA (X : Stand p l e R s m args below meth c T locs cells slots) (hx : p.tables.exec = Jvm.exec) {t : FieldType} (hret : meth.sig.returnType = some t) (ht : t.isReference = true) (hlk : meth.locks = false) {w : Value} (hw : w.isRef = true) (hnw : narrow t w = w) (hd : decode c.code pc = .ok (.areturn, 1)) (hk : cells ≤ k) (hn : slots ≤ n) (hq : Q (some w) T.heap locs) : Till p e below s Q k n (T.setTop (mkF m pc Ls (w :: rest))) := by
  obtain ⟨fs, hr, hrun, hended, hW, hsame⟩ := X.leave (v := some w) (fun q => by rw [hret] at q; cases q) hlk
  exact ⟨_, _, retOut X hx hret hnw (Or.inr (Or.inr (Or.inr (Or.inr ⟨rfl, ht, hw⟩)))) hd hr, hrun, hended, _, _, rfl, hq, ⟨_, rfl⟩, hW, hsame.mono hk hn⟩
theorem Till.retV (X : Stand p l e R s m args below meth c T locs cells slots) (hx : p.tables.exec = Jvm.exec) (hret : meth.sig.returnType = none) (hlk : meth.locks = false) (hd : decode c.code pc = .ok (.return_, 1)) (hk : cells ≤ k) (hn : slots ≤ n) (hq : Q none T.heap locs) : Till p e below s Q k n (T.setTop (mkF m pc Ls [])) := by
  obtain ⟨fs, hr, hrun, hended, hW, hsame⟩ := X.leave (v := none) (fun _ => rfl) hlk
  exact ⟨_, _, X.returnOut hx hret hd hr, hrun, hended, _, _, rfl, hq, ⟨_, rfl⟩, hW, hsame.mono hk hn⟩
/-! the heap -/
theorem Till.getF (X : Stand p l e R s m args below meth c T locs cells slots) (hx : p.tables.exec = Jvm.exec) (hZ : Z.Warmed39 s.vm) {own O nm d : String} {index : Nat} (hown : s.vm.findClass own = some m.cls) (w : (Jvm.Cond.fieldLink own index O nm d).before a0 Z = true) (eT : T.heap = h) {a : Addr} {v : Value} (F : Fld Z h a O nm d v) (hd : decode c.code pc = .ok (.getfield index, 3))
    (r : ∀ T', Stand p l e R s m args below meth c T' locs cells slots → T'.heap = h → Till p e below s Q k n (T'.setTop (mkF m (pc + 3) Ls (v :: rest)))) : Till p e below s Q k n (T.setTop (mkF m pc Ls (.ref a :: rest))) := by
  obtain ⟨T', X', e', st⟩ := Jvm.RoadKit.getF X hx hZ hown (host := "") (Or.inl w) Via.refl eT F (g := mkF m pc Ls (.ref a :: rest)) rfl rfl hd
  exact Till.pre st (r T' X' e')
theorem Till.putF (X : Stand p l e R s m args below meth c T locs cells slots) (hx : p.tables.exec = Jvm.exec) (hZ : Z.Warmed39 s.vm) {own O nm d C : String} {index kk : Nat} {ty : FieldType} (hown : s.vm.findClass own = some m.cls) (w : (Jvm.Cond.fieldLink own index O nm d).before a0 Z = true) (eT : T.heap = h) {a : Addr} {v old : Value} (F : Fld Z h a O nm d old) (E : Exa Z h a C)
    (L : (Jvm.Cond.lays C O nm d).before a0 Z = true ∨ ((Jvm.Cond.laysFinal C O nm d).before a0 Z = true ∧ own = O ∧ meth.name = "<init>")) (wi : (Jvm.Cond.instantiable C kk).before a0 Z = true) (hty : parseFieldDescriptor d = some ty) (hn : narrow ty v = v) (hf : fits ty v = true) (hd : decode c.code pc = .ok (.putfield index, 3))
    (r : ∀ T' h', Stand p l e R s m args below meth c T' (locs ++ [⟨a, Jvm.RoadKit.slotOf Z O nm d⟩]) cells slots → T'.heap = h' → Wr h h' a (Jvm.RoadKit.slotOf Z O nm d) v → Till p e below s Q k n (T'.setTop (mkF m (pc + 3) Ls rest))) : Till p e below s Q k n (T.setTop (mkF m pc Ls (v :: .ref a :: rest))) := by
  obtain ⟨T', h', X', e', W, st⟩ := Jvm.RoadKit.putF X hx hZ hown (host := "") (Or.inl w) Via.refl eT F E L wi hty hn hf (g := mkF m pc Ls (v :: .ref a :: rest)) rfl rfl hd
  exact Till.pre st (r T' h' X' e' W)
theorem Till.newO (X : Stand p l e R s m args below meth c T locs cells slots) (hx : p.tables.exec = Jvm.exec) (hZ : Z.Warmed39 s.vm) {own C : String} {index sl : Nat} (hown : s.vm.findClass own = some m.cls) (w : (Jvm.Cond.classLink own index C).before a0 Z = true) (wi : (Jvm.Cond.instantiable C sl).before a0 Z = true) (wz : (Jvm.Cond.initialized C).before a0 Z = true) (eT : T.heap = h) (hd : decode c.code pc = .ok (.new index, 3)) (hc : cells + 1 ≤ R.cells) (hl : slots + sl ≤ R.slots)
    (r : ∀ T' h' b, b = h.size → Stand p l e R s m args below meth c T' locs (cells + 1) (slots + sl) → T'.heap = h' → Ext h h' → Exa Z h' b C → (∀ {O nm d : String} {ty : FieldType}, Laid Z a0 C O nm d → parseFieldDescriptor d = some ty → Fld Z h' b O nm d (defaultValue ty)) → Till p e below s Q k n (T'.setTop (mkF m (pc + 3) Ls (.ref b :: rest)))) : Till p e below s Q k n (T.setTop (mkF m pc Ls rest)) := by
  obtain ⟨T', h', X', e', E, A, D, -, st⟩ := Jvm.RoadKit.newO X hx hZ hown w wi wz eT (g := mkF m pc Ls rest) rfl hd hc hl
  exact Till.pre st (r T' h' _ rfl X' e' E A D)
theorem Till.initO (X : Stand p l e R s m args below meth c T locs cells slots) (hx : p.tables.exec = Jvm.exec) (hZ : Z.Warmed39 s.vm) {own : String} {idx : Nat} (hown : s.vm.findClass own = some m.cls) (w1 : (Jvm.Cond.methodLink own idx Lib.objectInit).before a0 Z = true) (w2 : (Jvm.Cond.instanceMethod Lib.objectInit).before a0 Z = true) (w3 : (Jvm.Cond.code Lib.objectInit ⟨#[0xb1]⟩ 1 none).before a0 Z = true) (eT : T.heap = h) (hsize : Ls.size = c.maxLocals) {a : Addr} (hd : decode c.code pc = .ok (.invokespecial idx, 3))
    (hf : 1 ≤ R.frames) {W : Nat} (hW : (rest.map fun v => v.category).sum ≤ W) (hl : W + 12 ≤ R.locals)
    (r : ∀ T', Stand p l e R s m args below meth c T' locs cells slots → T'.heap = h → Till p e below s Q k n (T'.setTop (mkF m (pc + 3) Ls rest))) : Till p e below s Q k n (T.setTop (mkF m pc Ls (.ref a :: rest))) := by
  obtain ⟨T', X', e', st⟩ := Jvm.RoadKit.initO X hx hZ hown w1 w2 w3 eT (g := mkF m pc Ls (.ref a :: rest)) rfl hsize rfl hd hf (W := W) (by show 2 * 0 + _ ≤ _; omega) hl
  exact Till.pre st (r T' X' e')
/-! arrays: what they hold, as a function of the place -/
def AR {α : Type} (ty : FieldType) (w : α → Value) (Z : State) (h : Heap) (a : Addr) (z : Int32) (f : Nat → α) : Prop := ∃ c : Cell, Arr Z h a c ty ∧ c.slots.size = z.toNatClampNeg ∧ ¬ z < 0 ∧ ∀ i, i < c.slots.size → c.slots[i]? = some (w (f i))
abbrev LA := @AR Int64 .long Value.long
abbrev IA := @AR Int32 .int Value.int
abbrev BA := @AR Int32 .byte Value.int
def oupd {α : Type} (f : Nat → α) (i : Nat) (v : α) : Nat → α := fun x => if x = i then v else f x
theorem upd_hit {α : Type} {f : Nat → α} {i j : Nat} {v : α} (q : j = i) : oupd f i v j = v := if_pos q
theorem upd_miss {α : Type} {f : Nat → α} {i j : Nat} {v : α} (q : ¬ j = i) : oupd f i v j = f j := if_neg q
section Ary
variable {α : Type} {ty : FieldType} {w : α → Value} {a b : Addr} {z j : Int32} {f : Nat → α} {ws : List Addr} {sl : Nat} {v : Value}
theorem AR.lt (A : AR ty w Z h a z f) : a < h.size := by obtain ⟨c, A, -⟩ := A; exact A.lt
theorem AR.pos (A : AR ty w Z h a z f) : ¬ z < 0 := by obtain ⟨c, -, -, q, -⟩ := A; exact q
theorem AR.ext (A : AR ty w Z h a z f) (E : Ext h h') : AR ty w Z h' a z f := by obtain ⟨c, A, r⟩ := A; exact ⟨c, A.ext E, r⟩
theorem AR.keep (A : AR ty w Z h a z f) (K : Keep h h' ws) (q : a ∉ ws) : AR ty w Z h' a z f := by obtain ⟨c, A, r⟩ := A; exact ⟨c, ⟨K.2.1 a c A.1 q, A.2⟩, r⟩
theorem AR.wr (A : AR ty w Z h a z f) (W : Wr h h' b sl v) (q : a ≠ b) : AR ty w Z h' a z f := by obtain ⟨c, A, r⟩ := A; exact ⟨c, A.other W q, r⟩
theorem AR.congr {g : Nat → α} (A : AR ty w Z h a z f) (q : ∀ i, i < z.toNatClampNeg → f i = g i) : AR ty w Z h a z g := by obtain ⟨c, A, S, N, H⟩ := A; exact ⟨c, A, S, N, fun i hi => by rw [H i hi, q i (S ▸ hi)]⟩
theorem AR.set {x : α} (A : AR ty w Z h a z f) (W : Wr h h' a j.toNatClampNeg (w x)) : AR ty w Z h' a z (oupd f j.toNatClampNeg x) := by
  obtain ⟨c, A, S, N, H⟩ := A
  refine ⟨_, A.same W, by rw [sz_set]; exact S, N, fun i hi => ?_⟩
  rw [sz_set] at hi
  by_cases u : i = j.toNatClampNeg
  · rw [upd_hit u]; subst u; simp [Cell.setSlot, hi]
  · rw [upd_miss u]; simp only [Cell.setSlot]; rw [Array.getElem?_setIfInBounds_ne (Ne.symm u)]; exact H i hi
theorem Till.newA {aty : ArrayType} {d0 : α} (X : Stand p l e R s m args below meth c T locs cells slots) (hx : p.tables.exec = Jvm.exec) (hZ : Z.Warmed39 s.vm) (wa : (Jvm.Cond.arrayClass (newarray.typeOf aty)).before a0 Z = true) (eT : T.heap = h) (hd : decode c.code pc = .ok (.newarray aty, 2)) (hdv : defaultValue (newarray.typeOf aty) = w d0) (hz : ¬ z < 0) (cap : Nat) (hcap : z.toNatClampNeg ≤ cap) (hb : cap * 8 ≤ 536870912) (hc : cells + 1 ≤ R.cells) (hl : slots + cap ≤ R.slots)
    (r : ∀ T' h' b, b = h.size → Stand p l e R s m args below meth c T' locs (cells + 1) (slots + cap) → T'.heap = h' → Ext h h' → AR (newarray.typeOf aty) w Z h' b z (fun _ => d0) → Till p e below s Q k n (T'.setTop (mkF m (pc + 2) Ls (.ref b :: rest)))) : Till p e below s Q k n (T.setTop (mkF m pc Ls (.int z :: rest))) := by
  obtain ⟨T', h', cA, X', e', E, A, st⟩ := newP X hx hZ wa eT (g := mkF m pc Ls (.int z :: rest)) rfl hd rfl hz (cap := cap) hcap hb hc hl
  exact Till.pre st (r T' h' _ rfl X' e' E ⟨_, A, sz_new _ _ _, hz, fun i hi => by rw [sz_new] at hi; simp [Jvm.RoadKit.newA, hi, hdv]⟩)
theorem Till.alen (A : AR ty w Z h a z f) (X : Stand p l e R s m args below meth c T locs cells slots) (hx : p.tables.exec = Jvm.exec) (hZ : Z.Warmed39 s.vm) (eT : T.heap = h) (hd : decode c.code pc = .ok (.arraylength, 1))
    (r : Till p e below s Q k n (T.setTop (mkF m (pc + 1) Ls (.int z :: rest)))) : Till p e below s Q k n (T.setTop (mkF m pc Ls (.ref a :: rest))) := by
  obtain ⟨c', A, S, N, H⟩ := A
  refine Till.pre (X.arraylength hx (by rw [eT]; exact A.1) (State.isArrayOf_alike hZ.alike A.2.1) (g := mkF m pc Ls (.ref a :: rest)) rfl rfl hd) ?_
  rw [len_of S N]; exact r
theorem AR.at (A : AR ty w Z h a z f) (h1 : ¬ j < 0) (h2 : j < z) : ∃ c : Cell, Arr Z h a c ty ∧ ¬ (j < 0 ∨ c.slots.size ≤ j.toNatClampNeg) ∧ c.slots[j.toNatClampNeg]? = some (w (f j.toNatClampNeg)) := by
  obtain ⟨c', A, S, N, H⟩ := A
  have hin := inb_of S ⟨h1, h2⟩
  exact ⟨c', A, hin, H _ (Nat.lt_of_not_le fun y => hin (Or.inr y))⟩
end Ary
section Acc
variable {a : Addr} {z j : Int32}
theorem Till.laload {f : Nat → Int64} (A : LA Z h a z f) (h1 : ¬ j < 0) (h2 : j < z) (X : Stand p l e R s m args below meth c T locs cells slots) (hx : p.tables.exec = Jvm.exec) (hZ : Z.Warmed39 s.vm) (eT : T.heap = h) (hd : decode c.code pc = .ok (.laload, 1))
    (r : Till p e below s Q k n (T.setTop (mkF m (pc + 1) Ls (.long (f j.toNatClampNeg) :: rest)))) : Till p e below s Q k n (T.setTop (mkF m pc Ls (.int j :: .ref a :: rest))) := by
  obtain ⟨c', A, hin, hv⟩ := A.at h1 h2
  exact Till.pre (X.laload hx (by rw [eT]; exact A.1) (State.isArrayOf_alike hZ.alike A.2.1) A.2.2 hin hv (g := mkF m pc Ls (.int j :: .ref a :: rest)) rfl rfl hd) r
theorem Till.iaload {f : Nat → Int32} (A : IA Z h a z f) (h1 : ¬ j < 0) (h2 : j < z) (X : Stand p l e R s m args below meth c T locs cells slots) (hx : p.tables.exec = Jvm.exec) (hZ : Z.Warmed39 s.vm) (eT : T.heap = h) (hd : decode c.code pc = .ok (.iaload, 1))
    (r : Till p e below s Q k n (T.setTop (mkF m (pc + 1) Ls (.int (f j.toNatClampNeg) :: rest)))) : Till p e below s Q k n (T.setTop (mkF m pc Ls (.int j :: .ref a :: rest))) := by
  obtain ⟨c', A, hin, hv⟩ := A.at h1 h2
  exact Till.pre (X.iaload hx (by rw [eT]; exact A.1) (State.isArrayOf_alike hZ.alike A.2.1) A.2.2 hin hv (g := mkF m pc Ls (.int j :: .ref a :: rest)) rfl rfl hd) r
theorem Till.baload {f : Nat → Int32} (A : BA Z h a z f) (h1 : ¬ j < 0) (h2 : j < z) (X : Stand p l e R s m args below meth c T locs cells slots) (hx : p.tables.exec = Jvm.exec) (hZ : Z.Warmed39 s.vm) (eT : T.heap = h) (hd : decode c.code pc = .ok (.baload, 1))
    (r : Till p e below s Q k n (T.setTop (mkF m (pc + 1) Ls (.int (f j.toNatClampNeg) :: rest)))) : Till p e below s Q k n (T.setTop (mkF m pc Ls (.int j :: .ref a :: rest))) := by
  obtain ⟨c', A, hin, hv⟩ := A.at h1 h2
  exact Till.pre (X.baloadBytes hx (by rw [eT]; exact A.1) (State.isArrayOf_alike hZ.alike A.2.1) A.2.2 hin hv (g := mkF m pc Ls (.int j :: .ref a :: rest)) rfl rfl hd) r
theorem Till.lastore {f : Nat → Int64} {x : Int64} (A : LA Z h a z f) (h1 : ¬ j < 0) (h2 : j < z) (X : Stand p l e R s m args below meth c T locs cells slots) (hx : p.tables.exec = Jvm.exec) (hZ : Z.Warmed39 s.vm) (eT : T.heap = h) (hd : decode c.code pc = .ok (.lastore, 1))
    (r : ∀ T' h', Stand p l e R s m args below meth c T' (locs ++ [⟨a, j.toNatClampNeg⟩]) cells slots → T'.heap = h' → Wr h h' a j.toNatClampNeg (.long x) → LA Z h' a z (oupd f j.toNatClampNeg x) → Till p e below s Q k n (T'.setTop (mkF m (pc + 1) Ls rest))) : Till p e below s Q k n (T.setTop (mkF m pc Ls (.long x :: .int j :: .ref a :: rest))) := by
  obtain ⟨c', A', hin, hv⟩ := A.at h1 h2
  obtain ⟨T', h', X', e', W, st⟩ := stJ X hx hZ eT A' hin (x := x) (g := mkF m pc Ls (.long x :: .int j :: .ref a :: rest)) rfl rfl hd
  exact Till.pre st (r T' h' X' e' W (AR.set A W))
theorem Till.iastore {f : Nat → Int32} {x : Int32} (A : IA Z h a z f) (h1 : ¬ j < 0) (h2 : j < z) (X : Stand p l e R s m args below meth c T locs cells slots) (hx : p.tables.exec = Jvm.exec) (hZ : Z.Warmed39 s.vm) (eT : T.heap = h) (hd : decode c.code pc = .ok (.iastore, 1))
    (r : ∀ T' h', Stand p l e R s m args below meth c T' (locs ++ [⟨a, j.toNatClampNeg⟩]) cells slots → T'.heap = h' → Wr h h' a j.toNatClampNeg (.int x) → IA Z h' a z (oupd f j.toNatClampNeg x) → Till p e below s Q k n (T'.setTop (mkF m (pc + 1) Ls rest))) : Till p e below s Q k n (T.setTop (mkF m pc Ls (.int x :: .int j :: .ref a :: rest))) := by
  obtain ⟨c', A', hin, hv⟩ := A.at h1 h2
  obtain ⟨T', h', X', e', W, st⟩ := stI X hx hZ eT A' hin (x := x) (g := mkF m pc Ls (.int x :: .int j :: .ref a :: rest)) rfl rfl hd
  exact Till.pre st (r T' h' X' e' W (AR.set A W))
theorem Till.bastore {f : Nat → Int32} {x : Int32} (A : BA Z h a z f) (h1 : ¬ j < 0) (h2 : j < z) (X : Stand p l e R s m args below meth c T locs cells slots) (hx : p.tables.exec = Jvm.exec) (hZ : Z.Warmed39 s.vm) (eT : T.heap = h) (hd : decode c.code pc = .ok (.bastore, 1))
    (r : ∀ T' h', Stand p l e R s m args below meth c T' (locs ++ [⟨a, j.toNatClampNeg⟩]) cells slots → T'.heap = h' → Wr h h' a j.toNatClampNeg (.int x.toInt8.toInt32) → BA Z h' a z (oupd f j.toNatClampNeg x.toInt8.toInt32) → Till p e below s Q k n (T'.setTop (mkF m (pc + 1) Ls rest))) : Till p e below s Q k n (T.setTop (mkF m pc Ls (.int x :: .int j :: .ref a :: rest))) := by
  obtain ⟨c', A', hin, hv⟩ := A.at h1 h2
  obtain ⟨T', h', X', e', W, st⟩ := stB X hx hZ eT A' hin (x := x) (g := mkF m pc Ls (.int x :: .int j :: .ref a :: rest)) rfl rfl hd
  exact Till.pre st (r T' h' X' e' W (AR.set A W))
end Acc
/-! calls -/
section Calls
variable {own : String} {index maxL : Nat} {y : MethodName} {bytes : ByteArray} {ret : Option FieldType} {rm : Room} {as : Array Value} {Qc : Option Value → Heap → List Loc → Prop} {W : Nat} {argsL st : List Value}
theorem Till.callS (C : Ctr l Z y bytes maxL ret rm as h Qc) (X : Stand p l e R s m args below meth c T locs cells slots) (hx : p.tables.exec = Jvm.exec) (hZ : Z.Warmed39 s.vm) (hown : s.vm.findClass own = some m.cls) (w1 : (Jvm.Cond.methodLink own index y).before a0 Z = true) (w2 : (Jvm.Cond.static y).before a0 Z = true) (w3 : (Jvm.Cond.initialized y.cls).before a0 Z = true) (w4 : (Jvm.Cond.code y bytes maxL ret).before a0 Z = true)
    (hy : y.cls ≠ "java/lang/invoke/MethodHandle" ∧ y.cls ≠ "java/lang/invoke/VarHandle") (hf : rm.frames + 1 ≤ R.frames) (hl : W + (maxL + 11) + rm.locals ≤ R.locals) (hsize : Ls.size = c.maxLocals) (hlen : ∀ sig, parseMethodDescriptor y.desc = some sig → argsL.length = sig.parameters.length) (has : argsL.toArray = as) (hst : st = argsL.reverse ++ rest) (hW : (rest.map fun v => v.category).sum ≤ W) (hd : decode c.code pc = .ok (.invokestatic index, 3)) (eT : T.heap = h) (hc : cells + rm.cells ≤ R.cells) (hs : slots + rm.slots ≤ R.slots)
    (r : ∀ v T' L, Stand p l e R s m args below meth c T' (locs ++ L) (cells + rm.cells) (slots + rm.slots) → Qc v T'.heap L → Till p e below s Q k n (T'.setTop (mkF m (pc + 3) Ls (v.toList ++ rest)))) : Till p e below s Q k n (T.setTop (mkF m pc Ls st)) := by
  obtain ⟨v, vm1, ⟨T', L', c', s'⟩, -, X', ⟨Lc, hQ, l1, y1, z1⟩, stp⟩ := Jvm.LawKit.callS X hx hown (mvT hZ w1) (mvT hZ w2) (mvT hZ w3) (mvT hZ w4) hy (backOf (W := W) (C []) hZ w4 w3 hf hl) (g := mkF m pc Ls st) rfl hsize (argsL := argsL) (rest := rest) hlen hst (by show 2 * 0 + _ ≤ _; omega) hd (fun _ _ => ⟨has, eT, hc, hs⟩)
  dsimp only [Pt.U, Pt.locs, Pt.cells, Pt.slots] at X' l1 y1 z1 stp hQ
  subst l1 y1 z1
  exact Till.pre stp (r v T' Lc X' hQ)
theorem Till.callC {a : Addr} (C : Ctr l Z y bytes maxL none rm as h Qc) (X : Stand p l e R s m args below meth c T locs cells slots) (hx : p.tables.exec = Jvm.exec) (hZ : Z.Warmed39 s.vm) (hown : s.vm.findClass own = some m.cls) (hy1 : y.name = "<init>") (w1 : (Jvm.Cond.methodLink own index y).before a0 Z = true) (w2 : (Jvm.Cond.instanceMethod y).before a0 Z = true) (w3 : (Jvm.Cond.initialized y.cls).before a0 Z = true) (w4 : (Jvm.Cond.code y bytes maxL none).before a0 Z = true)
    (hy : y.cls ≠ "java/lang/invoke/MethodHandle" ∧ y.cls ≠ "java/lang/invoke/VarHandle") (hf : rm.frames + 1 ≤ R.frames) (hl : W + (maxL + 11) + rm.locals ≤ R.locals) (hsize : Ls.size = c.maxLocals) (hlen : ∀ sig, parseMethodDescriptor y.desc = some sig → argsL.length = sig.parameters.length) (has : (.ref a :: argsL).toArray = as) (hst : st = argsL.reverse ++ .ref a :: rest) (hW : (rest.map fun v => v.category).sum ≤ W) (hd : decode c.code pc = .ok (.invokespecial index, 3)) (eT : T.heap = h) (hc : cells + rm.cells ≤ R.cells) (hs : slots + rm.slots ≤ R.slots)
    (r : ∀ v T' L, Stand p l e R s m args below meth c T' (locs ++ L) (cells + rm.cells) (slots + rm.slots) → Qc v T'.heap L → Till p e below s Q k n (T'.setTop (mkF m (pc + 3) Ls (v.toList ++ rest)))) : Till p e below s Q k n (T.setTop (mkF m pc Ls st)) := by
  obtain ⟨v, vm1, ⟨T', L', c', s'⟩, -, X', ⟨Lc, hQ, l1, y1, z1⟩, stp⟩ := X.specialBack hx hy1 hown (mvT hZ w1) (mvT hZ w2) (mvT hZ w4) hy (backOf (W := W) (C []) hZ w4 w3 hf hl) (g := mkF m pc Ls st) rfl hsize (Steps.refl _) (a := a) (argsL := argsL) (rest := rest) hlen hst (by show 2 * 0 + _ ≤ _; omega) hd (fun _ _ => ⟨has, eT, hc, hs⟩)
  dsimp only [Pt.U, Pt.locs, Pt.cells, Pt.slots] at X' l1 y1 z1 stp hQ
  subst l1 y1 z1
  exact Till.via stp (r v T' Lc X' hQ)
theorem Till.callV {a : Addr} (C : Ctr l Z y bytes maxL ret rm as h Qc) (E : Exa Z h a y.cls) (X : Stand p l e R s m args below meth c T locs cells slots) (hx : p.tables.exec = Jvm.exec) (hZ : Z.Warmed39 s.vm) (hown : s.vm.findClass own = some m.cls) (w1 : (Jvm.Cond.methodLink own index y).before a0 Z = true) (w5 : (Jvm.Cond.declares y).before a0 Z = true) (w6 : (Jvm.Cond.selects y.cls y y).before a0 Z = true) (w2 : (Jvm.Cond.instanceMethod y).before a0 Z = true) (w3 : (Jvm.Cond.initialized y.cls).before a0 Z = true) (w4 : (Jvm.Cond.code y bytes maxL ret).before a0 Z = true)
    (hy : y.cls ≠ "java/lang/invoke/MethodHandle" ∧ y.cls ≠ "java/lang/invoke/VarHandle") (hf : rm.frames + 1 ≤ R.frames) (hl : W + (maxL + 11) + rm.locals ≤ R.locals) (hsize : Ls.size = c.maxLocals) (hlen : ∀ sig, parseMethodDescriptor y.desc = some sig → argsL.length = sig.parameters.length) (has : (.ref a :: argsL).toArray = as) (hst : st = argsL.reverse ++ .ref a :: rest) (hW : (rest.map fun v => v.category).sum ≤ W) (hd : decode c.code pc = .ok (.invokevirtual index, 3)) (eT : T.heap = h) (hc : cells + rm.cells ≤ R.cells) (hs : slots + rm.slots ≤ R.slots)
    (r : ∀ v T' L, Stand p l e R s m args below meth c T' (locs ++ L) (cells + rm.cells) (slots + rm.slots) → Qc v T'.heap L → Till p e below s Q k n (T'.setTop (mkF m (pc + 3) Ls (v.toList ++ rest)))) : Till p e below s Q k n (T.setTop (mkF m pc Ls st)) := by
  obtain ⟨cq, kq, qa, qb, qc⟩ := isOf hZ eT E
  obtain ⟨v, vm1, ⟨T', L', c', s'⟩, -, X', ⟨Lc, hQ, l1, y1, z1⟩, stp⟩ := X.virtualBack hx (y := y) (z := y) hown (mvT hZ w1) (mvT hZ w5) (notFace_of_selects (args := #[]) (mvT hZ w6)) (mvT hZ w6) (mvT hZ w2) hy (backOf (W := W) (C []) hZ w4 w3 hf hl) qa qc (g := mkF m pc Ls st) rfl hsize (Steps.refl _) (argsL := argsL) (rest := rest) hlen hst (by show 2 * 0 + _ ≤ _; omega) hd (fun _ _ => ⟨has, eT, hc, hs⟩)
  dsimp only [Pt.U, Pt.locs, Pt.cells, Pt.slots] at X' l1 y1 z1 stp hQ
  subst l1 y1 z1
  exact Till.via stp (r v T' Lc X' hQ)
theorem Till.callP {a : Addr} {kk : Nat} (C : Ctr l Z y bytes maxL ret rm as h Qc) (E : Exa Z h a y.cls) (X : Stand p l e R s m args below meth c T locs cells slots) (hx : p.tables.exec = Jvm.exec) (hZ : Z.Warmed39 s.vm) (hown : s.vm.findClass own = some m.cls) (w1 : (Jvm.Cond.methodLink own index y).before a0 Z = true) (w2 : (Jvm.Cond.instanceMethod y).before a0 Z = true) (wp : (Jvm.Cond.privateMethod y).before a0 Z = true) (wi : (Jvm.Cond.instantiable y.cls kk).before a0 Z = true) (w3 : (Jvm.Cond.initialized y.cls).before a0 Z = true) (w4 : (Jvm.Cond.code y bytes maxL ret).before a0 Z = true)
    (hy : y.cls ≠ "java/lang/invoke/MethodHandle" ∧ y.cls ≠ "java/lang/invoke/VarHandle") (hf : rm.frames + 1 ≤ R.frames) (hl : W + (maxL + 11) + rm.locals ≤ R.locals) (hsize : Ls.size = c.maxLocals) (hlen : ∀ sig, parseMethodDescriptor y.desc = some sig → argsL.length = sig.parameters.length) (has : (.ref a :: argsL).toArray = as) (hst : st = argsL.reverse ++ .ref a :: rest) (hW : (rest.map fun v => v.category).sum ≤ W) (hd : decode c.code pc = .ok (.invokevirtual index, 3)) (eT : T.heap = h) (hc : cells + rm.cells ≤ R.cells) (hs : slots + rm.slots ≤ R.slots)
    (r : ∀ v T' L, Stand p l e R s m args below meth c T' (locs ++ L) (cells + rm.cells) (slots + rm.slots) → Qc v T'.heap L → Till p e below s Q k n (T'.setTop (mkF m (pc + 3) Ls (v.toList ++ rest)))) : Till p e below s Q k n (T.setTop (mkF m pc Ls st)) := by
  have wi' : (Jvm.Cond.instantiable y.cls kk).before args s = true := mvT hZ wi
  have w2' : (Jvm.Cond.instanceMethod y).before args s = true := mvT hZ w2
  obtain ⟨c2, k2, i1, i2, -, hniab, -, -⟩ := Cond.instantiable_spec wi'
  have hpr := Cond.privateMethod_at (mvP hZ wp (args := args))
  have hsel : (Jvm.Cond.selects y.cls y y).before args s = true := selects_self_of_private i1 i2 (Bool.or_eq_false_iff.mp hniab).1 hpr w2' hy
  obtain ⟨cell, hcell, hobj⟩ := E.cell
  obtain ⟨v, vm1, ⟨T', L', c', s'⟩, -, X', ⟨Lc, hQ, l1, y1, z1⟩, stp⟩ := X.privateBack hx hown (mvT hZ w1) w2' hsel hpr (mvT hZ w4) hy (backOf (W := W) (C []) hZ w4 w3 hf hl) (g := mkF m pc Ls st) rfl hsize (Steps.refl _) (a := a) (by rw [eT]; exact hcell) hobj (argsL := argsL) (rest := rest) hlen hst (by show 2 * 0 + _ ≤ _; omega) hd (fun _ _ => ⟨has, eT, hc, hs⟩)
  dsimp only [Pt.U, Pt.locs, Pt.cells, Pt.slots] at X' l1 y1 z1 stp hQ
  subst l1 y1 z1
  exact Till.via stp (r v T' Lc X' hQ)
end Calls
theorem Till.pop2L {x : Int64} (X : Stand p l e R s m args below meth c T locs cells slots) (hx : p.tables.exec = Jvm.exec) (hd : decode c.code pc = .ok (.pop2, 1)) (r : Till p e below s Q k n (T.setTop (mkF m (pc + 1) Ls rest))) : Till p e below s Q k n (T.setTop (mkF m pc Ls (.long x :: rest))) := by
  refine Till.pre (fun t hr => ?_) r
  show Steps p.tables e below (T.setTop { method := m, pc := pc, locals := Ls, stack := _ :: rest, locked := none }) _
  jvm_step X.here [X.here.top, hx, hd, Value.category]
  exact hr
end Own
end Jvm.Own
namespace Jvm.Pilot.@@N@@
open Jvm Jvm.ClassFile Sem Op Lib Jvm.Free Jvm.Stand Jvm.LawKit Jvm.RoadKit Bundle Jvm.Own Jvm.Pilot.@@N@@.Jvm.D
def Grp (Z : State) (h : Heap) (a : Addr) (x0 : Int32) (x1 : Int32) (x2 : Value) (x3 : Int32) (x4 : Int32) : Prop := Exa Z h a "com/example/admission/admission/internal/Group" ∧ Fld Z h a "com/example/admission/admission/internal/Group" "limit" "I" (.int x0) ∧ Fld Z h a "com/example/admission/admission/internal/Group" "maxWaiting" "I" (.int x1) ∧ Fld Z h a "com/example/admission/admission/internal/Group" "tally" "Ljava/lang/Object;" x2 ∧ Fld Z h a "com/example/admission/admission/internal/Group" "running" "I" (.int x3) ∧ Fld Z h a "com/example/admission/admission/internal/Group" "waiting" "I" (.int x4)
theorem Grp.lt {Z : State} {h : Heap} {a : Addr} {x0 : Int32} {x1 : Int32} {x2 : Value} {x3 : Int32} {x4 : Int32} (F : Grp Z h a x0 x1 x2 x3 x4) : a < h.size := F.1.lt
theorem Grp.ext {Z : State} {h h' : Heap} {a : Addr} {x0 : Int32} {x1 : Int32} {x2 : Value} {x3 : Int32} {x4 : Int32} (F : Grp Z h a x0 x1 x2 x3 x4) (E : Ext h h') : Grp Z h' a x0 x1 x2 x3 x4 := ⟨F.1.ext E, F.2.1.ext E, F.2.2.1.ext E, F.2.2.2.1.ext E, F.2.2.2.2.1.ext E, F.2.2.2.2.2.ext E⟩
theorem Grp.keep {Z : State} {h h' : Heap} {a : Addr} {x0 : Int32} {x1 : Int32} {x2 : Value} {x3 : Int32} {x4 : Int32} {ws : List Addr} (F : Grp Z h a x0 x1 x2 x3 x4) (K : Keep h h' ws) (q : a ∉ ws) : Grp Z h' a x0 x1 x2 x3 x4 := ⟨F.1.keep K, F.2.1.keep K q, F.2.2.1.keep K q, F.2.2.2.1.keep K q, F.2.2.2.2.1.keep K q, F.2.2.2.2.2.keep K q⟩
theorem Grp.wr {Z : State} {h h' : Heap} {a : Addr} {x0 : Int32} {x1 : Int32} {x2 : Value} {x3 : Int32} {x4 : Int32} {b : Addr} {sl : Nat} {v : Value} (F : Grp Z h a x0 x1 x2 x3 x4) (W : Wr h h' b sl v) (q : a ≠ b) : Grp Z h' a x0 x1 x2 x3 x4 := ⟨F.1.wr W, F.2.1.other W (Or.inl q), F.2.2.1.other W (Or.inl q), F.2.2.2.1.other W (Or.inl q), F.2.2.2.2.1.other W (Or.inl q), F.2.2.2.2.2.other W (Or.inl q)⟩
theorem Grp.set_limit {Z : State} {h h' : Heap} {a : Addr} {x0 : Int32} {x1 : Int32} {x2 : Value} {x3 : Int32} {x4 : Int32} {y : Int32} {a0 : Array Value} (hw : ∀ d ∈ tables_1, d.before a0 Z = true) (F : Grp Z h a x0 x1 x2 x3 x4) (W : Wr h h' a (Jvm.RoadKit.slotOf Z "com/example/admission/admission/internal/Group" "limit" "I") (.int y)) : Grp Z h' a y x1 x2 x3 x4 := ⟨F.1.wr W, F.2.1.same W, F.2.2.1.other W (Or.inr (Jvm.RoadKit.slot_ne (Or.inr (hw _ (List.mem_of_getElem? (i := 17) rfl))) (Or.inr (hw _ (List.mem_of_getElem? (i := 15) rfl))) (by decide) (t := .int) (t' := .int) (by decide) (by decide))), F.2.2.2.1.other W (Or.inr (Jvm.RoadKit.slot_ne (Or.inr (hw _ (List.mem_of_getElem? (i := 19) rfl))) (Or.inr (hw _ (List.mem_of_getElem? (i := 15) rfl))) (by decide) (t := (.object "java/lang/Object")) (t' := .int) (by decide) (by decide))), F.2.2.2.2.1.other W (Or.inr (Jvm.RoadKit.slot_ne (Or.inl (hw _ (List.mem_of_getElem? (i := 26) rfl))) (Or.inr (hw _ (List.mem_of_getElem? (i := 15) rfl))) (by decide) (t := .int) (t' := .int) (by decide) (by decide))), F.2.2.2.2.2.other W (Or.inr (Jvm.RoadKit.slot_ne (Or.inl (hw _ (List.mem_of_getElem? (i := 33) rfl))) (Or.inr (hw _ (List.mem_of_getElem? (i := 15) rfl))) (by decide) (t := .int) (t' := .int) (by decide) (by decide)))⟩
theorem Grp.set_maxWaiting {Z : State} {h h' : Heap} {a : Addr} {x0 : Int32} {x1 : Int32} {x2 : Value} {x3 : Int32} {x4 : Int32} {y : Int32} {a0 : Array Value} (hw : ∀ d ∈ tables_1, d.before a0 Z = true) (F : Grp Z h a x0 x1 x2 x3 x4) (W : Wr h h' a (Jvm.RoadKit.slotOf Z "com/example/admission/admission/internal/Group" "maxWaiting" "I") (.int y)) : Grp Z h' a x0 y x2 x3 x4 := ⟨F.1.wr W, F.2.1.other W (Or.inr (Jvm.RoadKit.slot_ne (Or.inr (hw _ (List.mem_of_getElem? (i := 15) rfl))) (Or.inr (hw _ (List.mem_of_getElem? (i := 17) rfl))) (by decide) (t := .int) (t' := .int) (by decide) (by decide))), F.2.2.1.same W, F.2.2.2.1.other W (Or.inr (Jvm.RoadKit.slot_ne (Or.inr (hw _ (List.mem_of_getElem? (i := 19) rfl))) (Or.inr (hw _ (List.mem_of_getElem? (i := 17) rfl))) (by decide) (t := (.object "java/lang/Object")) (t' := .int) (by decide) (by decide))), F.2.2.2.2.1.other W (Or.inr (Jvm.RoadKit.slot_ne (Or.inl (hw _ (List.mem_of_getElem? (i := 26) rfl))) (Or.inr (hw _ (List.mem_of_getElem? (i := 17) rfl))) (by decide) (t := .int) (t' := .int) (by decide) (by decide))), F.2.2.2.2.2.other W (Or.inr (Jvm.RoadKit.slot_ne (Or.inl (hw _ (List.mem_of_getElem? (i := 33) rfl))) (Or.inr (hw _ (List.mem_of_getElem? (i := 17) rfl))) (by decide) (t := .int) (t' := .int) (by decide) (by decide)))⟩
theorem Grp.set_tally {Z : State} {h h' : Heap} {a : Addr} {x0 : Int32} {x1 : Int32} {x2 : Value} {x3 : Int32} {x4 : Int32} {y : Value} {a0 : Array Value} (hw : ∀ d ∈ tables_1, d.before a0 Z = true) (F : Grp Z h a x0 x1 x2 x3 x4) (W : Wr h h' a (Jvm.RoadKit.slotOf Z "com/example/admission/admission/internal/Group" "tally" "Ljava/lang/Object;") y) : Grp Z h' a x0 x1 y x3 x4 := ⟨F.1.wr W, F.2.1.other W (Or.inr (Jvm.RoadKit.slot_ne (Or.inr (hw _ (List.mem_of_getElem? (i := 15) rfl))) (Or.inr (hw _ (List.mem_of_getElem? (i := 19) rfl))) (by decide) (t := .int) (t' := (.object "java/lang/Object")) (by decide) (by decide))), F.2.2.1.other W (Or.inr (Jvm.RoadKit.slot_ne (Or.inr (hw _ (List.mem_of_getElem? (i := 17) rfl))) (Or.inr (hw _ (List.mem_of_getElem? (i := 19) rfl))) (by decide) (t := .int) (t' := (.object "java/lang/Object")) (by decide) (by decide))), F.2.2.2.1.same W, F.2.2.2.2.1.other W (Or.inr (Jvm.RoadKit.slot_ne (Or.inl (hw _ (List.mem_of_getElem? (i := 26) rfl))) (Or.inr (hw _ (List.mem_of_getElem? (i := 19) rfl))) (by decide) (t := .int) (t' := (.object "java/lang/Object")) (by decide) (by decide))), F.2.2.2.2.2.other W (Or.inr (Jvm.RoadKit.slot_ne (Or.inl (hw _ (List.mem_of_getElem? (i := 33) rfl))) (Or.inr (hw _ (List.mem_of_getElem? (i := 19) rfl))) (by decide) (t := .int) (t' := (.object "java/lang/Object")) (by decide) (by decide)))⟩
theorem Grp.set_running {Z : State} {h h' : Heap} {a : Addr} {x0 : Int32} {x1 : Int32} {x2 : Value} {x3 : Int32} {x4 : Int32} {y : Int32} {a0 : Array Value} (hw : ∀ d ∈ tables_1, d.before a0 Z = true) (F : Grp Z h a x0 x1 x2 x3 x4) (W : Wr h h' a (Jvm.RoadKit.slotOf Z "com/example/admission/admission/internal/Group" "running" "I") (.int y)) : Grp Z h' a x0 x1 x2 y x4 := ⟨F.1.wr W, F.2.1.other W (Or.inr (Jvm.RoadKit.slot_ne (Or.inr (hw _ (List.mem_of_getElem? (i := 15) rfl))) (Or.inl (hw _ (List.mem_of_getElem? (i := 26) rfl))) (by decide) (t := .int) (t' := .int) (by decide) (by decide))), F.2.2.1.other W (Or.inr (Jvm.RoadKit.slot_ne (Or.inr (hw _ (List.mem_of_getElem? (i := 17) rfl))) (Or.inl (hw _ (List.mem_of_getElem? (i := 26) rfl))) (by decide) (t := .int) (t' := .int) (by decide) (by decide))), F.2.2.2.1.other W (Or.inr (Jvm.RoadKit.slot_ne (Or.inr (hw _ (List.mem_of_getElem? (i := 19) rfl))) (Or.inl (hw _ (List.mem_of_getElem? (i := 26) rfl))) (by decide) (t := (.object "java/lang/Object")) (t' := .int) (by decide) (by decide))), F.2.2.2.2.1.same W, F.2.2.2.2.2.other W (Or.inr (Jvm.RoadKit.slot_ne (Or.inl (hw _ (List.mem_of_getElem? (i := 33) rfl))) (Or.inl (hw _ (List.mem_of_getElem? (i := 26) rfl))) (by decide) (t := .int) (t' := .int) (by decide) (by decide)))⟩
theorem Grp.set_waiting {Z : State} {h h' : Heap} {a : Addr} {x0 : Int32} {x1 : Int32} {x2 : Value} {x3 : Int32} {x4 : Int32} {y : Int32} {a0 : Array Value} (hw : ∀ d ∈ tables_1, d.before a0 Z = true) (F : Grp Z h a x0 x1 x2 x3 x4) (W : Wr h h' a (Jvm.RoadKit.slotOf Z "com/example/admission/admission/internal/Group" "waiting" "I") (.int y)) : Grp Z h' a x0 x1 x2 x3 y := ⟨F.1.wr W, F.2.1.other W (Or.inr (Jvm.RoadKit.slot_ne (Or.inr (hw _ (List.mem_of_getElem? (i := 15) rfl))) (Or.inl (hw _ (List.mem_of_getElem? (i := 33) rfl))) (by decide) (t := .int) (t' := .int) (by decide) (by decide))), F.2.2.1.other W (Or.inr (Jvm.RoadKit.slot_ne (Or.inr (hw _ (List.mem_of_getElem? (i := 17) rfl))) (Or.inl (hw _ (List.mem_of_getElem? (i := 33) rfl))) (by decide) (t := .int) (t' := .int) (by decide) (by decide))), F.2.2.2.1.other W (Or.inr (Jvm.RoadKit.slot_ne (Or.inr (hw _ (List.mem_of_getElem? (i := 19) rfl))) (Or.inl (hw _ (List.mem_of_getElem? (i := 33) rfl))) (by decide) (t := (.object "java/lang/Object")) (t' := .int) (by decide) (by decide))), F.2.2.2.2.1.other W (Or.inr (Jvm.RoadKit.slot_ne (Or.inl (hw _ (List.mem_of_getElem? (i := 26) rfl))) (Or.inl (hw _ (List.mem_of_getElem? (i := 33) rfl))) (by decide) (t := .int) (t' := .int) (by decide) (by decide))), F.2.2.2.2.2.same W⟩
theorem d1_0 : decode jdk_29_method_65_code 0 = .ok (.iload_n 0, 1) := by decide +kernel
theorem d1_1 : decode jdk_29_method_65_code 1 = .ok (.iload_n 1, 1) := by decide +kernel
theorem d1_2 : decode jdk_29_method_65_code 2 = .ok (.if_icmp .lt 7, 3) := by decide +kernel
theorem d1_5 : decode jdk_29_method_65_code 5 = .ok (.iload_n 0, 1) := by decide +kernel
theorem d1_6 : decode jdk_29_method_65_code 6 = .ok (.goto 4, 3) := by decide +kernel
theorem d1_9 : decode jdk_29_method_65_code 9 = .ok (.iload_n 1, 1) := by decide +kernel
theorem d1_10 : decode jdk_29_method_65_code 10 = .ok (.ireturn, 1) := by decide +kernel
theorem ef_1 (m : MethodId) (p1 : Int32) (p2 : Int32) : entryFrame m #[(.int p1), (.int p2)] 2 = mkF m 0 #[.val (.int p1), .val (.int p2)] [] := by first | (simp [entryFrame, mkF, argsToLocals, Value.category]; done) | rfl
def fn1 (p1 : Int32) (p2 : Int32) : Int32 := (if (p1 < p2) then p2 else p1)
def Q1 (Z : State) (p1 : Int32) (p2 : Int32) (h0 : Heap) (n0 : Nat) : Option Value → Heap → List Loc → Prop := fun v h L => v = some (Value.int (fn1 p1 p2)) ∧ Fr n0 L ∧ h = h0
def room1 : Room := { frames := 0, cells := 0, slots := 0, locals := 0 }
set_option maxRecDepth 65536 in
set_option maxHeartbeats 40000000 in
theorem rm1 (l : Launch) (Z : State) (a0 : Array Value) (hw : ∀ d ∈ tables_1, d.before a0 Z = true) (p1 : Int32) (p2 : Int32) (h0 : Heap) (n0 : Nat)  : Ctr l Z (⟨"java/lang/Math", "max", "(II)I"⟩ : MethodName) jdk_29_method_65_code 2 (some .int) room1 #[(.int p1), (.int p2)] h0 (Q1 Z p1 p2 h0 n0) := by
  refine Ctr.of (Jvm.Free.JP.mathPlain rfl (by decide +kernel)) ?_
  intro p e s m below meth c s₁ hx hby hml hown hnm hret hlk hZ e0 X0
  have hown : s.vm.findClass "java/lang/Math" = some m.cls := hown
  have hml : c.maxLocals = 2 := hml
  have hnm : meth.name = "max" := hnm
  have hret : meth.sig.returnType = (some .int) := hret
  have N0 := Fr.nil n0
  refine Till.cast (ef_1 m p1 p2) ?_
  show Till p e below s (Q1 Z p1 p2 h0 n0) room1.cells room1.slots (s₁.setTop (mkF m 0 #[.val (.int p1), .val (.int p2)] []))
  refine Till.pre (fun _ hr => XS.iloadN X0.here hx rfl (hb hby d1_0) rfl hr) ?_
  show Till p e below s (Q1 Z p1 p2 h0 n0) room1.cells room1.slots (s₁.setTop (mkF m 1 #[.val (.int p1), .val (.int p2)] [(.int p1)]))
  refine Till.pre (fun _ hr => XS.iloadN X0.here hx rfl (hb hby d1_1) rfl hr) ?_
  show Till p e below s (Q1 Z p1 p2 h0 n0) room1.cells room1.slots (s₁.setTop (mkF m 2 #[.val (.int p1), .val (.int p2)] [(.int p2), (.int p1)]))
  have J10_1 : ∀ (v10s0 : Int32) (hv10s0 : v10s0 = (if (p1 < p2) then p2 else p1)), Till p e below s (Q1 Z p1 p2 h0 n0) room1.cells room1.slots (s₁.setTop (mkF m 10 #[.val (.int p1), .val (.int p2)] [(.int v10s0)])) := by
    intro v10s0 hv10s0
    show Till p e below s (Q1 Z p1 p2 h0 n0) room1.cells room1.slots (s₁.setTop (mkF m 10 #[.val (.int p1), .val (.int p2)] [(.int v10s0)]))
    refine Till.retI X0 hx hret hlk (hb hby d1_10) (by decide) (by decide) ?_
    subst hv10s0
    exact ⟨rfl, N0, e0⟩
  refine Till.icmp (pc' := 9) X0.here hx (hb hby d1_2) (by decide) (by decide) (fun q => ?_) (fun q => ?_)
  · have hc1 := (hLt.1 q)
    show Till p e below s (Q1 Z p1 p2 h0 n0) room1.cells room1.slots (s₁.setTop (mkF m 9 #[.val (.int p1), .val (.int p2)] []))
    refine Till.pre (fun _ hr => XS.iloadN X0.here hx rfl (hb hby d1_9) rfl hr) ?_
    show Till p e below s (Q1 Z p1 p2 h0 n0) room1.cells room1.slots (s₁.setTop (mkF m 10 #[.val (.int p1), .val (.int p2)] [(.int p2)]))
    exact J10_1 _ (Eq.symm (if_pos hc1))
  · have hc1 := (hLt.2.1 q)
    show Till p e below s (Q1 Z p1 p2 h0 n0) room1.cells room1.slots (s₁.setTop (mkF m 5 #[.val (.int p1), .val (.int p2)] []))
    refine Till.pre (fun _ hr => XS.iloadN X0.here hx rfl (hb hby d1_5) rfl hr) ?_
    show Till p e below s (Q1 Z p1 p2 h0 n0) room1.cells room1.slots (s₁.setTop (mkF m 6 #[.val (.int p1), .val (.int p2)] [(.int p1)]))
    refine Till.pre (fun _ hr => XS.goto X0.here hx rfl (pc0 := 6) (pc' := 10) rfl (hb hby d1_6) (by decide) (by decide) hr) ?_
    show Till p e below s (Q1 Z p1 p2 h0 n0) room1.cells room1.slots (s₁.setTop (mkF m 10 #[.val (.int p1), .val (.int p2)] [(.int p1)]))
    exact J10_1 _ (Eq.symm (if_neg hc1))
theorem d2_0 : decode prog_18_method_1_code 0 = .ok (.aload_n 0, 1) := by decide +kernel
theorem d2_1 : decode prog_18_method_1_code 1 = .ok (.invokespecial 1, 3) := by decide +kernel
theorem d2_4 : decode prog_18_method_1_code 4 = .ok (.aload_n 0, 1) := by decide +kernel
theorem d2_5 : decode prog_18_method_1_code 5 = .ok (.iload_n 1, 1) := by decide +kernel
theorem d2_6 : decode prog_18_method_1_code 6 = .ok (.putfield 7, 3) := by decide +kernel
theorem d2_9 : decode prog_18_method_1_code 9 = .ok (.aload_n 0, 1) := by decide +kernel
theorem d2_10 : decode prog_18_method_1_code 10 = .ok (.iload_n 2, 1) := by decide +kernel
theorem d2_11 : decode prog_18_method_1_code 11 = .ok (.putfield 13, 3) := by decide +kernel
theorem d2_14 : decode prog_18_method_1_code 14 = .ok (.aload_n 0, 1) := by decide +kernel
theorem d2_15 : decode prog_18_method_1_code 15 = .ok (.aload_n 3, 1) := by decide +kernel
theorem d2_16 : decode prog_18_method_1_code 16 = .ok (.putfield 16, 3) := by decide +kernel
theorem d2_19 : decode prog_18_method_1_code 19 = .ok (.return_, 1) := by decide +kernel
theorem pn_2 : plainName "com/example/admission/admission/internal/Group" = true := by first | (simp [plainName, overriddenIn]; done) | decide +kernel
theorem ef_2 (m : MethodId) (a1 : Addr) (p2 : Int32) (p3 : Int32) : entryFrame m #[(.ref a1), (.int p2), (.int p3), .null] 4 = mkF m 0 #[.val (.ref a1), .val (.int p2), .val (.int p3), .val .null] [] := by first | (simp [entryFrame, mkF, argsToLocals, Value.category]; done) | rfl
def Q2 (Z : State) (a1 : Addr) (p2 : Int32) (p3 : Int32) (w_limit : Int32) (w_maxWaiting : Int32) (w_running : Int32) (w_waiting : Int32) (h0 : Heap) (n0 : Nat) : Option Value → Heap → List Loc → Prop := fun v h L => v = none ∧ Fr n0 L ∧ Keep h0 h [a1] ∧ Grp Z h a1 p2 p3 .null w_running w_waiting
def room2 : Room := { frames := 1, cells := 0, slots := 0, locals := 12 }
set_option maxRecDepth 65536 in
set_option maxHeartbeats 40000000 in
theorem rm2 (l : Launch) (Z : State) (a0 : Array Value) (hw : ∀ d ∈ tables_1, d.before a0 Z = true) (a1 : Addr) (p2 : Int32) (p3 : Int32) (w_limit : Int32) (w_maxWaiting : Int32) (w_running : Int32) (w_waiting : Int32) (h0 : Heap) (n0 : Nat) (Zs : n0 ≤ h0.size) (R_a1 : Grp Z h0 a1 w_limit w_maxWaiting .null w_running w_waiting) (g_a1 : n0 ≤ a1) : Ctr l Z (⟨"com/example/admission/admission/internal/Group", "<init>", "(IILjava/lang/Object;)V"⟩ : MethodName) prog_18_method_1_code 4 none room2 #[(.ref a1), (.int p2), (.int p3), .null] h0 (Q2 Z a1 p2 p3 w_limit w_maxWaiting w_running w_waiting h0 n0) := by
  refine Ctr.of (plainFor_of_name pn_2) ?_
  intro p e s m below meth c s₁ hx hby hml hown hnm hret hlk hZ e0 X0
  have hown : s.vm.findClass "com/example/admission/admission/internal/Group" = some m.cls := hown
  have hml : c.maxLocals = 4 := hml
  have hnm : meth.name = "<init>" := hnm
  have hret : meth.sig.returnType = none := hret
  have N0 := Fr.nil n0
  refine Till.cast (ef_2 m a1 p2 p3) ?_
  have Kp := Keep.refl h0 [a1]
  show Till p e below s (Q2 Z a1 p2 p3 w_limit w_maxWaiting w_running w_waiting h0 n0) room2.cells room2.slots (s₁.setTop (mkF m 0 #[.val (.ref a1), .val (.int p2), .val (.int p3), .val .null] []))
  refine Till.pre (fun _ hr => XS.aloadN X0.here hx rfl (hb hby d2_0) rfl rfl hr) ?_
  show Till p e below s (Q2 Z a1 p2 p3 w_limit w_maxWaiting w_running w_waiting h0 n0) room2.cells room2.slots (s₁.setTop (mkF m 1 #[.val (.ref a1), .val (.int p2), .val (.int p3), .val .null] [(.ref a1)]))
  refine Till.initO X0 hx hZ hown (hw _ (List.mem_of_getElem? (i := 11) rfl)) (hw _ (List.mem_of_getElem? (i := 12) rfl)) (hw _ (List.mem_of_getElem? (i := 13) rfl)) e0 (by rw [hml]; rfl) (hb hby d2_1) (by decide) (W := 0) (Nat.le_of_eq rfl) (by decide) (fun T1 X2 e3 => ?_)
  show Till p e below s (Q2 Z a1 p2 p3 w_limit w_maxWaiting w_running w_waiting h0 n0) room2.cells room2.slots (T1.setTop (mkF m 4 #[.val (.ref a1), .val (.int p2), .val (.int p3), .val .null] []))
  refine Till.pre (fun _ hr => XS.aloadN X2.here hx rfl (hb hby d2_4) rfl rfl hr) ?_
  show Till p e below s (Q2 Z a1 p2 p3 w_limit w_maxWaiting w_running w_waiting h0 n0) room2.cells room2.slots (T1.setTop (mkF m 5 #[.val (.ref a1), .val (.int p2), .val (.int p3), .val .null] [(.ref a1)]))
  refine Till.pre (fun _ hr => XS.iloadN X2.here hx rfl (hb hby d2_5) rfl hr) ?_
  show Till p e below s (Q2 Z a1 p2 p3 w_limit w_maxWaiting w_running w_waiting h0 n0) room2.cells room2.slots (T1.setTop (mkF m 6 #[.val (.ref a1), .val (.int p2), .val (.int p3), .val .null] [(.int p2), (.ref a1)]))
  refine Till.putF X2 hx hZ hown (hw _ (List.mem_of_getElem? (i := 14) rfl)) e3 R_a1.2.1 R_a1.1 (Or.inr ⟨(hw _ (List.mem_of_getElem? (i := 15) rfl)), rfl, hnm⟩) (hw _ (List.mem_of_getElem? (i := 6) rfl)) (ty := .int) (by decide) rfl rfl (hb hby d2_6) (fun T4 h5 X6 e7 W8 => ?_)
  have N9 := Fr.snoc X6 N0 g_a1
  have Zs := Nat.le_trans Zs (Keep.of_wr W8).1
  have Kp := Kp.wr W8 (Or.inl (List.mem_of_getElem? (i := 0) rfl))
  have R_a1 := Grp.set_limit hw R_a1 W8
  show Till p e below s (Q2 Z a1 p2 p3 w_limit w_maxWaiting w_running w_waiting h0 n0) room2.cells room2.slots (T4.setTop (mkF m 9 #[.val (.ref a1), .val (.int p2), .val (.int p3), .val .null] []))
  refine Till.pre (fun _ hr => XS.aloadN X6.here hx rfl (hb hby d2_9) rfl rfl hr) ?_
  show Till p e below s (Q2 Z a1 p2 p3 w_limit w_maxWaiting w_running w_waiting h0 n0) room2.cells room2.slots (T4.setTop (mkF m 10 #[.val (.ref a1), .val (.int p2), .val (.int p3), .val .null] [(.ref a1)]))
  refine Till.pre (fun _ hr => XS.iloadN X6.here hx rfl (hb hby d2_10) rfl hr) ?_
  show Till p e below s (Q2 Z a1 p2 p3 w_limit w_maxWaiting w_running w_waiting h0 n0) room2.cells room2.slots (T4.setTop (mkF m 11 #[.val (.ref a1), .val (.int p2), .val (.int p3), .val .null] [(.int p3), (.ref a1)]))
  refine Till.putF X6 hx hZ hown (hw _ (List.mem_of_getElem? (i := 16) rfl)) e7 R_a1.2.2.1 R_a1.1 (Or.inr ⟨(hw _ (List.mem_of_getElem? (i := 17) rfl)), rfl, hnm⟩) (hw _ (List.mem_of_getElem? (i := 6) rfl)) (ty := .int) (by decide) rfl rfl (hb hby d2_11) (fun T10 h11 X12 e13 W14 => ?_)
  have N15 := Fr.snoc X12 N9 g_a1
  have Zs := Nat.le_trans Zs (Keep.of_wr W14).1
  have Kp := Kp.wr W14 (Or.inl (List.mem_of_getElem? (i := 0) rfl))
  have R_a1 := Grp.set_maxWaiting hw R_a1 W14
  show Till p e below s (Q2 Z a1 p2 p3 w_limit w_maxWaiting w_running w_waiting h0 n0) room2.cells room2.slots (T10.setTop (mkF m 14 #[.val (.ref a1), .val (.int p2), .val (.int p3), .val .null] []))
  refine Till.pre (fun _ hr => XS.aloadN X12.here hx rfl (hb hby d2_14) rfl rfl hr) ?_
  show Till p e below s (Q2 Z a1 p2 p3 w_limit w_maxWaiting w_running w_waiting h0 n0) room2.cells room2.slots (T10.setTop (mkF m 15 #[.val (.ref a1), .val (.int p2), .val (.int p3), .val .null] [(.ref a1)]))
  refine Till.pre (fun _ hr => XS.aloadN X12.here hx rfl (hb hby d2_15) rfl rfl hr) ?_
  show Till p e below s (Q2 Z a1 p2 p3 w_limit w_maxWaiting w_running w_waiting h0 n0) room2.cells room2.slots (T10.setTop (mkF m 16 #[.val (.ref a1), .val (.int p2), .val (.int p3), .val .null] [.null, (.ref a1)]))
  refine Till.putF X12 hx hZ hown (hw _ (List.mem_of_getElem? (i := 18) rfl)) e13 R_a1.2.2.2.1 R_a1.1 (Or.inr ⟨(hw _ (List.mem_of_getElem? (i := 19) rfl)), rfl, hnm⟩) (hw _ (List.mem_of_getElem? (i := 6) rfl)) (ty := (.object "java/lang/Object")) (by decide) rfl rfl (hb hby d2_16) (fun T16 h17 X18 e19 W20 => ?_)
  have N21 := Fr.snoc X18 N15 g_a1
  have Zs := Nat.le_trans Zs (Keep.of_wr W20).1
  have Kp := Kp.wr W20 (Or.inl (List.mem_of_getElem? (i := 0) rfl))
  have R_a1 := Grp.set_tally hw R_a1 W20
  show Till p e below s (Q2 Z a1 p2 p3 w_limit w_maxWaiting w_running w_waiting h0 n0) room2.cells room2.slots (T16.setTop (mkF m 19 #[.val (.ref a1), .val (.int p2), .val (.int p3), .val .null] []))
  refine Till.retV X18 hx hret hlk (hb hby d2_19) (by decide) (by decide) ?_
  show (Q2 Z a1 p2 p3 w_limit w_maxWaiting w_running w_waiting h0 n0) _ T16.heap _
  rw [e19]
  exact ⟨rfl, N21, Kp, R_a1⟩
theorem d3_0 : decode prog_18_method_8_code 0 = .ok (.aload_n 0, 1) := by decide +kernel
theorem d3_1 : decode prog_18_method_8_code 1 = .ok (.dup, 1) := by decide +kernel
theorem d3_2 : decode prog_18_method_8_code 2 = .ok (.getfield 20, 3) := by decide +kernel
theorem d3_5 : decode prog_18_method_8_code 5 = .ok (.iconst 1, 1) := by decide +kernel
theorem d3_6 : decode prog_18_method_8_code 6 = .ok (.iadd, 1) := by decide +kernel
theorem d3_7 : decode prog_18_method_8_code 7 = .ok (.putfield 20, 3) := by decide +kernel
theorem d3_10 : decode prog_18_method_8_code 10 = .ok (.return_, 1) := by decide +kernel
theorem ef_3 (m : MethodId) (a1 : Addr) : entryFrame m #[(.ref a1)] 1 = mkF m 0 #[.val (.ref a1)] [] := by first | (simp [entryFrame, mkF, argsToLocals, Value.category]; done) | rfl
def Q3 (Z : State) (a1 : Addr) (w_limit : Int32) (w_maxWaiting : Int32) (w_running : Int32) (w_waiting : Int32) (h0 : Heap) (n0 : Nat) : Option Value → Heap → List Loc → Prop := fun v h L => v = none ∧ Fr n0 L ∧ Keep h0 h [a1] ∧ Grp Z h a1 w_limit w_maxWaiting .null (w_running + (1 : Int32)) w_waiting
def room3 : Room := { frames := 0, cells := 0, slots := 0, locals := 0 }
set_option maxRecDepth 65536 in
set_option maxHeartbeats 40000000 in
theorem rm3 (l : Launch) (Z : State) (a0 : Array Value) (hw : ∀ d ∈ tables_1, d.before a0 Z = true) (a1 : Addr) (w_limit : Int32) (w_maxWaiting : Int32) (w_running : Int32) (w_waiting : Int32) (h0 : Heap) (n0 : Nat) (Zs : n0 ≤ h0.size) (R_a1 : Grp Z h0 a1 w_limit w_maxWaiting .null w_running w_waiting) (g_a1 : n0 ≤ a1) : Ctr l Z (⟨"com/example/admission/admission/internal/Group", "take", "()V"⟩ : MethodName) prog_18_method_8_code 1 none room3 #[(.ref a1)] h0 (Q3 Z a1 w_limit w_maxWaiting w_running w_waiting h0 n0) := by
  refine Ctr.of (plainFor_of_name pn_2) ?_
  intro p e s m below meth c s₁ hx hby hml hown hnm hret hlk hZ e0 X0
  have hown : s.vm.findClass "com/example/admission/admission/internal/Group" = some m.cls := hown
  have hml : c.maxLocals = 1 := hml
  have hnm : meth.name = "take" := hnm
  have hret : meth.sig.returnType = none := hret
  have N0 := Fr.nil n0
  refine Till.cast (ef_3 m a1) ?_
  have Kp := Keep.refl h0 [a1]
  show Till p e below s (Q3 Z a1 w_limit w_maxWaiting w_running w_waiting h0 n0) room3.cells room3.slots (s₁.setTop (mkF m 0 #[.val (.ref a1)] []))
  refine Till.pre (fun _ hr => XS.aloadN X0.here hx rfl (hb hby d3_0) rfl rfl hr) ?_
  show Till p e below s (Q3 Z a1 w_limit w_maxWaiting w_running w_waiting h0 n0) room3.cells room3.slots (s₁.setTop (mkF m 1 #[.val (.ref a1)] [(.ref a1)]))
  refine Till.pre (fun _ hr => XS.dup X0.here hx rfl (hb hby d3_1) rfl rfl hr) ?_
  show Till p e below s (Q3 Z a1 w_limit w_maxWaiting w_running w_waiting h0 n0) room3.cells room3.slots (s₁.setTop (mkF m 2 #[.val (.ref a1)] [(.ref a1), (.ref a1)]))
  refine Till.getF X0 hx hZ hown (hw _ (List.mem_of_getElem? (i := 25) rfl)) e0 R_a1.2.2.2.2.1 (hb hby d3_2) (fun T1 X2 e3 => ?_)
  show Till p e below s (Q3 Z a1 w_limit w_maxWaiting w_running w_waiting h0 n0) room3.cells room3.slots (T1.setTop (mkF m 5 #[.val (.ref a1)] [(.int w_running), (.ref a1)]))
  refine Till.pre (fun _ hr => XS.iconst X2.here hx rfl (hb hby d3_5) hr) ?_
  show Till p e below s (Q3 Z a1 w_limit w_maxWaiting w_running w_waiting h0 n0) room3.cells room3.slots (T1.setTop (mkF m 6 #[.val (.ref a1)] [(.int (1 : Int32)), (.int w_running), (.ref a1)]))
  refine Till.pre (fun _ hr => XS.iadd X2.here hx rfl (hb hby d3_6) rfl hr) ?_
  show Till p e below s (Q3 Z a1 w_limit w_maxWaiting w_running w_waiting h0 n0) room3.cells room3.slots (T1.setTop (mkF m 7 #[.val (.ref a1)] [(.int (w_running + (1 : Int32))), (.ref a1)]))
  refine Till.putF X2 hx hZ hown (hw _ (List.mem_of_getElem? (i := 25) rfl)) e3 R_a1.2.2.2.2.1 R_a1.1 (Or.inl (hw _ (List.mem_of_getElem? (i := 26) rfl))) (hw _ (List.mem_of_getElem? (i := 6) rfl)) (ty := .int) (by decide) rfl rfl (hb hby d3_7) (fun T4 h5 X6 e7 W8 => ?_)
  have N9 := Fr.snoc X6 N0 g_a1
  have Zs := Nat.le_trans Zs (Keep.of_wr W8).1
  have Kp := Kp.wr W8 (Or.inl (List.mem_of_getElem? (i := 0) rfl))
  have R_a1 := Grp.set_running hw R_a1 W8
  show Till p e below s (Q3 Z a1 w_limit w_maxWaiting w_running w_waiting h0 n0) room3.cells room3.slots (T4.setTop (mkF m 10 #[.val (.ref a1)] []))
  refine Till.retV X6 hx hret hlk (hb hby d3_10) (by decide) (by decide) ?_
  show (Q3 Z a1 w_limit w_maxWaiting w_running w_waiting h0 n0) _ T4.heap _
  rw [e7]
  exact ⟨rfl, N9, Kp, R_a1⟩
theorem d4_0 : decode prog_18_method_7_code 0 = .ok (.aload_n 0, 1) := by decide +kernel
theorem d4_1 : decode prog_18_method_7_code 1 = .ok (.getfield 23, 3) := by decide +kernel
theorem d4_4 : decode prog_18_method_7_code 4 = .ok (.aload_n 0, 1) := by decide +kernel
theorem d4_5 : decode prog_18_method_7_code 5 = .ok (.getfield 13, 3) := by decide +kernel
theorem d4_8 : decode prog_18_method_7_code 8 = .ok (.if_icmp .ge 7, 3) := by decide +kernel
theorem d4_11 : decode prog_18_method_7_code 11 = .ok (.iconst 1, 1) := by decide +kernel
theorem d4_12 : decode prog_18_method_7_code 12 = .ok (.goto 4, 3) := by decide +kernel
theorem d4_15 : decode prog_18_method_7_code 15 = .ok (.iconst 0, 1) := by decide +kernel
theorem d4_16 : decode prog_18_method_7_code 16 = .ok (.ireturn, 1) := by decide +kernel
theorem ef_4 (m : MethodId) (a1 : Addr) : entryFrame m #[(.ref a1)] 1 = mkF m 0 #[.val (.ref a1)] [] := by first | (simp [entryFrame, mkF, argsToLocals, Value.category]; done) | rfl
def fn4 (w_limit : Int32) (w_maxWaiting : Int32) (w_running : Int32) (w_waiting : Int32) : Int32 := ((if (w_waiting < w_maxWaiting) then (1 : Int32) else (0 : Int32)) &&& 1)
def Q4 (Z : State) (a1 : Addr) (w_limit : Int32) (w_maxWaiting : Int32) (w_running : Int32) (w_waiting : Int32) (h0 : Heap) (n0 : Nat) : Option Value → Heap → List Loc → Prop := fun v h L => v = some (Value.int (fn4 w_limit w_maxWaiting w_running w_waiting)) ∧ Fr n0 L ∧ h = h0
def room4 : Room := { frames := 0, cells := 0, slots := 0, locals := 0 }
set_option maxRecDepth 65536 in
set_option maxHeartbeats 40000000 in
theorem rm4 (l : Launch) (Z : State) (a0 : Array Value) (hw : ∀ d ∈ tables_1, d.before a0 Z = true) (a1 : Addr) (w_limit : Int32) (w_maxWaiting : Int32) (w_running : Int32) (w_waiting : Int32) (h0 : Heap) (n0 : Nat) (R_a1 : Grp Z h0 a1 w_limit w_maxWaiting .null w_running w_waiting) : Ctr l Z (⟨"com/example/admission/admission/internal/Group", "mayQueue", "()Z"⟩ : MethodName) prog_18_method_7_code 1 (some .boolean) room4 #[(.ref a1)] h0 (Q4 Z a1 w_limit w_maxWaiting w_running w_waiting h0 n0) := by
  refine Ctr.of (plainFor_of_name pn_2) ?_
  intro p e s m below meth c s₁ hx hby hml hown hnm hret hlk hZ e0 X0
  have hown : s.vm.findClass "com/example/admission/admission/internal/Group" = some m.cls := hown
  have hml : c.maxLocals = 1 := hml
  have hnm : meth.name = "mayQueue" := hnm
  have hret : meth.sig.returnType = (some .boolean) := hret
  have N0 := Fr.nil n0
  refine Till.cast (ef_4 m a1) ?_
  show Till p e below s (Q4 Z a1 w_limit w_maxWaiting w_running w_waiting h0 n0) room4.cells room4.slots (s₁.setTop (mkF m 0 #[.val (.ref a1)] []))
  refine Till.pre (fun _ hr => XS.aloadN X0.here hx rfl (hb hby d4_0) rfl rfl hr) ?_
  show Till p e below s (Q4 Z a1 w_limit w_maxWaiting w_running w_waiting h0 n0) room4.cells room4.slots (s₁.setTop (mkF m 1 #[.val (.ref a1)] [(.ref a1)]))
  refine Till.getF X0 hx hZ hown (hw _ (List.mem_of_getElem? (i := 32) rfl)) e0 R_a1.2.2.2.2.2 (hb hby d4_1) (fun T1 X2 e3 => ?_)
  show Till p e below s (Q4 Z a1 w_limit w_maxWaiting w_running w_waiting h0 n0) room4.cells room4.slots (T1.setTop (mkF m 4 #[.val (.ref a1)] [(.int w_waiting)]))
  refine Till.pre (fun _ hr => XS.aloadN X2.here hx rfl (hb hby d4_4) rfl rfl hr) ?_
  show Till p e below s (Q4 Z a1 w_limit w_maxWaiting w_running w_waiting h0 n0) room4.cells room4.slots (T1.setTop (mkF m 5 #[.val (.ref a1)] [(.ref a1), (.int w_waiting)]))
  refine Till.getF X2 hx hZ hown (hw _ (List.mem_of_getElem? (i := 16) rfl)) e3 R_a1.2.2.1 (hb hby d4_5) (fun T4 X5 e6 => ?_)
  show Till p e below s (Q4 Z a1 w_limit w_maxWaiting w_running w_waiting h0 n0) room4.cells room4.slots (T4.setTop (mkF m 8 #[.val (.ref a1)] [(.int w_maxWaiting), (.int w_waiting)]))
  have J16_7 : ∀ (v16s0 : Int32) (hv16s0 : v16s0 = (if (w_waiting < w_maxWaiting) then (1 : Int32) else (0 : Int32))), Till p e below s (Q4 Z a1 w_limit w_maxWaiting w_running w_waiting h0 n0) room4.cells room4.slots (T4.setTop (mkF m 16 #[.val (.ref a1)] [(.int v16s0)])) := by
    intro v16s0 hv16s0
    show Till p e below s (Q4 Z a1 w_limit w_maxWaiting w_running w_waiting h0 n0) room4.cells room4.slots (T4.setTop (mkF m 16 #[.val (.ref a1)] [(.int v16s0)]))
    refine Till.retZ (w := (v16s0 &&& 1)) X5 hx hret hlk (hb hby d4_16) (by decide) (by decide) (rfl) ?_
    subst hv16s0
    exact ⟨rfl, N0, e6⟩
  refine Till.icmp (pc' := 15) X5.here hx (hb hby d4_8) (by decide) (by decide) (fun q => ?_) (fun q => ?_)
  · have hc7 := (hLt.2.2.1 q)
    show Till p e below s (Q4 Z a1 w_limit w_maxWaiting w_running w_waiting h0 n0) room4.cells room4.slots (T4.setTop (mkF m 15 #[.val (.ref a1)] []))
    refine Till.pre (fun _ hr => XS.iconst X5.here hx rfl (hb hby d4_15) hr) ?_
    show Till p e below s (Q4 Z a1 w_limit w_maxWaiting w_running w_waiting h0 n0) room4.cells room4.slots (T4.setTop (mkF m 16 #[.val (.ref a1)] [(.int (0 : Int32))]))
    exact J16_7 _ (Eq.symm (if_neg hc7))
  · have hc7 := (hLt.2.2.2.1 q)
    show Till p e below s (Q4 Z a1 w_limit w_maxWaiting w_running w_waiting h0 n0) room4.cells room4.slots (T4.setTop (mkF m 11 #[.val (.ref a1)] []))
    refine Till.pre (fun _ hr => XS.iconst X5.here hx rfl (hb hby d4_11) hr) ?_
    show Till p e below s (Q4 Z a1 w_limit w_maxWaiting w_running w_waiting h0 n0) room4.cells room4.slots (T4.setTop (mkF m 12 #[.val (.ref a1)] [(.int (1 : Int32))]))
    refine Till.pre (fun _ hr => XS.goto X5.here hx rfl (pc0 := 12) (pc' := 16) rfl (hb hby d4_12) (by decide) (by decide) hr) ?_
    show Till p e below s (Q4 Z a1 w_limit w_maxWaiting w_running w_waiting h0 n0) room4.cells room4.slots (T4.setTop (mkF m 16 #[.val (.ref a1)] [(.int (1 : Int32))]))
    exact J16_7 _ (Eq.symm (if_pos hc7))
theorem d5_0 : decode prog_18_method_4_code 0 = .ok (.aload_n 0, 1) := by decide +kernel
theorem d5_1 : decode prog_18_method_4_code 1 = .ok (.getfield 23, 3) := by decide +kernel
theorem d5_4 : decode prog_18_method_4_code 4 = .ok (.ireturn, 1) := by decide +kernel
theorem ef_5 (m : MethodId) (a1 : Addr) : entryFrame m #[(.ref a1)] 1 = mkF m 0 #[.val (.ref a1)] [] := by first | (simp [entryFrame, mkF, argsToLocals, Value.category]; done) | rfl
def Q5 (Z : State) (a1 : Addr) (w_limit : Int32) (w_maxWaiting : Int32) (w_running : Int32) (w_waiting : Int32) (h0 : Heap) (n0 : Nat) : Option Value → Heap → List Loc → Prop := fun v h L => v = some (Value.int w_waiting) ∧ Fr n0 L ∧ h = h0
def room5 : Room := { frames := 0, cells := 0, slots := 0, locals := 0 }
set_option maxRecDepth 65536 in
set_option maxHeartbeats 40000000 in
theorem rm5 (l : Launch) (Z : State) (a0 : Array Value) (hw : ∀ d ∈ tables_1, d.before a0 Z = true) (a1 : Addr) (w_limit : Int32) (w_maxWaiting : Int32) (w_running : Int32) (w_waiting : Int32) (h0 : Heap) (n0 : Nat) (R_a1 : Grp Z h0 a1 w_limit w_maxWaiting .null w_running w_waiting) : Ctr l Z (⟨"com/example/admission/admission/internal/Group", "waiting", "()I"⟩ : MethodName) prog_18_method_4_code 1 (some .int) room5 #[(.ref a1)] h0 (Q5 Z a1 w_limit w_maxWaiting w_running w_waiting h0 n0) := by
  refine Ctr.of (plainFor_of_name pn_2) ?_
  intro p e s m below meth c s₁ hx hby hml hown hnm hret hlk hZ e0 X0
  have hown : s.vm.findClass "com/example/admission/admission/internal/Group" = some m.cls := hown
  have hml : c.maxLocals = 1 := hml
  have hnm : meth.name = "waiting" := hnm
  have hret : meth.sig.returnType = (some .int) := hret
  have N0 := Fr.nil n0
  refine Till.cast (ef_5 m a1) ?_
  show Till p e below s (Q5 Z a1 w_limit w_maxWaiting w_running w_waiting h0 n0) room5.cells room5.slots (s₁.setTop (mkF m 0 #[.val (.ref a1)] []))
  refine Till.pre (fun _ hr => XS.aloadN X0.here hx rfl (hb hby d5_0) rfl rfl hr) ?_
  show Till p e below s (Q5 Z a1 w_limit w_maxWaiting w_running w_waiting h0 n0) room5.cells room5.slots (s₁.setTop (mkF m 1 #[.val (.ref a1)] [(.ref a1)]))
  refine Till.getF X0 hx hZ hown (hw _ (List.mem_of_getElem? (i := 32) rfl)) e0 R_a1.2.2.2.2.2 (hb hby d5_1) (fun T1 X2 e3 => ?_)
  show Till p e below s (Q5 Z a1 w_limit w_maxWaiting w_running w_waiting h0 n0) room5.cells room5.slots (T1.setTop (mkF m 4 #[.val (.ref a1)] [(.int w_waiting)]))
  refine Till.retI X2 hx hret hlk (hb hby d5_4) (by decide) (by decide) ?_
  exact ⟨rfl, N0, e3⟩
theorem own_q (a m r : Int32) : fn4 a m r (0 : Int32) = if (0 : Int32) < m then (1 : Int32) else (0 : Int32) := by unfold fn4; split <;> rfl
theorem pn_0 : plainName "com/example/admission/admission/internal/GroupMayQueuePinLaw" = true := by first | (simp [plainName, overriddenIn]; done) | decide +kernel
theorem pd0_0 : parseMethodDescriptor "()I" = some ⟨[], some .int⟩ := by decide +kernel
theorem pd0_1 : parseMethodDescriptor "()V" = some ⟨[], none⟩ := by decide +kernel
theorem pd0_2 : parseMethodDescriptor "()Z" = some ⟨[], some .boolean⟩ := by decide +kernel
theorem pd0_3 : parseMethodDescriptor "(II)I" = some ⟨[.int, .int], some .int⟩ := by decide +kernel
theorem pd0_4 : parseMethodDescriptor "(IILjava/lang/Object;)V" = some ⟨[.int, .int, (.object "java/lang/Object")], none⟩ := by decide +kernel
theorem ef_0 (m : MethodId) (p1 : Int32) (p2 : Int32) (p3 : Int32) : entryFrame m #[(.int p1), (.int p2), (.int p3)] maxLocals = mkF m 0 #[.val (.int p1), .val (.int p2), .val (.int p3), .unset, .unset, .unset, .unset, .unset, .unset, .unset] [] := by first | (simp [entryFrame, mkF, argsToLocals, Value.category, maxLocals]; done) | rfl
def Q0 (Z : State) (p1 : Int32) (p2 : Int32) (p3 : Int32) (h0 : Heap) (n0 : Nat) : Option Value → Heap → List Loc → Prop := fun v h L => v = some (.int 1) ∧ Fr n0 L
set_option maxRecDepth 65536 in
set_option maxHeartbeats 40000000 in
theorem rm0 (l : Launch) (Z : State) (a0 : Array Value) (hw : ∀ d ∈ tables_1, d.before a0 Z = true) (p1 : Int32) (p2 : Int32) (p3 : Int32) (h0 : Heap) (n0 : Nat) (Zs : n0 ≤ h0.size) : Ctr l Z x code maxLocals ret room_1 #[(.int p1), (.int p2), (.int p3)] h0 (Q0 Z p1 p2 p3 h0 n0) := by
  refine Ctr.of (plainFor_of_name pn_0) ?_
  intro p e s m below meth c s₁ hx hby hml hown hnm hret hlk hZ e0 X0
  have hown : s.vm.findClass "com/example/admission/admission/internal/GroupMayQueuePinLaw" = some m.cls := hown
  have hml : c.maxLocals = 10 := hml
  have hnm : meth.name = "law" := hnm
  have hret : meth.sig.returnType = (some .boolean) := hret
  have N0 := Fr.nil n0
  refine Till.cast (ef_0 m p1 p2 p3) ?_
  show Till p e below s (Q0 Z p1 p2 p3 h0 n0) room_1.cells room_1.slots (s₁.setTop (mkF m 0 #[.val (.int p1), .val (.int p2), .val (.int p3), .unset, .unset, .unset, .unset, .unset, .unset, .unset] []))
  refine Till.pre (fun _ hr => XS.iconst X0.here hx rfl (hb hby at_0) hr) ?_
  show Till p e below s (Q0 Z p1 p2 p3 h0 n0) room_1.cells room_1.slots (s₁.setTop (mkF m 1 #[.val (.int p1), .val (.int p2), .val (.int p3), .unset, .unset, .unset, .unset, .unset, .unset, .unset] [(.int (1 : Int32))]))
  refine Till.pre (fun _ hr => XS.iloadN X0.here hx rfl (hb hby at_1) rfl hr) ?_
  show Till p e below s (Q0 Z p1 p2 p3 h0 n0) room_1.cells room_1.slots (s₁.setTop (mkF m 2 #[.val (.int p1), .val (.int p2), .val (.int p3), .unset, .unset, .unset, .unset, .unset, .unset, .unset] [(.int p1), (.int (1 : Int32))]))
  refine Till.pre (X0.ldcInt hx hown (mvT hZ (hw _ (List.mem_of_getElem? (i := 0) rfl))) (g := (mkF m 2 #[.val (.int p1), .val (.int p2), .val (.int p3), .unset, .unset, .unset, .unset, .unset, .unset, .unset] [(.int p1), (.int (1 : Int32))])) rfl (hb hby at_2)) ?_
  show Till p e below s (Q0 Z p1 p2 p3 h0 n0) room_1.cells room_1.slots (s₁.setTop (mkF m 4 #[.val (.int p1), .val (.int p2), .val (.int p3), .unset, .unset, .unset, .unset, .unset, .unset, .unset] [(.int (2147483647 : Int32)), (.int p1), (.int (1 : Int32))]))
  refine Till.pre (fun _ hr => XS.iand X0.here hx rfl (hb hby at_4) rfl hr) ?_
  show Till p e below s (Q0 Z p1 p2 p3 h0 n0) room_1.cells room_1.slots (s₁.setTop (mkF m 5 #[.val (.int p1), .val (.int p2), .val (.int p3), .unset, .unset, .unset, .unset, .unset, .unset, .unset] [(.int (p1 &&& (2147483647 : Int32))), (.int (1 : Int32))]))
  refine Till.callS (rm1 l Z a0 hw (1 : Int32) (p1 &&& (2147483647 : Int32)) h0 n0) X0 hx hZ hown (hw _ (List.mem_of_getElem? (i := 1) rfl)) (hw _ (List.mem_of_getElem? (i := 2) rfl)) (hw _ (List.mem_of_getElem? (i := 3) rfl)) (hw _ (List.mem_of_getElem? (i := 4) rfl)) (by decide) (by decide) (W := 0) (by decide) (by rw [hml]; rfl) (argsL := [(.int (1 : Int32)), (.int (p1 &&& (2147483647 : Int32)))]) (rest := []) (lenOf pd0_3 rfl) rfl rfl (Nat.le_of_eq rfl) (hb hby at_5) e0 (by decide) (by decide) ?_
  rintro _ T1 L2 X3 ⟨rfl, N4, e5⟩
  have N4 := Fr.app N0 N4
  show Till p e below s (Q0 Z p1 p2 p3 h0 n0) room_1.cells room_1.slots (T1.setTop (mkF m 8 #[.val (.int p1), .val (.int p2), .val (.int p3), .unset, .unset, .unset, .unset, .unset, .unset, .unset] [(.int (fn1 (1 : Int32) (p1 &&& (2147483647 : Int32))))]))
  refine Till.pre (fun _ hr => XS.istoreN X3.here hx rfl (hb hby at_8) rfl (l' := #[.val (.int p1), .val (.int p2), .val (.int p3), .val (.int (fn1 (1 : Int32) (p1 &&& (2147483647 : Int32)))), .unset, .unset, .unset, .unset, .unset, .unset]) rfl hr) ?_
  show Till p e below s (Q0 Z p1 p2 p3 h0 n0) room_1.cells room_1.slots (T1.setTop (mkF m 9 #[.val (.int p1), .val (.int p2), .val (.int p3), .val (.int (fn1 (1 : Int32) (p1 &&& (2147483647 : Int32)))), .unset, .unset, .unset, .unset, .unset, .unset] []))
  refine Till.pre (fun _ hr => XS.iloadN X3.here hx rfl (hb hby at_9) rfl hr) ?_
  show Till p e below s (Q0 Z p1 p2 p3 h0 n0) room_1.cells room_1.slots (T1.setTop (mkF m 10 #[.val (.int p1), .val (.int p2), .val (.int p3), .val (.int (fn1 (1 : Int32) (p1 &&& (2147483647 : Int32)))), .unset, .unset, .unset, .unset, .unset, .unset] [(.int p2)]))
  refine Till.pre (X3.ldcInt hx hown (mvT hZ (hw _ (List.mem_of_getElem? (i := 0) rfl))) (g := (mkF m 10 #[.val (.int p1), .val (.int p2), .val (.int p3), .val (.int (fn1 (1 : Int32) (p1 &&& (2147483647 : Int32)))), .unset, .unset, .unset, .unset, .unset, .unset] [(.int p2)])) rfl (hb hby at_10)) ?_
  show Till p e below s (Q0 Z p1 p2 p3 h0 n0) room_1.cells room_1.slots (T1.setTop (mkF m 12 #[.val (.int p1), .val (.int p2), .val (.int p3), .val (.int (fn1 (1 : Int32) (p1 &&& (2147483647 : Int32)))), .unset, .unset, .unset, .unset, .unset, .unset] [(.int (2147483647 : Int32)), (.int p2)]))
  refine Till.pre (fun _ hr => XS.iand X3.here hx rfl (hb hby at_12) rfl hr) ?_
  show Till p e below s (Q0 Z p1 p2 p3 h0 n0) room_1.cells room_1.slots (T1.setTop (mkF m 13 #[.val (.int p1), .val (.int p2), .val (.int p3), .val (.int (fn1 (1 : Int32) (p1 &&& (2147483647 : Int32)))), .unset, .unset, .unset, .unset, .unset, .unset] [(.int (p2 &&& (2147483647 : Int32)))]))
  refine Till.pre (fun _ hr => XS.istore X3.here hx rfl (hb hby at_13) rfl (l' := #[.val (.int p1), .val (.int p2), .val (.int p3), .val (.int (fn1 (1 : Int32) (p1 &&& (2147483647 : Int32)))), .val (.int (p2 &&& (2147483647 : Int32))), .unset, .unset, .unset, .unset, .unset]) rfl hr) ?_
  show Till p e below s (Q0 Z p1 p2 p3 h0 n0) room_1.cells room_1.slots (T1.setTop (mkF m 15 #[.val (.int p1), .val (.int p2), .val (.int p3), .val (.int (fn1 (1 : Int32) (p1 &&& (2147483647 : Int32)))), .val (.int (p2 &&& (2147483647 : Int32))), .unset, .unset, .unset, .unset, .unset] []))
  refine Till.pre (fun _ hr => XS.iloadN X3.here hx rfl (hb hby at_15) rfl hr) ?_
  show Till p e below s (Q0 Z p1 p2 p3 h0 n0) room_1.cells room_1.slots (T1.setTop (mkF m 16 #[.val (.int p1), .val (.int p2), .val (.int p3), .val (.int (fn1 (1 : Int32) (p1 &&& (2147483647 : Int32)))), .val (.int (p2 &&& (2147483647 : Int32))), .unset, .unset, .unset, .unset, .unset] [(.int p3)]))
  refine Till.pre (fun _ hr => XS.iconst X3.here hx rfl (hb hby at_16) hr) ?_
  show Till p e below s (Q0 Z p1 p2 p3 h0 n0) room_1.cells room_1.slots (T1.setTop (mkF m 17 #[.val (.int p1), .val (.int p2), .val (.int p3), .val (.int (fn1 (1 : Int32) (p1 &&& (2147483647 : Int32)))), .val (.int (p2 &&& (2147483647 : Int32))), .unset, .unset, .unset, .unset, .unset] [(.int (3 : Int32)), (.int p3)]))
  refine Till.pre (fun _ hr => XS.iand X3.here hx rfl (hb hby at_17) rfl hr) ?_
  show Till p e below s (Q0 Z p1 p2 p3 h0 n0) room_1.cells room_1.slots (T1.setTop (mkF m 18 #[.val (.int p1), .val (.int p2), .val (.int p3), .val (.int (fn1 (1 : Int32) (p1 &&& (2147483647 : Int32)))), .val (.int (p2 &&& (2147483647 : Int32))), .unset, .unset, .unset, .unset, .unset] [(.int (p3 &&& (3 : Int32)))]))
  refine Till.pre (fun _ hr => XS.istore X3.here hx rfl (hb hby at_18) rfl (l' := #[.val (.int p1), .val (.int p2), .val (.int p3), .val (.int (fn1 (1 : Int32) (p1 &&& (2147483647 : Int32)))), .val (.int (p2 &&& (2147483647 : Int32))), .val (.int (p3 &&& (3 : Int32))), .unset, .unset, .unset, .unset]) rfl hr) ?_
  show Till p e below s (Q0 Z p1 p2 p3 h0 n0) room_1.cells room_1.slots (T1.setTop (mkF m 20 #[.val (.int p1), .val (.int p2), .val (.int p3), .val (.int (fn1 (1 : Int32) (p1 &&& (2147483647 : Int32)))), .val (.int (p2 &&& (2147483647 : Int32))), .val (.int (p3 &&& (3 : Int32))), .unset, .unset, .unset, .unset] []))
  refine Till.newO X3 hx hZ hown (hw _ (List.mem_of_getElem? (i := 5) rfl)) (hw _ (List.mem_of_getElem? (i := 6) rfl)) (hw _ (List.mem_of_getElem? (i := 7) rfl)) e5 (hb hby at_20) (by decide) (by decide) (fun T6 h7 b8 g9 X10 e11 E12 A13 D14 => ?_)
  have g_b8 : n0 ≤ b8 := Nat.le_trans Zs (Nat.le_of_eq g9.symm)
  have Zs := Nat.le_trans Zs E12.1
  have R_b8 : Grp Z h7 b8 (0 : Int32) (0 : Int32) .null (0 : Int32) (0 : Int32) := ⟨A13, D14 (Or.inr (hw _ (List.mem_of_getElem? (i := 15) rfl))) (ty := .int) (by decide), D14 (Or.inr (hw _ (List.mem_of_getElem? (i := 17) rfl))) (ty := .int) (by decide), D14 (Or.inr (hw _ (List.mem_of_getElem? (i := 19) rfl))) (ty := (.object "java/lang/Object")) (by decide), D14 (Or.inl (hw _ (List.mem_of_getElem? (i := 26) rfl))) (ty := .int) (by decide), D14 (Or.inl (hw _ (List.mem_of_getElem? (i := 33) rfl))) (ty := .int) (by decide)⟩
  show Till p e below s (Q0 Z p1 p2 p3 h0 n0) room_1.cells room_1.slots (T6.setTop (mkF m 23 #[.val (.int p1), .val (.int p2), .val (.int p3), .val (.int (fn1 (1 : Int32) (p1 &&& (2147483647 : Int32)))), .val (.int (p2 &&& (2147483647 : Int32))), .val (.int (p3 &&& (3 : Int32))), .unset, .unset, .unset, .unset] [(.ref b8)]))
  refine Till.pre (fun _ hr => XS.dup X10.here hx rfl (hb hby at_23) rfl rfl hr) ?_
  show Till p e below s (Q0 Z p1 p2 p3 h0 n0) room_1.cells room_1.slots (T6.setTop (mkF m 24 #[.val (.int p1), .val (.int p2), .val (.int p3), .val (.int (fn1 (1 : Int32) (p1 &&& (2147483647 : Int32)))), .val (.int (p2 &&& (2147483647 : Int32))), .val (.int (p3 &&& (3 : Int32))), .unset, .unset, .unset, .unset] [(.ref b8), (.ref b8)]))
  refine Till.pre (fun _ hr => XS.iloadN X10.here hx rfl (hb hby at_24) rfl hr) ?_
  show Till p e below s (Q0 Z p1 p2 p3 h0 n0) room_1.cells room_1.slots (T6.setTop (mkF m 25 #[.val (.int p1), .val (.int p2), .val (.int p3), .val (.int (fn1 (1 : Int32) (p1 &&& (2147483647 : Int32)))), .val (.int (p2 &&& (2147483647 : Int32))), .val (.int (p3 &&& (3 : Int32))), .unset, .unset, .unset, .unset] [(.int (fn1 (1 : Int32) (p1 &&& (2147483647 : Int32)))), (.ref b8), (.ref b8)]))
  refine Till.pre (fun _ hr => XS.iload X10.here hx rfl (hb hby at_25) rfl hr) ?_
  show Till p e below s (Q0 Z p1 p2 p3 h0 n0) room_1.cells room_1.slots (T6.setTop (mkF m 27 #[.val (.int p1), .val (.int p2), .val (.int p3), .val (.int (fn1 (1 : Int32) (p1 &&& (2147483647 : Int32)))), .val (.int (p2 &&& (2147483647 : Int32))), .val (.int (p3 &&& (3 : Int32))), .unset, .unset, .unset, .unset] [(.int (p2 &&& (2147483647 : Int32))), (.int (fn1 (1 : Int32) (p1 &&& (2147483647 : Int32)))), (.ref b8), (.ref b8)]))
  refine Till.pre (fun _ hr => XS.aconstNull X10.here hx rfl (hb hby at_27) hr) ?_
  show Till p e below s (Q0 Z p1 p2 p3 h0 n0) room_1.cells room_1.slots (T6.setTop (mkF m 28 #[.val (.int p1), .val (.int p2), .val (.int p3), .val (.int (fn1 (1 : Int32) (p1 &&& (2147483647 : Int32)))), .val (.int (p2 &&& (2147483647 : Int32))), .val (.int (p3 &&& (3 : Int32))), .unset, .unset, .unset, .unset] [.null, (.int (p2 &&& (2147483647 : Int32))), (.int (fn1 (1 : Int32) (p1 &&& (2147483647 : Int32)))), (.ref b8), (.ref b8)]))
  refine Till.callC (rm2 l Z a0 hw b8 (fn1 (1 : Int32) (p1 &&& (2147483647 : Int32))) (p2 &&& (2147483647 : Int32)) (0 : Int32) (0 : Int32) (0 : Int32) (0 : Int32) h7 n0 Zs R_b8 g_b8) X10 hx hZ hown rfl (hw _ (List.mem_of_getElem? (i := 8) rfl)) (hw _ (List.mem_of_getElem? (i := 9) rfl)) (hw _ (List.mem_of_getElem? (i := 7) rfl)) (hw _ (List.mem_of_getElem? (i := 10) rfl)) (by decide) (by decide) (W := 1) (by decide) (by rw [hml]; rfl) (a := b8) (argsL := [(.int (fn1 (1 : Int32) (p1 &&& (2147483647 : Int32)))), (.int (p2 &&& (2147483647 : Int32))), .null]) (rest := [(.ref b8)]) (lenOf pd0_4 rfl) rfl rfl (Nat.le_of_eq rfl) (hb hby at_28) e11 (by decide) (by decide) ?_
  rintro _ T15 L16 X17 ⟨rfl, N18, K19, q20⟩
  have N18 := Fr.app N4 N18
  have Zs := Nat.le_trans Zs K19.1
  have R_b8 : Grp Z T15.heap b8 (fn1 (1 : Int32) (p1 &&& (2147483647 : Int32))) (p2 &&& (2147483647 : Int32)) .null (0 : Int32) (0 : Int32) := q20
  show Till p e below s (Q0 Z p1 p2 p3 h0 n0) room_1.cells room_1.slots (T15.setTop (mkF m 31 #[.val (.int p1), .val (.int p2), .val (.int p3), .val (.int (fn1 (1 : Int32) (p1 &&& (2147483647 : Int32)))), .val (.int (p2 &&& (2147483647 : Int32))), .val (.int (p3 &&& (3 : Int32))), .unset, .unset, .unset, .unset] [(.ref b8)]))
  refine Till.pre (fun _ hr => XS.astore X17.here hx rfl (hb hby at_31) rfl rfl (l' := #[.val (.int p1), .val (.int p2), .val (.int p3), .val (.int (fn1 (1 : Int32) (p1 &&& (2147483647 : Int32)))), .val (.int (p2 &&& (2147483647 : Int32))), .val (.int (p3 &&& (3 : Int32))), .val (.ref b8), .unset, .unset, .unset]) rfl hr) ?_
  show Till p e below s (Q0 Z p1 p2 p3 h0 n0) room_1.cells room_1.slots (T15.setTop (mkF m 33 #[.val (.int p1), .val (.int p2), .val (.int p3), .val (.int (fn1 (1 : Int32) (p1 &&& (2147483647 : Int32)))), .val (.int (p2 &&& (2147483647 : Int32))), .val (.int (p3 &&& (3 : Int32))), .val (.ref b8), .unset, .unset, .unset] []))
  refine Till.pre (fun _ hr => XS.iload X17.here hx rfl (hb hby at_33) rfl hr) ?_
  show Till p e below s (Q0 Z p1 p2 p3 h0 n0) room_1.cells room_1.slots (T15.setTop (mkF m 35 #[.val (.int p1), .val (.int p2), .val (.int p3), .val (.int (fn1 (1 : Int32) (p1 &&& (2147483647 : Int32)))), .val (.int (p2 &&& (2147483647 : Int32))), .val (.int (p3 &&& (3 : Int32))), .val (.ref b8), .unset, .unset, .unset] [(.int (p3 &&& (3 : Int32)))]))
  refine Till.pre (fun _ hr => XS.iconst X17.here hx rfl (hb hby at_35) hr) ?_
  show Till p e below s (Q0 Z p1 p2 p3 h0 n0) room_1.cells room_1.slots (T15.setTop (mkF m 36 #[.val (.int p1), .val (.int p2), .val (.int p3), .val (.int (fn1 (1 : Int32) (p1 &&& (2147483647 : Int32)))), .val (.int (p2 &&& (2147483647 : Int32))), .val (.int (p3 &&& (3 : Int32))), .val (.ref b8), .unset, .unset, .unset] [(.int (1 : Int32)), (.int (p3 &&& (3 : Int32)))]))
  have J44_31 : ∀ (T28 : State) (L29 : List Loc) (X30 : Stand p l e room_1 s m #[(.int p1), (.int p2), (.int p3)] below meth c T28 L29 1 10) (N31 : Fr n0 L29) (Zs : n0 ≤ T28.heap.size) (v44f0_3 : Int32) (hv44f0_3 : v44f0_3 = (if ((p3 &&& (3 : Int32)) < (1 : Int32)) then (0 : Int32) else (1 : Int32))) (R_b8 : Grp Z T28.heap b8 (fn1 (1 : Int32) (p1 &&& (2147483647 : Int32))) (p2 &&& (2147483647 : Int32)) .null v44f0_3 (0 : Int32)), Till p e below s (Q0 Z p1 p2 p3 h0 n0) room_1.cells room_1.slots (T28.setTop (mkF m 44 #[.val (.int p1), .val (.int p2), .val (.int p3), .val (.int (fn1 (1 : Int32) (p1 &&& (2147483647 : Int32)))), .val (.int (p2 &&& (2147483647 : Int32))), .val (.int (p3 &&& (3 : Int32))), .val (.ref b8), .unset, .unset, .unset] [])) := by
    intro T28 L29 X30 N31 Zs v44f0_3 hv44f0_3 R_b8
    show Till p e below s (Q0 Z p1 p2 p3 h0 n0) room_1.cells room_1.slots (T28.setTop (mkF m 44 #[.val (.int p1), .val (.int p2), .val (.int p3), .val (.int (fn1 (1 : Int32) (p1 &&& (2147483647 : Int32)))), .val (.int (p2 &&& (2147483647 : Int32))), .val (.int (p3 &&& (3 : Int32))), .val (.ref b8), .unset, .unset, .unset] []))
    refine Till.pre (fun _ hr => XS.iload X30.here hx rfl (hb hby at_44) rfl hr) ?_
    show Till p e below s (Q0 Z p1 p2 p3 h0 n0) room_1.cells room_1.slots (T28.setTop (mkF m 46 #[.val (.int p1), .val (.int p2), .val (.int p3), .val (.int (fn1 (1 : Int32) (p1 &&& (2147483647 : Int32)))), .val (.int (p2 &&& (2147483647 : Int32))), .val (.int (p3 &&& (3 : Int32))), .val (.ref b8), .unset, .unset, .unset] [(.int (p3 &&& (3 : Int32)))]))
    refine Till.pre (fun _ hr => XS.iconst X30.here hx rfl (hb hby at_46) hr) ?_
    show Till p e below s (Q0 Z p1 p2 p3 h0 n0) room_1.cells room_1.slots (T28.setTop (mkF m 47 #[.val (.int p1), .val (.int p2), .val (.int p3), .val (.int (fn1 (1 : Int32) (p1 &&& (2147483647 : Int32)))), .val (.int (p2 &&& (2147483647 : Int32))), .val (.int (p3 &&& (3 : Int32))), .val (.ref b8), .unset, .unset, .unset] [(.int (2 : Int32)), (.int (p3 &&& (3 : Int32)))]))
    have J55_43 : ∀ (T40 : State) (L41 : List Loc) (X42 : Stand p l e room_1 s m #[(.int p1), (.int p2), (.int p3)] below meth c T40 L41 1 10) (N43 : Fr n0 L41) (Zs : n0 ≤ T40.heap.size) (v55f0_3 : Int32) (hv55f0_3 : v55f0_3 = (if ((p3 &&& (3 : Int32)) < (2 : Int32)) then v44f0_3 else (v44f0_3 + (1 : Int32)))) (R_b8 : Grp Z T40.heap b8 (fn1 (1 : Int32) (p1 &&& (2147483647 : Int32))) (p2 &&& (2147483647 : Int32)) .null v55f0_3 (0 : Int32)), Till p e below s (Q0 Z p1 p2 p3 h0 n0) room_1.cells room_1.slots (T40.setTop (mkF m 55 #[.val (.int p1), .val (.int p2), .val (.int p3), .val (.int (fn1 (1 : Int32) (p1 &&& (2147483647 : Int32)))), .val (.int (p2 &&& (2147483647 : Int32))), .val (.int (p3 &&& (3 : Int32))), .val (.ref b8), .unset, .unset, .unset] [])) := by
      intro T40 L41 X42 N43 Zs v55f0_3 hv55f0_3 R_b8
      show Till p e below s (Q0 Z p1 p2 p3 h0 n0) room_1.cells room_1.slots (T40.setTop (mkF m 55 #[.val (.int p1), .val (.int p2), .val (.int p3), .val (.int (fn1 (1 : Int32) (p1 &&& (2147483647 : Int32)))), .val (.int (p2 &&& (2147483647 : Int32))), .val (.int (p3 &&& (3 : Int32))), .val (.ref b8), .unset, .unset, .unset] []))
      refine Till.pre (fun _ hr => XS.iload X42.here hx rfl (hb hby at_55) rfl hr) ?_
      show Till p e below s (Q0 Z p1 p2 p3 h0 n0) room_1.cells room_1.slots (T40.setTop (mkF m 57 #[.val (.int p1), .val (.int p2), .val (.int p3), .val (.int (fn1 (1 : Int32) (p1 &&& (2147483647 : Int32)))), .val (.int (p2 &&& (2147483647 : Int32))), .val (.int (p3 &&& (3 : Int32))), .val (.ref b8), .unset, .unset, .unset] [(.int (p3 &&& (3 : Int32)))]))
      refine Till.pre (fun _ hr => XS.iconst X42.here hx rfl (hb hby at_57) hr) ?_
      show Till p e below s (Q0 Z p1 p2 p3 h0 n0) room_1.cells room_1.slots (T40.setTop (mkF m 58 #[.val (.int p1), .val (.int p2), .val (.int p3), .val (.int (fn1 (1 : Int32) (p1 &&& (2147483647 : Int32)))), .val (.int (p2 &&& (2147483647 : Int32))), .val (.int (p3 &&& (3 : Int32))), .val (.ref b8), .unset, .unset, .unset] [(.int (3 : Int32)), (.int (p3 &&& (3 : Int32)))]))
      have J66_55 : ∀ (T52 : State) (L53 : List Loc) (X54 : Stand p l e room_1 s m #[(.int p1), (.int p2), (.int p3)] below meth c T52 L53 1 10) (N55 : Fr n0 L53) (Zs : n0 ≤ T52.heap.size) (v66f0_3 : Int32) (hv66f0_3 : v66f0_3 = (if ((p3 &&& (3 : Int32)) < (3 : Int32)) then v55f0_3 else (v55f0_3 + (1 : Int32)))) (R_b8 : Grp Z T52.heap b8 (fn1 (1 : Int32) (p1 &&& (2147483647 : Int32))) (p2 &&& (2147483647 : Int32)) .null v66f0_3 (0 : Int32)), Till p e below s (Q0 Z p1 p2 p3 h0 n0) room_1.cells room_1.slots (T52.setTop (mkF m 66 #[.val (.int p1), .val (.int p2), .val (.int p3), .val (.int (fn1 (1 : Int32) (p1 &&& (2147483647 : Int32)))), .val (.int (p2 &&& (2147483647 : Int32))), .val (.int (p3 &&& (3 : Int32))), .val (.ref b8), .unset, .unset, .unset] [])) := by
        intro T52 L53 X54 N55 Zs v66f0_3 hv66f0_3 R_b8
        show Till p e below s (Q0 Z p1 p2 p3 h0 n0) room_1.cells room_1.slots (T52.setTop (mkF m 66 #[.val (.int p1), .val (.int p2), .val (.int p3), .val (.int (fn1 (1 : Int32) (p1 &&& (2147483647 : Int32)))), .val (.int (p2 &&& (2147483647 : Int32))), .val (.int (p3 &&& (3 : Int32))), .val (.ref b8), .unset, .unset, .unset] []))
        refine Till.pre (fun _ hr => XS.iload X54.here hx rfl (hb hby at_66) rfl hr) ?_
        show Till p e below s (Q0 Z p1 p2 p3 h0 n0) room_1.cells room_1.slots (T52.setTop (mkF m 68 #[.val (.int p1), .val (.int p2), .val (.int p3), .val (.int (fn1 (1 : Int32) (p1 &&& (2147483647 : Int32)))), .val (.int (p2 &&& (2147483647 : Int32))), .val (.int (p3 &&& (3 : Int32))), .val (.ref b8), .unset, .unset, .unset] [(.int (p2 &&& (2147483647 : Int32)))]))
        have J76_57 : ∀ (v76s0 : Int32) (hv76s0 : v76s0 = (if ((0 : Int32) < (p2 &&& (2147483647 : Int32))) then (1 : Int32) else (0 : Int32))), Till p e below s (Q0 Z p1 p2 p3 h0 n0) room_1.cells room_1.slots (T52.setTop (mkF m 76 #[.val (.int p1), .val (.int p2), .val (.int p3), .val (.int (fn1 (1 : Int32) (p1 &&& (2147483647 : Int32)))), .val (.int (p2 &&& (2147483647 : Int32))), .val (.int (p3 &&& (3 : Int32))), .val (.ref b8), .unset, .unset, .unset] [(.int v76s0)])) := by
          intro v76s0 hv76s0
          show Till p e below s (Q0 Z p1 p2 p3 h0 n0) room_1.cells room_1.slots (T52.setTop (mkF m 76 #[.val (.int p1), .val (.int p2), .val (.int p3), .val (.int (fn1 (1 : Int32) (p1 &&& (2147483647 : Int32)))), .val (.int (p2 &&& (2147483647 : Int32))), .val (.int (p3 &&& (3 : Int32))), .val (.ref b8), .unset, .unset, .unset] [(.int v76s0)]))
          refine Till.pre (fun _ hr => XS.istore X54.here hx rfl (hb hby at_76) rfl (l' := #[.val (.int p1), .val (.int p2), .val (.int p3), .val (.int (fn1 (1 : Int32) (p1 &&& (2147483647 : Int32)))), .val (.int (p2 &&& (2147483647 : Int32))), .val (.int (p3 &&& (3 : Int32))), .val (.ref b8), .val (.int v76s0), .unset, .unset]) rfl hr) ?_
          show Till p e below s (Q0 Z p1 p2 p3 h0 n0) room_1.cells room_1.slots (T52.setTop (mkF m 78 #[.val (.int p1), .val (.int p2), .val (.int p3), .val (.int (fn1 (1 : Int32) (p1 &&& (2147483647 : Int32)))), .val (.int (p2 &&& (2147483647 : Int32))), .val (.int (p3 &&& (3 : Int32))), .val (.ref b8), .val (.int v76s0), .unset, .unset] []))
          refine Till.pre (fun _ hr => XS.aload X54.here hx rfl (hb hby at_78) rfl rfl hr) ?_
          show Till p e below s (Q0 Z p1 p2 p3 h0 n0) room_1.cells room_1.slots (T52.setTop (mkF m 80 #[.val (.int p1), .val (.int p2), .val (.int p3), .val (.int (fn1 (1 : Int32) (p1 &&& (2147483647 : Int32)))), .val (.int (p2 &&& (2147483647 : Int32))), .val (.int (p3 &&& (3 : Int32))), .val (.ref b8), .val (.int v76s0), .unset, .unset] [(.ref b8)]))
          refine Till.callV (rm4 l Z a0 hw b8 (fn1 (1 : Int32) (p1 &&& (2147483647 : Int32))) (p2 &&& (2147483647 : Int32)) v66f0_3 (0 : Int32) T52.heap n0 R_b8) R_b8.1 X54 hx hZ hown (hw _ (List.mem_of_getElem? (i := 27) rfl)) (hw _ (List.mem_of_getElem? (i := 28) rfl)) (hw _ (List.mem_of_getElem? (i := 30) rfl)) (hw _ (List.mem_of_getElem? (i := 29) rfl)) (hw _ (List.mem_of_getElem? (i := 7) rfl)) (hw _ (List.mem_of_getElem? (i := 31) rfl)) (by decide) (by decide) (W := 0) (by decide) (by rw [hml]; rfl) (a := b8) (argsL := []) (rest := []) (lenOf pd0_2 rfl) rfl rfl (Nat.le_of_eq rfl) (hb hby at_80) rfl (by decide) (by decide) ?_
          rintro _ T59 L60 X61 ⟨rfl, N62, e63⟩
          have N62 := Fr.app N55 N62
          show Till p e below s (Q0 Z p1 p2 p3 h0 n0) room_1.cells room_1.slots (T59.setTop (mkF m 83 #[.val (.int p1), .val (.int p2), .val (.int p3), .val (.int (fn1 (1 : Int32) (p1 &&& (2147483647 : Int32)))), .val (.int (p2 &&& (2147483647 : Int32))), .val (.int (p3 &&& (3 : Int32))), .val (.ref b8), .val (.int v76s0), .unset, .unset] [(.int (fn4 (fn1 (1 : Int32) (p1 &&& (2147483647 : Int32))) (p2 &&& (2147483647 : Int32)) v66f0_3 (0 : Int32)))]))
          refine Till.pre (fun _ hr => XS.istore X61.here hx rfl (hb hby at_83) rfl (l' := #[.val (.int p1), .val (.int p2), .val (.int p3), .val (.int (fn1 (1 : Int32) (p1 &&& (2147483647 : Int32)))), .val (.int (p2 &&& (2147483647 : Int32))), .val (.int (p3 &&& (3 : Int32))), .val (.ref b8), .val (.int v76s0), .val (.int (fn4 (fn1 (1 : Int32) (p1 &&& (2147483647 : Int32))) (p2 &&& (2147483647 : Int32)) v66f0_3 (0 : Int32))), .unset]) rfl hr) ?_
          show Till p e below s (Q0 Z p1 p2 p3 h0 n0) room_1.cells room_1.slots (T59.setTop (mkF m 85 #[.val (.int p1), .val (.int p2), .val (.int p3), .val (.int (fn1 (1 : Int32) (p1 &&& (2147483647 : Int32)))), .val (.int (p2 &&& (2147483647 : Int32))), .val (.int (p3 &&& (3 : Int32))), .val (.ref b8), .val (.int v76s0), .val (.int (fn4 (fn1 (1 : Int32) (p1 &&& (2147483647 : Int32))) (p2 &&& (2147483647 : Int32)) v66f0_3 (0 : Int32))), .unset] []))
          refine Till.pre (fun _ hr => XS.aload X61.here hx rfl (hb hby at_85) rfl rfl hr) ?_
          show Till p e below s (Q0 Z p1 p2 p3 h0 n0) room_1.cells room_1.slots (T59.setTop (mkF m 87 #[.val (.int p1), .val (.int p2), .val (.int p3), .val (.int (fn1 (1 : Int32) (p1 &&& (2147483647 : Int32)))), .val (.int (p2 &&& (2147483647 : Int32))), .val (.int (p3 &&& (3 : Int32))), .val (.ref b8), .val (.int v76s0), .val (.int (fn4 (fn1 (1 : Int32) (p1 &&& (2147483647 : Int32))) (p2 &&& (2147483647 : Int32)) v66f0_3 (0 : Int32))), .unset] [(.ref b8)]))
          refine Till.callV (rm4 l Z a0 hw b8 (fn1 (1 : Int32) (p1 &&& (2147483647 : Int32))) (p2 &&& (2147483647 : Int32)) v66f0_3 (0 : Int32) T52.heap n0 R_b8) R_b8.1 X61 hx hZ hown (hw _ (List.mem_of_getElem? (i := 27) rfl)) (hw _ (List.mem_of_getElem? (i := 28) rfl)) (hw _ (List.mem_of_getElem? (i := 30) rfl)) (hw _ (List.mem_of_getElem? (i := 29) rfl)) (hw _ (List.mem_of_getElem? (i := 7) rfl)) (hw _ (List.mem_of_getElem? (i := 31) rfl)) (by decide) (by decide) (W := 0) (by decide) (by rw [hml]; rfl) (a := b8) (argsL := []) (rest := []) (lenOf pd0_2 rfl) rfl rfl (Nat.le_of_eq rfl) (hb hby at_87) e63 (by decide) (by decide) ?_
          rintro _ T64 L65 X66 ⟨rfl, N67, e68⟩
          have N67 := Fr.app N62 N67
          show Till p e below s (Q0 Z p1 p2 p3 h0 n0) room_1.cells room_1.slots (T64.setTop (mkF m 90 #[.val (.int p1), .val (.int p2), .val (.int p3), .val (.int (fn1 (1 : Int32) (p1 &&& (2147483647 : Int32)))), .val (.int (p2 &&& (2147483647 : Int32))), .val (.int (p3 &&& (3 : Int32))), .val (.ref b8), .val (.int v76s0), .val (.int (fn4 (fn1 (1 : Int32) (p1 &&& (2147483647 : Int32))) (p2 &&& (2147483647 : Int32)) v66f0_3 (0 : Int32))), .unset] [(.int (fn4 (fn1 (1 : Int32) (p1 &&& (2147483647 : Int32))) (p2 &&& (2147483647 : Int32)) v66f0_3 (0 : Int32)))]))
          refine Till.pre (fun _ hr => XS.istore X66.here hx rfl (hb hby at_90) rfl (l' := #[.val (.int p1), .val (.int p2), .val (.int p3), .val (.int (fn1 (1 : Int32) (p1 &&& (2147483647 : Int32)))), .val (.int (p2 &&& (2147483647 : Int32))), .val (.int (p3 &&& (3 : Int32))), .val (.ref b8), .val (.int v76s0), .val (.int (fn4 (fn1 (1 : Int32) (p1 &&& (2147483647 : Int32))) (p2 &&& (2147483647 : Int32)) v66f0_3 (0 : Int32))), .val (.int (fn4 (fn1 (1 : Int32) (p1 &&& (2147483647 : Int32))) (p2 &&& (2147483647 : Int32)) v66f0_3 (0 : Int32)))]) rfl hr) ?_
          show Till p e below s (Q0 Z p1 p2 p3 h0 n0) room_1.cells room_1.slots (T64.setTop (mkF m 92 #[.val (.int p1), .val (.int p2), .val (.int p3), .val (.int (fn1 (1 : Int32) (p1 &&& (2147483647 : Int32)))), .val (.int (p2 &&& (2147483647 : Int32))), .val (.int (p3 &&& (3 : Int32))), .val (.ref b8), .val (.int v76s0), .val (.int (fn4 (fn1 (1 : Int32) (p1 &&& (2147483647 : Int32))) (p2 &&& (2147483647 : Int32)) v66f0_3 (0 : Int32))), .val (.int (fn4 (fn1 (1 : Int32) (p1 &&& (2147483647 : Int32))) (p2 &&& (2147483647 : Int32)) v66f0_3 (0 : Int32)))] []))
          refine Till.pre (fun _ hr => XS.aload X66.here hx rfl (hb hby at_92) rfl rfl hr) ?_
          show Till p e below s (Q0 Z p1 p2 p3 h0 n0) room_1.cells room_1.slots (T64.setTop (mkF m 94 #[.val (.int p1), .val (.int p2), .val (.int p3), .val (.int (fn1 (1 : Int32) (p1 &&& (2147483647 : Int32)))), .val (.int (p2 &&& (2147483647 : Int32))), .val (.int (p3 &&& (3 : Int32))), .val (.ref b8), .val (.int v76s0), .val (.int (fn4 (fn1 (1 : Int32) (p1 &&& (2147483647 : Int32))) (p2 &&& (2147483647 : Int32)) v66f0_3 (0 : Int32))), .val (.int (fn4 (fn1 (1 : Int32) (p1 &&& (2147483647 : Int32))) (p2 &&& (2147483647 : Int32)) v66f0_3 (0 : Int32)))] [(.ref b8)]))
          refine Till.callV (rm5 l Z a0 hw b8 (fn1 (1 : Int32) (p1 &&& (2147483647 : Int32))) (p2 &&& (2147483647 : Int32)) v66f0_3 (0 : Int32) T52.heap n0 R_b8) R_b8.1 X66 hx hZ hown (hw _ (List.mem_of_getElem? (i := 34) rfl)) (hw _ (List.mem_of_getElem? (i := 35) rfl)) (hw _ (List.mem_of_getElem? (i := 37) rfl)) (hw _ (List.mem_of_getElem? (i := 36) rfl)) (hw _ (List.mem_of_getElem? (i := 7) rfl)) (hw _ (List.mem_of_getElem? (i := 38) rfl)) (by decide) (by decide) (W := 0) (by decide) (by rw [hml]; rfl) (a := b8) (argsL := []) (rest := []) (lenOf pd0_0 rfl) rfl rfl (Nat.le_of_eq rfl) (hb hby at_94) e68 (by decide) (by decide) ?_
          rintro _ T69 L70 X71 ⟨rfl, N72, e73⟩
          have N72 := Fr.app N67 N72
          show Till p e below s (Q0 Z p1 p2 p3 h0 n0) room_1.cells room_1.slots (T69.setTop (mkF m 97 #[.val (.int p1), .val (.int p2), .val (.int p3), .val (.int (fn1 (1 : Int32) (p1 &&& (2147483647 : Int32)))), .val (.int (p2 &&& (2147483647 : Int32))), .val (.int (p3 &&& (3 : Int32))), .val (.ref b8), .val (.int v76s0), .val (.int (fn4 (fn1 (1 : Int32) (p1 &&& (2147483647 : Int32))) (p2 &&& (2147483647 : Int32)) v66f0_3 (0 : Int32))), .val (.int (fn4 (fn1 (1 : Int32) (p1 &&& (2147483647 : Int32))) (p2 &&& (2147483647 : Int32)) v66f0_3 (0 : Int32)))] [(.int (0 : Int32))]))
          refine Till.ifc (pc' := 118) X71.here hx (hb hby at_97) (by decide) (by decide) (fun q => absurd (by decide : ((0 : Int32) = (0 : Int32))) (hEq.2.2.1 q)) (fun q => ?_)
          show Till p e below s (Q0 Z p1 p2 p3 h0 n0) room_1.cells room_1.slots (T69.setTop (mkF m 100 #[.val (.int p1), .val (.int p2), .val (.int p3), .val (.int (fn1 (1 : Int32) (p1 &&& (2147483647 : Int32)))), .val (.int (p2 &&& (2147483647 : Int32))), .val (.int (p3 &&& (3 : Int32))), .val (.ref b8), .val (.int v76s0), .val (.int (fn4 (fn1 (1 : Int32) (p1 &&& (2147483647 : Int32))) (p2 &&& (2147483647 : Int32)) v66f0_3 (0 : Int32))), .val (.int (fn4 (fn1 (1 : Int32) (p1 &&& (2147483647 : Int32))) (p2 &&& (2147483647 : Int32)) v66f0_3 (0 : Int32)))] []))
          refine Till.pre (fun _ hr => XS.iload X71.here hx rfl (hb hby at_100) rfl hr) ?_
          show Till p e below s (Q0 Z p1 p2 p3 h0 n0) room_1.cells room_1.slots (T69.setTop (mkF m 102 #[.val (.int p1), .val (.int p2), .val (.int p3), .val (.int (fn1 (1 : Int32) (p1 &&& (2147483647 : Int32)))), .val (.int (p2 &&& (2147483647 : Int32))), .val (.int (p3 &&& (3 : Int32))), .val (.ref b8), .val (.int v76s0), .val (.int (fn4 (fn1 (1 : Int32) (p1 &&& (2147483647 : Int32))) (p2 &&& (2147483647 : Int32)) v66f0_3 (0 : Int32))), .val (.int (fn4 (fn1 (1 : Int32) (p1 &&& (2147483647 : Int32))) (p2 &&& (2147483647 : Int32)) v66f0_3 (0 : Int32)))] [(.int (fn4 (fn1 (1 : Int32) (p1 &&& (2147483647 : Int32))) (p2 &&& (2147483647 : Int32)) v66f0_3 (0 : Int32)))]))
          refine Till.pre (fun _ hr => XS.iload X71.here hx rfl (hb hby at_102) rfl hr) ?_
          show Till p e below s (Q0 Z p1 p2 p3 h0 n0) room_1.cells room_1.slots (T69.setTop (mkF m 104 #[.val (.int p1), .val (.int p2), .val (.int p3), .val (.int (fn1 (1 : Int32) (p1 &&& (2147483647 : Int32)))), .val (.int (p2 &&& (2147483647 : Int32))), .val (.int (p3 &&& (3 : Int32))), .val (.ref b8), .val (.int v76s0), .val (.int (fn4 (fn1 (1 : Int32) (p1 &&& (2147483647 : Int32))) (p2 &&& (2147483647 : Int32)) v66f0_3 (0 : Int32))), .val (.int (fn4 (fn1 (1 : Int32) (p1 &&& (2147483647 : Int32))) (p2 &&& (2147483647 : Int32)) v66f0_3 (0 : Int32)))] [(.int v76s0), (.int (fn4 (fn1 (1 : Int32) (p1 &&& (2147483647 : Int32))) (p2 &&& (2147483647 : Int32)) v66f0_3 (0 : Int32)))]))
          have J119_75 : ∀ (v119s0 : Int32) (hv119s0 : v119s0 = (if ((fn4 (fn1 (1 : Int32) (p1 &&& (2147483647 : Int32))) (p2 &&& (2147483647 : Int32)) v66f0_3 (0 : Int32)) = v76s0) then (if ((fn4 (fn1 (1 : Int32) (p1 &&& (2147483647 : Int32))) (p2 &&& (2147483647 : Int32)) v66f0_3 (0 : Int32)) = v76s0) then (1 : Int32) else (0 : Int32)) else (0 : Int32))), Till p e below s (Q0 Z p1 p2 p3 h0 n0) room_1.cells room_1.slots (T69.setTop (mkF m 119 #[.val (.int p1), .val (.int p2), .val (.int p3), .val (.int (fn1 (1 : Int32) (p1 &&& (2147483647 : Int32)))), .val (.int (p2 &&& (2147483647 : Int32))), .val (.int (p3 &&& (3 : Int32))), .val (.ref b8), .val (.int v76s0), .val (.int (fn4 (fn1 (1 : Int32) (p1 &&& (2147483647 : Int32))) (p2 &&& (2147483647 : Int32)) v66f0_3 (0 : Int32))), .val (.int (fn4 (fn1 (1 : Int32) (p1 &&& (2147483647 : Int32))) (p2 &&& (2147483647 : Int32)) v66f0_3 (0 : Int32)))] [(.int v119s0)])) := by
            intro v119s0 hv119s0
            show Till p e below s (Q0 Z p1 p2 p3 h0 n0) room_1.cells room_1.slots (T69.setTop (mkF m 119 #[.val (.int p1), .val (.int p2), .val (.int p3), .val (.int (fn1 (1 : Int32) (p1 &&& (2147483647 : Int32)))), .val (.int (p2 &&& (2147483647 : Int32))), .val (.int (p3 &&& (3 : Int32))), .val (.ref b8), .val (.int v76s0), .val (.int (fn4 (fn1 (1 : Int32) (p1 &&& (2147483647 : Int32))) (p2 &&& (2147483647 : Int32)) v66f0_3 (0 : Int32))), .val (.int (fn4 (fn1 (1 : Int32) (p1 &&& (2147483647 : Int32))) (p2 &&& (2147483647 : Int32)) v66f0_3 (0 : Int32)))] [(.int v119s0)]))
            refine Till.retZ (w := (1 : Int32)) X71 hx hret hlk (hb hby at_119) (by decide) (by decide) (by rw [hv119s0, own_q, if_pos hv76s0.symm, if_pos hv76s0.symm]; decide) ?_
            exact ⟨rfl, N72⟩
          refine Till.icmp (pc' := 118) X71.here hx (hb hby at_104) (by decide) (by decide) (fun q => ?_) (fun q => ?_)
          · have hc74 := (hEq.2.2.1 q)
            show Till p e below s (Q0 Z p1 p2 p3 h0 n0) room_1.cells room_1.slots (T69.setTop (mkF m 118 #[.val (.int p1), .val (.int p2), .val (.int p3), .val (.int (fn1 (1 : Int32) (p1 &&& (2147483647 : Int32)))), .val (.int (p2 &&& (2147483647 : Int32))), .val (.int (p3 &&& (3 : Int32))), .val (.ref b8), .val (.int v76s0), .val (.int (fn4 (fn1 (1 : Int32) (p1 &&& (2147483647 : Int32))) (p2 &&& (2147483647 : Int32)) v66f0_3 (0 : Int32))), .val (.int (fn4 (fn1 (1 : Int32) (p1 &&& (2147483647 : Int32))) (p2 &&& (2147483647 : Int32)) v66f0_3 (0 : Int32)))] []))
            refine Till.pre (fun _ hr => XS.iconst X71.here hx rfl (hb hby at_118) hr) ?_
            show Till p e below s (Q0 Z p1 p2 p3 h0 n0) room_1.cells room_1.slots (T69.setTop (mkF m 119 #[.val (.int p1), .val (.int p2), .val (.int p3), .val (.int (fn1 (1 : Int32) (p1 &&& (2147483647 : Int32)))), .val (.int (p2 &&& (2147483647 : Int32))), .val (.int (p3 &&& (3 : Int32))), .val (.ref b8), .val (.int v76s0), .val (.int (fn4 (fn1 (1 : Int32) (p1 &&& (2147483647 : Int32))) (p2 &&& (2147483647 : Int32)) v66f0_3 (0 : Int32))), .val (.int (fn4 (fn1 (1 : Int32) (p1 &&& (2147483647 : Int32))) (p2 &&& (2147483647 : Int32)) v66f0_3 (0 : Int32)))] [(.int (0 : Int32))]))
            exact J119_75 _ (Eq.symm (if_neg hc74))
          · have hc74 := (hEq.2.2.2 q)
            show Till p e below s (Q0 Z p1 p2 p3 h0 n0) room_1.cells room_1.slots (T69.setTop (mkF m 107 #[.val (.int p1), .val (.int p2), .val (.int p3), .val (.int (fn1 (1 : Int32) (p1 &&& (2147483647 : Int32)))), .val (.int (p2 &&& (2147483647 : Int32))), .val (.int (p3 &&& (3 : Int32))), .val (.ref b8), .val (.int v76s0), .val (.int (fn4 (fn1 (1 : Int32) (p1 &&& (2147483647 : Int32))) (p2 &&& (2147483647 : Int32)) v66f0_3 (0 : Int32))), .val (.int (fn4 (fn1 (1 : Int32) (p1 &&& (2147483647 : Int32))) (p2 &&& (2147483647 : Int32)) v66f0_3 (0 : Int32)))] []))
            refine Till.pre (fun _ hr => XS.iload X71.here hx rfl (hb hby at_107) rfl hr) ?_
            show Till p e below s (Q0 Z p1 p2 p3 h0 n0) room_1.cells room_1.slots (T69.setTop (mkF m 109 #[.val (.int p1), .val (.int p2), .val (.int p3), .val (.int (fn1 (1 : Int32) (p1 &&& (2147483647 : Int32)))), .val (.int (p2 &&& (2147483647 : Int32))), .val (.int (p3 &&& (3 : Int32))), .val (.ref b8), .val (.int v76s0), .val (.int (fn4 (fn1 (1 : Int32) (p1 &&& (2147483647 : Int32))) (p2 &&& (2147483647 : Int32)) v66f0_3 (0 : Int32))), .val (.int (fn4 (fn1 (1 : Int32) (p1 &&& (2147483647 : Int32))) (p2 &&& (2147483647 : Int32)) v66f0_3 (0 : Int32)))] [(.int (fn4 (fn1 (1 : Int32) (p1 &&& (2147483647 : Int32))) (p2 &&& (2147483647 : Int32)) v66f0_3 (0 : Int32)))]))
            refine Till.pre (fun _ hr => XS.iload X71.here hx rfl (hb hby at_109) rfl hr) ?_
            show Till p e below s (Q0 Z p1 p2 p3 h0 n0) room_1.cells room_1.slots (T69.setTop (mkF m 111 #[.val (.int p1), .val (.int p2), .val (.int p3), .val (.int (fn1 (1 : Int32) (p1 &&& (2147483647 : Int32)))), .val (.int (p2 &&& (2147483647 : Int32))), .val (.int (p3 &&& (3 : Int32))), .val (.ref b8), .val (.int v76s0), .val (.int (fn4 (fn1 (1 : Int32) (p1 &&& (2147483647 : Int32))) (p2 &&& (2147483647 : Int32)) v66f0_3 (0 : Int32))), .val (.int (fn4 (fn1 (1 : Int32) (p1 &&& (2147483647 : Int32))) (p2 &&& (2147483647 : Int32)) v66f0_3 (0 : Int32)))] [(.int v76s0), (.int (fn4 (fn1 (1 : Int32) (p1 &&& (2147483647 : Int32))) (p2 &&& (2147483647 : Int32)) v66f0_3 (0 : Int32)))]))
            refine Till.icmp (pc' := 118) X71.here hx (hb hby at_111) (by decide) (by decide) (fun q => ?_) (fun q => ?_)
            · have hc75 := (hEq.2.2.1 q)
              show Till p e below s (Q0 Z p1 p2 p3 h0 n0) room_1.cells room_1.slots (T69.setTop (mkF m 118 #[.val (.int p1), .val (.int p2), .val (.int p3), .val (.int (fn1 (1 : Int32) (p1 &&& (2147483647 : Int32)))), .val (.int (p2 &&& (2147483647 : Int32))), .val (.int (p3 &&& (3 : Int32))), .val (.ref b8), .val (.int v76s0), .val (.int (fn4 (fn1 (1 : Int32) (p1 &&& (2147483647 : Int32))) (p2 &&& (2147483647 : Int32)) v66f0_3 (0 : Int32))), .val (.int (fn4 (fn1 (1 : Int32) (p1 &&& (2147483647 : Int32))) (p2 &&& (2147483647 : Int32)) v66f0_3 (0 : Int32)))] []))
              refine Till.pre (fun _ hr => XS.iconst X71.here hx rfl (hb hby at_118) hr) ?_
              show Till p e below s (Q0 Z p1 p2 p3 h0 n0) room_1.cells room_1.slots (T69.setTop (mkF m 119 #[.val (.int p1), .val (.int p2), .val (.int p3), .val (.int (fn1 (1 : Int32) (p1 &&& (2147483647 : Int32)))), .val (.int (p2 &&& (2147483647 : Int32))), .val (.int (p3 &&& (3 : Int32))), .val (.ref b8), .val (.int v76s0), .val (.int (fn4 (fn1 (1 : Int32) (p1 &&& (2147483647 : Int32))) (p2 &&& (2147483647 : Int32)) v66f0_3 (0 : Int32))), .val (.int (fn4 (fn1 (1 : Int32) (p1 &&& (2147483647 : Int32))) (p2 &&& (2147483647 : Int32)) v66f0_3 (0 : Int32)))] [(.int (0 : Int32))]))
              exact J119_75 _ (Eq.symm ((if_pos hc74).trans (if_neg hc75)))
            · have hc75 := (hEq.2.2.2 q)
              show Till p e below s (Q0 Z p1 p2 p3 h0 n0) room_1.cells room_1.slots (T69.setTop (mkF m 114 #[.val (.int p1), .val (.int p2), .val (.int p3), .val (.int (fn1 (1 : Int32) (p1 &&& (2147483647 : Int32)))), .val (.int (p2 &&& (2147483647 : Int32))), .val (.int (p3 &&& (3 : Int32))), .val (.ref b8), .val (.int v76s0), .val (.int (fn4 (fn1 (1 : Int32) (p1 &&& (2147483647 : Int32))) (p2 &&& (2147483647 : Int32)) v66f0_3 (0 : Int32))), .val (.int (fn4 (fn1 (1 : Int32) (p1 &&& (2147483647 : Int32))) (p2 &&& (2147483647 : Int32)) v66f0_3 (0 : Int32)))] []))
              refine Till.pre (fun _ hr => XS.iconst X71.here hx rfl (hb hby at_114) hr) ?_
              show Till p e below s (Q0 Z p1 p2 p3 h0 n0) room_1.cells room_1.slots (T69.setTop (mkF m 115 #[.val (.int p1), .val (.int p2), .val (.int p3), .val (.int (fn1 (1 : Int32) (p1 &&& (2147483647 : Int32)))), .val (.int (p2 &&& (2147483647 : Int32))), .val (.int (p3 &&& (3 : Int32))), .val (.ref b8), .val (.int v76s0), .val (.int (fn4 (fn1 (1 : Int32) (p1 &&& (2147483647 : Int32))) (p2 &&& (2147483647 : Int32)) v66f0_3 (0 : Int32))), .val (.int (fn4 (fn1 (1 : Int32) (p1 &&& (2147483647 : Int32))) (p2 &&& (2147483647 : Int32)) v66f0_3 (0 : Int32)))] [(.int (1 : Int32))]))
              refine Till.pre (fun _ hr => XS.goto X71.here hx rfl (pc0 := 115) (pc' := 119) rfl (hb hby at_115) (by decide) (by decide) hr) ?_
              show Till p e below s (Q0 Z p1 p2 p3 h0 n0) room_1.cells room_1.slots (T69.setTop (mkF m 119 #[.val (.int p1), .val (.int p2), .val (.int p3), .val (.int (fn1 (1 : Int32) (p1 &&& (2147483647 : Int32)))), .val (.int (p2 &&& (2147483647 : Int32))), .val (.int (p3 &&& (3 : Int32))), .val (.ref b8), .val (.int v76s0), .val (.int (fn4 (fn1 (1 : Int32) (p1 &&& (2147483647 : Int32))) (p2 &&& (2147483647 : Int32)) v66f0_3 (0 : Int32))), .val (.int (fn4 (fn1 (1 : Int32) (p1 &&& (2147483647 : Int32))) (p2 &&& (2147483647 : Int32)) v66f0_3 (0 : Int32)))] [(.int (1 : Int32))]))
              exact J119_75 _ (Eq.symm ((if_pos hc74).trans (if_pos hc75)))
        refine Till.ifc (pc' := 75) X54.here hx (hb hby at_68) (by decide) (by decide) (fun q => ?_) (fun q => ?_)
        · have hc57 := (hLt.2.2.2.2.2.2.1 q)
          show Till p e below s (Q0 Z p1 p2 p3 h0 n0) room_1.cells room_1.slots (T52.setTop (mkF m 75 #[.val (.int p1), .val (.int p2), .val (.int p3), .val (.int (fn1 (1 : Int32) (p1 &&& (2147483647 : Int32)))), .val (.int (p2 &&& (2147483647 : Int32))), .val (.int (p3 &&& (3 : Int32))), .val (.ref b8), .unset, .unset, .unset] []))
          refine Till.pre (fun _ hr => XS.iconst X54.here hx rfl (hb hby at_75) hr) ?_
          show Till p e below s (Q0 Z p1 p2 p3 h0 n0) room_1.cells room_1.slots (T52.setTop (mkF m 76 #[.val (.int p1), .val (.int p2), .val (.int p3), .val (.int (fn1 (1 : Int32) (p1 &&& (2147483647 : Int32)))), .val (.int (p2 &&& (2147483647 : Int32))), .val (.int (p3 &&& (3 : Int32))), .val (.ref b8), .unset, .unset, .unset] [(.int (0 : Int32))]))
          exact J76_57 _ (Eq.symm (if_neg hc57))
        · have hc57 := (hLt.2.2.2.2.2.2.2 q)
          show Till p e below s (Q0 Z p1 p2 p3 h0 n0) room_1.cells room_1.slots (T52.setTop (mkF m 71 #[.val (.int p1), .val (.int p2), .val (.int p3), .val (.int (fn1 (1 : Int32) (p1 &&& (2147483647 : Int32)))), .val (.int (p2 &&& (2147483647 : Int32))), .val (.int (p3 &&& (3 : Int32))), .val (.ref b8), .unset, .unset, .unset] []))
          refine Till.pre (fun _ hr => XS.iconst X54.here hx rfl (hb hby at_71) hr) ?_
          show Till p e below s (Q0 Z p1 p2 p3 h0 n0) room_1.cells room_1.slots (T52.setTop (mkF m 72 #[.val (.int p1), .val (.int p2), .val (.int p3), .val (.int (fn1 (1 : Int32) (p1 &&& (2147483647 : Int32)))), .val (.int (p2 &&& (2147483647 : Int32))), .val (.int (p3 &&& (3 : Int32))), .val (.ref b8), .unset, .unset, .unset] [(.int (1 : Int32))]))
          refine Till.pre (fun _ hr => XS.goto X54.here hx rfl (pc0 := 72) (pc' := 76) rfl (hb hby at_72) (by decide) (by decide) hr) ?_
          show Till p e below s (Q0 Z p1 p2 p3 h0 n0) room_1.cells room_1.slots (T52.setTop (mkF m 76 #[.val (.int p1), .val (.int p2), .val (.int p3), .val (.int (fn1 (1 : Int32) (p1 &&& (2147483647 : Int32)))), .val (.int (p2 &&& (2147483647 : Int32))), .val (.int (p3 &&& (3 : Int32))), .val (.ref b8), .unset, .unset, .unset] [(.int (1 : Int32))]))
          exact J76_57 _ (Eq.symm (if_pos hc57))
      refine Till.icmp (pc' := 66) X42.here hx (hb hby at_58) (by decide) (by decide) (fun q => ?_) (fun q => ?_)
      · have hc45 := (hLt.1 q)
        show Till p e below s (Q0 Z p1 p2 p3 h0 n0) room_1.cells room_1.slots (T40.setTop (mkF m 66 #[.val (.int p1), .val (.int p2), .val (.int p3), .val (.int (fn1 (1 : Int32) (p1 &&& (2147483647 : Int32)))), .val (.int (p2 &&& (2147483647 : Int32))), .val (.int (p3 &&& (3 : Int32))), .val (.ref b8), .unset, .unset, .unset] []))
        exact J66_55 _ _ X42 N43 Zs _ (Eq.symm (if_pos hc45)) R_b8
      · have hc45 := (hLt.2.1 q)
        show Till p e below s (Q0 Z p1 p2 p3 h0 n0) room_1.cells room_1.slots (T40.setTop (mkF m 61 #[.val (.int p1), .val (.int p2), .val (.int p3), .val (.int (fn1 (1 : Int32) (p1 &&& (2147483647 : Int32)))), .val (.int (p2 &&& (2147483647 : Int32))), .val (.int (p3 &&& (3 : Int32))), .val (.ref b8), .unset, .unset, .unset] []))
        refine Till.pre (fun _ hr => XS.aload X42.here hx rfl (hb hby at_61) rfl rfl hr) ?_
        show Till p e below s (Q0 Z p1 p2 p3 h0 n0) room_1.cells room_1.slots (T40.setTop (mkF m 63 #[.val (.int p1), .val (.int p2), .val (.int p3), .val (.int (fn1 (1 : Int32) (p1 &&& (2147483647 : Int32)))), .val (.int (p2 &&& (2147483647 : Int32))), .val (.int (p3 &&& (3 : Int32))), .val (.ref b8), .unset, .unset, .unset] [(.ref b8)]))
        refine Till.callV (rm3 l Z a0 hw b8 (fn1 (1 : Int32) (p1 &&& (2147483647 : Int32))) (p2 &&& (2147483647 : Int32)) v55f0_3 (0 : Int32) T40.heap n0 Zs R_b8 g_b8) R_b8.1 X42 hx hZ hown (hw _ (List.mem_of_getElem? (i := 20) rfl)) (hw _ (List.mem_of_getElem? (i := 21) rfl)) (hw _ (List.mem_of_getElem? (i := 23) rfl)) (hw _ (List.mem_of_getElem? (i := 22) rfl)) (hw _ (List.mem_of_getElem? (i := 7) rfl)) (hw _ (List.mem_of_getElem? (i := 24) rfl)) (by decide) (by decide) (W := 0) (by decide) (by rw [hml]; rfl) (a := b8) (argsL := []) (rest := []) (lenOf pd0_1 rfl) rfl rfl (Nat.le_of_eq rfl) (hb hby at_63) rfl (by decide) (by decide) ?_
        rintro _ T46 L47 X48 ⟨rfl, N49, K50, q51⟩
        have N49 := Fr.app N43 N49
        have Zs := Nat.le_trans Zs K50.1
        have R_b8 : Grp Z T46.heap b8 (fn1 (1 : Int32) (p1 &&& (2147483647 : Int32))) (p2 &&& (2147483647 : Int32)) .null (v55f0_3 + (1 : Int32)) (0 : Int32) := q51
        show Till p e below s (Q0 Z p1 p2 p3 h0 n0) room_1.cells room_1.slots (T46.setTop (mkF m 66 #[.val (.int p1), .val (.int p2), .val (.int p3), .val (.int (fn1 (1 : Int32) (p1 &&& (2147483647 : Int32)))), .val (.int (p2 &&& (2147483647 : Int32))), .val (.int (p3 &&& (3 : Int32))), .val (.ref b8), .unset, .unset, .unset] []))
        exact J66_55 _ _ X48 N49 Zs _ (Eq.symm (if_neg hc45)) R_b8
    refine Till.icmp (pc' := 55) X30.here hx (hb hby at_47) (by decide) (by decide) (fun q => ?_) (fun q => ?_)
    · have hc33 := (hLt.1 q)
      show Till p e below s (Q0 Z p1 p2 p3 h0 n0) room_1.cells room_1.slots (T28.setTop (mkF m 55 #[.val (.int p1), .val (.int p2), .val (.int p3), .val (.int (fn1 (1 : Int32) (p1 &&& (2147483647 : Int32)))), .val (.int (p2 &&& (2147483647 : Int32))), .val (.int (p3 &&& (3 : Int32))), .val (.ref b8), .unset, .unset, .unset] []))
      exact J55_43 _ _ X30 N31 Zs _ (Eq.symm (if_pos hc33)) R_b8
    · have hc33 := (hLt.2.1 q)
      show Till p e below s (Q0 Z p1 p2 p3 h0 n0) room_1.cells room_1.slots (T28.setTop (mkF m 50 #[.val (.int p1), .val (.int p2), .val (.int p3), .val (.int (fn1 (1 : Int32) (p1 &&& (2147483647 : Int32)))), .val (.int (p2 &&& (2147483647 : Int32))), .val (.int (p3 &&& (3 : Int32))), .val (.ref b8), .unset, .unset, .unset] []))
      refine Till.pre (fun _ hr => XS.aload X30.here hx rfl (hb hby at_50) rfl rfl hr) ?_
      show Till p e below s (Q0 Z p1 p2 p3 h0 n0) room_1.cells room_1.slots (T28.setTop (mkF m 52 #[.val (.int p1), .val (.int p2), .val (.int p3), .val (.int (fn1 (1 : Int32) (p1 &&& (2147483647 : Int32)))), .val (.int (p2 &&& (2147483647 : Int32))), .val (.int (p3 &&& (3 : Int32))), .val (.ref b8), .unset, .unset, .unset] [(.ref b8)]))
      refine Till.callV (rm3 l Z a0 hw b8 (fn1 (1 : Int32) (p1 &&& (2147483647 : Int32))) (p2 &&& (2147483647 : Int32)) v44f0_3 (0 : Int32) T28.heap n0 Zs R_b8 g_b8) R_b8.1 X30 hx hZ hown (hw _ (List.mem_of_getElem? (i := 20) rfl)) (hw _ (List.mem_of_getElem? (i := 21) rfl)) (hw _ (List.mem_of_getElem? (i := 23) rfl)) (hw _ (List.mem_of_getElem? (i := 22) rfl)) (hw _ (List.mem_of_getElem? (i := 7) rfl)) (hw _ (List.mem_of_getElem? (i := 24) rfl)) (by decide) (by decide) (W := 0) (by decide) (by rw [hml]; rfl) (a := b8) (argsL := []) (rest := []) (lenOf pd0_1 rfl) rfl rfl (Nat.le_of_eq rfl) (hb hby at_52) rfl (by decide) (by decide) ?_
      rintro _ T34 L35 X36 ⟨rfl, N37, K38, q39⟩
      have N37 := Fr.app N31 N37
      have Zs := Nat.le_trans Zs K38.1
      have R_b8 : Grp Z T34.heap b8 (fn1 (1 : Int32) (p1 &&& (2147483647 : Int32))) (p2 &&& (2147483647 : Int32)) .null (v44f0_3 + (1 : Int32)) (0 : Int32) := q39
      show Till p e below s (Q0 Z p1 p2 p3 h0 n0) room_1.cells room_1.slots (T34.setTop (mkF m 55 #[.val (.int p1), .val (.int p2), .val (.int p3), .val (.int (fn1 (1 : Int32) (p1 &&& (2147483647 : Int32)))), .val (.int (p2 &&& (2147483647 : Int32))), .val (.int (p3 &&& (3 : Int32))), .val (.ref b8), .unset, .unset, .unset] []))
      exact J55_43 _ _ X36 N37 Zs _ (Eq.symm (if_neg hc33)) R_b8
  refine Till.icmp (pc' := 44) X17.here hx (hb hby at_36) (by decide) (by decide) (fun q => ?_) (fun q => ?_)
  · have hc21 := (hLt.1 q)
    show Till p e below s (Q0 Z p1 p2 p3 h0 n0) room_1.cells room_1.slots (T15.setTop (mkF m 44 #[.val (.int p1), .val (.int p2), .val (.int p3), .val (.int (fn1 (1 : Int32) (p1 &&& (2147483647 : Int32)))), .val (.int (p2 &&& (2147483647 : Int32))), .val (.int (p3 &&& (3 : Int32))), .val (.ref b8), .unset, .unset, .unset] []))
    exact J44_31 _ _ X17 N18 Zs _ (Eq.symm (if_pos hc21)) R_b8
  · have hc21 := (hLt.2.1 q)
    show Till p e below s (Q0 Z p1 p2 p3 h0 n0) room_1.cells room_1.slots (T15.setTop (mkF m 39 #[.val (.int p1), .val (.int p2), .val (.int p3), .val (.int (fn1 (1 : Int32) (p1 &&& (2147483647 : Int32)))), .val (.int (p2 &&& (2147483647 : Int32))), .val (.int (p3 &&& (3 : Int32))), .val (.ref b8), .unset, .unset, .unset] []))
    refine Till.pre (fun _ hr => XS.aload X17.here hx rfl (hb hby at_39) rfl rfl hr) ?_
    show Till p e below s (Q0 Z p1 p2 p3 h0 n0) room_1.cells room_1.slots (T15.setTop (mkF m 41 #[.val (.int p1), .val (.int p2), .val (.int p3), .val (.int (fn1 (1 : Int32) (p1 &&& (2147483647 : Int32)))), .val (.int (p2 &&& (2147483647 : Int32))), .val (.int (p3 &&& (3 : Int32))), .val (.ref b8), .unset, .unset, .unset] [(.ref b8)]))
    refine Till.callV (rm3 l Z a0 hw b8 (fn1 (1 : Int32) (p1 &&& (2147483647 : Int32))) (p2 &&& (2147483647 : Int32)) (0 : Int32) (0 : Int32) T15.heap n0 Zs R_b8 g_b8) R_b8.1 X17 hx hZ hown (hw _ (List.mem_of_getElem? (i := 20) rfl)) (hw _ (List.mem_of_getElem? (i := 21) rfl)) (hw _ (List.mem_of_getElem? (i := 23) rfl)) (hw _ (List.mem_of_getElem? (i := 22) rfl)) (hw _ (List.mem_of_getElem? (i := 7) rfl)) (hw _ (List.mem_of_getElem? (i := 24) rfl)) (by decide) (by decide) (W := 0) (by decide) (by rw [hml]; rfl) (a := b8) (argsL := []) (rest := []) (lenOf pd0_1 rfl) rfl rfl (Nat.le_of_eq rfl) (hb hby at_41) rfl (by decide) (by decide) ?_
    rintro _ T22 L23 X24 ⟨rfl, N25, K26, q27⟩
    have N25 := Fr.app N18 N25
    have Zs := Nat.le_trans Zs K26.1
    have R_b8 : Grp Z T22.heap b8 (fn1 (1 : Int32) (p1 &&& (2147483647 : Int32))) (p2 &&& (2147483647 : Int32)) .null (1 : Int32) (0 : Int32) := q27
    show Till p e below s (Q0 Z p1 p2 p3 h0 n0) room_1.cells room_1.slots (T22.setTop (mkF m 44 #[.val (.int p1), .val (.int p2), .val (.int p3), .val (.int (fn1 (1 : Int32) (p1 &&& (2147483647 : Int32)))), .val (.int (p2 &&& (2147483647 : Int32))), .val (.int (p3 &&& (3 : Int32))), .val (.ref b8), .unset, .unset, .unset] []))
    exact J44_31 _ _ X24 N25 Zs _ (Eq.symm (if_neg hc21)) R_b8
set_option maxRecDepth 65536 in
set_option maxHeartbeats 40000000 in
theorem comes_1 {Post : Tables → Env → Array Value → State → Outcome → State → Prop} (hpost : ∀ tb e args s v u, (limb_1_1.after args s (.returned v) u = true ∧ limb_1_2.after args s (.returned v) u = true ∧ True) → FrameEnd s (.returned v) u (Jvm.fieldLocs frame_1_writes args s ++ Jvm.arrayLocs frame_1_arrays args s ++ Jvm.staticLocs frame_1_statics s) 16 128 → Post tb e args s (.returned v) u) :
    ArmFor flags0 classFile x code maxLocals ret World_1 tables_1 room_1 Calls_1 rest_1 Pre_1 Post := by
  intro l hfl _ _ p e ha hc hk s m args below hf hA hF happ hP
  obtain ⟨hcalls, hrest, hpre⟩ := hP
  obtain ⟨-, -, -, hnamed, -, -, -, hat⟩ := (Spec.applies_iff hf).mp happ
  obtain ⟨hg, hn⟩ := and_e (Cond.before_iff.mp (show (Jvm.Cond.and given_1 narrow_1).before args s = true from hpre))
  obtain ⟨h1, hg⟩ := and_e hg
  obtain ⟨k0, hg⟩ := and_e hg
  obtain ⟨k1, hg⟩ := and_e hg
  have k2 := hg
  obtain ⟨w0, w1, w2, rfl⟩ : ∃ w0 w1 w2 : Value, args = #[w0, w1, w2] := by
    have hs : args.size = 3 := by simpa [Cond.value, given_1] using h1
    obtain ⟨L⟩ := args
    match L, hs with
    | [w0, w1, w2], _ => exact ⟨w0, w1, w2, rfl⟩
  have hw := fun d (hd : d ∈ tables_1) => atoms_spec (ws := Jvm.Cond.code x code maxLocals ret :: tables_1) hat d (List.mem_cons_of_mem _ hd)
  obtain ⟨i0, ei0⟩ := is_v k0
  obtain rfl : w0 = (.int i0) := Option.some.inj ei0
  obtain ⟨i1, ei1⟩ := is_v k1
  obtain rfl : w1 = (.int i1) := Option.some.inj ei1
  obtain ⟨i2, ei2⟩ := is_v k2
  obtain rfl : w2 = (.int i2) := Option.some.inj ei2
  obtain ⟨n, o, h1, h2, h3, _, L, rfl, ⟨rfl, N⟩, hq⟩ := rm0 l s _ hw i0 i1 i2 s.heap s.heap.size (Nat.le_refl _) tables_1 p e ha hc hk s m _ below hf ((Spec.applies_iff_loose hf).mp happ).1 ⟨rfl, State.Warmed39.refl s, rfl⟩ trivial
  refine ⟨n, _, h1, h2, h3, hpost _ _ _ _ _ _ ⟨Cond.after_iff.mpr rfl, Cond.after_iff.mpr (eq_i res_at (Term.int_eval (1)) rfl), trivial⟩ ⟨hq.1, hq.2.1, (hq.2.2.sift fun y hy => Or.inr (N y hy)).mono (by decide) (by decide)⟩⟩
theorem main_1_1 : Claimed_1_1 := comes_1 fun _ _ _ _ _ _ h hF => ⟨h.1, hF⟩
theorem main_1_2 : Claimed_1_2 := comes_1 fun _ _ _ _ _ _ h hF => ⟨h.2.1, hF⟩
end Jvm.Pilot.@@N@@
namespace Jvm.Pilot.@@N@@
open Jvm Jvm.ClassFile Sem Op Lib Jvm.Free Jvm.Stand Jvm.Pilot.@@N@@.Jvm.D
/-! MADE BY PROGRAM (witnessworld.py) out of the Statement's table words and the real class files: 10 classes; the members and pool entries that the words name. The judged class is class 1, her method 1. -/
namespace start1
open Jvm.ClassFile
def u (s : String) : CpInfo := .utf8 (stringToUtf16 s)
/-- a pool by its gaps: so many unusable entries, then the entry; so many at the end -/
def gap : Nat → List CpInfo → List CpInfo
  | 0, r => r
  | n + 1, r => .unusable :: gap n r
def poolList (es : List (Nat × CpInfo)) (last : Nat) : List CpInfo := es.foldr (fun e r => gap e.1 (e.2 :: r)) (gap last [])
def pool (es : List (Nat × CpInfo)) (last : Nat) : Array CpInfo := ⟨poolList es last⟩
def fileOf (pool : Array CpInfo) (this : Nat) (attrs : Array Attribute := #[]) (ms : Array MethodInfo := #[]) (fl : Nat := 33) (sup : Nat := 0) (ifs : Array Nat := #[]) (fds : Array FieldInfo := #[]) : ClassFile where
  minorVersion := 0
  majorVersion := 65
  constantPool := pool
  accessFlags := fl
  thisClass := this
  superClass := sup
  interfaces := ifs
  fields := fds
  methods := ms
  attributes := attrs
def plain (name : String) (sup : Option ClassId) : Class where
  name := name
  kind := .ordinary
  loader := none
  accessFlags := 33
  super := sup
  interfaces := #[]
  cf := none
  fields := #[]
  methods := #[]
  instanceTypes := #[]
  staticTypes := #[]
  resolved := #[]
  callSites := []
  init := .initialized
  statics := none
  mirror := none

def pool0 : Array CpInfo := pool [(5, u "<init>"), (0, u "()V"), (1, .class_ 10), (1, u "java/lang/Object")] 113

def k0c0 : Code := { maxStack := 0, maxLocals := 1, code := object_method_1_code, exceptionTable := #[], attributes := #[] }
def k0m0 : Method := { name := "<init>", desc := "()V", sig := { parameters := [], returnType := none }, accessFlags := 1, code := some k0c0 }
/-- java/lang/Object -/
def k0 : Class := { plain "java/lang/Object" none with
  accessFlags := 33
  interfaces := #[]
  cf := some (fileOf pool0 8 #[] #[{ accessFlags := 1, nameIndex := 5, descriptorIndex := 6, attributes := #[] }] 33 0 #[] #[])
  fields := #[]
  methods := #[k0m0]
  instanceTypes := #[]
  staticTypes := #[]
  resolved := Array.replicate 124 none
  statics := none }

def pool1 : Array CpInfo := pool [(2, .class_ 4), (1, u "java/lang/Object"), (0, u "<init>"), (0, u "()V"), (0, .integer 2147483647), (0, .methodref 9 10), (0, .class_ 11), (0, .nameAndType 12 13), (0, u "java/lang/Math"), (0, u "max"), (0, u "(II)I"), (0, .class_ 15), (0, u "com/example/admission/admission/internal/Group"), (0, .methodref 14 17), (0, .nameAndType 5 18), (0, u "(IILjava/lang/Object;)V"), (0, .methodref 14 20), (0, .nameAndType 21 6), (0, u "take"), (0, .methodref 14 23), (0, .nameAndType 24 25), (0, u "mayQueue"), (0, u "()Z"), (0, .methodref 14 27), (0, .nameAndType 28 29), (0, u "waiting"), (0, u "()I"), (0, .class_ 31), (0, u "com/example/admission/admission/internal/GroupMayQueuePinLaw"), (2, u "law"), (0, u "(III)Z")] 3

def k1m0 : Method := { name := "<init>", desc := "()V", sig := { parameters := [], returnType := none }, accessFlags := 1, code := none }
def k1c1 : Code := { maxStack := 5, maxLocals := 10, code := code, exceptionTable := #[], attributes := #[] }
def k1m1 : Method := { name := "law", desc := "(III)Z", sig := { parameters := [.int, .int, .int], returnType := some .boolean }, accessFlags := 9, code := some k1c1 }
/-- com/example/admission/admission/internal/GroupMayQueuePinLaw -/
def k1 : Class := { plain "com/example/admission/admission/internal/GroupMayQueuePinLaw" (some 0) with
  accessFlags := 49
  interfaces := #[]
  cf := some (fileOf pool1 30 #[] #[{ accessFlags := 1, nameIndex := 5, descriptorIndex := 6, attributes := #[] }, { accessFlags := 9, nameIndex := 34, descriptorIndex := 35, attributes := #[] }] 49 2 #[] #[])
  fields := #[]
  methods := #[k1m0, k1m1]
  instanceTypes := #[]
  staticTypes := #[]
  resolved := Array.replicate 39 none
  statics := none }

def pool2 : Array CpInfo := pool [(1, .class_ 2), (0, u "java/lang/Math"), (1, .class_ 6), (1, u "java/lang/Object"), (0, u "<init>"), (0, u "()V"), (89, .class_ 100), (1, u "java/lang/Math$RandomNumberGeneratorHolder"), (71, u "negativeZeroFloatBits"), (0, u "J"), (2, u "negativeZeroDoubleBits"), (21, u "max"), (46, u "$assertionsDisabled"), (0, u "Z"), (88, u "(II)I"), (2, u "twoToTheDoubleScaleDown"), (0, u "D"), (4, u "twoToTheDoubleScaleUp"), (9, u "E"), (3, u "PI"), (2, u "TAU"), (2, u "DEGREES_TO_RADIANS"), (0, u "RADIANS_TO_DEGREES")] 94

def k2m0 : Method := { name := "<init>", desc := "()V", sig := { parameters := [], returnType := none }, accessFlags := 2, code := none }
def k2c1 : Code := { maxStack := 2, maxLocals := 2, code := jdk_29_method_65_code, exceptionTable := #[], attributes := #[] }
def k2m1 : Method := { name := "max", desc := "(II)I", sig := { parameters := [.int, .int], returnType := some .int }, accessFlags := 9, code := some k2c1 }
/-- java/lang/Math -/
def k2 : Class := { plain "java/lang/Math" (some 0) with
  accessFlags := 49
  interfaces := #[]
  cf := some (fileOf pool2 1 #[.nestMembers #[98]] #[{ accessFlags := 2, nameIndex := 7, descriptorIndex := 8, attributes := #[] }, { accessFlags := 9, nameIndex := 198, descriptorIndex := 335, attributes := #[] }] 49 4 #[] #[{ accessFlags := 25, nameIndex := 354, descriptorIndex := 339, attributes := #[] }, { accessFlags := 25, nameIndex := 358, descriptorIndex := 339, attributes := #[] }, { accessFlags := 25, nameIndex := 361, descriptorIndex := 339, attributes := #[] }, { accessFlags := 26, nameIndex := 364, descriptorIndex := 339, attributes := #[] }, { accessFlags := 26, nameIndex := 365, descriptorIndex := 339, attributes := #[] }, { accessFlags := 26, nameIndex := 172, descriptorIndex := 173, attributes := #[] }, { accessFlags := 26, nameIndex := 176, descriptorIndex := 173, attributes := #[] }, { accessFlags := 8, nameIndex := 344, descriptorIndex := 339, attributes := #[] }, { accessFlags := 8, nameIndex := 338, descriptorIndex := 339, attributes := #[] }, { accessFlags := 4120, nameIndex := 245, descriptorIndex := 246, attributes := #[] }])
  fields := #[{ name := "E", type := .double, accessFlags := 25, slot := 0, constantValue := 0 }, { name := "PI", type := .double, accessFlags := 25, slot := 1, constantValue := 0 }, { name := "TAU", type := .double, accessFlags := 25, slot := 2, constantValue := 0 }, { name := "DEGREES_TO_RADIANS", type := .double, accessFlags := 26, slot := 3, constantValue := 0 }, { name := "RADIANS_TO_DEGREES", type := .double, accessFlags := 26, slot := 4, constantValue := 0 }, { name := "negativeZeroFloatBits", type := .long, accessFlags := 26, slot := 5, constantValue := 0 }, { name := "negativeZeroDoubleBits", type := .long, accessFlags := 26, slot := 6, constantValue := 0 }, { name := "twoToTheDoubleScaleUp", type := .double, accessFlags := 8, slot := 7, constantValue := 0 }, { name := "twoToTheDoubleScaleDown", type := .double, accessFlags := 8, slot := 8, constantValue := 0 }, { name := "$assertionsDisabled", type := .boolean, accessFlags := 4120, slot := 9, constantValue := 0 }]
  methods := #[k2m0, k2m1]
  instanceTypes := #[]
  staticTypes := #[.double, .double, .double, .double, .double, .long, .long, .double, .double, .boolean]
  resolved := Array.replicate 460 none
  statics := none }

def pool3 : Array CpInfo := pool [(1, .methodref 2 3), (0, .class_ 4), (0, .nameAndType 5 6), (0, u "java/lang/Object"), (0, u "<init>"), (0, u "()V"), (0, .fieldref 8 9), (0, .class_ 10), (0, .nameAndType 11 12), (0, u "com/example/admission/admission/internal/Group"), (0, u "limit"), (0, u "I"), (0, .fieldref 8 14), (0, .nameAndType 15 12), (0, u "maxWaiting"), (0, .fieldref 8 17), (0, .nameAndType 18 19), (0, u "tally"), (0, u "Ljava/lang/Object;"), (0, .fieldref 8 21), (0, .nameAndType 22 12), (0, u "running"), (0, .fieldref 8 24), (0, .nameAndType 25 12), (0, u "waiting"), (2, u "oldest"), (0, u "Lcom/example/admission/admission/internal/Ticket;"), (2, u "newest"), (14, u "evicted"), (0, u "Z"), (1, .class_ 52), (1, u "com/example/admission/admission/internal/Group$Enrolment"), (4, u "inHand"), (5, u "()Z"), (8, u "unfinished"), (19, u "(IILjava/lang/Object;)V"), (2, u "()I"), (3, u "mayQueue"), (0, u "take")] 20

def k3c0 : Code := { maxStack := 2, maxLocals := 4, code := prog_18_method_1_code, exceptionTable := #[], attributes := #[] }
def k3m0 : Method := { name := "<init>", desc := "(IILjava/lang/Object;)V", sig := { parameters := [.int, .int, (.object "java/lang/Object")], returnType := none }, accessFlags := 0, code := some k3c0 }
def k3c1 : Code := { maxStack := 1, maxLocals := 1, code := prog_18_method_4_code, exceptionTable := #[], attributes := #[] }
def k3m1 : Method := { name := "waiting", desc := "()I", sig := { parameters := [], returnType := some .int }, accessFlags := 0, code := some k3c1 }
def k3c2 : Code := { maxStack := 2, maxLocals := 1, code := prog_18_method_7_code, exceptionTable := #[], attributes := #[] }
def k3m2 : Method := { name := "mayQueue", desc := "()Z", sig := { parameters := [], returnType := some .boolean }, accessFlags := 0, code := some k3c2 }
def k3c3 : Code := { maxStack := 3, maxLocals := 1, code := prog_18_method_8_code, exceptionTable := #[], attributes := #[] }
def k3m3 : Method := { name := "take", desc := "()V", sig := { parameters := [], returnType := none }, accessFlags := 0, code := some k3c3 }
/-- com/example/admission/admission/internal/Group -/
def k3 : Class := { plain "com/example/admission/admission/internal/Group" (some 0) with
  accessFlags := 48
  interfaces := #[]
  cf := some (fileOf pool3 8 #[.nestMembers #[50]] #[{ accessFlags := 0, nameIndex := 5, descriptorIndex := 92, attributes := #[] }, { accessFlags := 0, nameIndex := 25, descriptorIndex := 95, attributes := #[] }, { accessFlags := 0, nameIndex := 99, descriptorIndex := 63, attributes := #[] }, { accessFlags := 0, nameIndex := 100, descriptorIndex := 6, attributes := #[] }] 48 2 #[] #[{ accessFlags := 18, nameIndex := 11, descriptorIndex := 12, attributes := #[] }, { accessFlags := 18, nameIndex := 15, descriptorIndex := 12, attributes := #[] }, { accessFlags := 16, nameIndex := 18, descriptorIndex := 19, attributes := #[] }, { accessFlags := 2, nameIndex := 22, descriptorIndex := 12, attributes := #[] }, { accessFlags := 2, nameIndex := 25, descriptorIndex := 12, attributes := #[] }, { accessFlags := 2, nameIndex := 28, descriptorIndex := 29, attributes := #[] }, { accessFlags := 2, nameIndex := 32, descriptorIndex := 29, attributes := #[] }, { accessFlags := 2, nameIndex := 72, descriptorIndex := 29, attributes := #[] }, { accessFlags := 2, nameIndex := 57, descriptorIndex := 12, attributes := #[] }, { accessFlags := 2, nameIndex := 47, descriptorIndex := 48, attributes := #[] }])
  fields := #[{ name := "limit", type := .int, accessFlags := 18, slot := 0, constantValue := 0 }, { name := "maxWaiting", type := .int, accessFlags := 18, slot := 1, constantValue := 0 }, { name := "tally", type := (.object "java/lang/Object"), accessFlags := 16, slot := 2, constantValue := 0 }, { name := "running", type := .int, accessFlags := 2, slot := 3, constantValue := 0 }, { name := "waiting", type := .int, accessFlags := 2, slot := 4, constantValue := 0 }, { name := "oldest", type := (.object "com/example/admission/admission/internal/Ticket"), accessFlags := 2, slot := 5, constantValue := 0 }, { name := "newest", type := (.object "com/example/admission/admission/internal/Ticket"), accessFlags := 2, slot := 6, constantValue := 0 }, { name := "unfinished", type := (.object "com/example/admission/admission/internal/Ticket"), accessFlags := 2, slot := 7, constantValue := 0 }, { name := "inHand", type := .int, accessFlags := 2, slot := 8, constantValue := 0 }, { name := "evicted", type := .boolean, accessFlags := 2, slot := 9, constantValue := 0 }]
  methods := #[k3m0, k3m1, k3m2, k3m3]
  instanceTypes := #[.int, .int, (.object "java/lang/Object"), .int, .int, (.object "com/example/admission/admission/internal/Ticket"), (.object "com/example/admission/admission/internal/Ticket"), (.object "com/example/admission/admission/internal/Ticket"), .int, .boolean]
  staticTypes := #[]
  resolved := Array.replicate 121 none
  statics := none }

def pool4 : Array CpInfo := pool [(1, u "java/lang/Cloneable"), (0, .class_ 1), (0, u "java/lang/Object"), (0, .class_ 3)] 3

/-- java/lang/Cloneable -/
def k4 : Class := { plain "java/lang/Cloneable" (some 0) with
  accessFlags := 1537
  interfaces := #[]
  cf := some (fileOf pool4 2 #[] #[] 1537 4 #[] #[])
  fields := #[]
  methods := #[]
  instanceTypes := #[]
  staticTypes := #[]
  resolved := Array.replicate 8 none
  statics := none }

def pool5 : Array CpInfo := pool [(1, u "java/io/Serializable"), (0, .class_ 1), (0, u "java/lang/Object"), (0, .class_ 3)] 3

/-- java/io/Serializable -/
def k5 : Class := { plain "java/io/Serializable" (some 0) with
  accessFlags := 1537
  interfaces := #[]
  cf := some (fileOf pool5 2 #[] #[] 1537 4 #[] #[])
  fields := #[]
  methods := #[]
  instanceTypes := #[]
  staticTypes := #[]
  resolved := Array.replicate 8 none
  statics := none }

/-- the primitive byte -/
def k6 : Class := { plain "byte" none with kind := .primitive 'B', accessFlags := 0x411 }
/-- [B -/
def k7 : Class := { plain "[B" (some 0) with kind := .array 6 .byte, interfaces := #[4, 5], accessFlags := 1041 }

/-- the primitive int -/
def k8 : Class := { plain "int" none with kind := .primitive 'I', accessFlags := 0x411 }
/-- [I -/
def k9 : Class := { plain "[I" (some 0) with kind := .array 8 .int, interfaces := #[4, 5], accessFlags := 1041 }

def heap : Heap := #[]
def classes : Array Class := #[k0, k1, k2, k3, k4, k5, k6, k7, k8, k9]
def interned : List (Array UInt16 × Addr) := []
def slotsUsed : Nat := 0
def theMethod : MethodId := ⟨1, 1⟩
def args0 : Array Value := #[.int 5, .int 5, .int 5]
def aboutOver (below : List Frame) : State where
  vm := { classes := classes, interned := interned.toArray }
  heap := heap
  slotsUsed := slotsUsed
  threads := #[{ frames := .invoking theMethod args0 :: below }]
def below0 : List Frame := [.native { method := ⟨0, 0⟩, args := #[] }]
def about1 : State := aboutOver below0
def p0 : Program := .bare "" "" ""
def e0 : Env := launch0.env 0 0 0
theorem w_frames : about1.frames = Frame.invoking theMethod args0 :: below0 := rfl
set_option maxRecDepth 65536 in
theorem w_args : argsFit about1.vm theMethod args0 = true := by decide +kernel
set_option maxRecDepth 65536 in
theorem w_heap : heapFits about1 = true := by decide +kernel
set_option maxRecDepth 65536 in
theorem w_runnable : about1.curStatus? = some .runnable := by decide +kernel
set_option maxRecDepth 65536 in
theorem w_alone : about1.alone = true := by decide +kernel
set_option maxRecDepth 65536 in
theorem w_named : about1.methodNamed? x = some theMethod := by decide +kernel
set_option maxRecDepth 65536 in
theorem w_hears : about1.hears theMethod below0 = true := by decide +kernel
set_option maxRecDepth 65536 in
theorem w_ripe : about1.ripe theMethod args0 below0 = true := by decide +kernel
theorem w_running : about1.status = .running := rfl
set_option maxRecDepth 65536 in
theorem w_room : about1.hasRoom e0.platform room_1 = true :=
  launch0.hasRoom_least _ room_1 (by decide +kernel) (by decide +kernel) (by decide +kernel) (by decide +kernel) (by decide +kernel) (by decide +kernel)
theorem allAtoms_all (ts : List Jvm.Cond) (a : Array Jvm.Value) (st : Jvm.State) : (allAtoms ts).before a st = ts.all (fun c => c.before a st) := by
  induction ts with
  | nil => rfl
  | cons c t ih =>
    show (Jvm.Cond.and c (allAtoms t)).before a st = _
    rw [Jvm.Cond.before_and, ih, List.all_cons]
def words1 : List Jvm.Cond := Jvm.Cond.code x code maxLocals ret :: tables_1
/-- a 'code' word, met by the world's own term for the bytes: nothing is compared byte by byte -/
theorem code_word {y : MethodName} {bytes : ByteArray} {mx : Nat} {rt : Option FieldType} {a : Array Value} {s : State} {m : MethodId} {meth : Method} {c : Code} (h1 : s.methodNamed? y = some m) (h2 : s.vm.method? m = some meth) (h3 : meth.code = some c) (h4 : c.code = bytes)
    (h5 : (c.maxLocals == mx && c.exceptionTable.isEmpty && decide (c.maxStack ≤ mostOperands) && decide (meth.sig.returnType = rt) && !meth.locks && decide (parseMethodDescriptor y.desc = some meth.sig)) = true) : (Jvm.Cond.code y bytes mx rt).before a s = true := by
  simp only [Bool.and_eq_true, beq_iff_eq, Bool.not_eq_true', decide_eq_true_eq] at h5
  obtain ⟨⟨⟨⟨⟨g1, g2⟩, g3⟩, g4⟩, g5⟩, g6⟩ := h5
  simp [Cond.before, Cond.holds, Cond.value, h1, h2, h3, h4, g1, g2, g3, g4, g5, g6]
def isCode : Jvm.Cond → Bool
  | .code _ _ _ _ => true
  | _ => false
theorem all_split {L : List Jvm.Cond} {P : Jvm.Cond → Bool} (h1 : L.all (fun c => isCode c || P c) = true) (h2 : ∀ c ∈ L.filter isCode, P c = true) : L.all P = true := by
  refine List.all_eq_true.mpr fun c hc => ?_
  have h := List.all_eq_true.mp h1 c hc
  rcases Bool.eq_false_or_eq_true (isCode c) with hi | hi
  · exact h2 c (List.mem_filter.mpr ⟨hc, hi⟩)
  · simpa [hi] using h
set_option maxRecDepth 65536 in
theorem w_c0 : (Jvm.Cond.code x code maxLocals ret).before args0 about1 = true := code_word (m := ⟨1, 1⟩) (meth := k1m1) (c := k1c1) (by decide +kernel) rfl rfl rfl (by decide +kernel)
set_option maxRecDepth 65536 in
theorem w_c1 : (Jvm.Cond.code ({ cls := "java/lang/Math", name := "max", desc := "(II)I" } : Jvm.MethodName) jdk_29_method_65_code (2 : Nat) (Option.some Jvm.ClassFile.FieldType.int)).before args0 about1 = true := code_word (m := ⟨2, 1⟩) (meth := k2m1) (c := k2c1) (by decide +kernel) rfl rfl rfl (by decide +kernel)
set_option maxRecDepth 65536 in
theorem w_c2 : (Jvm.Cond.code ({ cls := "com/example/admission/admission/internal/Group", name := "<init>", desc := "(IILjava/lang/Object;)V" } : Jvm.MethodName) prog_18_method_1_code (4 : Nat) (Option.none : Option Jvm.ClassFile.FieldType)).before args0 about1 = true := code_word (m := ⟨3, 0⟩) (meth := k3m0) (c := k3c0) (by decide +kernel) rfl rfl rfl (by decide +kernel)
set_option maxRecDepth 65536 in
theorem w_c3 : (Jvm.Cond.code ({ cls := "java/lang/Object", name := "<init>", desc := "()V" } : Jvm.MethodName) object_method_1_code (1 : Nat) (Option.none : Option Jvm.ClassFile.FieldType)).before args0 about1 = true := code_word (m := ⟨0, 0⟩) (meth := k0m0) (c := k0c0) (by decide +kernel) rfl rfl rfl (by decide +kernel)
set_option maxRecDepth 65536 in
theorem w_c4 : (Jvm.Cond.code ({ cls := "com/example/admission/admission/internal/Group", name := "take", desc := "()V" } : Jvm.MethodName) prog_18_method_8_code (1 : Nat) (Option.none : Option Jvm.ClassFile.FieldType)).before args0 about1 = true := code_word (m := ⟨3, 3⟩) (meth := k3m3) (c := k3c3) (by decide +kernel) rfl rfl rfl (by decide +kernel)
set_option maxRecDepth 65536 in
theorem w_c5 : (Jvm.Cond.code ({ cls := "com/example/admission/admission/internal/Group", name := "mayQueue", desc := "()Z" } : Jvm.MethodName) prog_18_method_7_code (1 : Nat) (Option.some Jvm.ClassFile.FieldType.boolean)).before args0 about1 = true := code_word (m := ⟨3, 2⟩) (meth := k3m2) (c := k3c2) (by decide +kernel) rfl rfl rfl (by decide +kernel)
set_option maxRecDepth 65536 in
theorem w_c6 : (Jvm.Cond.code ({ cls := "com/example/admission/admission/internal/Group", name := "waiting", desc := "()I" } : Jvm.MethodName) prog_18_method_4_code (1 : Nat) (Option.some Jvm.ClassFile.FieldType.int)).before args0 about1 = true := code_word (m := ⟨3, 1⟩) (meth := k3m1) (c := k3c1) (by decide +kernel) rfl rfl rfl (by decide +kernel)
def codes1 : List Jvm.Cond := [Jvm.Cond.code x code maxLocals ret, Jvm.Cond.code ({ cls := "java/lang/Math", name := "max", desc := "(II)I" } : Jvm.MethodName) jdk_29_method_65_code (2 : Nat) (Option.some Jvm.ClassFile.FieldType.int), Jvm.Cond.code ({ cls := "com/example/admission/admission/internal/Group", name := "<init>", desc := "(IILjava/lang/Object;)V" } : Jvm.MethodName) prog_18_method_1_code (4 : Nat) (Option.none : Option Jvm.ClassFile.FieldType), Jvm.Cond.code ({ cls := "java/lang/Object", name := "<init>", desc := "()V" } : Jvm.MethodName) object_method_1_code (1 : Nat) (Option.none : Option Jvm.ClassFile.FieldType), Jvm.Cond.code ({ cls := "com/example/admission/admission/internal/Group", name := "take", desc := "()V" } : Jvm.MethodName) prog_18_method_8_code (1 : Nat) (Option.none : Option Jvm.ClassFile.FieldType), Jvm.Cond.code ({ cls := "com/example/admission/admission/internal/Group", name := "mayQueue", desc := "()Z" } : Jvm.MethodName) prog_18_method_7_code (1 : Nat) (Option.some Jvm.ClassFile.FieldType.boolean), Jvm.Cond.code ({ cls := "com/example/admission/admission/internal/Group", name := "waiting", desc := "()I" } : Jvm.MethodName) prog_18_method_4_code (1 : Nat) (Option.some Jvm.ClassFile.FieldType.int)]
set_option maxRecDepth 65536 in
theorem codes_eq : words1.filter isCode = codes1 := rfl
theorem w_codes : ∀ c ∈ words1.filter isCode, c.before args0 about1 = true := by
  rw [codes_eq]
  intro c hc
  simp only [codes1, List.mem_cons, List.not_mem_nil, or_false] at hc
  rcases hc with rfl | rfl | rfl | rfl | rfl | rfl | rfl
  · exact w_c0
  · exact w_c1
  · exact w_c2
  · exact w_c3
  · exact w_c4
  · exact w_c5
  · exact w_c6
set_option maxRecDepth 65536 in
theorem w_t1 : (words1.take 24).all (fun c => isCode c || c.before args0 about1) = true := by decide +kernel
set_option maxRecDepth 65536 in
theorem w_t2 : (words1.drop 24).all (fun c => isCode c || c.before args0 about1) = true := by decide +kernel
theorem w_tables : (allAtoms (Jvm.Cond.code x code maxLocals ret :: tables_1)).before args0 about1 = true := by
  rw [allAtoms_all]
  show words1.all (fun c => c.before args0 about1) = true
  refine all_split ?_ w_codes
  rw [← List.take_append_drop 24 words1, List.all_append, w_t1, w_t2]
  rfl
set_option maxRecDepth 65536 in
theorem w_case : (Jvm.Cond.and given_1 narrow_1).before args0 about1 = true := by decide +kernel
theorem w_applies : (headSpec (Jvm.Cond.code x code maxLocals ret :: tables_1) room_1).applies x e0.platform about1 = true :=
  (Spec.applies_iff w_frames).mpr ⟨w_running, w_runnable, w_alone, w_named, w_hears, w_ripe, w_room, w_tables⟩
theorem atStart : AtStart classFile x code maxLocals ret World_1 tables_1 room_1 Calls_1 rest_1 Pre_1 launch0 p0 e0 about1 theMethod args0 below0 :=
  ⟨lists_1, trivial, launch0.admits_env _ _ _, launch0.least_env, fairChoices_fair.cas, fairChoices_fair.clock, w_frames, w_args, w_heap, w_applies, trivial, trivial, w_case⟩
end start1
theorem witness_1 : WitnessClaimed_1 := ⟨start1.p0, start1.e0, start1.about1, start1.theMethod, start1.args0, start1.below0, start1.atStart⟩
end Jvm.Pilot.@@N@@
