import JvmDerived
import JvmDerived.Pilot.@@N@@Statement
import JvmDerived.Pilot.@@N@@Code
set_option linter.unusedVariables false
set_option linter.unusedSimpArgs false
namespace Jvm.Own
open Sem ClassFile Op Lib Jvm.Stand Jvm.Free Jvm.LawKit Jvm.RoadKit
section Own
variable {p : Program} {l : Launch} {e : Env} {R : Room} {s : State} {m : MethodId} {args : Array Value} {below : List Frame} {meth : Method} {c : Code} {T : State} {locs : List Loc} {cells slots : Nat} {Q : Option Value → Heap → List Loc → Prop} {k n : Nat} {Z : State} {a0 : Array Value} {h h' h0 : Heap} {pc pc' : Nat} {Ls : Array Slot} {rest : List Value}
/-- from U the invocation comes to its end, returns, and Q holds there -/
def Till (p : Program) (e : Env) (below : List Frame) (s : State) (Q : Option Value → Heap → List Loc → Prop) (k n : Nat) (U : State) : Prop :=
  ∃ s₂ o, Steps p.tables e below U s₂ ∧ s₂.status = .running ∧ Ended s₂ below o ∧ ∃ v L, o = .returned v ∧ Q v s₂.heap L ∧ FrameEnd s o s₂ L k n
/-- a body's contract -/
def Ctr (l : Launch) (Z : State) (y : MethodName) (bytes : ByteArray) (maxL : Nat) (ret : Option FieldType) (rm : Room) (as : Array Value) (h : Heap) (Q : Option Value → Heap → List Loc → Prop) : Prop :=
  ∀ ws, MetFree l y (head1 (Jvm.Cond.code y bytes maxL ret :: ws) rm) (fun a U => a = as ∧ Z.Warmed39 U.vm ∧ U.heap = h) (fun _ _ _ _ _ => True) (fun _ U o U' => ∃ v L, o = .returned v ∧ Q v U'.heap L ∧ FrameEnd U o U' L rm.cells rm.slots)
theorem Till.pre {U V : State} (hs : ∀ t, Steps p.tables e below V t → Steps p.tables e below U t) (r : Till p e below s Q k n V) : Till p e below s Q k n U := by
  obtain ⟨s₂, o, h1, r⟩ := r; exact ⟨s₂, o, hs _ h1, r⟩
theorem Till.via {U V : State} (hs : Steps p.tables e below U V) (r : Till p e below s Q k n V) : Till p e below s Q k n U := by
  obtain ⟨s₂, o, h1, r⟩ := r; exact ⟨s₂, o, hs.trans h1, r⟩
theorem Till.cast {g g' : JFrame} (q : g = g') (r : Till p e below s Q k n (T.setTop g')) : Till p e below s Q k n (T.setTop g) := q ▸ r
theorem Ctr.of {y : MethodName} {bytes : ByteArray} {maxL : Nat} {ret : Option FieldType} {rm : Room} {as : Array Value} (hp : plainFor y = true)
    (body : ∀ p e s m below meth c s₁, p.tables.exec = Jvm.exec → c.code = bytes → c.maxLocals = maxL → s.vm.findClass y.cls = some m.cls → meth.name = y.name → meth.sig.returnType = ret → meth.locks = false → Z.Warmed39 s.vm → s₁.heap = h →
      Stand p l e rm s m as below meth c s₁ [] 0 0 → Till p e below s Q rm.cells rm.slots (s₁.setTop (entryFrame m as maxL))) : Ctr l Z y bytes maxL ret rm as h Q := by
  intro ws
  refine MetFree.of_bodySF hp hisR ?_
  intro p e s m args below meth c s₁ Bd hml hP hK
  obtain ⟨rfl, hZ, hh⟩ := hP
  exact body p e s m below meth c s₁ Bd.exec Bd.bytes hml (findClass_of_methodNamed Bd.named) (name_of_methodNamed Bd.named Bd.method).1 Bd.returns Bd.notSynchronized hZ (by rw [← hh, Bd.state]; rfl) (Stand.of_body Bd)
/-! branches -/
theorem Till.icmp {cd : ClassFile.Cond} {x y : Int32} {o : Int} (h : At T m c below) (hx : p.tables.exec = Jvm.exec) (hd : decode c.code pc = .ok (.if_icmp cd o, 3)) (ho : 0 ≤ (pc : Int) + o) (hp : ((pc : Int) + o).toNat = pc')
    (r1 : if_icmp.holds cd x y = true → Till p e below s Q k n (T.setTop (mkF m pc' Ls rest))) (r2 : if_icmp.holds cd x y = false → Till p e below s Q k n (T.setTop (mkF m (pc + 3) Ls rest))) : Till p e below s Q k n (T.setTop (mkF m pc Ls (.int y :: .int x :: rest))) := by
  cases hb : if_icmp.holds cd x y with
  | true => exact Till.pre (fun _ hr => XS.icmpYes h hx rfl (pc0 := pc) (pc' := pc') rfl hd rfl hb ho hp hr) (r1 hb)
  | false => exact Till.pre (fun _ hr => XS.icmpNo h hx rfl hd rfl hb hr) (r2 hb)
theorem Till.ifc {cd : ClassFile.Cond} {x : Int32} {o : Int} (h : At T m c below) (hx : p.tables.exec = Jvm.exec) (hd : decode c.code pc = .ok (.ifCond cd o, 3)) (ho : 0 ≤ (pc : Int) + o) (hp : ((pc : Int) + o).toNat = pc')
    (r1 : if_icmp.holds cd x 0 = true → Till p e below s Q k n (T.setTop (mkF m pc' Ls rest))) (r2 : if_icmp.holds cd x 0 = false → Till p e below s Q k n (T.setTop (mkF m (pc + 3) Ls rest))) : Till p e below s Q k n (T.setTop (mkF m pc Ls (.int x :: rest))) := by
  cases hb : if_icmp.holds cd x 0 with
  | true => exact Till.pre (fun _ hr => XS.ifYes h hx rfl (pc0 := pc) (pc' := pc') rfl hd rfl ((if0 _ _).trans hb) ho hp hr) (r1 hb)
  | false => exact Till.pre (fun _ hr => XS.ifNo h hx rfl hd rfl ((if0 _ _).trans hb) hr) (r2 hb)
theorem hEq {x y : Int32} : (if_icmp.holds .eq x y = true → x = y) ∧ (if_icmp.holds .eq x y = false → ¬ x = y) ∧ (if_icmp.holds .ne x y = true → ¬ x = y) ∧ (if_icmp.holds .ne x y = false → x = y) := by
  by_cases q : x = y
  · obtain ⟨h1, h2⟩ := teq q; rw [h1, h2]; simp [q]
  · obtain ⟨h1, h2⟩ := feq q; rw [h1, h2]; simp [q]
theorem hLt {x y : Int32} : (if_icmp.holds .lt x y = true → x < y) ∧ (if_icmp.holds .lt x y = false → ¬ x < y) ∧ (if_icmp.holds .ge x y = true → ¬ x < y) ∧ (if_icmp.holds .ge x y = false → x < y) ∧ (if_icmp.holds .gt y x = true → x < y) ∧ (if_icmp.holds .gt y x = false → ¬ x < y) ∧ (if_icmp.holds .le y x = true → ¬ x < y) ∧ (if_icmp.holds .le y x = false → x < y) := by
  by_cases q : x < y
  · obtain ⟨h1, h2, h3, h4⟩ := tlt q; rw [h1, h2, h3, h4]; simp [q]
  · obtain ⟨h1, h2, h3, h4⟩ := flt q; rw [h1, h2, h3, h4]; simp [q]
theorem lEq {x y : Int64} : lcmpW x y = 0 ↔ x = y := by rw [lcW x y]; exact lc_eq x y
theorem lLt {x y : Int64} : lcmpW x y < 0 ↔ x < y := by rw [lcW x y]; exact lc_lt x y
theorem lGt {x y : Int64} : 0 < lcmpW x y ↔ y < x := by rw [lcW x y]; exact lc_gt x y
/-- Java's >>> on longs -/
def lsr (x : Int64) (y : Int32) : Int64 := (x.toUInt64 >>> (y &&& 0x3f).toInt64.toUInt64).toInt64
/-! returns -/
theorem Till.retI (X : Stand p l e R s m args below meth c T locs cells slots) (hx : p.tables.exec = Jvm.exec) (hret : meth.sig.returnType = some .int) (hlk : meth.locks = false) {z : Int32} (hd : decode c.code pc = .ok (.ireturn, 1)) (hk : cells ≤ k) (hn : slots ≤ n) (hq : Q (some (.int z)) T.heap locs) : Till p e below s Q k n (T.setTop (mkF m pc Ls (.int z :: rest))) := by
  obtain ⟨fs, hr, hrun, hended, hW, hsame⟩ := X.leave (v := some (.int z)) (fun q => by rw [hret] at q; cases q) hlk
  exact ⟨_, _, retOut X hx hret rfl (Or.inl ⟨rfl, Or.inl rfl, z, rfl⟩) hd hr, hrun, hended, _, _, rfl, hq, ⟨_, rfl⟩, hW, hsame.mono hk hn⟩
theorem Till.retZ (X : Stand p l e R s m args below meth c T locs cells slots) (hx : p.tables.exec = Jvm.exec) (hret : meth.sig.returnType = some .boolean) (hlk : meth.locks = false) {z w : Int32} (hd : decode c.code pc = .ok (.ireturn, 1)) (hk : cells ≤ k) (hn : slots ≤ n) (hz : z &&& 1 = w) (hq : Q (some (.int w)) T.heap locs) : Till p e below s Q k n (T.setTop (mkF m pc Ls (.int z :: rest))) := by
  subst hz
  obtain ⟨fs, hr, hrun, hended, hW, hsame⟩ := X.leave (v := some (.int (z &&& 1))) (fun q => by rw [hret] at q; cases q) hlk
  exact ⟨_, _, retN X hx (t := .boolean) hret (Or.inl rfl) hd hr, hrun, hended, _, _, rfl, hq, ⟨_, rfl⟩, hW, hsame.mono hk hn⟩
theorem Till.retJ (X : Stand p l e R s m args below meth c T locs cells slots) (hx : p.tables.exec = Jvm.exec) (hret : meth.sig.returnType = some .long) (hlk : meth.locks = false) {z : Int64} (hd : decode c.code pc = .ok (.lreturn, 1)) (hk : cells ≤ k) (hn : slots ≤ n) (hq : Q (some (.long z)) T.heap locs) : Till p e below s Q k n (T.setTop (mkF m pc Ls (.long z :: rest))) := by
  obtain ⟨fs, hr, hrun, hended, hW, hsame⟩ := X.leave (v := some (.long z)) (fun q => by rw [hret] at q; cases q) hlk
  exact ⟨_, _, retOut X hx hret rfl (Or.inr (Or.inl ⟨rfl, rfl, z, rfl⟩)) hd hr, hrun, hended, _, _, rfl, hq, ⟨_, rfl⟩, hW, hsame.mono hk hn⟩
theorem Till.retA (X : Stand p l e R s m args below meth c T locs cells slots) (hx : p.tables.exec = Jvm.exec) {t : FieldType} (hret : meth.sig.returnType = some t) (ht : t.isReference = true) (hlk : meth.locks = false) {w : Value} (hw : w.isRef = true) (hnw : narrow t w = w) (hd : decode c.code pc = .ok (.areturn, 1)) (hk : cells ≤ k) (hn : slots ≤ n) (hq : Q (some w) T.heap locs) : Till p e below s Q k n (T.setTop (mkF m pc Ls (w :: rest))) := by
  obtain ⟨fs, hr, hrun, hended, hW, hsame⟩ := X.leave (v := some w) (fun q => by rw [hret] at q; cases q) hlk
  exact ⟨_, _, retOut X hx hret hnw (Or.inr (Or.inr (Or.inr (Or.inr ⟨rfl, ht, hw⟩)))) hd hr, hrun, hended, _, _, rfl, hq, ⟨_, rfl⟩, hW, hsame.mono hk hn⟩
theorem Till.retV (X : Stand p l e R s m args below meth c T locs cells slots) (hx : p.tables.exec = Jvm.exec) (hret : meth.sig.returnType = none) (hlk : meth.locks = false) (hd : decode c.code pc = .ok (.return_, 1)) (hk : cells ≤ k) (hn : slots ≤ n) (hq : Q none T.heap locs) : Till p e below s Q k n (T.setTop (mkF m pc Ls [])) := by
  obtain ⟨fs, hr, hrun, hended, hW, hsame⟩ := X.leave (v := none) (fun _ => rfl) hlk
  exact ⟨_, _, X.returnOut hx hret hd hr, hrun, hended, _, _, rfl, hq, ⟨_, rfl⟩, hW, hsame.mono hk hn⟩
/-! the heap -/
theorem Till.getF (X : Stand p l e R s m args below meth c T locs cells slots) (hx : p.tables.exec = Jvm.exec) (hZ : Z.Warmed39 s.vm) {own O nm d : String} {index : Nat} (hown : s.vm.findClass own = some m.cls) (w : (Jvm.Cond.fieldLink own index O nm d).before a0 Z = true) (eT : T.heap = h) {a : Addr} {v : Value} (F : Fld Z h a O nm d v) (hd : decode c.code pc = .ok (.getfield index, 3))
    (r : ∀ T', Stand p l e R s m args below meth c T' locs cells slots → T'.heap = h → Till p e below s Q k n (T'.setTop (mkF m (pc + 3) Ls (v :: rest)))) : Till p e below s Q k n (T.setTop (mkF m pc Ls (.ref a :: rest))) := by
  obtain ⟨T', X', e', st⟩ := Jvm.RoadKit.getF X hx hZ hown (host := "") (Or.inl w) Via.refl eT F (g := mkF m pc Ls (.ref a :: rest)) rfl rfl hd
  exact Till.pre st (r T' X' e')
theorem Till.putF (X : Stand p l e R s m args below meth c T locs cells slots) (hx : p.tables.exec = Jvm.exec) (hZ : Z.Warmed39 s.vm) {own O nm d C : String} {index kk : Nat} {ty : FieldType} (hown : s.vm.findClass own = some m.cls) (w : (Jvm.Cond.fieldLink own index O nm d).before a0 Z = true) (eT : T.heap = h) {a : Addr} {v old : Value} (F : Fld Z h a O nm d old) (E : Exa Z h a C)
    (L : (Jvm.Cond.lays C O nm d).before a0 Z = true ∨ ((Jvm.Cond.laysFinal C O nm d).before a0 Z = true ∧ own = O ∧ meth.name = "<init>")) (wi : (Jvm.Cond.instantiable C kk).before a0 Z = true) (hty : parseFieldDescriptor d = some ty) (hn : narrow ty v = v) (hf : fits ty v = true) (hd : decode c.code pc = .ok (.putfield index, 3))
    (r : ∀ T' h', Stand p l e R s m args below meth c T' (locs ++ [⟨a, Jvm.RoadKit.slotOf Z O nm d⟩]) cells slots → T'.heap = h' → Wr h h' a (Jvm.RoadKit.slotOf Z O nm d) v → Till p e below s Q k n (T'.setTop (mkF m (pc + 3) Ls rest))) : Till p e below s Q k n (T.setTop (mkF m pc Ls (v :: .ref a :: rest))) := by
  obtain ⟨T', h', X', e', W, st⟩ := Jvm.RoadKit.putF X hx hZ hown (host := "") (Or.inl w) Via.refl eT F E L wi hty hn hf (g := mkF m pc Ls (v :: .ref a :: rest)) rfl rfl hd
  exact Till.pre st (r T' h' X' e' W)
theorem Till.newO (X : Stand p l e R s m args below meth c T locs cells slots) (hx : p.tables.exec = Jvm.exec) (hZ : Z.Warmed39 s.vm) {own C : String} {index sl : Nat} (hown : s.vm.findClass own = some m.cls) (w : (Jvm.Cond.classLink own index C).before a0 Z = true) (wi : (Jvm.Cond.instantiable C sl).before a0 Z = true) (wz : (Jvm.Cond.initialized C).before a0 Z = true) (eT : T.heap = h) (hd : decode c.code pc = .ok (.new index, 3)) (hc : cells + 1 ≤ R.cells) (hl : slots + sl ≤ R.slots)
    (r : ∀ T' h' b, b = h.size → Stand p l e R s m args below meth c T' locs (cells + 1) (slots + sl) → T'.heap = h' → Ext h h' → Exa Z h' b C → (∀ {O nm d : String} {ty : FieldType}, Laid Z a0 C O nm d → parseFieldDescriptor d = some ty → Fld Z h' b O nm d (defaultValue ty)) → Till p e below s Q k n (T'.setTop (mkF m (pc + 3) Ls (.ref b :: rest)))) : Till p e below s Q k n (T.setTop (mkF m pc Ls rest)) := by
  obtain ⟨T', h', X', e', E, A, D, -, st⟩ := Jvm.RoadKit.newO X hx hZ hown w wi wz eT (g := mkF m pc Ls rest) rfl hd hc hl
  exact Till.pre st (r T' h' _ rfl X' e' E A D)
theorem Till.initO (X : Stand p l e R s m args below meth c T locs cells slots) (hx : p.tables.exec = Jvm.exec) (hZ : Z.Warmed39 s.vm) {own : String} {idx : Nat} (hown : s.vm.findClass own = some m.cls) (w1 : (Jvm.Cond.methodLink own idx Lib.objectInit).before a0 Z = true) (w2 : (Jvm.Cond.instanceMethod Lib.objectInit).before a0 Z = true) (w3 : (Jvm.Cond.code Lib.objectInit ⟨#[0xb1]⟩ 1 none).before a0 Z = true) (eT : T.heap = h) (hsize : Ls.size = c.maxLocals) {a : Addr} (hd : decode c.code pc = .ok (.invokespecial idx, 3))
    (hf : 1 ≤ R.frames) {W : Nat} (hW : (rest.map fun v => v.category).sum ≤ W) (hl : W + 12 ≤ R.locals)
    (r : ∀ T', Stand p l e R s m args below meth c T' locs cells slots → T'.heap = h → Till p e below s Q k n (T'.setTop (mkF m (pc + 3) Ls rest))) : Till p e below s Q k n (T.setTop (mkF m pc Ls (.ref a :: rest))) := by
  obtain ⟨T', X', e', st⟩ := Jvm.RoadKit.initO X hx hZ hown w1 w2 w3 eT (g := mkF m pc Ls (.ref a :: rest)) rfl hsize rfl hd hf (W := W) (by show 2 * 0 + _ ≤ _; omega) hl
  exact Till.pre st (r T' X' e')
/-! arrays: what they hold, as a function of the place -/
def AR {α : Type} (ty : FieldType) (w : α → Value) (Z : State) (h : Heap) (a : Addr) (z : Int32) (f : Nat → α) : Prop := ∃ c : Cell, Arr Z h a c ty ∧ c.slots.size = z.toNatClampNeg ∧ ¬ z < 0 ∧ ∀ i, i < c.slots.size → c.slots[i]? = some (w (f i))
abbrev LA := @AR Int64 .long Value.long
abbrev IA := @AR Int32 .int Value.int
abbrev BA := @AR Int32 .byte Value.int
def oupd {α : Type} (f : Nat → α) (i : Nat) (v : α) : Nat → α := fun x => if x = i then v else f x
theorem upd_hit {α : Type} {f : Nat → α} {i j : Nat} {v : α} (q : j = i) : oupd f i v j = v := if_pos q
theorem upd_miss {α : Type} {f : Nat → α} {i j : Nat} {v : α} (q : ¬ j = i) : oupd f i v j = f j := if_neg q
section Ary
variable {α : Type} {ty : FieldType} {w : α → Value} {a b : Addr} {z j : Int32} {f : Nat → α} {ws : List Addr} {sl : Nat} {v : Value}
theorem AR.lt (A : AR ty w Z h a z f) : a < h.size := by obtain ⟨c, A, -⟩ := A; exact A.lt
theorem AR.pos (A : AR ty w Z h a z f) : ¬ z < 0 := by obtain ⟨c, -, -, q, -⟩ := A; exact q
theorem AR.ext (A : AR ty w Z h a z f) (E : Ext h h') : AR ty w Z h' a z f := by obtain ⟨c, A, r⟩ := A; exact ⟨c, A.ext E, r⟩
theorem AR.keep (A : AR ty w Z h a z f) (K : Keep h h' ws) (q : a ∉ ws) : AR ty w Z h' a z f := by obtain ⟨c, A, r⟩ := A; exact ⟨c, ⟨K.2.1 a c A.1 q, A.2⟩, r⟩
theorem AR.wr (A : AR ty w Z h a z f) (W : Wr h h' b sl v) (q : a ≠ b) : AR ty w Z h' a z f := by obtain ⟨c, A, r⟩ := A; exact ⟨c, A.other W q, r⟩
theorem AR.congr {g : Nat → α} (A : AR ty w Z h a z f) (q : ∀ i, i < z.toNatClampNeg → f i = g i) : AR ty w Z h a z g := by obtain ⟨c, A, S, N, H⟩ := A; exact ⟨c, A, S, N, fun i hi => by rw [H i hi, q i (S ▸ hi)]⟩
theorem AR.set {x : α} (A : AR ty w Z h a z f) (W : Wr h h' a j.toNatClampNeg (w x)) : AR ty w Z h' a z (oupd f j.toNatClampNeg x) := by
  obtain ⟨c, A, S, N, H⟩ := A
  refine ⟨_, A.same W, by rw [sz_set]; exact S, N, fun i hi => ?_⟩
  rw [sz_set] at hi
  by_cases u : i = j.toNatClampNeg
  · rw [upd_hit u]; subst u; simp [Cell.setSlot, hi]
  · rw [upd_miss u]; simp only [Cell.setSlot]; rw [Array.getElem?_setIfInBounds_ne (Ne.symm u)]; exact H i hi
theorem Till.newA {aty : ArrayType} {d0 : α} (X : Stand p l e R s m args below meth c T locs cells slots) (hx : p.tables.exec = Jvm.exec) (hZ : Z.Warmed39 s.vm) (wa : (Jvm.Cond.arrayClass (newarray.typeOf aty)).before a0 Z = true) (eT : T.heap = h) (hd : decode c.code pc = .ok (.newarray aty, 2)) (hdv : defaultValue (newarray.typeOf aty) = w d0) (hz : ¬ z < 0) (cap : Nat) (hcap : z.toNatClampNeg ≤ cap) (hb : cap * 8 ≤ 536870912) (hc : cells + 1 ≤ R.cells) (hl : slots + cap ≤ R.slots)
    (r : ∀ T' h' b, b = h.size → Stand p l e R s m args below meth c T' locs (cells + 1) (slots + cap) → T'.heap = h' → Ext h h' → AR (newarray.typeOf aty) w Z h' b z (fun _ => d0) → Till p e below s Q k n (T'.setTop (mkF m (pc + 2) Ls (.ref b :: rest)))) : Till p e below s Q k n (T.setTop (mkF m pc Ls (.int z :: rest))) := by
  obtain ⟨T', h', cA, X', e', E, A, st⟩ := newP X hx hZ wa eT (g := mkF m pc Ls (.int z :: rest)) rfl hd rfl hz (cap := cap) hcap hb hc hl
  exact Till.pre st (r T' h' _ rfl X' e' E ⟨_, A, sz_new _ _ _, hz, fun i hi => by rw [sz_new] at hi; simp [Jvm.RoadKit.newA, hi, hdv]⟩)
theorem Till.alen (A : AR ty w Z h a z f) (X : Stand p l e R s m args below meth c T locs cells slots) (hx : p.tables.exec = Jvm.exec) (hZ : Z.Warmed39 s.vm) (eT : T.heap = h) (hd : decode c.code pc = .ok (.arraylength, 1))
    (r : Till p e below s Q k n (T.setTop (mkF m (pc + 1) Ls (.int z :: rest)))) : Till p e below s Q k n (T.setTop (mkF m pc Ls (.ref a :: rest))) := by
  obtain ⟨c', A, S, N, H⟩ := A
  refine Till.pre (X.arraylength hx (by rw [eT]; exact A.1) (State.isArrayOf_alike hZ.alike A.2.1) (g := mkF m pc Ls (.ref a :: rest)) rfl rfl hd) ?_
  rw [len_of S N]; exact r
theorem AR.at (A : AR ty w Z h a z f) (h1 : ¬ j < 0) (h2 : j < z) : ∃ c : Cell, Arr Z h a c ty ∧ ¬ (j < 0 ∨ c.slots.size ≤ j.toNatClampNeg) ∧ c.slots[j.toNatClampNeg]? = some (w (f j.toNatClampNeg)) := by
  obtain ⟨c', A, S, N, H⟩ := A
  have hin := inb_of S ⟨h1, h2⟩
  exact ⟨c', A, hin, H _ (Nat.lt_of_not_le fun y => hin (Or.inr y))⟩
end Ary
section Acc
variable {a : Addr} {z j : Int32}
theorem Till.laload {f : Nat → Int64} (A : LA Z h a z f) (h1 : ¬ j < 0) (h2 : j < z) (X : Stand p l e R s m args below meth c T locs cells slots) (hx : p.tables.exec = Jvm.exec) (hZ : Z.Warmed39 s.vm) (eT : T.heap = h) (hd : decode c.code pc = .ok (.laload, 1))
    (r : Till p e below s Q k n (T.setTop (mkF m (pc + 1) Ls (.long (f j.toNatClampNeg) :: rest)))) : Till p e below s Q k n (T.setTop (mkF m pc Ls (.int j :: .ref a :: rest))) := by
  obtain ⟨c', A, hin, hv⟩ := A.at h1 h2
  exact Till.pre (X.laload hx (by rw [eT]; exact A.1) (State.isArrayOf_alike hZ.alike A.2.1) A.2.2 hin hv (g := mkF m pc Ls (.int j :: .ref a :: rest)) rfl rfl hd) r
theorem Till.iaload {f : Nat → Int32} (A : IA Z h a z f) (h1 : ¬ j < 0) (h2 : j < z) (X : Stand p l e R s m args below meth c T locs cells slots) (hx : p.tables.exec = Jvm.exec) (hZ : Z.Warmed39 s.vm) (eT : T.heap = h) (hd : decode c.code pc = .ok (.iaload, 1))
    (r : Till p e below s Q k n (T.setTop (mkF m (pc + 1) Ls (.int (f j.toNatClampNeg) :: rest)))) : Till p e below s Q k n (T.setTop (mkF m pc Ls (.int j :: .ref a :: rest))) := by
  obtain ⟨c', A, hin, hv⟩ := A.at h1 h2
  exact Till.pre (X.iaload hx (by rw [eT]; exact A.1) (State.isArrayOf_alike hZ.alike A.2.1) A.2.2 hin hv (g := mkF m pc Ls (.int j :: .ref a :: rest)) rfl rfl hd) r
theorem Till.baload {f : Nat → Int32} (A : BA Z h a z f) (h1 : ¬ j < 0) (h2 : j < z) (X : Stand p l e R s m args below meth c T locs cells slots) (hx : p.tables.exec = Jvm.exec) (hZ : Z.Warmed39 s.vm) (eT : T.heap = h) (hd : decode c.code pc = .ok (.baload, 1))
    (r : Till p e below s Q k n (T.setTop (mkF m (pc + 1) Ls (.int (f j.toNatClampNeg) :: rest)))) : Till p e below s Q k n (T.setTop (mkF m pc Ls (.int j :: .ref a :: rest))) := by
  obtain ⟨c', A, hin, hv⟩ := A.at h1 h2
  exact Till.pre (X.baloadBytes hx (by rw [eT]; exact A.1) (State.isArrayOf_alike hZ.alike A.2.1) A.2.2 hin hv (g := mkF m pc Ls (.int j :: .ref a :: rest)) rfl rfl hd) r
theorem Till.lastore {f : Nat → Int64} {x : Int64} (A : LA Z h a z f) (h1 : ¬ j < 0) (h2 : j < z) (X : Stand p l e R s m args below meth c T locs cells slots) (hx : p.tables.exec = Jvm.exec) (hZ : Z.Warmed39 s.vm) (eT : T.heap = h) (hd : decode c.code pc = .ok (.lastore, 1))
    (r : ∀ T' h', Stand p l e R s m args below meth c T' (locs ++ [⟨a, j.toNatClampNeg⟩]) cells slots → T'.heap = h' → Wr h h' a j.toNatClampNeg (.long x) → LA Z h' a z (oupd f j.toNatClampNeg x) → Till p e below s Q k n (T'.setTop (mkF m (pc + 1) Ls rest))) : Till p e below s Q k n (T.setTop (mkF m pc Ls (.long x :: .int j :: .ref a :: rest))) := by
  obtain ⟨c', A', hin, hv⟩ := A.at h1 h2
  obtain ⟨T', h', X', e', W, st⟩ := stJ X hx hZ eT A' hin (x := x) (g := mkF m pc Ls (.long x :: .int j :: .ref a :: rest)) rfl rfl hd
  exact Till.pre st (r T' h' X' e' W (AR.set A W))
theorem Till.iastore {f : Nat → Int32} {x : Int32} (A : IA Z h a z f) (h1 : ¬ j < 0) (h2 : j < z) (X : Stand p l e R s m args below meth c T locs cells slots) (hx : p.tables.exec = Jvm.exec) (hZ : Z.Warmed39 s.vm) (eT : T.heap = h) (hd : decode c.code pc = .ok (.iastore, 1))
    (r : ∀ T' h', Stand p l e R s m args below meth c T' (locs ++ [⟨a, j.toNatClampNeg⟩]) cells slots → T'.heap = h' → Wr h h' a j.toNatClampNeg (.int x) → IA Z h' a z (oupd f j.toNatClampNeg x) → Till p e below s Q k n (T'.setTop (mkF m (pc + 1) Ls rest))) : Till p e below s Q k n (T.setTop (mkF m pc Ls (.int x :: .int j :: .ref a :: rest))) := by
  obtain ⟨c', A', hin, hv⟩ := A.at h1 h2
  obtain ⟨T', h', X', e', W, st⟩ := stI X hx hZ eT A' hin (x := x) (g := mkF m pc Ls (.int x :: .int j :: .ref a :: rest)) rfl rfl hd
  exact Till.pre st (r T' h' X' e' W (AR.set A W))
theorem Till.bastore {f : Nat → Int32} {x : Int32} (A : BA Z h a z f) (h1 : ¬ j < 0) (h2 : j < z) (X : Stand p l e R s m args below meth c T locs cells slots) (hx : p.tables.exec = Jvm.exec) (hZ : Z.Warmed39 s.vm) (eT : T.heap = h) (hd : decode c.code pc = .ok (.bastore, 1))
    (r : ∀ T' h', Stand p l e R s m args below meth c T' (locs ++ [⟨a, j.toNatClampNeg⟩]) cells slots → T'.heap = h' → Wr h h' a j.toNatClampNeg (.int x.toInt8.toInt32) → BA Z h' a z (oupd f j.toNatClampNeg x.toInt8.toInt32) → Till p e below s Q k n (T'.setTop (mkF m (pc + 1) Ls rest))) : Till p e below s Q k n (T.setTop (mkF m pc Ls (.int x :: .int j :: .ref a :: rest))) := by
  obtain ⟨c', A', hin, hv⟩ := A.at h1 h2
  obtain ⟨T', h', X', e', W, st⟩ := stB X hx hZ eT A' hin (x := x) (g := mkF m pc Ls (.int x :: .int j :: .ref a :: rest)) rfl rfl hd
  exact Till.pre st (r T' h' X' e' W (AR.set A W))
end Acc
/-! calls -/
section Calls
variable {own : String} {index maxL : Nat} {y : MethodName} {bytes : ByteArray} {ret : Option FieldType} {rm : Room} {as : Array Value} {Qc : Option Value → Heap → List Loc → Prop} {W : Nat} {argsL st : List Value}
theorem Till.callS (C : Ctr l Z y bytes maxL ret rm as h Qc) (X : Stand p l e R s m args below meth c T locs cells slots) (hx : p.tables.exec = Jvm.exec) (hZ : Z.Warmed39 s.vm) (hown : s.vm.findClass own = some m.cls) (w1 : (Jvm.Cond.methodLink own index y).before a0 Z = true) (w2 : (Jvm.Cond.static y).before a0 Z = true) (w3 : (Jvm.Cond.initialized y.cls).before a0 Z = true) (w4 : (Jvm.Cond.code y bytes maxL ret).before a0 Z = true)
    (hy : y.cls ≠ "java/lang/invoke/MethodHandle" ∧ y.cls ≠ "java/lang/invoke/VarHandle") (hf : rm.frames + 1 ≤ R.frames) (hl : W + (maxL + 11) + rm.locals ≤ R.locals) (hsize : Ls.size = c.maxLocals) (hlen : ∀ sig, parseMethodDescriptor y.desc = some sig → argsL.length = sig.parameters.length) (has : argsL.toArray = as) (hst : st = argsL.reverse ++ rest) (hW : (rest.map fun v => v.category).sum ≤ W) (hd : decode c.code pc = .ok (.invokestatic index, 3)) (eT : T.heap = h) (hc : cells + rm.cells ≤ R.cells) (hs : slots + rm.slots ≤ R.slots)
    (r : ∀ v T' L, Stand p l e R s m args below meth c T' (locs ++ L) (cells + rm.cells) (slots + rm.slots) → Qc v T'.heap L → Till p e below s Q k n (T'.setTop (mkF m (pc + 3) Ls (v.toList ++ rest)))) : Till p e below s Q k n (T.setTop (mkF m pc Ls st)) := by
  obtain ⟨v, vm1, ⟨T', L', c', s'⟩, -, X', ⟨Lc, hQ, l1, y1, z1⟩, stp⟩ := Jvm.LawKit.callS X hx hown (mvT hZ w1) (mvT hZ w2) (mvT hZ w3) (mvT hZ w4) hy (backOf (W := W) (C []) hZ w4 w3 hf hl) (g := mkF m pc Ls st) rfl hsize (argsL := argsL) (rest := rest) hlen hst (by show 2 * 0 + _ ≤ _; omega) hd (fun _ _ => ⟨has, eT, hc, hs⟩)
  dsimp only [Pt.U, Pt.locs, Pt.cells, Pt.slots] at X' l1 y1 z1 stp hQ
  subst l1 y1 z1
  exact Till.pre stp (r v T' Lc X' hQ)
theorem Till.callC {a : Addr} (C : Ctr l Z y bytes maxL none rm as h Qc) (X : Stand p l e R s m args below meth c T locs cells slots) (hx : p.tables.exec = Jvm.exec) (hZ : Z.Warmed39 s.vm) (hown : s.vm.findClass own = some m.cls) (hy1 : y.name = "<init>") (w1 : (Jvm.Cond.methodLink own index y).before a0 Z = true) (w2 : (Jvm.Cond.instanceMethod y).before a0 Z = true) (w3 : (Jvm.Cond.initialized y.cls).before a0 Z = true) (w4 : (Jvm.Cond.code y bytes maxL none).before a0 Z = true)
    (hy : y.cls ≠ "java/lang/invoke/MethodHandle" ∧ y.cls ≠ "java/lang/invoke/VarHandle") (hf : rm.frames + 1 ≤ R.frames) (hl : W + (maxL + 11) + rm.locals ≤ R.locals) (hsize : Ls.size = c.maxLocals) (hlen : ∀ sig, parseMethodDescriptor y.desc = some sig → argsL.length = sig.parameters.length) (has : (.ref a :: argsL).toArray = as) (hst : st = argsL.reverse ++ .ref a :: rest) (hW : (rest.map fun v => v.category).sum ≤ W) (hd : decode c.code pc = .ok (.invokespecial index, 3)) (eT : T.heap = h) (hc : cells + rm.cells ≤ R.cells) (hs : slots + rm.slots ≤ R.slots)
    (r : ∀ v T' L, Stand p l e R s m args below meth c T' (locs ++ L) (cells + rm.cells) (slots + rm.slots) → Qc v T'.heap L → Till p e below s Q k n (T'.setTop (mkF m (pc + 3) Ls (v.toList ++ rest)))) : Till p e below s Q k n (T.setTop (mkF m pc Ls st)) := by
  obtain ⟨v, vm1, ⟨T', L', c', s'⟩, -, X', ⟨Lc, hQ, l1, y1, z1⟩, stp⟩ := X.specialBack hx hy1 hown (mvT hZ w1) (mvT hZ w2) (mvT hZ w4) hy (backOf (W := W) (C []) hZ w4 w3 hf hl) (g := mkF m pc Ls st) rfl hsize (Steps.refl _) (a := a) (argsL := argsL) (rest := rest) hlen hst (by show 2 * 0 + _ ≤ _; omega) hd (fun _ _ => ⟨has, eT, hc, hs⟩)
  dsimp only [Pt.U, Pt.locs, Pt.cells, Pt.slots] at X' l1 y1 z1 stp hQ
  subst l1 y1 z1
  exact Till.via stp (r v T' Lc X' hQ)
theorem Till.callV {a : Addr} (C : Ctr l Z y bytes maxL ret rm as h Qc) (E : Exa Z h a y.cls) (X : Stand p l e R s m args below meth c T locs cells slots) (hx : p.tables.exec = Jvm.exec) (hZ : Z.Warmed39 s.vm) (hown : s.vm.findClass own = some m.cls) (w1 : (Jvm.Cond.methodLink own index y).before a0 Z = true) (w5 : (Jvm.Cond.declares y).before a0 Z = true) (w6 : (Jvm.Cond.selects y.cls y y).before a0 Z = true) (w2 : (Jvm.Cond.instanceMethod y).before a0 Z = true) (w3 : (Jvm.Cond.initialized y.cls).before a0 Z = true) (w4 : (Jvm.Cond.code y bytes maxL ret).before a0 Z = true)
    (hy : y.cls ≠ "java/lang/invoke/MethodHandle" ∧ y.cls ≠ "java/lang/invoke/VarHandle") (hf : rm.frames + 1 ≤ R.frames) (hl : W + (maxL + 11) + rm.locals ≤ R.locals) (hsize : Ls.size = c.maxLocals) (hlen : ∀ sig, parseMethodDescriptor y.desc = some sig → argsL.length = sig.parameters.length) (has : (.ref a :: argsL).toArray = as) (hst : st = argsL.reverse ++ .ref a :: rest) (hW : (rest.map fun v => v.category).sum ≤ W) (hd : decode c.code pc = .ok (.invokevirtual index, 3)) (eT : T.heap = h) (hc : cells + rm.cells ≤ R.cells) (hs : slots + rm.slots ≤ R.slots)
    (r : ∀ v T' L, Stand p l e R s m args below meth c T' (locs ++ L) (cells + rm.cells) (slots + rm.slots) → Qc v T'.heap L → Till p e below s Q k n (T'.setTop (mkF m (pc + 3) Ls (v.toList ++ rest)))) : Till p e below s Q k n (T.setTop (mkF m pc Ls st)) := by
  obtain ⟨cq, kq, qa, qb, qc⟩ := isOf hZ eT E
  obtain ⟨v, vm1, ⟨T', L', c', s'⟩, -, X', ⟨Lc, hQ, l1, y1, z1⟩, stp⟩ := X.virtualBack hx (y := y) (z := y) hown (mvT hZ w1) (mvT hZ w5) (notFace_of_selects (args := #[]) (mvT hZ w6)) (mvT hZ w6) (mvT hZ w2) hy (backOf (W := W) (C []) hZ w4 w3 hf hl) qa qc (g := mkF m pc Ls st) rfl hsize (Steps.refl _) (argsL := argsL) (rest := rest) hlen hst (by show 2 * 0 + _ ≤ _; omega) hd (fun _ _ => ⟨has, eT, hc, hs⟩)
  dsimp only [Pt.U, Pt.locs, Pt.cells, Pt.slots] at X' l1 y1 z1 stp hQ
  subst l1 y1 z1
  exact Till.via stp (r v T' Lc X' hQ)
theorem Till.callP {a : Addr} {kk : Nat} (C : Ctr l Z y bytes maxL ret rm as h Qc) (E : Exa Z h a y.cls) (X : Stand p l e R s m args below meth c T locs cells slots) (hx : p.tables.exec = Jvm.exec) (hZ : Z.Warmed39 s.vm) (hown : s.vm.findClass own = some m.cls) (w1 : (Jvm.Cond.methodLink own index y).before a0 Z = true) (w2 : (Jvm.Cond.instanceMethod y).before a0 Z = true) (wp : (Jvm.Cond.privateMethod y).before a0 Z = true) (wi : (Jvm.Cond.instantiable y.cls kk).before a0 Z = true) (w3 : (Jvm.Cond.initialized y.cls).before a0 Z = true) (w4 : (Jvm.Cond.code y bytes maxL ret).before a0 Z = true)
    (hy : y.cls ≠ "java/lang/invoke/MethodHandle" ∧ y.cls ≠ "java/lang/invoke/VarHandle") (hf : rm.frames + 1 ≤ R.frames) (hl : W + (maxL + 11) + rm.locals ≤ R.locals) (hsize : Ls.size = c.maxLocals) (hlen : ∀ sig, parseMethodDescriptor y.desc = some sig → argsL.length = sig.parameters.length) (has : (.ref a :: argsL).toArray = as) (hst : st = argsL.reverse ++ .ref a :: rest) (hW : (rest.map fun v => v.category).sum ≤ W) (hd : decode c.code pc = .ok (.invokevirtual index, 3)) (eT : T.heap = h) (hc : cells + rm.cells ≤ R.cells) (hs : slots + rm.slots ≤ R.slots)
    (r : ∀ v T' L, Stand p l e R s m args below meth c T' (locs ++ L) (cells + rm.cells) (slots + rm.slots) → Qc v T'.heap L → Till p e below s Q k n (T'.setTop (mkF m (pc + 3) Ls (v.toList ++ rest)))) : Till p e below s Q k n (T.setTop (mkF m pc Ls st)) := by
  have wi' : (Jvm.Cond.instantiable y.cls kk).before args s = true := mvT hZ wi
  have w2' : (Jvm.Cond.instanceMethod y).before args s = true := mvT hZ w2
  obtain ⟨c2, k2, i1, i2, -, hniab, -, -⟩ := Cond.instantiable_spec wi'
  have hpr := Cond.privateMethod_at (mvP hZ wp (args := args))
  have hsel : (Jvm.Cond.selects y.cls y y).before args s = true := selects_self_of_private i1 i2 (Bool.or_eq_false_iff.mp hniab).1 hpr w2' hy
  obtain ⟨cell, hcell, hobj⟩ := E.cell
  obtain ⟨v, vm1, ⟨T', L', c', s'⟩, -, X', ⟨Lc, hQ, l1, y1, z1⟩, stp⟩ := X.privateBack hx hown (mvT hZ w1) w2' hsel hpr (mvT hZ w4) hy (backOf (W := W) (C []) hZ w4 w3 hf hl) (g := mkF m pc Ls st) rfl hsize (Steps.refl _) (a := a) (by rw [eT]; exact hcell) hobj (argsL := argsL) (rest := rest) hlen hst (by show 2 * 0 + _ ≤ _; omega) hd (fun _ _ => ⟨has, eT, hc, hs⟩)
  dsimp only [Pt.U, Pt.locs, Pt.cells, Pt.slots] at X' l1 y1 z1 stp hQ
  subst l1 y1 z1
  exact Till.via stp (r v T' Lc X' hQ)
end Calls
theorem Till.pop2L {x : Int64} (X : Stand p l e R s m args below meth c T locs cells slots) (hx : p.tables.exec = Jvm.exec) (hd : decode c.code pc = .ok (.pop2, 1)) (r : Till p e below s Q k n (T.setTop (mkF m (pc + 1) Ls rest))) : Till p e below s Q k n (T.setTop (mkF m pc Ls (.long x :: rest))) := by
  refine Till.pre (fun t hr => ?_) r
  show Steps p.tables e below (T.setTop { method := m, pc := pc, locals := Ls, stack := _ :: rest, locked := none }) _
  jvm_step X.here [X.here.top, hx, hd, Value.category]
  exact hr
end Own
end Jvm.Own
namespace Jvm.Own
open Sem ClassFile Op Lib Jvm.Stand Jvm.Free Jvm.LawKit Jvm.RoadKit
section Copy
variable {p : Program} {l : Launch} {e : Env} {R : Room} {s : State} {m : MethodId} {args : Array Value} {below : List Frame} {meth : Method} {c : Code} {T : State} {locs : List Loc} {cells slots : Nat} {Q : Option Value → Heap → List Loc → Prop} {k n : Nat} {Z : State} {a0 : Array Value} {h h' h0 : Heap} {pc pc' : Nat} {Ls : Array Slot} {rest : List Value}
def vals (z : Int32) (f : Nat → Int64) : List Value := (List.range z.toNatClampNeg).map fun i => .long (f i)
theorem vals_len (z : Int32) (f : Nat → Int64) : (vals z f).length = z.toNatClampNeg := by simp [vals]
theorem vals_at {z : Int32} {f : Nat → Int64} {i : Nat} (hi : i < z.toNatClampNeg) (d : Value) : (vals z f).getD i d = .long (f i) := by
  simp [vals, List.getD_eq_getElem?_getD, hi]
theorem LA_arv {a : Addr} {z : Int32} {f : Nat → Int64} (A : LA Z h a z f) : ∃ kk, Arv Z h a kk .long z (vals z f) (.long 0) := by
  obtain ⟨c, A, S, N, H⟩ := A
  exact ⟨c.cls, c, A, rfl, S, N, fun i hi => by rw [H i hi, vals_at (S ▸ hi)], fun i hi => by rw [vals_at (S ▸ hi)]; rfl⟩
theorem LA_of {a : Addr} {kk : ClassId} {z : Int32} {vs : List Value} {d : Value} {f : Nat → Int64} (A : Arv Z h a kk .long z vs d) (q : ∀ i, i < z.toNatClampNeg → vs.getD i d = .long (f i)) : LA Z h a z f := by
  obtain ⟨c, A, -, S, N, H, -⟩ := A
  exact ⟨c, A, S, N, fun i hi => by rw [H i hi, q i (S ▸ hi)]⟩
/-- what arraycopy leaves -/
def cpy (fs fd : Nat → Int64) (sp dp nn : Nat) : Nat → Int64 := fun i => if dp ≤ i ∧ i < dp + nn then fs (sp + (i - dp)) else fd i
theorem cpy_list {z' : Int32} {fs fd : Nat → Int64} {vs : List Value} {sp dp nn : Nat} {z : Int32} (hvs : vs = vals z fs) (h4 : sp + nn ≤ z.toNatClampNeg) (h5 : dp + nn ≤ z'.toNatClampNeg) (i : Nat) (hi : i < z'.toNatClampNeg) :
    ((vals z' fd).take dp ++ ((List.range nn).map fun i => vs.getD (sp + i) (.long 0)) ++ (vals z' fd).drop (dp + nn)).getD i (.long 0) = .long (cpy fs fd sp dp nn i) := by
  have lt : ((vals z' fd).take dp).length = dp := by rw [List.length_take, vals_len]; omega
  have ul : ((List.range nn).map fun i => vs.getD (sp + i) (.long 0)).length = nn := by simp
  rw [List.getD_eq_getElem?_getD]
  unfold cpy
  by_cases q1 : i < dp
  · rw [if_neg (by omega), List.append_assoc, List.getElem?_append_left (by omega), List.getElem?_take_of_lt q1, ← List.getD_eq_getElem?_getD, vals_at hi]
  · by_cases q2 : i < dp + nn
    · rw [if_pos ⟨by omega, q2⟩, List.append_assoc, List.getElem?_append_right (by omega), lt, List.getElem?_append_left (by omega)]
      have hh : i - dp < nn := by omega
      simp only [List.getElem?_map, List.getElem?_range hh, Option.map_some, Option.getD_some]
      rw [hvs, vals_at (by omega)]
    · rw [if_neg (by omega), List.getElem?_append_right (by rw [List.length_append]; omega), List.length_append, lt, ul, List.getElem?_drop, show dp + nn + (i - (dp + nn)) = i by omega, ← List.getD_eq_getElem?_getD, vals_at hi]
theorem Till.copyL {own : String} {index W n0 : Nat} {a b : Addr} {z z' sp dp nn : Int32} {fs fd : Nat → Int64} (A : LA Z h a z fs) (B : LA Z h b z' fd) (h1 : ¬ sp < 0) (h2 : ¬ dp < 0) (h3 : ¬ nn < 0) (h4 : sp.toNatClampNeg + nn.toNatClampNeg ≤ z.toNatClampNeg) (h5 : dp.toNatClampNeg + nn.toNatClampNeg ≤ z'.toNatClampNeg) (N : Fr n0 locs) (ge : n0 ≤ b)
    (X : Stand p l e R s m args below meth c T locs cells slots) (hx : p.tables.exec = Jvm.exec) (hZ : Z.Warmed39 s.vm) (hown : s.vm.findClass own = some m.cls) (w1 : (Jvm.Cond.methodLink own index Jvm.Stand.acN).before a0 Z = true) (w2 : (Jvm.Cond.native Jvm.Stand.acN).before a0 Z = true) (w3 : (Jvm.Cond.static Jvm.Stand.acN).before a0 Z = true) (w4 : (Jvm.Cond.initialized "java/lang/System").before a0 Z = true) (eT : T.heap = h) (hsize : Ls.size = c.maxLocals) (hd : decode c.code pc = .ok (.invokestatic index, 3))
    (hf : 1 ≤ R.frames) (hW : (rest.map fun v => v.category).sum ≤ W) (hlo : W + (nativeFrameWords "java/lang/System" "arraycopy" 5 + 11) ≤ R.locals)
    (r : ∀ T' h' L, Stand p l e R s m args below meth c T' L cells slots → T'.heap = h' → Fr n0 L → Keep h h' [b] → LA Z h' b z' (cpy fs fd sp.toNatClampNeg dp.toNatClampNeg nn.toNatClampNeg) → Till p e below s Q k n (T'.setTop (mkF m (pc + 3) Ls rest))) : Till p e below s Q k n (T.setTop (mkF m pc Ls (.int nn :: .int dp :: .ref b :: .int sp :: .ref a :: rest))) := by
  obtain ⟨k1, A'⟩ := LA_arv A
  obtain ⟨k2, B'⟩ := LA_arv B
  obtain ⟨T', h', L, X', e', N', K, C, st⟩ := cpA X hx hZ hown w1 w2 w3 w4 eT A' B' (Or.inl ⟨rfl, rfl⟩) h1 h2 h3 h4 h5 rfl (by rw [vals_len]; exact h5) N ge (g := mkF m pc Ls (.int nn :: .int dp :: .ref b :: .int sp :: .ref a :: rest)) rfl hsize rfl hd hf (W := W) (by show 2 * 0 + _ ≤ _; omega) hlo
  exact Till.pre st (r T' h' L X' e' N' K (LA_of C fun i hi => cpy_list rfl h4 h5 i hi))
end Copy
end Jvm.Own
namespace Jvm.Pilot.@@N@@
open Jvm Jvm.ClassFile Sem Op Lib Jvm.Free Jvm.Stand Jvm.LawKit Jvm.RoadKit Bundle Jvm.Own Jvm.Pilot.@@N@@.Jvm.D
theorem own_inc {i z : Int32} (h : i < z) : (i + (1 : Int32)).toInt = i.toInt + 1 := by
  have := c_iadd i 1
  have := rng32 (i + 1)
  have := rng32 i
  have := rng32 z
  have : (1 : Int32).toInt = 1 := rfl
  rw [Int32.lt_iff_toInt_lt] at h
  omega
theorem own_nat {i : Int32} (h : 0 ≤ i.toInt) : (i.toNatClampNeg : Int) = i.toInt := by simp only [Int32.toNatClampNeg]; omega
theorem own_neg {i : Int32} (h : 0 ≤ i.toInt) : ¬ i < (0 : Int32) := by rw [Int32.lt_iff_toInt_lt, show (0 : Int32).toInt = 0 from rfl]; omega
theorem own_pos' {i : Int32} (h : ¬ i < (0 : Int32)) : 0 ≤ i.toInt := by rw [Int32.lt_iff_toInt_lt, show (0 : Int32).toInt = 0 from rfl] at h; omega
theorem own_fillb {i z : Int32} {g : Nat → Int64} {v : Int64} (h : i < z) (h0 : 0 ≤ i.toInt) (hg : ∀ j, j < i.toNatClampNeg → g j = v) : ∀ j, j < (i + (1 : Int32)).toNatClampNeg → oupd g i.toNatClampNeg v j = v := by
  intro j hj
  have a := own_inc h
  have b := own_nat h0
  have c := own_nat (i := i + 1) (by omega)
  by_cases q : j = i.toNatClampNeg
  · exact upd_hit q
  · rw [upd_miss q]; exact hg j (by omega)
theorem own_home (q : Int64) : 0 ≤ (lsr q (54 : Int32)).toInt32.toInt ∧ (lsr q (54 : Int32)).toInt32.toInt < 1024 := by
  have a := c_lushr q 54 54 (by decide) (by decide)
  have b := c_l2i (lsr q 54)
  have c := rng32 (lsr q 54).toInt32
  have d := rng64 q
  have e : (lsr q 54).toInt = (q.toInt % 18446744073709551616) / (2 ^ 54 : Nat) := a
  omega
theorem own_nxt (s : Int32) : 0 ≤ ((s + (1 : Int32)) &&& (1023 : Int32)).toInt ∧ ((s + (1 : Int32)) &&& (1023 : Int32)).toInt < 1024 := by
  have := c_mask (s + 1) 1023 10 (by decide) (by decide)
  omega
theorem own_b1 {s : Int32} (h : 0 ≤ s.toInt ∧ s.toInt < 1024) : ¬ s < (0 : Int32) := own_neg h.1
theorem own_b2 {s : Int32} (h : 0 ≤ s.toInt ∧ s.toInt < 1024) : s < (1024 : Int32) := by rw [Int32.lt_iff_toInt_lt, show (1024 : Int32).toInt = 1024 from rfl]; exact h.2
/-- the slots that an id's search looks at -/
def own_h (q : Int64) : Int32 := (lsr (q * (-7046029254386353131 : Int64)) (54 : Int32)).toInt32
def own_n (s : Int32) : Int32 := (s + (1 : Int32)) &&& (1023 : Int32)
def Idt (Z : State) (h : Heap) (a : Addr) (x0 : Value) (x1 : Value) (x2 : Int32) (x3 : Int32) : Prop := Exa Z h a "com/example/tour/tour/io/IdTable" ∧ Fld Z h a "com/example/tour/tour/io/IdTable" "ids" "[J" x0 ∧ Fld Z h a "com/example/tour/tour/io/IdTable" "values" "[J" x1 ∧ Fld Z h a "com/example/tour/tour/io/IdTable" "shift" "I" (.int x2) ∧ Fld Z h a "com/example/tour/tour/io/IdTable" "size" "I" (.int x3)
theorem Idt.lt {Z : State} {h : Heap} {a : Addr} {x0 : Value} {x1 : Value} {x2 : Int32} {x3 : Int32} (F : Idt Z h a x0 x1 x2 x3) : a < h.size := F.1.lt
theorem Idt.ext {Z : State} {h h' : Heap} {a : Addr} {x0 : Value} {x1 : Value} {x2 : Int32} {x3 : Int32} (F : Idt Z h a x0 x1 x2 x3) (E : Ext h h') : Idt Z h' a x0 x1 x2 x3 := ⟨F.1.ext E, F.2.1.ext E, F.2.2.1.ext E, F.2.2.2.1.ext E, F.2.2.2.2.ext E⟩
theorem Idt.keep {Z : State} {h h' : Heap} {a : Addr} {x0 : Value} {x1 : Value} {x2 : Int32} {x3 : Int32} {ws : List Addr} (F : Idt Z h a x0 x1 x2 x3) (K : Keep h h' ws) (q : a ∉ ws) : Idt Z h' a x0 x1 x2 x3 := ⟨F.1.keep K, F.2.1.keep K q, F.2.2.1.keep K q, F.2.2.2.1.keep K q, F.2.2.2.2.keep K q⟩
theorem Idt.wr {Z : State} {h h' : Heap} {a : Addr} {x0 : Value} {x1 : Value} {x2 : Int32} {x3 : Int32} {b : Addr} {sl : Nat} {v : Value} (F : Idt Z h a x0 x1 x2 x3) (W : Wr h h' b sl v) (q : a ≠ b) : Idt Z h' a x0 x1 x2 x3 := ⟨F.1.wr W, F.2.1.other W (Or.inl q), F.2.2.1.other W (Or.inl q), F.2.2.2.1.other W (Or.inl q), F.2.2.2.2.other W (Or.inl q)⟩
theorem Idt.set_ids {Z : State} {h h' : Heap} {a : Addr} {x0 : Value} {x1 : Value} {x2 : Int32} {x3 : Int32} {y : Value} {a0 : Array Value} (hw : ∀ d ∈ tables_1, d.before a0 Z = true) (F : Idt Z h a x0 x1 x2 x3) (W : Wr h h' a (Jvm.RoadKit.slotOf Z "com/example/tour/tour/io/IdTable" "ids" "[J") y) : Idt Z h' a y x1 x2 x3 := ⟨F.1.wr W, F.2.1.same W, F.2.2.1.other W (Or.inr (Jvm.RoadKit.slot_ne (Or.inl (hw _ (List.mem_of_getElem? (i := 25) rfl))) (Or.inl (hw _ (List.mem_of_getElem? (i := 23) rfl))) (by decide) (t := (.array .long)) (t' := (.array .long)) (by decide) (by decide))), F.2.2.2.1.other W (Or.inr (Jvm.RoadKit.slot_ne (Or.inl (hw _ (List.mem_of_getElem? (i := 32) rfl))) (Or.inl (hw _ (List.mem_of_getElem? (i := 23) rfl))) (by decide) (t := .int) (t' := (.array .long)) (by decide) (by decide))), F.2.2.2.2.other W (Or.inr (Jvm.RoadKit.slot_ne (Or.inl (hw _ (List.mem_of_getElem? (i := 50) rfl))) (Or.inl (hw _ (List.mem_of_getElem? (i := 23) rfl))) (by decide) (t := .int) (t' := (.array .long)) (by decide) (by decide)))⟩
theorem Idt.set_values {Z : State} {h h' : Heap} {a : Addr} {x0 : Value} {x1 : Value} {x2 : Int32} {x3 : Int32} {y : Value} {a0 : Array Value} (hw : ∀ d ∈ tables_1, d.before a0 Z = true) (F : Idt Z h a x0 x1 x2 x3) (W : Wr h h' a (Jvm.RoadKit.slotOf Z "com/example/tour/tour/io/IdTable" "values" "[J") y) : Idt Z h' a x0 y x2 x3 := ⟨F.1.wr W, F.2.1.other W (Or.inr (Jvm.RoadKit.slot_ne (Or.inl (hw _ (List.mem_of_getElem? (i := 23) rfl))) (Or.inl (hw _ (List.mem_of_getElem? (i := 25) rfl))) (by decide) (t := (.array .long)) (t' := (.array .long)) (by decide) (by decide))), F.2.2.1.same W, F.2.2.2.1.other W (Or.inr (Jvm.RoadKit.slot_ne (Or.inl (hw _ (List.mem_of_getElem? (i := 32) rfl))) (Or.inl (hw _ (List.mem_of_getElem? (i := 25) rfl))) (by decide) (t := .int) (t' := (.array .long)) (by decide) (by decide))), F.2.2.2.2.other W (Or.inr (Jvm.RoadKit.slot_ne (Or.inl (hw _ (List.mem_of_getElem? (i := 50) rfl))) (Or.inl (hw _ (List.mem_of_getElem? (i := 25) rfl))) (by decide) (t := .int) (t' := (.array .long)) (by decide) (by decide)))⟩
theorem Idt.set_shift {Z : State} {h h' : Heap} {a : Addr} {x0 : Value} {x1 : Value} {x2 : Int32} {x3 : Int32} {y : Int32} {a0 : Array Value} (hw : ∀ d ∈ tables_1, d.before a0 Z = true) (F : Idt Z h a x0 x1 x2 x3) (W : Wr h h' a (Jvm.RoadKit.slotOf Z "com/example/tour/tour/io/IdTable" "shift" "I") (.int y)) : Idt Z h' a x0 x1 y x3 := ⟨F.1.wr W, F.2.1.other W (Or.inr (Jvm.RoadKit.slot_ne (Or.inl (hw _ (List.mem_of_getElem? (i := 23) rfl))) (Or.inl (hw _ (List.mem_of_getElem? (i := 32) rfl))) (by decide) (t := (.array .long)) (t' := .int) (by decide) (by decide))), F.2.2.1.other W (Or.inr (Jvm.RoadKit.slot_ne (Or.inl (hw _ (List.mem_of_getElem? (i := 25) rfl))) (Or.inl (hw _ (List.mem_of_getElem? (i := 32) rfl))) (by decide) (t := (.array .long)) (t' := .int) (by decide) (by decide))), F.2.2.2.1.same W, F.2.2.2.2.other W (Or.inr (Jvm.RoadKit.slot_ne (Or.inl (hw _ (List.mem_of_getElem? (i := 50) rfl))) (Or.inl (hw _ (List.mem_of_getElem? (i := 32) rfl))) (by decide) (t := .int) (t' := .int) (by decide) (by decide)))⟩
theorem Idt.set_size {Z : State} {h h' : Heap} {a : Addr} {x0 : Value} {x1 : Value} {x2 : Int32} {x3 : Int32} {y : Int32} {a0 : Array Value} (hw : ∀ d ∈ tables_1, d.before a0 Z = true) (F : Idt Z h a x0 x1 x2 x3) (W : Wr h h' a (Jvm.RoadKit.slotOf Z "com/example/tour/tour/io/IdTable" "size" "I") (.int y)) : Idt Z h' a x0 x1 x2 y := ⟨F.1.wr W, F.2.1.other W (Or.inr (Jvm.RoadKit.slot_ne (Or.inl (hw _ (List.mem_of_getElem? (i := 23) rfl))) (Or.inl (hw _ (List.mem_of_getElem? (i := 50) rfl))) (by decide) (t := (.array .long)) (t' := .int) (by decide) (by decide))), F.2.2.1.other W (Or.inr (Jvm.RoadKit.slot_ne (Or.inl (hw _ (List.mem_of_getElem? (i := 25) rfl))) (Or.inl (hw _ (List.mem_of_getElem? (i := 50) rfl))) (by decide) (t := (.array .long)) (t' := .int) (by decide) (by decide))), F.2.2.2.1.other W (Or.inr (Jvm.RoadKit.slot_ne (Or.inl (hw _ (List.mem_of_getElem? (i := 32) rfl))) (Or.inl (hw _ (List.mem_of_getElem? (i := 50) rfl))) (by decide) (t := .int) (t' := .int) (by decide) (by decide))), F.2.2.2.2.same W⟩
theorem d4_0 : decode jdk_65_method_101_code 0 = .ok (.iconst 0, 1) := by decide +kernel
theorem d4_1 : decode jdk_65_method_101_code 1 = .ok (.istore_n 3, 1) := by decide +kernel
theorem d4_2 : decode jdk_65_method_101_code 2 = .ok (.aload_n 0, 1) := by decide +kernel
theorem d4_3 : decode jdk_65_method_101_code 3 = .ok (.arraylength, 1) := by decide +kernel
theorem d4_4 : decode jdk_65_method_101_code 4 = .ok (.istore 4, 2) := by decide +kernel
theorem d4_6 : decode jdk_65_method_101_code 6 = .ok (.iload_n 3, 1) := by decide +kernel
theorem d4_7 : decode jdk_65_method_101_code 7 = .ok (.iload 4, 2) := by decide +kernel
theorem d4_9 : decode jdk_65_method_101_code 9 = .ok (.if_icmp .ge 13, 3) := by decide +kernel
theorem d4_12 : decode jdk_65_method_101_code 12 = .ok (.aload_n 0, 1) := by decide +kernel
theorem d4_13 : decode jdk_65_method_101_code 13 = .ok (.iload_n 3, 1) := by decide +kernel
theorem d4_14 : decode jdk_65_method_101_code 14 = .ok (.lload_n 1, 1) := by decide +kernel
theorem d4_15 : decode jdk_65_method_101_code 15 = .ok (.lastore, 1) := by decide +kernel
theorem d4_16 : decode jdk_65_method_101_code 16 = .ok (.iinc 3 1, 3) := by decide +kernel
theorem d4_19 : decode jdk_65_method_101_code 19 = .ok (.goto (-13), 3) := by decide +kernel
theorem d4_22 : decode jdk_65_method_101_code 22 = .ok (.return_, 1) := by decide +kernel
theorem pn_4 : plainName "java/util/Arrays" = true := by first | (simp [plainName, overriddenIn]; done) | decide +kernel
theorem ef_4 (m : MethodId) (a1 : Addr) (q2 : Int64) : entryFrame m #[(.ref a1), (.long q2)] 5 = mkF m 0 #[.val (.ref a1), .val (.long q2), .second, .unset, .unset] [] := by first | (simp [entryFrame, mkF, argsToLocals, Value.category]; done) | rfl
def Q4 (Z : State) (a1 : Addr) (q2 : Int64) (z : Int32) (f : Nat → Int64) (h0 : Heap) (n0 : Nat) : Option Value → Heap → List Loc → Prop := fun v h L => v = none ∧ Fr n0 L ∧ Keep h0 h [a1] ∧ LA Z h a1 z (fun _ => q2)
def room4 : Room := { frames := 0, cells := 0, slots := 0, locals := 0 }
set_option maxRecDepth 65536 in
set_option maxHeartbeats 40000000 in
theorem rm4 (l : Launch) (Z : State) (a0 : Array Value) (hw : ∀ d ∈ tables_1, d.before a0 Z = true) (a1 : Addr) (q2 : Int64) (z : Int32) (f : Nat → Int64) (h0 : Heap) (n0 : Nat) (Zs : n0 ≤ h0.size) (R_a1 : LA Z h0 a1 z f) (g_a1 : n0 ≤ a1) : Ctr l Z (⟨"java/util/Arrays", "fill", "([JJ)V"⟩ : MethodName) jdk_65_method_101_code 5 none room4 #[(.ref a1), (.long q2)] h0 (Q4 Z a1 q2 z f h0 n0) := by
  refine Ctr.of (plainFor_of_name pn_4) ?_
  intro p e s m below meth c s₁ hx hby hml hown hnm hret hlk hZ e0 X0
  have hown : s.vm.findClass "java/util/Arrays" = some m.cls := hown
  have hml : c.maxLocals = 5 := hml
  have hnm : meth.name = "fill" := hnm
  have hret : meth.sig.returnType = none := hret
  have N0 := Fr.nil n0
  refine Till.cast (ef_4 m a1 q2) ?_
  have Kp := Keep.refl h0 [a1]
  show Till p e below s (Q4 Z a1 q2 z f h0 n0) room4.cells room4.slots (s₁.setTop (mkF m 0 #[.val (.ref a1), .val (.long q2), .second, .unset, .unset] []))
  refine Till.pre (fun _ hr => XS.iconst X0.here hx rfl (hb hby d4_0) hr) ?_
  show Till p e below s (Q4 Z a1 q2 z f h0 n0) room4.cells room4.slots (s₁.setTop (mkF m 1 #[.val (.ref a1), .val (.long q2), .second, .unset, .unset] [(.int (0 : Int32))]))
  refine Till.pre (fun _ hr => XS.istoreN X0.here hx rfl (hb hby d4_1) rfl (l' := #[.val (.ref a1), .val (.long q2), .second, .val (.int (0 : Int32)), .unset]) rfl hr) ?_
  show Till p e below s (Q4 Z a1 q2 z f h0 n0) room4.cells room4.slots (s₁.setTop (mkF m 2 #[.val (.ref a1), .val (.long q2), .second, .val (.int (0 : Int32)), .unset] []))
  refine Till.pre (fun _ hr => XS.aloadN X0.here hx rfl (hb hby d4_2) rfl rfl hr) ?_
  show Till p e below s (Q4 Z a1 q2 z f h0 n0) room4.cells room4.slots (s₁.setTop (mkF m 3 #[.val (.ref a1), .val (.long q2), .second, .val (.int (0 : Int32)), .unset] [(.ref a1)]))
  refine Till.alen R_a1 X0 hx hZ e0 (hb hby d4_3) ?_
  show Till p e below s (Q4 Z a1 q2 z f h0 n0) room4.cells room4.slots (s₁.setTop (mkF m 4 #[.val (.ref a1), .val (.long q2), .second, .val (.int (0 : Int32)), .unset] [(.int z)]))
  refine Till.pre (fun _ hr => XS.istore X0.here hx rfl (hb hby d4_4) rfl (l' := #[.val (.ref a1), .val (.long q2), .second, .val (.int (0 : Int32)), .val (.int z)]) rfl hr) ?_
  have loop6_5 : ∀ (fuel : Nat) (T1 : State) (L2 : List Loc) (X3 : Stand p l e room4 s m #[(.ref a1), (.long q2)] below meth c T1 L2 0 0) (N4 : Fr n0 L2) (i : Int32) (g : Nat → Int64) (Zs : n0 ≤ T1.heap.size) (Kp : Keep h0 T1.heap [a1]) (R_a1 : LA Z T1.heap a1 z g) (hi0 : 0 ≤ i.toInt) (hi1 : i.toInt ≤ z.toInt) (hg : ∀ j, j < i.toNatClampNeg → g j = q2) (hm : (z.toInt - i.toInt).toNat < fuel), Till p e below s (Q4 Z a1 q2 z f h0 n0) room4.cells room4.slots (T1.setTop (mkF m 6 #[.val (.ref a1), .val (.long q2), .second, .val (.int i), .val (.int z)] [])) := by
    intro fuel
    induction fuel with
    | zero => intro T1 L2 X3 N4 i g Zs Kp R_a1 hi0 hi1 hg hm; exact absurd hm (Nat.not_lt_zero _)
    | succ fuel ih =>
      intro T1 L2 X3 N4 i g Zs Kp R_a1 hi0 hi1 hg hm
      show Till p e below s (Q4 Z a1 q2 z f h0 n0) room4.cells room4.slots (T1.setTop (mkF m 6 #[.val (.ref a1), .val (.long q2), .second, .val (.int i), .val (.int z)] []))
      refine Till.pre (fun _ hr => XS.iloadN X3.here hx rfl (hb hby d4_6) rfl hr) ?_
      show Till p e below s (Q4 Z a1 q2 z f h0 n0) room4.cells room4.slots (T1.setTop (mkF m 7 #[.val (.ref a1), .val (.long q2), .second, .val (.int i), .val (.int z)] [(.int i)]))
      refine Till.pre (fun _ hr => XS.iload X3.here hx rfl (hb hby d4_7) rfl hr) ?_
      show Till p e below s (Q4 Z a1 q2 z f h0 n0) room4.cells room4.slots (T1.setTop (mkF m 9 #[.val (.ref a1), .val (.long q2), .second, .val (.int i), .val (.int z)] [(.int z), (.int i)]))
      refine Till.icmp (pc' := 22) X3.here hx (hb hby d4_9) (by decide) (by decide) (fun q => ?_) (fun q => ?_)
      · have hc7 := (hLt.2.2.1 q)
        show Till p e below s (Q4 Z a1 q2 z f h0 n0) room4.cells room4.slots (T1.setTop (mkF m 22 #[.val (.ref a1), .val (.long q2), .second, .val (.int i), .val (.int z)] []))
        refine Till.retV X3 hx hret hlk (hb hby d4_22) (by decide) (by decide) ?_
        show (Q4 Z a1 q2 z f h0 n0) _ T1.heap _
        exact ⟨rfl, N4, Kp, AR.congr R_a1 (fun k hk => hg k (by have q := hc7; rw [Int32.lt_iff_toInt_lt] at q; have := own_nat hi0; have := own_nat (own_pos' R_a1.pos); omega))⟩
      · have hc7 := (hLt.2.2.2.1 q)
        show Till p e below s (Q4 Z a1 q2 z f h0 n0) room4.cells room4.slots (T1.setTop (mkF m 12 #[.val (.ref a1), .val (.long q2), .second, .val (.int i), .val (.int z)] []))
        refine Till.pre (fun _ hr => XS.aloadN X3.here hx rfl (hb hby d4_12) rfl rfl hr) ?_
        show Till p e below s (Q4 Z a1 q2 z f h0 n0) room4.cells room4.slots (T1.setTop (mkF m 13 #[.val (.ref a1), .val (.long q2), .second, .val (.int i), .val (.int z)] [(.ref a1)]))
        refine Till.pre (fun _ hr => XS.iloadN X3.here hx rfl (hb hby d4_13) rfl hr) ?_
        show Till p e below s (Q4 Z a1 q2 z f h0 n0) room4.cells room4.slots (T1.setTop (mkF m 14 #[.val (.ref a1), .val (.long q2), .second, .val (.int i), .val (.int z)] [(.int i), (.ref a1)]))
        refine Till.pre (fun _ hr => XS.lloadN X3.here hx rfl (hb hby d4_14) rfl hr) ?_
        show Till p e below s (Q4 Z a1 q2 z f h0 n0) room4.cells room4.slots (T1.setTop (mkF m 15 #[.val (.ref a1), .val (.long q2), .second, .val (.int i), .val (.int z)] [(.long q2), (.int i), (.ref a1)]))
        refine Till.lastore R_a1 (own_neg hi0) (hc7) X3 hx hZ rfl (hb hby d4_15) (fun T8 h9 X10 e11 W12 A13 => ?_)
        have N14 := Fr.snoc X10 N4 g_a1
        have Zs := Nat.le_trans Zs (Keep.of_wr W12).1
        have Kp := Kp.wr W12 (Or.inl (List.mem_of_getElem? (i := 0) rfl))
        have R_a1 : LA Z h9 a1 z (oupd g (i).toNatClampNeg q2) := A13
        show Till p e below s (Q4 Z a1 q2 z f h0 n0) room4.cells room4.slots (T8.setTop (mkF m 16 #[.val (.ref a1), .val (.long q2), .second, .val (.int i), .val (.int z)] []))
        refine Till.pre (fun _ hr => XS.iinc X10.here hx rfl (hb hby d4_16) rfl (l' := #[.val (.ref a1), .val (.long q2), .second, .val (.int (i + (1 : Int32))), .val (.int z)]) rfl hr) ?_
        show Till p e below s (Q4 Z a1 q2 z f h0 n0) room4.cells room4.slots (T8.setTop (mkF m 19 #[.val (.ref a1), .val (.long q2), .second, .val (.int (i + (1 : Int32))), .val (.int z)] []))
        refine Till.pre (fun _ hr => XS.goto X10.here hx rfl (pc0 := 19) (pc' := 6) rfl (hb hby d4_19) (by decide) (by decide) hr) ?_
        show Till p e below s (Q4 Z a1 q2 z f h0 n0) room4.cells room4.slots (T8.setTop (mkF m 6 #[.val (.ref a1), .val (.long q2), .second, .val (.int (i + (1 : Int32))), .val (.int z)] []))
        exact ih _ _ X10 N14 _ _ (by rw [e11]; exact Zs) (by rw [e11]; exact Kp) (by rw [e11]; exact R_a1) (by have := own_inc hc7; omega) (by have := own_inc hc7; have q := hc7; rw [Int32.lt_iff_toInt_lt] at q; omega) (own_fillb hc7 hi0 hg) (by have := own_inc hc7; have q := hc7; rw [Int32.lt_iff_toInt_lt] at q; omega)
  show Till p e below s (Q4 Z a1 q2 z f h0 n0) room4.cells room4.slots (s₁.setTop (mkF m 6 #[.val (.ref a1), .val (.long q2), .second, .val (.int (0 : Int32)), .val (.int z)] []))
  exact loop6_5 _ _ _ X0 N0 _ _ (by rw [e0]; exact Zs) (by rw [e0]; exact Kp) (by rw [e0]; exact R_a1) (by decide) (own_pos' R_a1.pos) (fun j hj => absurd hj (Nat.not_lt_zero _)) (Nat.lt_succ_self _)
theorem d3_0 : decode prog_7_method_6_code 0 = .ok (.aload_n 0, 1) := by decide +kernel
theorem d3_1 : decode prog_7_method_6_code 1 = .ok (.iconst 1, 1) := by decide +kernel
theorem d3_2 : decode prog_7_method_6_code 2 = .ok (.iload_n 1, 1) := by decide +kernel
theorem d3_3 : decode prog_7_method_6_code 3 = .ok (.ishl, 1) := by decide +kernel
theorem d3_4 : decode prog_7_method_6_code 4 = .ok (.newarray .long, 2) := by decide +kernel
theorem d3_6 : decode prog_7_method_6_code 6 = .ok (.putfield 19, 3) := by decide +kernel
theorem d3_9 : decode prog_7_method_6_code 9 = .ok (.aload_n 0, 1) := by decide +kernel
theorem d3_10 : decode prog_7_method_6_code 10 = .ok (.iconst 1, 1) := by decide +kernel
theorem d3_11 : decode prog_7_method_6_code 11 = .ok (.iload_n 1, 1) := by decide +kernel
theorem d3_12 : decode prog_7_method_6_code 12 = .ok (.ishl, 1) := by decide +kernel
theorem d3_13 : decode prog_7_method_6_code 13 = .ok (.newarray .long, 2) := by decide +kernel
theorem d3_15 : decode prog_7_method_6_code 15 = .ok (.putfield 30, 3) := by decide +kernel
theorem d3_18 : decode prog_7_method_6_code 18 = .ok (.aload_n 0, 1) := by decide +kernel
theorem d3_19 : decode prog_7_method_6_code 19 = .ok (.getfield 30, 3) := by decide +kernel
theorem d3_22 : decode prog_7_method_6_code 22 = .ok (.ldc2_w 33, 3) := by decide +kernel
theorem d3_25 : decode prog_7_method_6_code 25 = .ok (.invokestatic 40, 3) := by decide +kernel
theorem d3_28 : decode prog_7_method_6_code 28 = .ok (.aload_n 0, 1) := by decide +kernel
theorem d3_29 : decode prog_7_method_6_code 29 = .ok (.bipush 64, 2) := by decide +kernel
theorem d3_31 : decode prog_7_method_6_code 31 = .ok (.iload_n 1, 1) := by decide +kernel
theorem d3_32 : decode prog_7_method_6_code 32 = .ok (.isub, 1) := by decide +kernel
theorem d3_33 : decode prog_7_method_6_code 33 = .ok (.putfield 37, 3) := by decide +kernel
theorem d3_36 : decode prog_7_method_6_code 36 = .ok (.return_, 1) := by decide +kernel
theorem pn_3 : plainName "com/example/tour/tour/io/IdTable" = true := by first | (simp [plainName, overriddenIn]; done) | decide +kernel
theorem pd3_11 : parseMethodDescriptor "([JJ)V" = some ⟨[(.array .long), .long], none⟩ := by decide +kernel
theorem ef_3_10 (m : MethodId) (a1 : Addr) : entryFrame m #[(.ref a1), (.int (10 : Int32))] 2 = mkF m 0 #[.val (.ref a1), .val (.int (10 : Int32))] [] := by first | (simp [entryFrame, mkF, argsToLocals, Value.category]; done) | rfl
def Q3_10 (Z : State) (a1 : Addr) (h0 : Heap) (n0 : Nat) : Option Value → Heap → List Loc → Prop := fun v h L => ∃ (b3 : Addr), ∃ (b17 : Addr), v = none ∧ Fr n0 L ∧ Keep h0 h [a1] ∧ h0.size ≤ b3 ∧ h0.size ≤ b17 ∧ b3 ≠ b17 ∧ Idt Z h a1 (.ref b3) (.ref b17) (54 : Int32) (0 : Int32) ∧ LA Z h b3 (1024 : Int32) (fun _ => (0 : Int64)) ∧ LA Z h b17 (1024 : Int32) (fun _ => (-9223372036854775808 : Int64))
def room3_10 : Room := { frames := 1, cells := 2, slots := 2048, locals := 16 }
set_option maxRecDepth 65536 in
set_option maxHeartbeats 40000000 in
theorem rm3_10 (l : Launch) (Z : State) (a0 : Array Value) (hw : ∀ d ∈ tables_1, d.before a0 Z = true) (a1 : Addr) (h0 : Heap) (n0 : Nat) (Zs : n0 ≤ h0.size) (R_a1 : Idt Z h0 a1 .null .null (0 : Int32) (0 : Int32)) (g_a1 : n0 ≤ a1) : Ctr l Z (⟨"com/example/tour/tour/io/IdTable", "allocate", "(I)V"⟩ : MethodName) prog_7_method_6_code 2 none room3_10 #[(.ref a1), (.int (10 : Int32))] h0 (Q3_10 Z a1 h0 n0) := by
  refine Ctr.of (plainFor_of_name pn_3) ?_
  intro p e s m below meth c s₁ hx hby hml hown hnm hret hlk hZ e0 X0
  have hown : s.vm.findClass "com/example/tour/tour/io/IdTable" = some m.cls := hown
  have hml : c.maxLocals = 2 := hml
  have hnm : meth.name = "allocate" := hnm
  have hret : meth.sig.returnType = none := hret
  have N0 := Fr.nil n0
  refine Till.cast (ef_3_10 m a1) ?_
  have Kp := Keep.refl h0 [a1]
  show Till p e below s (Q3_10 Z a1 h0 n0) room3_10.cells room3_10.slots (s₁.setTop (mkF m 0 #[.val (.ref a1), .val (.int (10 : Int32))] []))
  refine Till.pre (fun _ hr => XS.aloadN X0.here hx rfl (hb hby d3_0) rfl rfl hr) ?_
  show Till p e below s (Q3_10 Z a1 h0 n0) room3_10.cells room3_10.slots (s₁.setTop (mkF m 1 #[.val (.ref a1), .val (.int (10 : Int32))] [(.ref a1)]))
  refine Till.pre (fun _ hr => XS.iconst X0.here hx rfl (hb hby d3_1) hr) ?_
  show Till p e below s (Q3_10 Z a1 h0 n0) room3_10.cells room3_10.slots (s₁.setTop (mkF m 2 #[.val (.ref a1), .val (.int (10 : Int32))] [(.int (1 : Int32)), (.ref a1)]))
  refine Till.pre (fun _ hr => XS.iloadN X0.here hx rfl (hb hby d3_2) rfl hr) ?_
  show Till p e below s (Q3_10 Z a1 h0 n0) room3_10.cells room3_10.slots (s₁.setTop (mkF m 3 #[.val (.ref a1), .val (.int (10 : Int32))] [(.int (10 : Int32)), (.int (1 : Int32)), (.ref a1)]))
  refine Till.pre (fun _ hr => XS.ishl X0.here hx rfl (hb hby d3_3) rfl hr) ?_
  show Till p e below s (Q3_10 Z a1 h0 n0) room3_10.cells room3_10.slots (s₁.setTop (mkF m 4 #[.val (.ref a1), .val (.int (10 : Int32))] [(.int (1024 : Int32)), (.ref a1)]))
  refine Till.newA (aty := .long) (w := Value.long) (d0 := (0 : Int64)) X0 hx hZ (hw _ (List.mem_of_getElem? (i := 0) rfl)) e0 (hb hby d3_4) rfl (by decide) 1024 (by decide) (by decide) (by decide) (by decide) (fun T1 h2 b3 g4 X5 e6 E7 A8 => ?_)
  have ne_a1_b3 : a1 ≠ b3 := Nat.ne_of_lt (Nat.lt_of_lt_of_le R_a1.lt (Nat.le_of_eq g4.symm))
  have g_b3 : n0 ≤ b3 := Nat.le_trans Zs (Nat.le_of_eq g4.symm)
  have sz_b3 : h0.size ≤ b3 := Nat.le_trans Kp.1 (Nat.le_of_eq g4.symm)
  have R_a1 := R_a1.ext E7
  have Zs := Nat.le_trans Zs E7.1
  have Kp := Kp.ext E7
  have R_b3 : LA Z h2 b3 (1024 : Int32) (fun _ => (0 : Int64)) := A8
  show Till p e below s (Q3_10 Z a1 h0 n0) room3_10.cells room3_10.slots (T1.setTop (mkF m 6 #[.val (.ref a1), .val (.int (10 : Int32))] [(.ref b3), (.ref a1)]))
  refine Till.putF X5 hx hZ hown (hw _ (List.mem_of_getElem? (i := 22) rfl)) e6 R_a1.2.1 R_a1.1 (Or.inl (hw _ (List.mem_of_getElem? (i := 23) rfl))) (hw _ (List.mem_of_getElem? (i := 12) rfl)) (ty := (.array .long)) (by decide) rfl rfl (hb hby d3_6) (fun T9 h10 X11 e12 W13 => ?_)
  have N14 := Fr.snoc X11 N0 g_a1
  have R_b3 := R_b3.wr W13 (Ne.symm ne_a1_b3)
  have Zs := Nat.le_trans Zs (Keep.of_wr W13).1
  have Kp := Kp.wr W13 (Or.inl (List.mem_of_getElem? (i := 0) rfl))
  have R_a1 := Idt.set_ids hw R_a1 W13
  show Till p e below s (Q3_10 Z a1 h0 n0) room3_10.cells room3_10.slots (T9.setTop (mkF m 9 #[.val (.ref a1), .val (.int (10 : Int32))] []))
  refine Till.pre (fun _ hr => XS.aloadN X11.here hx rfl (hb hby d3_9) rfl rfl hr) ?_
  show Till p e below s (Q3_10 Z a1 h0 n0) room3_10.cells room3_10.slots (T9.setTop (mkF m 10 #[.val (.ref a1), .val (.int (10 : Int32))] [(.ref a1)]))
  refine Till.pre (fun _ hr => XS.iconst X11.here hx rfl (hb hby d3_10) hr) ?_
  show Till p e below s (Q3_10 Z a1 h0 n0) room3_10.cells room3_10.slots (T9.setTop (mkF m 11 #[.val (.ref a1), .val (.int (10 : Int32))] [(.int (1 : Int32)), (.ref a1)]))
  refine Till.pre (fun _ hr => XS.iloadN X11.here hx rfl (hb hby d3_11) rfl hr) ?_
  show Till p e below s (Q3_10 Z a1 h0 n0) room3_10.cells room3_10.slots (T9.setTop (mkF m 12 #[.val (.ref a1), .val (.int (10 : Int32))] [(.int (10 : Int32)), (.int (1 : Int32)), (.ref a1)]))
  refine Till.pre (fun _ hr => XS.ishl X11.here hx rfl (hb hby d3_12) rfl hr) ?_
  show Till p e below s (Q3_10 Z a1 h0 n0) room3_10.cells room3_10.slots (T9.setTop (mkF m 13 #[.val (.ref a1), .val (.int (10 : Int32))] [(.int (1024 : Int32)), (.ref a1)]))
  refine Till.newA (aty := .long) (w := Value.long) (d0 := (0 : Int64)) X11 hx hZ (hw _ (List.mem_of_getElem? (i := 0) rfl)) e12 (hb hby d3_13) rfl (by decide) 1024 (by decide) (by decide) (by decide) (by decide) (fun T15 h16 b17 g18 X19 e20 E21 A22 => ?_)
  have ne_a1_b17 : a1 ≠ b17 := Nat.ne_of_lt (Nat.lt_of_lt_of_le R_a1.lt (Nat.le_of_eq g18.symm))
  have ne_b3_b17 : b3 ≠ b17 := Nat.ne_of_lt (Nat.lt_of_lt_of_le R_b3.lt (Nat.le_of_eq g18.symm))
  have g_b17 : n0 ≤ b17 := Nat.le_trans Zs (Nat.le_of_eq g18.symm)
  have sz_b17 : h0.size ≤ b17 := Nat.le_trans Kp.1 (Nat.le_of_eq g18.symm)
  have R_a1 := R_a1.ext E21
  have R_b3 := R_b3.ext E21
  have Zs := Nat.le_trans Zs E21.1
  have Kp := Kp.ext E21
  have R_b17 : LA Z h16 b17 (1024 : Int32) (fun _ => (0 : Int64)) := A22
  show Till p e below s (Q3_10 Z a1 h0 n0) room3_10.cells room3_10.slots (T15.setTop (mkF m 15 #[.val (.ref a1), .val (.int (10 : Int32))] [(.ref b17), (.ref a1)]))
  refine Till.putF X19 hx hZ hown (hw _ (List.mem_of_getElem? (i := 24) rfl)) e20 R_a1.2.2.1 R_a1.1 (Or.inl (hw _ (List.mem_of_getElem? (i := 25) rfl))) (hw _ (List.mem_of_getElem? (i := 12) rfl)) (ty := (.array .long)) (by decide) rfl rfl (hb hby d3_15) (fun T23 h24 X25 e26 W27 => ?_)
  have N28 := Fr.snoc X25 N14 g_a1
  have R_b3 := R_b3.wr W27 (Ne.symm ne_a1_b3)
  have R_b17 := R_b17.wr W27 (Ne.symm ne_a1_b17)
  have Zs := Nat.le_trans Zs (Keep.of_wr W27).1
  have Kp := Kp.wr W27 (Or.inl (List.mem_of_getElem? (i := 0) rfl))
  have R_a1 := Idt.set_values hw R_a1 W27
  show Till p e below s (Q3_10 Z a1 h0 n0) room3_10.cells room3_10.slots (T23.setTop (mkF m 18 #[.val (.ref a1), .val (.int (10 : Int32))] []))
  refine Till.pre (fun _ hr => XS.aloadN X25.here hx rfl (hb hby d3_18) rfl rfl hr) ?_
  show Till p e below s (Q3_10 Z a1 h0 n0) room3_10.cells room3_10.slots (T23.setTop (mkF m 19 #[.val (.ref a1), .val (.int (10 : Int32))] [(.ref a1)]))
  refine Till.getF X25 hx hZ hown (hw _ (List.mem_of_getElem? (i := 24) rfl)) e26 R_a1.2.2.1 (hb hby d3_19) (fun T29 X30 e31 => ?_)
  show Till p e below s (Q3_10 Z a1 h0 n0) room3_10.cells room3_10.slots (T29.setTop (mkF m 22 #[.val (.ref a1), .val (.int (10 : Int32))] [(.ref b17)]))
  refine Till.pre (X30.ldc2Long hx hown (mvT hZ (hw _ (List.mem_of_getElem? (i := 26) rfl))) (g := (mkF m 22 #[.val (.ref a1), .val (.int (10 : Int32))] [(.ref b17)])) rfl (hb hby d3_22)) ?_
  show Till p e below s (Q3_10 Z a1 h0 n0) room3_10.cells room3_10.slots (T29.setTop (mkF m 25 #[.val (.ref a1), .val (.int (10 : Int32))] [(.long (-9223372036854775808 : Int64)), (.ref b17)]))
  refine Till.callS (rm4 l Z a0 hw b17 (-9223372036854775808 : Int64) (1024 : Int32) (fun _ => (0 : Int64)) h24 n0 Zs R_b17 g_b17) X30 hx hZ hown (hw _ (List.mem_of_getElem? (i := 27) rfl)) (hw _ (List.mem_of_getElem? (i := 28) rfl)) (hw _ (List.mem_of_getElem? (i := 29) rfl)) (hw _ (List.mem_of_getElem? (i := 30) rfl)) (by decide) (by decide) (W := 0) (by decide) (by rw [hml]; rfl) (argsL := [(.ref b17), (.long (-9223372036854775808 : Int64))]) (rest := []) (lenOf pd3_11 rfl) rfl rfl (Nat.le_of_eq rfl) (hb hby d3_25) e31 (by decide) (by decide) ?_
  rintro _ T32 L33 X34 ⟨rfl, N35, K36, q37⟩
  have N35 := Fr.app N28 N35
  have R_a1 := R_a1.keep K36 (ninS ne_a1_b17 nin0)
  have R_b3 := R_b3.keep K36 (ninS ne_b3_b17 nin0)
  have Zs := Nat.le_trans Zs K36.1
  have Kp := Kp.trans K36 (allS (Or.inr sz_b17) all0)
  have R_b17 : LA Z T32.heap b17 (1024 : Int32) (fun _ => (-9223372036854775808 : Int64)) := q37
  show Till p e below s (Q3_10 Z a1 h0 n0) room3_10.cells room3_10.slots (T32.setTop (mkF m 28 #[.val (.ref a1), .val (.int (10 : Int32))] []))
  refine Till.pre (fun _ hr => XS.aloadN X34.here hx rfl (hb hby d3_28) rfl rfl hr) ?_
  show Till p e below s (Q3_10 Z a1 h0 n0) room3_10.cells room3_10.slots (T32.setTop (mkF m 29 #[.val (.ref a1), .val (.int (10 : Int32))] [(.ref a1)]))
  refine Till.pre (fun _ hr => XS.bipush X34.here hx rfl (hb hby d3_29) hr) ?_
  show Till p e below s (Q3_10 Z a1 h0 n0) room3_10.cells room3_10.slots (T32.setTop (mkF m 31 #[.val (.ref a1), .val (.int (10 : Int32))] [(.int (64 : Int32)), (.ref a1)]))
  refine Till.pre (fun _ hr => XS.iloadN X34.here hx rfl (hb hby d3_31) rfl hr) ?_
  show Till p e below s (Q3_10 Z a1 h0 n0) room3_10.cells room3_10.slots (T32.setTop (mkF m 32 #[.val (.ref a1), .val (.int (10 : Int32))] [(.int (10 : Int32)), (.int (64 : Int32)), (.ref a1)]))
  refine Till.pre (fun _ hr => XS.isub X34.here hx rfl (hb hby d3_32) rfl hr) ?_
  show Till p e below s (Q3_10 Z a1 h0 n0) room3_10.cells room3_10.slots (T32.setTop (mkF m 33 #[.val (.ref a1), .val (.int (10 : Int32))] [(.int (54 : Int32)), (.ref a1)]))
  refine Till.putF X34 hx hZ hown (hw _ (List.mem_of_getElem? (i := 31) rfl)) rfl R_a1.2.2.2.1 R_a1.1 (Or.inl (hw _ (List.mem_of_getElem? (i := 32) rfl))) (hw _ (List.mem_of_getElem? (i := 12) rfl)) (ty := .int) (by decide) rfl rfl (hb hby d3_33) (fun T38 h39 X40 e41 W42 => ?_)
  have N43 := Fr.snoc X40 N35 g_a1
  have R_b3 := R_b3.wr W42 (Ne.symm ne_a1_b3)
  have R_b17 := R_b17.wr W42 (Ne.symm ne_a1_b17)
  have Zs := Nat.le_trans Zs (Keep.of_wr W42).1
  have Kp := Kp.wr W42 (Or.inl (List.mem_of_getElem? (i := 0) rfl))
  have R_a1 := Idt.set_shift hw R_a1 W42
  show Till p e below s (Q3_10 Z a1 h0 n0) room3_10.cells room3_10.slots (T38.setTop (mkF m 36 #[.val (.ref a1), .val (.int (10 : Int32))] []))
  refine Till.retV X40 hx hret hlk (hb hby d3_36) (by decide) (by decide) ?_
  show (Q3_10 Z a1 h0 n0) _ T38.heap _
  rw [e41]
  exact ⟨b3, b17, rfl, N43, Kp, sz_b3, sz_b17, ne_b3_b17, R_a1, R_b3, R_b17⟩
theorem d2_0 : decode prog_7_method_1_code 0 = .ok (.aload_n 0, 1) := by decide +kernel
theorem d2_1 : decode prog_7_method_1_code 1 = .ok (.invokespecial 3, 3) := by decide +kernel
theorem d2_4 : decode prog_7_method_1_code 4 = .ok (.aload_n 0, 1) := by decide +kernel
theorem d2_5 : decode prog_7_method_1_code 5 = .ok (.bipush 10, 2) := by decide +kernel
theorem d2_7 : decode prog_7_method_1_code 7 = .ok (.invokevirtual 9, 3) := by decide +kernel
theorem d2_10 : decode prog_7_method_1_code 10 = .ok (.return_, 1) := by decide +kernel
theorem pd2_1 : parseMethodDescriptor "(I)V" = some ⟨[.int], none⟩ := by decide +kernel
theorem ef_2 (m : MethodId) (a1 : Addr) : entryFrame m #[(.ref a1)] 1 = mkF m 0 #[.val (.ref a1)] [] := by first | (simp [entryFrame, mkF, argsToLocals, Value.category]; done) | rfl
def Q2 (Z : State) (a1 : Addr) (h0 : Heap) (n0 : Nat) : Option Value → Heap → List Loc → Prop := fun v h L => ∃ (b12 : Addr), ∃ (b13 : Addr), v = none ∧ Fr n0 L ∧ Keep h0 h [a1] ∧ h0.size ≤ b12 ∧ h0.size ≤ b13 ∧ b12 ≠ b13 ∧ Idt Z h a1 (.ref b12) (.ref b13) (54 : Int32) (0 : Int32) ∧ LA Z h b12 (1024 : Int32) (fun _ => (0 : Int64)) ∧ LA Z h b13 (1024 : Int32) (fun _ => (-9223372036854775808 : Int64))
def room2 : Room := { frames := 2, cells := 2, slots := 2048, locals := 29 }
set_option maxRecDepth 65536 in
set_option maxHeartbeats 40000000 in
theorem rm2 (l : Launch) (Z : State) (a0 : Array Value) (hw : ∀ d ∈ tables_1, d.before a0 Z = true) (a1 : Addr) (h0 : Heap) (n0 : Nat) (Zs : n0 ≤ h0.size) (R_a1 : Idt Z h0 a1 .null .null (0 : Int32) (0 : Int32)) (g_a1 : n0 ≤ a1) : Ctr l Z (⟨"com/example/tour/tour/io/IdTable", "<init>", "()V"⟩ : MethodName) prog_7_method_1_code 1 none room2 #[(.ref a1)] h0 (Q2 Z a1 h0 n0) := by
  refine Ctr.of (plainFor_of_name pn_3) ?_
  intro p e s m below meth c s₁ hx hby hml hown hnm hret hlk hZ e0 X0
  have hown : s.vm.findClass "com/example/tour/tour/io/IdTable" = some m.cls := hown
  have hml : c.maxLocals = 1 := hml
  have hnm : meth.name = "<init>" := hnm
  have hret : meth.sig.returnType = none := hret
  have N0 := Fr.nil n0
  refine Till.cast (ef_2 m a1) ?_
  have Kp := Keep.refl h0 [a1]
  show Till p e below s (Q2 Z a1 h0 n0) room2.cells room2.slots (s₁.setTop (mkF m 0 #[.val (.ref a1)] []))
  refine Till.pre (fun _ hr => XS.aloadN X0.here hx rfl (hb hby d2_0) rfl rfl hr) ?_
  show Till p e below s (Q2 Z a1 h0 n0) room2.cells room2.slots (s₁.setTop (mkF m 1 #[.val (.ref a1)] [(.ref a1)]))
  refine Till.initO X0 hx hZ hown (hw _ (List.mem_of_getElem? (i := 17) rfl)) (hw _ (List.mem_of_getElem? (i := 9) rfl)) (hw _ (List.mem_of_getElem? (i := 10) rfl)) e0 (by rw [hml]; rfl) (hb hby d2_1) (by decide) (W := 0) (Nat.le_of_eq rfl) (by decide) (fun T1 X2 e3 => ?_)
  show Till p e below s (Q2 Z a1 h0 n0) room2.cells room2.slots (T1.setTop (mkF m 4 #[.val (.ref a1)] []))
  refine Till.pre (fun _ hr => XS.aloadN X2.here hx rfl (hb hby d2_4) rfl rfl hr) ?_
  show Till p e below s (Q2 Z a1 h0 n0) room2.cells room2.slots (T1.setTop (mkF m 5 #[.val (.ref a1)] [(.ref a1)]))
  refine Till.pre (fun _ hr => XS.bipush X2.here hx rfl (hb hby d2_5) hr) ?_
  show Till p e below s (Q2 Z a1 h0 n0) room2.cells room2.slots (T1.setTop (mkF m 7 #[.val (.ref a1)] [(.int (10 : Int32)), (.ref a1)]))
  refine Till.callP (rm3_10 l Z a0 hw a1 h0 n0 Zs R_a1 g_a1) R_a1.1 X2 hx hZ hown (hw _ (List.mem_of_getElem? (i := 18) rfl)) (hw _ (List.mem_of_getElem? (i := 19) rfl)) (hw _ (List.mem_of_getElem? (i := 20) rfl)) (hw _ (List.mem_of_getElem? (i := 12) rfl)) (hw _ (List.mem_of_getElem? (i := 13) rfl)) (hw _ (List.mem_of_getElem? (i := 21) rfl)) (by decide) (by decide) (W := 0) (by decide) (by rw [hml]; rfl) (a := a1) (argsL := [(.int (10 : Int32))]) (rest := []) (lenOf pd2_1 rfl) rfl rfl (Nat.le_of_eq rfl) (hb hby d2_7) e3 (by decide) (by decide) ?_
  rintro _ T4 L5 X6 ⟨b12, b13, rfl, N7, K8, szq_b12, szq_b13, ne_b12_b13, q9, q10, q11⟩
  have N7 := Fr.app N0 N7
  have ne_a1_b12 : a1 ≠ b12 := Nat.ne_of_lt (Nat.lt_of_lt_of_le R_a1.lt szq_b12)
  have g_b12 : n0 ≤ b12 := Nat.le_trans Zs szq_b12
  have sz_b12 : h0.size ≤ b12 := Nat.le_trans Kp.1 szq_b12
  have ne_a1_b13 : a1 ≠ b13 := Nat.ne_of_lt (Nat.lt_of_lt_of_le R_a1.lt szq_b13)
  have g_b13 : n0 ≤ b13 := Nat.le_trans Zs szq_b13
  have sz_b13 : h0.size ≤ b13 := Nat.le_trans Kp.1 szq_b13
  have Zs := Nat.le_trans Zs K8.1
  have Kp := Kp.trans K8 (allS (Or.inl (List.mem_of_getElem? (i := 0) rfl)) all0)
  have R_a1 : Idt Z T4.heap a1 (.ref b12) (.ref b13) (54 : Int32) (0 : Int32) := q9
  have R_b12 : LA Z T4.heap b12 (1024 : Int32) (fun _ => (0 : Int64)) := q10
  have R_b13 : LA Z T4.heap b13 (1024 : Int32) (fun _ => (-9223372036854775808 : Int64)) := q11
  show Till p e below s (Q2 Z a1 h0 n0) room2.cells room2.slots (T4.setTop (mkF m 10 #[.val (.ref a1)] []))
  refine Till.retV X6 hx hret hlk (hb hby d2_10) (by decide) (by decide) ?_
  show (Q2 Z a1 h0 n0) _ T4.heap _
  exact ⟨b12, b13, rfl, N7, Kp, sz_b12, sz_b13, ne_b12_b13, R_a1, R_b12, R_b13⟩
theorem own_4 {A B C D : Prop} (h : A ∨ B ∨ C ∨ D) (a : ¬ A) (b : ¬ B) (c : ¬ C) : D := by
  rcases h with h | h | h | h
  · exact absurd h a
  · exact absurd h b
  · exact absurd h c
  · exact h
theorem d7_0 : decode prog_7_method_4_code 0 = .ok (.aload_n 0, 1) := by decide +kernel
theorem d7_1 : decode prog_7_method_4_code 1 = .ok (.getfield 19, 3) := by decide +kernel
theorem d7_4 : decode prog_7_method_4_code 4 = .ok (.arraylength, 1) := by decide +kernel
theorem d7_5 : decode prog_7_method_4_code 5 = .ok (.iconst 1, 1) := by decide +kernel
theorem d7_6 : decode prog_7_method_4_code 6 = .ok (.isub, 1) := by decide +kernel
theorem d7_7 : decode prog_7_method_4_code 7 = .ok (.istore_n 3, 1) := by decide +kernel
theorem d7_8 : decode prog_7_method_4_code 8 = .ok (.lload_n 1, 1) := by decide +kernel
theorem d7_9 : decode prog_7_method_4_code 9 = .ok (.ldc2_w 35, 3) := by decide +kernel
theorem d7_12 : decode prog_7_method_4_code 12 = .ok (.lmul, 1) := by decide +kernel
theorem d7_13 : decode prog_7_method_4_code 13 = .ok (.aload_n 0, 1) := by decide +kernel
theorem d7_14 : decode prog_7_method_4_code 14 = .ok (.getfield 37, 3) := by decide +kernel
theorem d7_17 : decode prog_7_method_4_code 17 = .ok (.lushr, 1) := by decide +kernel
theorem d7_18 : decode prog_7_method_4_code 18 = .ok (.l2i, 1) := by decide +kernel
theorem d7_19 : decode prog_7_method_4_code 19 = .ok (.istore 4, 2) := by decide +kernel
theorem d7_21 : decode prog_7_method_4_code 21 = .ok (.aload_n 0, 1) := by decide +kernel
theorem d7_22 : decode prog_7_method_4_code 22 = .ok (.getfield 30, 3) := by decide +kernel
theorem d7_25 : decode prog_7_method_4_code 25 = .ok (.iload 4, 2) := by decide +kernel
theorem d7_27 : decode prog_7_method_4_code 27 = .ok (.laload, 1) := by decide +kernel
theorem d7_28 : decode prog_7_method_4_code 28 = .ok (.ldc2_w 33, 3) := by decide +kernel
theorem d7_31 : decode prog_7_method_4_code 31 = .ok (.lcmp, 1) := by decide +kernel
theorem d7_32 : decode prog_7_method_4_code 32 = .ok (.ifCond .eq 26, 3) := by decide +kernel
theorem d7_35 : decode prog_7_method_4_code 35 = .ok (.aload_n 0, 1) := by decide +kernel
theorem d7_36 : decode prog_7_method_4_code 36 = .ok (.getfield 19, 3) := by decide +kernel
theorem d7_39 : decode prog_7_method_4_code 39 = .ok (.iload 4, 2) := by decide +kernel
theorem d7_41 : decode prog_7_method_4_code 41 = .ok (.laload, 1) := by decide +kernel
theorem d7_42 : decode prog_7_method_4_code 42 = .ok (.lload_n 1, 1) := by decide +kernel
theorem d7_43 : decode prog_7_method_4_code 43 = .ok (.lcmp, 1) := by decide +kernel
theorem d7_44 : decode prog_7_method_4_code 44 = .ok (.ifCond .eq 14, 3) := by decide +kernel
theorem d7_47 : decode prog_7_method_4_code 47 = .ok (.iload 4, 2) := by decide +kernel
theorem d7_49 : decode prog_7_method_4_code 49 = .ok (.iconst 1, 1) := by decide +kernel
theorem d7_50 : decode prog_7_method_4_code 50 = .ok (.iadd, 1) := by decide +kernel
theorem d7_51 : decode prog_7_method_4_code 51 = .ok (.iload_n 3, 1) := by decide +kernel
theorem d7_52 : decode prog_7_method_4_code 52 = .ok (.iand, 1) := by decide +kernel
theorem d7_53 : decode prog_7_method_4_code 53 = .ok (.istore 4, 2) := by decide +kernel
theorem d7_55 : decode prog_7_method_4_code 55 = .ok (.goto (-34), 3) := by decide +kernel
theorem d7_58 : decode prog_7_method_4_code 58 = .ok (.iload 4, 2) := by decide +kernel
theorem d7_60 : decode prog_7_method_4_code 60 = .ok (.ireturn, 1) := by decide +kernel
theorem ef_7 (m : MethodId) (a1 : Addr) (q2 : Int64) : entryFrame m #[(.ref a1), (.long q2)] 5 = mkF m 0 #[.val (.ref a1), .val (.long q2), .second, .unset, .unset] [] := by first | (simp [entryFrame, mkF, argsToLocals, Value.category]; done) | rfl
def fn7 (q2 : Int64) (w_size : Int32) (f : Nat → Int64) (g : Nat → Int64) : Int32 := (if ((g ((lsr (q2 * (-7046029254386353131 : Int64)) (54 : Int32)).toInt32).toNatClampNeg) = (-9223372036854775808 : Int64)) then (lsr (q2 * (-7046029254386353131 : Int64)) (54 : Int32)).toInt32 else (if ((f ((lsr (q2 * (-7046029254386353131 : Int64)) (54 : Int32)).toInt32).toNatClampNeg) = q2) then (lsr (q2 * (-7046029254386353131 : Int64)) (54 : Int32)).toInt32 else (if ((g ((((lsr (q2 * (-7046029254386353131 : Int64)) (54 : Int32)).toInt32 + (1 : Int32)) &&& (1023 : Int32))).toNatClampNeg) = (-9223372036854775808 : Int64)) then (((lsr (q2 * (-7046029254386353131 : Int64)) (54 : Int32)).toInt32 + (1 : Int32)) &&& (1023 : Int32)) else (if ((f ((((lsr (q2 * (-7046029254386353131 : Int64)) (54 : Int32)).toInt32 + (1 : Int32)) &&& (1023 : Int32))).toNatClampNeg) = q2) then (((lsr (q2 * (-7046029254386353131 : Int64)) (54 : Int32)).toInt32 + (1 : Int32)) &&& (1023 : Int32)) else (if ((g ((((((lsr (q2 * (-7046029254386353131 : Int64)) (54 : Int32)).toInt32 + (1 : Int32)) &&& (1023 : Int32)) + (1 : Int32)) &&& (1023 : Int32))).toNatClampNeg) = (-9223372036854775808 : Int64)) then (((((lsr (q2 * (-7046029254386353131 : Int64)) (54 : Int32)).toInt32 + (1 : Int32)) &&& (1023 : Int32)) + (1 : Int32)) &&& (1023 : Int32)) else (if ((f ((((((lsr (q2 * (-7046029254386353131 : Int64)) (54 : Int32)).toInt32 + (1 : Int32)) &&& (1023 : Int32)) + (1 : Int32)) &&& (1023 : Int32))).toNatClampNeg) = q2) then (((((lsr (q2 * (-7046029254386353131 : Int64)) (54 : Int32)).toInt32 + (1 : Int32)) &&& (1023 : Int32)) + (1 : Int32)) &&& (1023 : Int32)) else (((((((lsr (q2 * (-7046029254386353131 : Int64)) (54 : Int32)).toInt32 + (1 : Int32)) &&& (1023 : Int32)) + (1 : Int32)) &&& (1023 : Int32)) + (1 : Int32)) &&& (1023 : Int32))))))))
def Q7 (Z : State) (a1 : Addr) (q2 : Int64) (b1 : Addr) (b2 : Addr) (w_size : Int32) (f : Nat → Int64) (g : Nat → Int64) (h0 : Heap) (n0 : Nat) : Option Value → Heap → List Loc → Prop := fun v h L => v = some (Value.int (fn7 q2 w_size f g)) ∧ Fr n0 L ∧ h = h0
def room7 : Room := { frames := 0, cells := 0, slots := 0, locals := 0 }
set_option maxRecDepth 65536 in
set_option maxHeartbeats 40000000 in
theorem rm7 (l : Launch) (Z : State) (a0 : Array Value) (hw : ∀ d ∈ tables_1, d.before a0 Z = true) (a1 : Addr) (q2 : Int64) (b1 : Addr) (b2 : Addr) (w_size : Int32) (f : Nat → Int64) (g : Nat → Int64) (h0 : Heap) (n0 : Nat) (R_a1 : Idt Z h0 a1 (.ref b1) (.ref b2) (54 : Int32) w_size) (R_b1 : LA Z h0 b1 (1024 : Int32) f) (R_b2 : LA Z h0 b2 (1024 : Int32) g) (hstop : g (own_h q2).toNatClampNeg = (-9223372036854775808 : Int64) ∨ g (own_n (own_h q2)).toNatClampNeg = (-9223372036854775808 : Int64) ∨ g (own_n (own_n (own_h q2))).toNatClampNeg = (-9223372036854775808 : Int64) ∨ g (own_n (own_n (own_n (own_h q2)))).toNatClampNeg = (-9223372036854775808 : Int64)) : Ctr l Z (⟨"com/example/tour/tour/io/IdTable", "slotOf", "(J)I"⟩ : MethodName) prog_7_method_4_code 5 (some .int) room7 #[(.ref a1), (.long q2)] h0 (Q7 Z a1 q2 b1 b2 w_size f g h0 n0) := by
  refine Ctr.of (plainFor_of_name pn_3) ?_
  intro p e s m below meth c s₁ hx hby hml hown hnm hret hlk hZ e0 X0
  have hown : s.vm.findClass "com/example/tour/tour/io/IdTable" = some m.cls := hown
  have hml : c.maxLocals = 5 := hml
  have hnm : meth.name = "slotOf" := hnm
  have hret : meth.sig.returnType = (some .int) := hret
  have N0 := Fr.nil n0
  refine Till.cast (ef_7 m a1 q2) ?_
  show Till p e below s (Q7 Z a1 q2 b1 b2 w_size f g h0 n0) room7.cells room7.slots (s₁.setTop (mkF m 0 #[.val (.ref a1), .val (.long q2), .second, .unset, .unset] []))
  refine Till.pre (fun _ hr => XS.aloadN X0.here hx rfl (hb hby d7_0) rfl rfl hr) ?_
  show Till p e below s (Q7 Z a1 q2 b1 b2 w_size f g h0 n0) room7.cells room7.slots (s₁.setTop (mkF m 1 #[.val (.ref a1), .val (.long q2), .second, .unset, .unset] [(.ref a1)]))
  refine Till.getF X0 hx hZ hown (hw _ (List.mem_of_getElem? (i := 22) rfl)) e0 R_a1.2.1 (hb hby d7_1) (fun T1 X2 e3 => ?_)
  show Till p e below s (Q7 Z a1 q2 b1 b2 w_size f g h0 n0) room7.cells room7.slots (T1.setTop (mkF m 4 #[.val (.ref a1), .val (.long q2), .second, .unset, .unset] [(.ref b1)]))
  refine Till.alen R_b1 X2 hx hZ e3 (hb hby d7_4) ?_
  show Till p e below s (Q7 Z a1 q2 b1 b2 w_size f g h0 n0) room7.cells room7.slots (T1.setTop (mkF m 5 #[.val (.ref a1), .val (.long q2), .second, .unset, .unset] [(.int (1024 : Int32))]))
  refine Till.pre (fun _ hr => XS.iconst X2.here hx rfl (hb hby d7_5) hr) ?_
  show Till p e below s (Q7 Z a1 q2 b1 b2 w_size f g h0 n0) room7.cells room7.slots (T1.setTop (mkF m 6 #[.val (.ref a1), .val (.long q2), .second, .unset, .unset] [(.int (1 : Int32)), (.int (1024 : Int32))]))
  refine Till.pre (fun _ hr => XS.isub X2.here hx rfl (hb hby d7_6) rfl hr) ?_
  show Till p e below s (Q7 Z a1 q2 b1 b2 w_size f g h0 n0) room7.cells room7.slots (T1.setTop (mkF m 7 #[.val (.ref a1), .val (.long q2), .second, .unset, .unset] [(.int (1023 : Int32))]))
  refine Till.pre (fun _ hr => XS.istoreN X2.here hx rfl (hb hby d7_7) rfl (l' := #[.val (.ref a1), .val (.long q2), .second, .val (.int (1023 : Int32)), .unset]) rfl hr) ?_
  show Till p e below s (Q7 Z a1 q2 b1 b2 w_size f g h0 n0) room7.cells room7.slots (T1.setTop (mkF m 8 #[.val (.ref a1), .val (.long q2), .second, .val (.int (1023 : Int32)), .unset] []))
  refine Till.pre (fun _ hr => XS.lloadN X2.here hx rfl (hb hby d7_8) rfl hr) ?_
  show Till p e below s (Q7 Z a1 q2 b1 b2 w_size f g h0 n0) room7.cells room7.slots (T1.setTop (mkF m 9 #[.val (.ref a1), .val (.long q2), .second, .val (.int (1023 : Int32)), .unset] [(.long q2)]))
  refine Till.pre (X2.ldc2Long hx hown (mvT hZ (hw _ (List.mem_of_getElem? (i := 55) rfl))) (g := (mkF m 9 #[.val (.ref a1), .val (.long q2), .second, .val (.int (1023 : Int32)), .unset] [(.long q2)])) rfl (hb hby d7_9)) ?_
  show Till p e below s (Q7 Z a1 q2 b1 b2 w_size f g h0 n0) room7.cells room7.slots (T1.setTop (mkF m 12 #[.val (.ref a1), .val (.long q2), .second, .val (.int (1023 : Int32)), .unset] [(.long (-7046029254386353131 : Int64)), (.long q2)]))
  refine Till.pre (fun _ hr => XS.lmul X2.here hx rfl (hb hby d7_12) rfl hr) ?_
  show Till p e below s (Q7 Z a1 q2 b1 b2 w_size f g h0 n0) room7.cells room7.slots (T1.setTop (mkF m 13 #[.val (.ref a1), .val (.long q2), .second, .val (.int (1023 : Int32)), .unset] [(.long (q2 * (-7046029254386353131 : Int64)))]))
  refine Till.pre (fun _ hr => XS.aloadN X2.here hx rfl (hb hby d7_13) rfl rfl hr) ?_
  show Till p e below s (Q7 Z a1 q2 b1 b2 w_size f g h0 n0) room7.cells room7.slots (T1.setTop (mkF m 14 #[.val (.ref a1), .val (.long q2), .second, .val (.int (1023 : Int32)), .unset] [(.ref a1), (.long (q2 * (-7046029254386353131 : Int64)))]))
  refine Till.getF X2 hx hZ hown (hw _ (List.mem_of_getElem? (i := 31) rfl)) e3 R_a1.2.2.2.1 (hb hby d7_14) (fun T4 X5 e6 => ?_)
  show Till p e below s (Q7 Z a1 q2 b1 b2 w_size f g h0 n0) room7.cells room7.slots (T4.setTop (mkF m 17 #[.val (.ref a1), .val (.long q2), .second, .val (.int (1023 : Int32)), .unset] [(.int (54 : Int32)), (.long (q2 * (-7046029254386353131 : Int64)))]))
  refine Till.pre (fun _ hr => XS.lushr X5.here hx rfl (hb hby d7_17) rfl hr) ?_
  show Till p e below s (Q7 Z a1 q2 b1 b2 w_size f g h0 n0) room7.cells room7.slots (T4.setTop (mkF m 18 #[.val (.ref a1), .val (.long q2), .second, .val (.int (1023 : Int32)), .unset] [(.long (lsr (q2 * (-7046029254386353131 : Int64)) (54 : Int32)))]))
  refine Till.pre (fun _ hr => XS.l2i X5.here hx rfl (hb hby d7_18) rfl hr) ?_
  show Till p e below s (Q7 Z a1 q2 b1 b2 w_size f g h0 n0) room7.cells room7.slots (T4.setTop (mkF m 19 #[.val (.ref a1), .val (.long q2), .second, .val (.int (1023 : Int32)), .unset] [(.int (lsr (q2 * (-7046029254386353131 : Int64)) (54 : Int32)).toInt32)]))
  refine Till.pre (fun _ hr => XS.istore X5.here hx rfl (hb hby d7_19) rfl (l' := #[.val (.ref a1), .val (.long q2), .second, .val (.int (1023 : Int32)), .val (.int (lsr (q2 * (-7046029254386353131 : Int64)) (54 : Int32)).toInt32)]) rfl hr) ?_
  show Till p e below s (Q7 Z a1 q2 b1 b2 w_size f g h0 n0) room7.cells room7.slots (T4.setTop (mkF m 21 #[.val (.ref a1), .val (.long q2), .second, .val (.int (1023 : Int32)), .val (.int (lsr (q2 * (-7046029254386353131 : Int64)) (54 : Int32)).toInt32)] []))
  refine Till.pre (fun _ hr => XS.aloadN X5.here hx rfl (hb hby d7_21) rfl rfl hr) ?_
  show Till p e below s (Q7 Z a1 q2 b1 b2 w_size f g h0 n0) room7.cells room7.slots (T4.setTop (mkF m 22 #[.val (.ref a1), .val (.long q2), .second, .val (.int (1023 : Int32)), .val (.int (lsr (q2 * (-7046029254386353131 : Int64)) (54 : Int32)).toInt32)] [(.ref a1)]))
  refine Till.getF X5 hx hZ hown (hw _ (List.mem_of_getElem? (i := 24) rfl)) e6 R_a1.2.2.1 (hb hby d7_22) (fun T7 X8 e9 => ?_)
  show Till p e below s (Q7 Z a1 q2 b1 b2 w_size f g h0 n0) room7.cells room7.slots (T7.setTop (mkF m 25 #[.val (.ref a1), .val (.long q2), .second, .val (.int (1023 : Int32)), .val (.int (lsr (q2 * (-7046029254386353131 : Int64)) (54 : Int32)).toInt32)] [(.ref b2)]))
  refine Till.pre (fun _ hr => XS.iload X8.here hx rfl (hb hby d7_25) rfl hr) ?_
  show Till p e below s (Q7 Z a1 q2 b1 b2 w_size f g h0 n0) room7.cells room7.slots (T7.setTop (mkF m 27 #[.val (.ref a1), .val (.long q2), .second, .val (.int (1023 : Int32)), .val (.int (lsr (q2 * (-7046029254386353131 : Int64)) (54 : Int32)).toInt32)] [(.int (lsr (q2 * (-7046029254386353131 : Int64)) (54 : Int32)).toInt32), (.ref b2)]))
  refine Till.laload R_b2 (own_b1 (own_home _)) (own_b2 (own_home _)) X8 hx hZ e9 (hb hby d7_27) ?_
  show Till p e below s (Q7 Z a1 q2 b1 b2 w_size f g h0 n0) room7.cells room7.slots (T7.setTop (mkF m 28 #[.val (.ref a1), .val (.long q2), .second, .val (.int (1023 : Int32)), .val (.int (lsr (q2 * (-7046029254386353131 : Int64)) (54 : Int32)).toInt32)] [(.long (g ((lsr (q2 * (-7046029254386353131 : Int64)) (54 : Int32)).toInt32).toNatClampNeg))]))
  refine Till.pre (X8.ldc2Long hx hown (mvT hZ (hw _ (List.mem_of_getElem? (i := 26) rfl))) (g := (mkF m 28 #[.val (.ref a1), .val (.long q2), .second, .val (.int (1023 : Int32)), .val (.int (lsr (q2 * (-7046029254386353131 : Int64)) (54 : Int32)).toInt32)] [(.long (g ((lsr (q2 * (-7046029254386353131 : Int64)) (54 : Int32)).toInt32).toNatClampNeg))])) rfl (hb hby d7_28)) ?_
  show Till p e below s (Q7 Z a1 q2 b1 b2 w_size f g h0 n0) room7.cells room7.slots (T7.setTop (mkF m 31 #[.val (.ref a1), .val (.long q2), .second, .val (.int (1023 : Int32)), .val (.int (lsr (q2 * (-7046029254386353131 : Int64)) (54 : Int32)).toInt32)] [(.long (-9223372036854775808 : Int64)), (.long (g ((lsr (q2 * (-7046029254386353131 : Int64)) (54 : Int32)).toInt32).toNatClampNeg))]))
  refine Till.pre (fun _ hr => XS.lcmp X8.here hx rfl (hb hby d7_31) rfl hr) ?_
  show Till p e below s (Q7 Z a1 q2 b1 b2 w_size f g h0 n0) room7.cells room7.slots (T7.setTop (mkF m 32 #[.val (.ref a1), .val (.long q2), .second, .val (.int (1023 : Int32)), .val (.int (lsr (q2 * (-7046029254386353131 : Int64)) (54 : Int32)).toInt32)] [(.int (lcmpW (g ((lsr (q2 * (-7046029254386353131 : Int64)) (54 : Int32)).toInt32).toNatClampNeg) (-9223372036854775808 : Int64)))]))
  have J58_38 : ∀ (T34 : State) (L35 : List Loc) (X36 : Stand p l e room7 s m #[(.ref a1), (.long q2)] below meth c T34 L35 0 0) (N37 : Fr n0 L35) (e38 : T34.heap = h0) (v58l4 : Int32) (hv58l4 : v58l4 = (if ((g ((lsr (q2 * (-7046029254386353131 : Int64)) (54 : Int32)).toInt32).toNatClampNeg) = (-9223372036854775808 : Int64)) then (lsr (q2 * (-7046029254386353131 : Int64)) (54 : Int32)).toInt32 else (if ((f ((lsr (q2 * (-7046029254386353131 : Int64)) (54 : Int32)).toInt32).toNatClampNeg) = q2) then (lsr (q2 * (-7046029254386353131 : Int64)) (54 : Int32)).toInt32 else (if ((g ((((lsr (q2 * (-7046029254386353131 : Int64)) (54 : Int32)).toInt32 + (1 : Int32)) &&& (1023 : Int32))).toNatClampNeg) = (-9223372036854775808 : Int64)) then (((lsr (q2 * (-7046029254386353131 : Int64)) (54 : Int32)).toInt32 + (1 : Int32)) &&& (1023 : Int32)) else (if ((f ((((lsr (q2 * (-7046029254386353131 : Int64)) (54 : Int32)).toInt32 + (1 : Int32)) &&& (1023 : Int32))).toNatClampNeg) = q2) then (((lsr (q2 * (-7046029254386353131 : Int64)) (54 : Int32)).toInt32 + (1 : Int32)) &&& (1023 : Int32)) else (if ((g ((((((lsr (q2 * (-7046029254386353131 : Int64)) (54 : Int32)).toInt32 + (1 : Int32)) &&& (1023 : Int32)) + (1 : Int32)) &&& (1023 : Int32))).toNatClampNeg) = (-9223372036854775808 : Int64)) then (((((lsr (q2 * (-7046029254386353131 : Int64)) (54 : Int32)).toInt32 + (1 : Int32)) &&& (1023 : Int32)) + (1 : Int32)) &&& (1023 : Int32)) else (if ((f ((((((lsr (q2 * (-7046029254386353131 : Int64)) (54 : Int32)).toInt32 + (1 : Int32)) &&& (1023 : Int32)) + (1 : Int32)) &&& (1023 : Int32))).toNatClampNeg) = q2) then (((((lsr (q2 * (-7046029254386353131 : Int64)) (54 : Int32)).toInt32 + (1 : Int32)) &&& (1023 : Int32)) + (1 : Int32)) &&& (1023 : Int32)) else (((((((lsr (q2 * (-7046029254386353131 : Int64)) (54 : Int32)).toInt32 + (1 : Int32)) &&& (1023 : Int32)) + (1 : Int32)) &&& (1023 : Int32)) + (1 : Int32)) &&& (1023 : Int32))))))))), Till p e below s (Q7 Z a1 q2 b1 b2 w_size f g h0 n0) room7.cells room7.slots (T34.setTop (mkF m 58 #[.val (.ref a1), .val (.long q2), .second, .val (.int (1023 : Int32)), .val (.int v58l4)] [])) := by
    intro T34 L35 X36 N37 e38 v58l4 hv58l4
    show Till p e below s (Q7 Z a1 q2 b1 b2 w_size f g h0 n0) room7.cells room7.slots (T34.setTop (mkF m 58 #[.val (.ref a1), .val (.long q2), .second, .val (.int (1023 : Int32)), .val (.int v58l4)] []))
    refine Till.pre (fun _ hr => XS.iload X36.here hx rfl (hb hby d7_58) rfl hr) ?_
    show Till p e below s (Q7 Z a1 q2 b1 b2 w_size f g h0 n0) room7.cells room7.slots (T34.setTop (mkF m 60 #[.val (.ref a1), .val (.long q2), .second, .val (.int (1023 : Int32)), .val (.int v58l4)] [(.int v58l4)]))
    refine Till.retI X36 hx hret hlk (hb hby d7_60) (by decide) (by decide) ?_
    subst hv58l4
    exact ⟨rfl, N37, e38⟩
  refine Till.ifc (pc' := 58) X8.here hx (hb hby d7_32) (by decide) (by decide) (fun q => ?_) (fun q => ?_)
  · have hc10 := (lEq.mp (hEq.1 q))
    show Till p e below s (Q7 Z a1 q2 b1 b2 w_size f g h0 n0) room7.cells room7.slots (T7.setTop (mkF m 58 #[.val (.ref a1), .val (.long q2), .second, .val (.int (1023 : Int32)), .val (.int (lsr (q2 * (-7046029254386353131 : Int64)) (54 : Int32)).toInt32)] []))
    exact J58_38 _ _ X8 N0 e9 _ (Eq.symm (if_pos hc10))
  · have hc10 := (mt lEq.mpr (hEq.2.1 q))
    show Till p e below s (Q7 Z a1 q2 b1 b2 w_size f g h0 n0) room7.cells room7.slots (T7.setTop (mkF m 35 #[.val (.ref a1), .val (.long q2), .second, .val (.int (1023 : Int32)), .val (.int (lsr (q2 * (-7046029254386353131 : Int64)) (54 : Int32)).toInt32)] []))
    refine Till.pre (fun _ hr => XS.aloadN X8.here hx rfl (hb hby d7_35) rfl rfl hr) ?_
    show Till p e below s (Q7 Z a1 q2 b1 b2 w_size f g h0 n0) room7.cells room7.slots (T7.setTop (mkF m 36 #[.val (.ref a1), .val (.long q2), .second, .val (.int (1023 : Int32)), .val (.int (lsr (q2 * (-7046029254386353131 : Int64)) (54 : Int32)).toInt32)] [(.ref a1)]))
    refine Till.getF X8 hx hZ hown (hw _ (List.mem_of_getElem? (i := 22) rfl)) e9 R_a1.2.1 (hb hby d7_36) (fun T11 X12 e13 => ?_)
    show Till p e below s (Q7 Z a1 q2 b1 b2 w_size f g h0 n0) room7.cells room7.slots (T11.setTop (mkF m 39 #[.val (.ref a1), .val (.long q2), .second, .val (.int (1023 : Int32)), .val (.int (lsr (q2 * (-7046029254386353131 : Int64)) (54 : Int32)).toInt32)] [(.ref b1)]))
    refine Till.pre (fun _ hr => XS.iload X12.here hx rfl (hb hby d7_39) rfl hr) ?_
    show Till p e below s (Q7 Z a1 q2 b1 b2 w_size f g h0 n0) room7.cells room7.slots (T11.setTop (mkF m 41 #[.val (.ref a1), .val (.long q2), .second, .val (.int (1023 : Int32)), .val (.int (lsr (q2 * (-7046029254386353131 : Int64)) (54 : Int32)).toInt32)] [(.int (lsr (q2 * (-7046029254386353131 : Int64)) (54 : Int32)).toInt32), (.ref b1)]))
    refine Till.laload R_b1 (own_b1 (own_home _)) (own_b2 (own_home _)) X12 hx hZ e13 (hb hby d7_41) ?_
    show Till p e below s (Q7 Z a1 q2 b1 b2 w_size f g h0 n0) room7.cells room7.slots (T11.setTop (mkF m 42 #[.val (.ref a1), .val (.long q2), .second, .val (.int (1023 : Int32)), .val (.int (lsr (q2 * (-7046029254386353131 : Int64)) (54 : Int32)).toInt32)] [(.long (f ((lsr (q2 * (-7046029254386353131 : Int64)) (54 : Int32)).toInt32).toNatClampNeg))]))
    refine Till.pre (fun _ hr => XS.lloadN X12.here hx rfl (hb hby d7_42) rfl hr) ?_
    show Till p e below s (Q7 Z a1 q2 b1 b2 w_size f g h0 n0) room7.cells room7.slots (T11.setTop (mkF m 43 #[.val (.ref a1), .val (.long q2), .second, .val (.int (1023 : Int32)), .val (.int (lsr (q2 * (-7046029254386353131 : Int64)) (54 : Int32)).toInt32)] [(.long q2), (.long (f ((lsr (q2 * (-7046029254386353131 : Int64)) (54 : Int32)).toInt32).toNatClampNeg))]))
    refine Till.pre (fun _ hr => XS.lcmp X12.here hx rfl (hb hby d7_43) rfl hr) ?_
    show Till p e below s (Q7 Z a1 q2 b1 b2 w_size f g h0 n0) room7.cells room7.slots (T11.setTop (mkF m 44 #[.val (.ref a1), .val (.long q2), .second, .val (.int (1023 : Int32)), .val (.int (lsr (q2 * (-7046029254386353131 : Int64)) (54 : Int32)).toInt32)] [(.int (lcmpW (f ((lsr (q2 * (-7046029254386353131 : Int64)) (54 : Int32)).toInt32).toNatClampNeg) q2))]))
    refine Till.ifc (pc' := 58) X12.here hx (hb hby d7_44) (by decide) (by decide) (fun q => ?_) (fun q => ?_)
    · have hc14 := (lEq.mp (hEq.1 q))
      show Till p e below s (Q7 Z a1 q2 b1 b2 w_size f g h0 n0) room7.cells room7.slots (T11.setTop (mkF m 58 #[.val (.ref a1), .val (.long q2), .second, .val (.int (1023 : Int32)), .val (.int (lsr (q2 * (-7046029254386353131 : Int64)) (54 : Int32)).toInt32)] []))
      exact J58_38 _ _ X12 N0 e13 _ (Eq.symm ((if_neg hc10).trans (if_pos hc14)))
    · have hc14 := (mt lEq.mpr (hEq.2.1 q))
      show Till p e below s (Q7 Z a1 q2 b1 b2 w_size f g h0 n0) room7.cells room7.slots (T11.setTop (mkF m 47 #[.val (.ref a1), .val (.long q2), .second, .val (.int (1023 : Int32)), .val (.int (lsr (q2 * (-7046029254386353131 : Int64)) (54 : Int32)).toInt32)] []))
      refine Till.pre (fun _ hr => XS.iload X12.here hx rfl (hb hby d7_47) rfl hr) ?_
      show Till p e below s (Q7 Z a1 q2 b1 b2 w_size f g h0 n0) room7.cells room7.slots (T11.setTop (mkF m 49 #[.val (.ref a1), .val (.long q2), .second, .val (.int (1023 : Int32)), .val (.int (lsr (q2 * (-7046029254386353131 : Int64)) (54 : Int32)).toInt32)] [(.int (lsr (q2 * (-7046029254386353131 : Int64)) (54 : Int32)).toInt32)]))
      refine Till.pre (fun _ hr => XS.iconst X12.here hx rfl (hb hby d7_49) hr) ?_
      show Till p e below s (Q7 Z a1 q2 b1 b2 w_size f g h0 n0) room7.cells room7.slots (T11.setTop (mkF m 50 #[.val (.ref a1), .val (.long q2), .second, .val (.int (1023 : Int32)), .val (.int (lsr (q2 * (-7046029254386353131 : Int64)) (54 : Int32)).toInt32)] [(.int (1 : Int32)), (.int (lsr (q2 * (-7046029254386353131 : Int64)) (54 : Int32)).toInt32)]))
      refine Till.pre (fun _ hr => XS.iadd X12.here hx rfl (hb hby d7_50) rfl hr) ?_
      show Till p e below s (Q7 Z a1 q2 b1 b2 w_size f g h0 n0) room7.cells room7.slots (T11.setTop (mkF m 51 #[.val (.ref a1), .val (.long q2), .second, .val (.int (1023 : Int32)), .val (.int (lsr (q2 * (-7046029254386353131 : Int64)) (54 : Int32)).toInt32)] [(.int ((lsr (q2 * (-7046029254386353131 : Int64)) (54 : Int32)).toInt32 + (1 : Int32)))]))
      refine Till.pre (fun _ hr => XS.iloadN X12.here hx rfl (hb hby d7_51) rfl hr) ?_
      show Till p e below s (Q7 Z a1 q2 b1 b2 w_size f g h0 n0) room7.cells room7.slots (T11.setTop (mkF m 52 #[.val (.ref a1), .val (.long q2), .second, .val (.int (1023 : Int32)), .val (.int (lsr (q2 * (-7046029254386353131 : Int64)) (54 : Int32)).toInt32)] [(.int (1023 : Int32)), (.int ((lsr (q2 * (-7046029254386353131 : Int64)) (54 : Int32)).toInt32 + (1 : Int32)))]))
      refine Till.pre (fun _ hr => XS.iand X12.here hx rfl (hb hby d7_52) rfl hr) ?_
      show Till p e below s (Q7 Z a1 q2 b1 b2 w_size f g h0 n0) room7.cells room7.slots (T11.setTop (mkF m 53 #[.val (.ref a1), .val (.long q2), .second, .val (.int (1023 : Int32)), .val (.int (lsr (q2 * (-7046029254386353131 : Int64)) (54 : Int32)).toInt32)] [(.int (((lsr (q2 * (-7046029254386353131 : Int64)) (54 : Int32)).toInt32 + (1 : Int32)) &&& (1023 : Int32)))]))
      refine Till.pre (fun _ hr => XS.istore X12.here hx rfl (hb hby d7_53) rfl (l' := #[.val (.ref a1), .val (.long q2), .second, .val (.int (1023 : Int32)), .val (.int (((lsr (q2 * (-7046029254386353131 : Int64)) (54 : Int32)).toInt32 + (1 : Int32)) &&& (1023 : Int32)))]) rfl hr) ?_
      show Till p e below s (Q7 Z a1 q2 b1 b2 w_size f g h0 n0) room7.cells room7.slots (T11.setTop (mkF m 55 #[.val (.ref a1), .val (.long q2), .second, .val (.int (1023 : Int32)), .val (.int (((lsr (q2 * (-7046029254386353131 : Int64)) (54 : Int32)).toInt32 + (1 : Int32)) &&& (1023 : Int32)))] []))
      refine Till.pre (fun _ hr => XS.goto X12.here hx rfl (pc0 := 55) (pc' := 21) rfl (hb hby d7_55) (by decide) (by decide) hr) ?_
      show Till p e below s (Q7 Z a1 q2 b1 b2 w_size f g h0 n0) room7.cells room7.slots (T11.setTop (mkF m 21 #[.val (.ref a1), .val (.long q2), .second, .val (.int (1023 : Int32)), .val (.int (((lsr (q2 * (-7046029254386353131 : Int64)) (54 : Int32)).toInt32 + (1 : Int32)) &&& (1023 : Int32)))] []))
      refine Till.pre (fun _ hr => XS.aloadN X12.here hx rfl (hb hby d7_21) rfl rfl hr) ?_
      show Till p e below s (Q7 Z a1 q2 b1 b2 w_size f g h0 n0) room7.cells room7.slots (T11.setTop (mkF m 22 #[.val (.ref a1), .val (.long q2), .second, .val (.int (1023 : Int32)), .val (.int (((lsr (q2 * (-7046029254386353131 : Int64)) (54 : Int32)).toInt32 + (1 : Int32)) &&& (1023 : Int32)))] [(.ref a1)]))
      refine Till.getF X12 hx hZ hown (hw _ (List.mem_of_getElem? (i := 24) rfl)) e13 R_a1.2.2.1 (hb hby d7_22) (fun T15 X16 e17 => ?_)
      show Till p e below s (Q7 Z a1 q2 b1 b2 w_size f g h0 n0) room7.cells room7.slots (T15.setTop (mkF m 25 #[.val (.ref a1), .val (.long q2), .second, .val (.int (1023 : Int32)), .val (.int (((lsr (q2 * (-7046029254386353131 : Int64)) (54 : Int32)).toInt32 + (1 : Int32)) &&& (1023 : Int32)))] [(.ref b2)]))
      refine Till.pre (fun _ hr => XS.iload X16.here hx rfl (hb hby d7_25) rfl hr) ?_
      show Till p e below s (Q7 Z a1 q2 b1 b2 w_size f g h0 n0) room7.cells room7.slots (T15.setTop (mkF m 27 #[.val (.ref a1), .val (.long q2), .second, .val (.int (1023 : Int32)), .val (.int (((lsr (q2 * (-7046029254386353131 : Int64)) (54 : Int32)).toInt32 + (1 : Int32)) &&& (1023 : Int32)))] [(.int (((lsr (q2 * (-7046029254386353131 : Int64)) (54 : Int32)).toInt32 + (1 : Int32)) &&& (1023 : Int32))), (.ref b2)]))
      refine Till.laload R_b2 (own_b1 (own_nxt _)) (own_b2 (own_nxt _)) X16 hx hZ e17 (hb hby d7_27) ?_
      show Till p e below s (Q7 Z a1 q2 b1 b2 w_size f g h0 n0) room7.cells room7.slots (T15.setTop (mkF m 28 #[.val (.ref a1), .val (.long q2), .second, .val (.int (1023 : Int32)), .val (.int (((lsr (q2 * (-7046029254386353131 : Int64)) (54 : Int32)).toInt32 + (1 : Int32)) &&& (1023 : Int32)))] [(.long (g ((((lsr (q2 * (-7046029254386353131 : Int64)) (54 : Int32)).toInt32 + (1 : Int32)) &&& (1023 : Int32))).toNatClampNeg))]))
      refine Till.pre (X16.ldc2Long hx hown (mvT hZ (hw _ (List.mem_of_getElem? (i := 26) rfl))) (g := (mkF m 28 #[.val (.ref a1), .val (.long q2), .second, .val (.int (1023 : Int32)), .val (.int (((lsr (q2 * (-7046029254386353131 : Int64)) (54 : Int32)).toInt32 + (1 : Int32)) &&& (1023 : Int32)))] [(.long (g ((((lsr (q2 * (-7046029254386353131 : Int64)) (54 : Int32)).toInt32 + (1 : Int32)) &&& (1023 : Int32))).toNatClampNeg))])) rfl (hb hby d7_28)) ?_
      show Till p e below s (Q7 Z a1 q2 b1 b2 w_size f g h0 n0) room7.cells room7.slots (T15.setTop (mkF m 31 #[.val (.ref a1), .val (.long q2), .second, .val (.int (1023 : Int32)), .val (.int (((lsr (q2 * (-7046029254386353131 : Int64)) (54 : Int32)).toInt32 + (1 : Int32)) &&& (1023 : Int32)))] [(.long (-9223372036854775808 : Int64)), (.long (g ((((lsr (q2 * (-7046029254386353131 : Int64)) (54 : Int32)).toInt32 + (1 : Int32)) &&& (1023 : Int32))).toNatClampNeg))]))
      refine Till.pre (fun _ hr => XS.lcmp X16.here hx rfl (hb hby d7_31) rfl hr) ?_
      show Till p e below s (Q7 Z a1 q2 b1 b2 w_size f g h0 n0) room7.cells room7.slots (T15.setTop (mkF m 32 #[.val (.ref a1), .val (.long q2), .second, .val (.int (1023 : Int32)), .val (.int (((lsr (q2 * (-7046029254386353131 : Int64)) (54 : Int32)).toInt32 + (1 : Int32)) &&& (1023 : Int32)))] [(.int (lcmpW (g ((((lsr (q2 * (-7046029254386353131 : Int64)) (54 : Int32)).toInt32 + (1 : Int32)) &&& (1023 : Int32))).toNatClampNeg) (-9223372036854775808 : Int64)))]))
      refine Till.ifc (pc' := 58) X16.here hx (hb hby d7_32) (by decide) (by decide) (fun q => ?_) (fun q => ?_)
      · have hc18 := (lEq.mp (hEq.1 q))
        show Till p e below s (Q7 Z a1 q2 b1 b2 w_size f g h0 n0) room7.cells room7.slots (T15.setTop (mkF m 58 #[.val (.ref a1), .val (.long q2), .second, .val (.int (1023 : Int32)), .val (.int (((lsr (q2 * (-7046029254386353131 : Int64)) (54 : Int32)).toInt32 + (1 : Int32)) &&& (1023 : Int32)))] []))
        exact J58_38 _ _ X16 N0 e17 _ (Eq.symm ((if_neg hc10).trans ((if_neg hc14).trans (if_pos hc18))))
      · have hc18 := (mt lEq.mpr (hEq.2.1 q))
        show Till p e below s (Q7 Z a1 q2 b1 b2 w_size f g h0 n0) room7.cells room7.slots (T15.setTop (mkF m 35 #[.val (.ref a1), .val (.long q2), .second, .val (.int (1023 : Int32)), .val (.int (((lsr (q2 * (-7046029254386353131 : Int64)) (54 : Int32)).toInt32 + (1 : Int32)) &&& (1023 : Int32)))] []))
        refine Till.pre (fun _ hr => XS.aloadN X16.here hx rfl (hb hby d7_35) rfl rfl hr) ?_
        show Till p e below s (Q7 Z a1 q2 b1 b2 w_size f g h0 n0) room7.cells room7.slots (T15.setTop (mkF m 36 #[.val (.ref a1), .val (.long q2), .second, .val (.int (1023 : Int32)), .val (.int (((lsr (q2 * (-7046029254386353131 : Int64)) (54 : Int32)).toInt32 + (1 : Int32)) &&& (1023 : Int32)))] [(.ref a1)]))
        refine Till.getF X16 hx hZ hown (hw _ (List.mem_of_getElem? (i := 22) rfl)) e17 R_a1.2.1 (hb hby d7_36) (fun T19 X20 e21 => ?_)
        show Till p e below s (Q7 Z a1 q2 b1 b2 w_size f g h0 n0) room7.cells room7.slots (T19.setTop (mkF m 39 #[.val (.ref a1), .val (.long q2), .second, .val (.int (1023 : Int32)), .val (.int (((lsr (q2 * (-7046029254386353131 : Int64)) (54 : Int32)).toInt32 + (1 : Int32)) &&& (1023 : Int32)))] [(.ref b1)]))
        refine Till.pre (fun _ hr => XS.iload X20.here hx rfl (hb hby d7_39) rfl hr) ?_
        show Till p e below s (Q7 Z a1 q2 b1 b2 w_size f g h0 n0) room7.cells room7.slots (T19.setTop (mkF m 41 #[.val (.ref a1), .val (.long q2), .second, .val (.int (1023 : Int32)), .val (.int (((lsr (q2 * (-7046029254386353131 : Int64)) (54 : Int32)).toInt32 + (1 : Int32)) &&& (1023 : Int32)))] [(.int (((lsr (q2 * (-7046029254386353131 : Int64)) (54 : Int32)).toInt32 + (1 : Int32)) &&& (1023 : Int32))), (.ref b1)]))
        refine Till.laload R_b1 (own_b1 (own_nxt _)) (own_b2 (own_nxt _)) X20 hx hZ e21 (hb hby d7_41) ?_
        show Till p e below s (Q7 Z a1 q2 b1 b2 w_size f g h0 n0) room7.cells room7.slots (T19.setTop (mkF m 42 #[.val (.ref a1), .val (.long q2), .second, .val (.int (1023 : Int32)), .val (.int (((lsr (q2 * (-7046029254386353131 : Int64)) (54 : Int32)).toInt32 + (1 : Int32)) &&& (1023 : Int32)))] [(.long (f ((((lsr (q2 * (-7046029254386353131 : Int64)) (54 : Int32)).toInt32 + (1 : Int32)) &&& (1023 : Int32))).toNatClampNeg))]))
        refine Till.pre (fun _ hr => XS.lloadN X20.here hx rfl (hb hby d7_42) rfl hr) ?_
        show Till p e below s (Q7 Z a1 q2 b1 b2 w_size f g h0 n0) room7.cells room7.slots (T19.setTop (mkF m 43 #[.val (.ref a1), .val (.long q2), .second, .val (.int (1023 : Int32)), .val (.int (((lsr (q2 * (-7046029254386353131 : Int64)) (54 : Int32)).toInt32 + (1 : Int32)) &&& (1023 : Int32)))] [(.long q2), (.long (f ((((lsr (q2 * (-7046029254386353131 : Int64)) (54 : Int32)).toInt32 + (1 : Int32)) &&& (1023 : Int32))).toNatClampNeg))]))
        refine Till.pre (fun _ hr => XS.lcmp X20.here hx rfl (hb hby d7_43) rfl hr) ?_
        show Till p e below s (Q7 Z a1 q2 b1 b2 w_size f g h0 n0) room7.cells room7.slots (T19.setTop (mkF m 44 #[.val (.ref a1), .val (.long q2), .second, .val (.int (1023 : Int32)), .val (.int (((lsr (q2 * (-7046029254386353131 : Int64)) (54 : Int32)).toInt32 + (1 : Int32)) &&& (1023 : Int32)))] [(.int (lcmpW (f ((((lsr (q2 * (-7046029254386353131 : Int64)) (54 : Int32)).toInt32 + (1 : Int32)) &&& (1023 : Int32))).toNatClampNeg) q2))]))
        refine Till.ifc (pc' := 58) X20.here hx (hb hby d7_44) (by decide) (by decide) (fun q => ?_) (fun q => ?_)
        · have hc22 := (lEq.mp (hEq.1 q))
          show Till p e below s (Q7 Z a1 q2 b1 b2 w_size f g h0 n0) room7.cells room7.slots (T19.setTop (mkF m 58 #[.val (.ref a1), .val (.long q2), .second, .val (.int (1023 : Int32)), .val (.int (((lsr (q2 * (-7046029254386353131 : Int64)) (54 : Int32)).toInt32 + (1 : Int32)) &&& (1023 : Int32)))] []))
          exact J58_38 _ _ X20 N0 e21 _ (Eq.symm ((if_neg hc10).trans ((if_neg hc14).trans ((if_neg hc18).trans (if_pos hc22)))))
        · have hc22 := (mt lEq.mpr (hEq.2.1 q))
          show Till p e below s (Q7 Z a1 q2 b1 b2 w_size f g h0 n0) room7.cells room7.slots (T19.setTop (mkF m 47 #[.val (.ref a1), .val (.long q2), .second, .val (.int (1023 : Int32)), .val (.int (((lsr (q2 * (-7046029254386353131 : Int64)) (54 : Int32)).toInt32 + (1 : Int32)) &&& (1023 : Int32)))] []))
          refine Till.pre (fun _ hr => XS.iload X20.here hx rfl (hb hby d7_47) rfl hr) ?_
          show Till p e below s (Q7 Z a1 q2 b1 b2 w_size f g h0 n0) room7.cells room7.slots (T19.setTop (mkF m 49 #[.val (.ref a1), .val (.long q2), .second, .val (.int (1023 : Int32)), .val (.int (((lsr (q2 * (-7046029254386353131 : Int64)) (54 : Int32)).toInt32 + (1 : Int32)) &&& (1023 : Int32)))] [(.int (((lsr (q2 * (-7046029254386353131 : Int64)) (54 : Int32)).toInt32 + (1 : Int32)) &&& (1023 : Int32)))]))
          refine Till.pre (fun _ hr => XS.iconst X20.here hx rfl (hb hby d7_49) hr) ?_
          show Till p e below s (Q7 Z a1 q2 b1 b2 w_size f g h0 n0) room7.cells room7.slots (T19.setTop (mkF m 50 #[.val (.ref a1), .val (.long q2), .second, .val (.int (1023 : Int32)), .val (.int (((lsr (q2 * (-7046029254386353131 : Int64)) (54 : Int32)).toInt32 + (1 : Int32)) &&& (1023 : Int32)))] [(.int (1 : Int32)), (.int (((lsr (q2 * (-7046029254386353131 : Int64)) (54 : Int32)).toInt32 + (1 : Int32)) &&& (1023 : Int32)))]))
          refine Till.pre (fun _ hr => XS.iadd X20.here hx rfl (hb hby d7_50) rfl hr) ?_
          show Till p e below s (Q7 Z a1 q2 b1 b2 w_size f g h0 n0) room7.cells room7.slots (T19.setTop (mkF m 51 #[.val (.ref a1), .val (.long q2), .second, .val (.int (1023 : Int32)), .val (.int (((lsr (q2 * (-7046029254386353131 : Int64)) (54 : Int32)).toInt32 + (1 : Int32)) &&& (1023 : Int32)))] [(.int ((((lsr (q2 * (-7046029254386353131 : Int64)) (54 : Int32)).toInt32 + (1 : Int32)) &&& (1023 : Int32)) + (1 : Int32)))]))
          refine Till.pre (fun _ hr => XS.iloadN X20.here hx rfl (hb hby d7_51) rfl hr) ?_
          show Till p e below s (Q7 Z a1 q2 b1 b2 w_size f g h0 n0) room7.cells room7.slots (T19.setTop (mkF m 52 #[.val (.ref a1), .val (.long q2), .second, .val (.int (1023 : Int32)), .val (.int (((lsr (q2 * (-7046029254386353131 : Int64)) (54 : Int32)).toInt32 + (1 : Int32)) &&& (1023 : Int32)))] [(.int (1023 : Int32)), (.int ((((lsr (q2 * (-7046029254386353131 : Int64)) (54 : Int32)).toInt32 + (1 : Int32)) &&& (1023 : Int32)) + (1 : Int32)))]))
          refine Till.pre (fun _ hr => XS.iand X20.here hx rfl (hb hby d7_52) rfl hr) ?_
          show Till p e below s (Q7 Z a1 q2 b1 b2 w_size f g h0 n0) room7.cells room7.slots (T19.setTop (mkF m 53 #[.val (.ref a1), .val (.long q2), .second, .val (.int (1023 : Int32)), .val (.int (((lsr (q2 * (-7046029254386353131 : Int64)) (54 : Int32)).toInt32 + (1 : Int32)) &&& (1023 : Int32)))] [(.int (((((lsr (q2 * (-7046029254386353131 : Int64)) (54 : Int32)).toInt32 + (1 : Int32)) &&& (1023 : Int32)) + (1 : Int32)) &&& (1023 : Int32)))]))
          refine Till.pre (fun _ hr => XS.istore X20.here hx rfl (hb hby d7_53) rfl (l' := #[.val (.ref a1), .val (.long q2), .second, .val (.int (1023 : Int32)), .val (.int (((((lsr (q2 * (-7046029254386353131 : Int64)) (54 : Int32)).toInt32 + (1 : Int32)) &&& (1023 : Int32)) + (1 : Int32)) &&& (1023 : Int32)))]) rfl hr) ?_
          show Till p e below s (Q7 Z a1 q2 b1 b2 w_size f g h0 n0) room7.cells room7.slots (T19.setTop (mkF m 55 #[.val (.ref a1), .val (.long q2), .second, .val (.int (1023 : Int32)), .val (.int (((((lsr (q2 * (-7046029254386353131 : Int64)) (54 : Int32)).toInt32 + (1 : Int32)) &&& (1023 : Int32)) + (1 : Int32)) &&& (1023 : Int32)))] []))
          refine Till.pre (fun _ hr => XS.goto X20.here hx rfl (pc0 := 55) (pc' := 21) rfl (hb hby d7_55) (by decide) (by decide) hr) ?_
          show Till p e below s (Q7 Z a1 q2 b1 b2 w_size f g h0 n0) room7.cells room7.slots (T19.setTop (mkF m 21 #[.val (.ref a1), .val (.long q2), .second, .val (.int (1023 : Int32)), .val (.int (((((lsr (q2 * (-7046029254386353131 : Int64)) (54 : Int32)).toInt32 + (1 : Int32)) &&& (1023 : Int32)) + (1 : Int32)) &&& (1023 : Int32)))] []))
          refine Till.pre (fun _ hr => XS.aloadN X20.here hx rfl (hb hby d7_21) rfl rfl hr) ?_
          show Till p e below s (Q7 Z a1 q2 b1 b2 w_size f g h0 n0) room7.cells room7.slots (T19.setTop (mkF m 22 #[.val (.ref a1), .val (.long q2), .second, .val (.int (1023 : Int32)), .val (.int (((((lsr (q2 * (-7046029254386353131 : Int64)) (54 : Int32)).toInt32 + (1 : Int32)) &&& (1023 : Int32)) + (1 : Int32)) &&& (1023 : Int32)))] [(.ref a1)]))
          refine Till.getF X20 hx hZ hown (hw _ (List.mem_of_getElem? (i := 24) rfl)) e21 R_a1.2.2.1 (hb hby d7_22) (fun T23 X24 e25 => ?_)
          show Till p e below s (Q7 Z a1 q2 b1 b2 w_size f g h0 n0) room7.cells room7.slots (T23.setTop (mkF m 25 #[.val (.ref a1), .val (.long q2), .second, .val (.int (1023 : Int32)), .val (.int (((((lsr (q2 * (-7046029254386353131 : Int64)) (54 : Int32)).toInt32 + (1 : Int32)) &&& (1023 : Int32)) + (1 : Int32)) &&& (1023 : Int32)))] [(.ref b2)]))
          refine Till.pre (fun _ hr => XS.iload X24.here hx rfl (hb hby d7_25) rfl hr) ?_
          show Till p e below s (Q7 Z a1 q2 b1 b2 w_size f g h0 n0) room7.cells room7.slots (T23.setTop (mkF m 27 #[.val (.ref a1), .val (.long q2), .second, .val (.int (1023 : Int32)), .val (.int (((((lsr (q2 * (-7046029254386353131 : Int64)) (54 : Int32)).toInt32 + (1 : Int32)) &&& (1023 : Int32)) + (1 : Int32)) &&& (1023 : Int32)))] [(.int (((((lsr (q2 * (-7046029254386353131 : Int64)) (54 : Int32)).toInt32 + (1 : Int32)) &&& (1023 : Int32)) + (1 : Int32)) &&& (1023 : Int32))), (.ref b2)]))
          refine Till.laload R_b2 (own_b1 (own_nxt _)) (own_b2 (own_nxt _)) X24 hx hZ e25 (hb hby d7_27) ?_
          show Till p e below s (Q7 Z a1 q2 b1 b2 w_size f g h0 n0) room7.cells room7.slots (T23.setTop (mkF m 28 #[.val (.ref a1), .val (.long q2), .second, .val (.int (1023 : Int32)), .val (.int (((((lsr (q2 * (-7046029254386353131 : Int64)) (54 : Int32)).toInt32 + (1 : Int32)) &&& (1023 : Int32)) + (1 : Int32)) &&& (1023 : Int32)))] [(.long (g ((((((lsr (q2 * (-7046029254386353131 : Int64)) (54 : Int32)).toInt32 + (1 : Int32)) &&& (1023 : Int32)) + (1 : Int32)) &&& (1023 : Int32))).toNatClampNeg))]))
          refine Till.pre (X24.ldc2Long hx hown (mvT hZ (hw _ (List.mem_of_getElem? (i := 26) rfl))) (g := (mkF m 28 #[.val (.ref a1), .val (.long q2), .second, .val (.int (1023 : Int32)), .val (.int (((((lsr (q2 * (-7046029254386353131 : Int64)) (54 : Int32)).toInt32 + (1 : Int32)) &&& (1023 : Int32)) + (1 : Int32)) &&& (1023 : Int32)))] [(.long (g ((((((lsr (q2 * (-7046029254386353131 : Int64)) (54 : Int32)).toInt32 + (1 : Int32)) &&& (1023 : Int32)) + (1 : Int32)) &&& (1023 : Int32))).toNatClampNeg))])) rfl (hb hby d7_28)) ?_
          show Till p e below s (Q7 Z a1 q2 b1 b2 w_size f g h0 n0) room7.cells room7.slots (T23.setTop (mkF m 31 #[.val (.ref a1), .val (.long q2), .second, .val (.int (1023 : Int32)), .val (.int (((((lsr (q2 * (-7046029254386353131 : Int64)) (54 : Int32)).toInt32 + (1 : Int32)) &&& (1023 : Int32)) + (1 : Int32)) &&& (1023 : Int32)))] [(.long (-9223372036854775808 : Int64)), (.long (g ((((((lsr (q2 * (-7046029254386353131 : Int64)) (54 : Int32)).toInt32 + (1 : Int32)) &&& (1023 : Int32)) + (1 : Int32)) &&& (1023 : Int32))).toNatClampNeg))]))
          refine Till.pre (fun _ hr => XS.lcmp X24.here hx rfl (hb hby d7_31) rfl hr) ?_
          show Till p e below s (Q7 Z a1 q2 b1 b2 w_size f g h0 n0) room7.cells room7.slots (T23.setTop (mkF m 32 #[.val (.ref a1), .val (.long q2), .second, .val (.int (1023 : Int32)), .val (.int (((((lsr (q2 * (-7046029254386353131 : Int64)) (54 : Int32)).toInt32 + (1 : Int32)) &&& (1023 : Int32)) + (1 : Int32)) &&& (1023 : Int32)))] [(.int (lcmpW (g ((((((lsr (q2 * (-7046029254386353131 : Int64)) (54 : Int32)).toInt32 + (1 : Int32)) &&& (1023 : Int32)) + (1 : Int32)) &&& (1023 : Int32))).toNatClampNeg) (-9223372036854775808 : Int64)))]))
          refine Till.ifc (pc' := 58) X24.here hx (hb hby d7_32) (by decide) (by decide) (fun q => ?_) (fun q => ?_)
          · have hc26 := (lEq.mp (hEq.1 q))
            show Till p e below s (Q7 Z a1 q2 b1 b2 w_size f g h0 n0) room7.cells room7.slots (T23.setTop (mkF m 58 #[.val (.ref a1), .val (.long q2), .second, .val (.int (1023 : Int32)), .val (.int (((((lsr (q2 * (-7046029254386353131 : Int64)) (54 : Int32)).toInt32 + (1 : Int32)) &&& (1023 : Int32)) + (1 : Int32)) &&& (1023 : Int32)))] []))
            exact J58_38 _ _ X24 N0 e25 _ (Eq.symm ((if_neg hc10).trans ((if_neg hc14).trans ((if_neg hc18).trans ((if_neg hc22).trans (if_pos hc26))))))
          · have hc26 := (mt lEq.mpr (hEq.2.1 q))
            show Till p e below s (Q7 Z a1 q2 b1 b2 w_size f g h0 n0) room7.cells room7.slots (T23.setTop (mkF m 35 #[.val (.ref a1), .val (.long q2), .second, .val (.int (1023 : Int32)), .val (.int (((((lsr (q2 * (-7046029254386353131 : Int64)) (54 : Int32)).toInt32 + (1 : Int32)) &&& (1023 : Int32)) + (1 : Int32)) &&& (1023 : Int32)))] []))
            refine Till.pre (fun _ hr => XS.aloadN X24.here hx rfl (hb hby d7_35) rfl rfl hr) ?_
            show Till p e below s (Q7 Z a1 q2 b1 b2 w_size f g h0 n0) room7.cells room7.slots (T23.setTop (mkF m 36 #[.val (.ref a1), .val (.long q2), .second, .val (.int (1023 : Int32)), .val (.int (((((lsr (q2 * (-7046029254386353131 : Int64)) (54 : Int32)).toInt32 + (1 : Int32)) &&& (1023 : Int32)) + (1 : Int32)) &&& (1023 : Int32)))] [(.ref a1)]))
            refine Till.getF X24 hx hZ hown (hw _ (List.mem_of_getElem? (i := 22) rfl)) e25 R_a1.2.1 (hb hby d7_36) (fun T27 X28 e29 => ?_)
            show Till p e below s (Q7 Z a1 q2 b1 b2 w_size f g h0 n0) room7.cells room7.slots (T27.setTop (mkF m 39 #[.val (.ref a1), .val (.long q2), .second, .val (.int (1023 : Int32)), .val (.int (((((lsr (q2 * (-7046029254386353131 : Int64)) (54 : Int32)).toInt32 + (1 : Int32)) &&& (1023 : Int32)) + (1 : Int32)) &&& (1023 : Int32)))] [(.ref b1)]))
            refine Till.pre (fun _ hr => XS.iload X28.here hx rfl (hb hby d7_39) rfl hr) ?_
            show Till p e below s (Q7 Z a1 q2 b1 b2 w_size f g h0 n0) room7.cells room7.slots (T27.setTop (mkF m 41 #[.val (.ref a1), .val (.long q2), .second, .val (.int (1023 : Int32)), .val (.int (((((lsr (q2 * (-7046029254386353131 : Int64)) (54 : Int32)).toInt32 + (1 : Int32)) &&& (1023 : Int32)) + (1 : Int32)) &&& (1023 : Int32)))] [(.int (((((lsr (q2 * (-7046029254386353131 : Int64)) (54 : Int32)).toInt32 + (1 : Int32)) &&& (1023 : Int32)) + (1 : Int32)) &&& (1023 : Int32))), (.ref b1)]))
            refine Till.laload R_b1 (own_b1 (own_nxt _)) (own_b2 (own_nxt _)) X28 hx hZ e29 (hb hby d7_41) ?_
            show Till p e below s (Q7 Z a1 q2 b1 b2 w_size f g h0 n0) room7.cells room7.slots (T27.setTop (mkF m 42 #[.val (.ref a1), .val (.long q2), .second, .val (.int (1023 : Int32)), .val (.int (((((lsr (q2 * (-7046029254386353131 : Int64)) (54 : Int32)).toInt32 + (1 : Int32)) &&& (1023 : Int32)) + (1 : Int32)) &&& (1023 : Int32)))] [(.long (f ((((((lsr (q2 * (-7046029254386353131 : Int64)) (54 : Int32)).toInt32 + (1 : Int32)) &&& (1023 : Int32)) + (1 : Int32)) &&& (1023 : Int32))).toNatClampNeg))]))
            refine Till.pre (fun _ hr => XS.lloadN X28.here hx rfl (hb hby d7_42) rfl hr) ?_
            show Till p e below s (Q7 Z a1 q2 b1 b2 w_size f g h0 n0) room7.cells room7.slots (T27.setTop (mkF m 43 #[.val (.ref a1), .val (.long q2), .second, .val (.int (1023 : Int32)), .val (.int (((((lsr (q2 * (-7046029254386353131 : Int64)) (54 : Int32)).toInt32 + (1 : Int32)) &&& (1023 : Int32)) + (1 : Int32)) &&& (1023 : Int32)))] [(.long q2), (.long (f ((((((lsr (q2 * (-7046029254386353131 : Int64)) (54 : Int32)).toInt32 + (1 : Int32)) &&& (1023 : Int32)) + (1 : Int32)) &&& (1023 : Int32))).toNatClampNeg))]))
            refine Till.pre (fun _ hr => XS.lcmp X28.here hx rfl (hb hby d7_43) rfl hr) ?_
            show Till p e below s (Q7 Z a1 q2 b1 b2 w_size f g h0 n0) room7.cells room7.slots (T27.setTop (mkF m 44 #[.val (.ref a1), .val (.long q2), .second, .val (.int (1023 : Int32)), .val (.int (((((lsr (q2 * (-7046029254386353131 : Int64)) (54 : Int32)).toInt32 + (1 : Int32)) &&& (1023 : Int32)) + (1 : Int32)) &&& (1023 : Int32)))] [(.int (lcmpW (f ((((((lsr (q2 * (-7046029254386353131 : Int64)) (54 : Int32)).toInt32 + (1 : Int32)) &&& (1023 : Int32)) + (1 : Int32)) &&& (1023 : Int32))).toNatClampNeg) q2))]))
            refine Till.ifc (pc' := 58) X28.here hx (hb hby d7_44) (by decide) (by decide) (fun q => ?_) (fun q => ?_)
            · have hc30 := (lEq.mp (hEq.1 q))
              show Till p e below s (Q7 Z a1 q2 b1 b2 w_size f g h0 n0) room7.cells room7.slots (T27.setTop (mkF m 58 #[.val (.ref a1), .val (.long q2), .second, .val (.int (1023 : Int32)), .val (.int (((((lsr (q2 * (-7046029254386353131 : Int64)) (54 : Int32)).toInt32 + (1 : Int32)) &&& (1023 : Int32)) + (1 : Int32)) &&& (1023 : Int32)))] []))
              exact J58_38 _ _ X28 N0 e29 _ (Eq.symm ((if_neg hc10).trans ((if_neg hc14).trans ((if_neg hc18).trans ((if_neg hc22).trans ((if_neg hc26).trans (if_pos hc30)))))))
            · have hc30 := (mt lEq.mpr (hEq.2.1 q))
              show Till p e below s (Q7 Z a1 q2 b1 b2 w_size f g h0 n0) room7.cells room7.slots (T27.setTop (mkF m 47 #[.val (.ref a1), .val (.long q2), .second, .val (.int (1023 : Int32)), .val (.int (((((lsr (q2 * (-7046029254386353131 : Int64)) (54 : Int32)).toInt32 + (1 : Int32)) &&& (1023 : Int32)) + (1 : Int32)) &&& (1023 : Int32)))] []))
              refine Till.pre (fun _ hr => XS.iload X28.here hx rfl (hb hby d7_47) rfl hr) ?_
              show Till p e below s (Q7 Z a1 q2 b1 b2 w_size f g h0 n0) room7.cells room7.slots (T27.setTop (mkF m 49 #[.val (.ref a1), .val (.long q2), .second, .val (.int (1023 : Int32)), .val (.int (((((lsr (q2 * (-7046029254386353131 : Int64)) (54 : Int32)).toInt32 + (1 : Int32)) &&& (1023 : Int32)) + (1 : Int32)) &&& (1023 : Int32)))] [(.int (((((lsr (q2 * (-7046029254386353131 : Int64)) (54 : Int32)).toInt32 + (1 : Int32)) &&& (1023 : Int32)) + (1 : Int32)) &&& (1023 : Int32)))]))
              refine Till.pre (fun _ hr => XS.iconst X28.here hx rfl (hb hby d7_49) hr) ?_
              show Till p e below s (Q7 Z a1 q2 b1 b2 w_size f g h0 n0) room7.cells room7.slots (T27.setTop (mkF m 50 #[.val (.ref a1), .val (.long q2), .second, .val (.int (1023 : Int32)), .val (.int (((((lsr (q2 * (-7046029254386353131 : Int64)) (54 : Int32)).toInt32 + (1 : Int32)) &&& (1023 : Int32)) + (1 : Int32)) &&& (1023 : Int32)))] [(.int (1 : Int32)), (.int (((((lsr (q2 * (-7046029254386353131 : Int64)) (54 : Int32)).toInt32 + (1 : Int32)) &&& (1023 : Int32)) + (1 : Int32)) &&& (1023 : Int32)))]))
              refine Till.pre (fun _ hr => XS.iadd X28.here hx rfl (hb hby d7_50) rfl hr) ?_
              show Till p e below s (Q7 Z a1 q2 b1 b2 w_size f g h0 n0) room7.cells room7.slots (T27.setTop (mkF m 51 #[.val (.ref a1), .val (.long q2), .second, .val (.int (1023 : Int32)), .val (.int (((((lsr (q2 * (-7046029254386353131 : Int64)) (54 : Int32)).toInt32 + (1 : Int32)) &&& (1023 : Int32)) + (1 : Int32)) &&& (1023 : Int32)))] [(.int ((((((lsr (q2 * (-7046029254386353131 : Int64)) (54 : Int32)).toInt32 + (1 : Int32)) &&& (1023 : Int32)) + (1 : Int32)) &&& (1023 : Int32)) + (1 : Int32)))]))
              refine Till.pre (fun _ hr => XS.iloadN X28.here hx rfl (hb hby d7_51) rfl hr) ?_
              show Till p e below s (Q7 Z a1 q2 b1 b2 w_size f g h0 n0) room7.cells room7.slots (T27.setTop (mkF m 52 #[.val (.ref a1), .val (.long q2), .second, .val (.int (1023 : Int32)), .val (.int (((((lsr (q2 * (-7046029254386353131 : Int64)) (54 : Int32)).toInt32 + (1 : Int32)) &&& (1023 : Int32)) + (1 : Int32)) &&& (1023 : Int32)))] [(.int (1023 : Int32)), (.int ((((((lsr (q2 * (-7046029254386353131 : Int64)) (54 : Int32)).toInt32 + (1 : Int32)) &&& (1023 : Int32)) + (1 : Int32)) &&& (1023 : Int32)) + (1 : Int32)))]))
              refine Till.pre (fun _ hr => XS.iand X28.here hx rfl (hb hby d7_52) rfl hr) ?_
              show Till p e below s (Q7 Z a1 q2 b1 b2 w_size f g h0 n0) room7.cells room7.slots (T27.setTop (mkF m 53 #[.val (.ref a1), .val (.long q2), .second, .val (.int (1023 : Int32)), .val (.int (((((lsr (q2 * (-7046029254386353131 : Int64)) (54 : Int32)).toInt32 + (1 : Int32)) &&& (1023 : Int32)) + (1 : Int32)) &&& (1023 : Int32)))] [(.int (((((((lsr (q2 * (-7046029254386353131 : Int64)) (54 : Int32)).toInt32 + (1 : Int32)) &&& (1023 : Int32)) + (1 : Int32)) &&& (1023 : Int32)) + (1 : Int32)) &&& (1023 : Int32)))]))
              refine Till.pre (fun _ hr => XS.istore X28.here hx rfl (hb hby d7_53) rfl (l' := #[.val (.ref a1), .val (.long q2), .second, .val (.int (1023 : Int32)), .val (.int (((((((lsr (q2 * (-7046029254386353131 : Int64)) (54 : Int32)).toInt32 + (1 : Int32)) &&& (1023 : Int32)) + (1 : Int32)) &&& (1023 : Int32)) + (1 : Int32)) &&& (1023 : Int32)))]) rfl hr) ?_
              show Till p e below s (Q7 Z a1 q2 b1 b2 w_size f g h0 n0) room7.cells room7.slots (T27.setTop (mkF m 55 #[.val (.ref a1), .val (.long q2), .second, .val (.int (1023 : Int32)), .val (.int (((((((lsr (q2 * (-7046029254386353131 : Int64)) (54 : Int32)).toInt32 + (1 : Int32)) &&& (1023 : Int32)) + (1 : Int32)) &&& (1023 : Int32)) + (1 : Int32)) &&& (1023 : Int32)))] []))
              refine Till.pre (fun _ hr => XS.goto X28.here hx rfl (pc0 := 55) (pc' := 21) rfl (hb hby d7_55) (by decide) (by decide) hr) ?_
              show Till p e below s (Q7 Z a1 q2 b1 b2 w_size f g h0 n0) room7.cells room7.slots (T27.setTop (mkF m 21 #[.val (.ref a1), .val (.long q2), .second, .val (.int (1023 : Int32)), .val (.int (((((((lsr (q2 * (-7046029254386353131 : Int64)) (54 : Int32)).toInt32 + (1 : Int32)) &&& (1023 : Int32)) + (1 : Int32)) &&& (1023 : Int32)) + (1 : Int32)) &&& (1023 : Int32)))] []))
              refine Till.pre (fun _ hr => XS.aloadN X28.here hx rfl (hb hby d7_21) rfl rfl hr) ?_
              show Till p e below s (Q7 Z a1 q2 b1 b2 w_size f g h0 n0) room7.cells room7.slots (T27.setTop (mkF m 22 #[.val (.ref a1), .val (.long q2), .second, .val (.int (1023 : Int32)), .val (.int (((((((lsr (q2 * (-7046029254386353131 : Int64)) (54 : Int32)).toInt32 + (1 : Int32)) &&& (1023 : Int32)) + (1 : Int32)) &&& (1023 : Int32)) + (1 : Int32)) &&& (1023 : Int32)))] [(.ref a1)]))
              refine Till.getF X28 hx hZ hown (hw _ (List.mem_of_getElem? (i := 24) rfl)) e29 R_a1.2.2.1 (hb hby d7_22) (fun T31 X32 e33 => ?_)
              show Till p e below s (Q7 Z a1 q2 b1 b2 w_size f g h0 n0) room7.cells room7.slots (T31.setTop (mkF m 25 #[.val (.ref a1), .val (.long q2), .second, .val (.int (1023 : Int32)), .val (.int (((((((lsr (q2 * (-7046029254386353131 : Int64)) (54 : Int32)).toInt32 + (1 : Int32)) &&& (1023 : Int32)) + (1 : Int32)) &&& (1023 : Int32)) + (1 : Int32)) &&& (1023 : Int32)))] [(.ref b2)]))
              refine Till.pre (fun _ hr => XS.iload X32.here hx rfl (hb hby d7_25) rfl hr) ?_
              show Till p e below s (Q7 Z a1 q2 b1 b2 w_size f g h0 n0) room7.cells room7.slots (T31.setTop (mkF m 27 #[.val (.ref a1), .val (.long q2), .second, .val (.int (1023 : Int32)), .val (.int (((((((lsr (q2 * (-7046029254386353131 : Int64)) (54 : Int32)).toInt32 + (1 : Int32)) &&& (1023 : Int32)) + (1 : Int32)) &&& (1023 : Int32)) + (1 : Int32)) &&& (1023 : Int32)))] [(.int (((((((lsr (q2 * (-7046029254386353131 : Int64)) (54 : Int32)).toInt32 + (1 : Int32)) &&& (1023 : Int32)) + (1 : Int32)) &&& (1023 : Int32)) + (1 : Int32)) &&& (1023 : Int32))), (.ref b2)]))
              refine Till.laload R_b2 (own_b1 (own_nxt _)) (own_b2 (own_nxt _)) X32 hx hZ e33 (hb hby d7_27) ?_
              show Till p e below s (Q7 Z a1 q2 b1 b2 w_size f g h0 n0) room7.cells room7.slots (T31.setTop (mkF m 28 #[.val (.ref a1), .val (.long q2), .second, .val (.int (1023 : Int32)), .val (.int (((((((lsr (q2 * (-7046029254386353131 : Int64)) (54 : Int32)).toInt32 + (1 : Int32)) &&& (1023 : Int32)) + (1 : Int32)) &&& (1023 : Int32)) + (1 : Int32)) &&& (1023 : Int32)))] [(.long (g ((((((((lsr (q2 * (-7046029254386353131 : Int64)) (54 : Int32)).toInt32 + (1 : Int32)) &&& (1023 : Int32)) + (1 : Int32)) &&& (1023 : Int32)) + (1 : Int32)) &&& (1023 : Int32))).toNatClampNeg))]))
              refine Till.pre (X32.ldc2Long hx hown (mvT hZ (hw _ (List.mem_of_getElem? (i := 26) rfl))) (g := (mkF m 28 #[.val (.ref a1), .val (.long q2), .second, .val (.int (1023 : Int32)), .val (.int (((((((lsr (q2 * (-7046029254386353131 : Int64)) (54 : Int32)).toInt32 + (1 : Int32)) &&& (1023 : Int32)) + (1 : Int32)) &&& (1023 : Int32)) + (1 : Int32)) &&& (1023 : Int32)))] [(.long (g ((((((((lsr (q2 * (-7046029254386353131 : Int64)) (54 : Int32)).toInt32 + (1 : Int32)) &&& (1023 : Int32)) + (1 : Int32)) &&& (1023 : Int32)) + (1 : Int32)) &&& (1023 : Int32))).toNatClampNeg))])) rfl (hb hby d7_28)) ?_
              show Till p e below s (Q7 Z a1 q2 b1 b2 w_size f g h0 n0) room7.cells room7.slots (T31.setTop (mkF m 31 #[.val (.ref a1), .val (.long q2), .second, .val (.int (1023 : Int32)), .val (.int (((((((lsr (q2 * (-7046029254386353131 : Int64)) (54 : Int32)).toInt32 + (1 : Int32)) &&& (1023 : Int32)) + (1 : Int32)) &&& (1023 : Int32)) + (1 : Int32)) &&& (1023 : Int32)))] [(.long (-9223372036854775808 : Int64)), (.long (g ((((((((lsr (q2 * (-7046029254386353131 : Int64)) (54 : Int32)).toInt32 + (1 : Int32)) &&& (1023 : Int32)) + (1 : Int32)) &&& (1023 : Int32)) + (1 : Int32)) &&& (1023 : Int32))).toNatClampNeg))]))
              refine Till.pre (fun _ hr => XS.lcmp X32.here hx rfl (hb hby d7_31) rfl hr) ?_
              show Till p e below s (Q7 Z a1 q2 b1 b2 w_size f g h0 n0) room7.cells room7.slots (T31.setTop (mkF m 32 #[.val (.ref a1), .val (.long q2), .second, .val (.int (1023 : Int32)), .val (.int (((((((lsr (q2 * (-7046029254386353131 : Int64)) (54 : Int32)).toInt32 + (1 : Int32)) &&& (1023 : Int32)) + (1 : Int32)) &&& (1023 : Int32)) + (1 : Int32)) &&& (1023 : Int32)))] [(.int (lcmpW (g ((((((((lsr (q2 * (-7046029254386353131 : Int64)) (54 : Int32)).toInt32 + (1 : Int32)) &&& (1023 : Int32)) + (1 : Int32)) &&& (1023 : Int32)) + (1 : Int32)) &&& (1023 : Int32))).toNatClampNeg) (-9223372036854775808 : Int64)))]))
              refine Till.ifc (pc' := 58) X32.here hx (hb hby d7_32) (by decide) (by decide) (fun q => ?_) (fun q => absurd (own_4 hstop hc10 hc18 hc26 : ((g ((((((((lsr (q2 * (-7046029254386353131 : Int64)) (54 : Int32)).toInt32 + (1 : Int32)) &&& (1023 : Int32)) + (1 : Int32)) &&& (1023 : Int32)) + (1 : Int32)) &&& (1023 : Int32))).toNatClampNeg) = (-9223372036854775808 : Int64))) (mt lEq.mpr (hEq.2.1 q)))
              show Till p e below s (Q7 Z a1 q2 b1 b2 w_size f g h0 n0) room7.cells room7.slots (T31.setTop (mkF m 58 #[.val (.ref a1), .val (.long q2), .second, .val (.int (1023 : Int32)), .val (.int (((((((lsr (q2 * (-7046029254386353131 : Int64)) (54 : Int32)).toInt32 + (1 : Int32)) &&& (1023 : Int32)) + (1 : Int32)) &&& (1023 : Int32)) + (1 : Int32)) &&& (1023 : Int32)))] []))
              exact J58_38 _ _ X32 N0 e33 _ (Eq.symm ((if_neg hc10).trans ((if_neg hc14).trans ((if_neg hc18).trans ((if_neg hc22).trans ((if_neg hc26).trans (if_neg hc30)))))))
/-! the table, as a map -/
abbrev own_ABS : Int64 := (-9223372036854775808 : Int64)
def own_S (x : Int64) (k : Nat) : Nat := ((own_h x).toNatClampNeg + k) % 1024
def own_Stop (f g : Nat → Int64) (x : Int64) (i : Nat) : Prop := g i = own_ABS ∨ f i = x
def own_Fst (f g : Nat → Int64) (x : Int64) (k : Nat) : Prop := k < 1024 ∧ own_Stop f g x (own_S x k) ∧ ∀ j, j < k → ¬ own_Stop f g x (own_S x j)
def own_Tb (f g : Nat → Int64) (N : Nat) (m : Int64 → Int64) : Prop :=
  (∃ o : Nat → Nat, ∀ i, i < 1024 → g i ≠ own_ABS → ∃ j, j < N ∧ i = o j) ∧ (∀ x k, own_Fst f g x k → g (own_S x k) = m x) ∧ (∀ i, i < 1024 → g i ≠ own_ABS → ∃ k, own_Fst f g (f i) k ∧ own_S (f i) k = i)
def own_um (m : Int64 → Int64) (a v : Int64) : Int64 → Int64 := fun x => if x = a then v else m x
theorem own_hlt (x : Int64) : (own_h x).toNatClampNeg < 1024 := by
  have := own_home (x * (-7046029254386353131 : Int64))
  have h : (own_h x).toInt = (lsr (x * (-7046029254386353131 : Int64)) (54 : Int32)).toInt32.toInt := rfl
  simp only [Int32.toNatClampNeg, h]; omega
theorem own_Slt (x : Int64) (k : Nat) : own_S x k < 1024 := Nat.mod_lt _ (by decide)
theorem own_Sinj {x : Int64} {j k : Nat} (hj : j < 1024) (hk : k < 1024) (h : own_S x j = own_S x k) : j = k := by
  have := own_hlt x
  unfold own_S at h; omega
theorem own_nn {s : Int32} (h : 0 ≤ s.toInt ∧ s.toInt < 1024) : (own_n s).toNatClampNeg = (s.toNatClampNeg + 1) % 1024 ∧ 0 ≤ (own_n s).toInt ∧ (own_n s).toInt < 1024 := by
  have a := c_mask (s + 1) 1023 10 (by decide) (by decide)
  have b := c_iadd s 1
  have c := rng32 (s + 1)
  have e1 : (1 : Int32).toInt = 1 := rfl
  have d : (own_n s).toInt = (s + 1).toInt % (2 ^ 10 : Nat) := a
  simp only [Int32.toNatClampNeg, d]; omega
theorem own_hb (x : Int64) : 0 ≤ (own_h x).toInt ∧ (own_h x).toInt < 1024 := own_home _
theorem own_S0 (x : Int64) : (own_h x).toNatClampNeg = own_S x 0 := by
  have := own_hlt x
  unfold own_S; omega
theorem own_S1 (x : Int64) : (own_n (own_h x)).toNatClampNeg = own_S x 1 := (own_nn (own_hb x)).1
theorem own_S2 (x : Int64) : (own_n (own_n (own_h x))).toNatClampNeg = own_S x 2 := by
  rw [(own_nn (own_nn (own_hb x)).2).1, own_S1]; unfold own_S; omega
theorem own_S3 (x : Int64) : (own_n (own_n (own_n (own_h x)))).toNatClampNeg = own_S x 3 := by
  rw [(own_nn (own_nn (own_nn (own_hb x)).2).2).1, own_S2]; unfold own_S; omega
/-- three entries leave one of four places free -/
theorem own_free {f g : Nat → Int64} {N : Nat} {m : Int64 → Int64} (t : own_Tb f g N m) (hN : N ≤ 3) (x : Int64) : g (own_S x 0) = own_ABS ∨ g (own_S x 1) = own_ABS ∨ g (own_S x 2) = own_ABS ∨ g (own_S x 3) = own_ABS := by
  obtain ⟨⟨o, ho⟩, -, -⟩ := t
  by_cases h0 : g (own_S x 0) = own_ABS
  · exact Or.inl h0
  by_cases h1 : g (own_S x 1) = own_ABS
  · exact Or.inr (Or.inl h1)
  by_cases h2 : g (own_S x 2) = own_ABS
  · exact Or.inr (Or.inr (Or.inl h2))
  by_cases h3 : g (own_S x 3) = own_ABS
  · exact Or.inr (Or.inr (Or.inr h3))
  exfalso
  obtain ⟨j0, a0, e0⟩ := ho _ (own_Slt x 0) h0
  obtain ⟨j1, a1, e1⟩ := ho _ (own_Slt x 1) h1
  obtain ⟨j2, a2, e2⟩ := ho _ (own_Slt x 2) h2
  obtain ⟨j3, a3, e3⟩ := ho _ (own_Slt x 3) h3
  have n01 : j0 ≠ j1 := fun q => absurd (own_Sinj (by decide) (by decide) (e0.trans (q ▸ e1.symm))) (by decide)
  have n02 : j0 ≠ j2 := fun q => absurd (own_Sinj (by decide) (by decide) (e0.trans (q ▸ e2.symm))) (by decide)
  have n03 : j0 ≠ j3 := fun q => absurd (own_Sinj (by decide) (by decide) (e0.trans (q ▸ e3.symm))) (by decide)
  have n12 : j1 ≠ j2 := fun q => absurd (own_Sinj (by decide) (by decide) (e1.trans (q ▸ e2.symm))) (by decide)
  have n13 : j1 ≠ j3 := fun q => absurd (own_Sinj (by decide) (by decide) (e1.trans (q ▸ e3.symm))) (by decide)
  have n23 : j2 ≠ j3 := fun q => absurd (own_Sinj (by decide) (by decide) (e2.trans (q ▸ e3.symm))) (by decide)
  omega
theorem own_uniq {f g : Nat → Int64} {x : Int64} {j k : Nat} (a : own_Fst f g x j) (b : own_Fst f g x k) : j = k := by
  rcases Nat.lt_trichotomy j k with h | h | h
  · exact absurd a.2.1 (b.2.2 j h)
  · exact h
  · exact absurd b.2.1 (a.2.2 k h)
theorem own_empty (f : Nat → Int64) : own_Tb f (fun _ => own_ABS) 0 (fun _ => own_ABS) :=
  ⟨⟨fun i => i, fun i _ h => absurd rfl h⟩, fun _ _ _ => rfl, fun i _ h => absurd rfl h⟩
/-- a put -/
theorem own_put {f g : Nat → Int64} {N : Nat} {m : Int64 → Int64} {a v : Int64} {k : Nat} (t : own_Tb f g N m) (hF : own_Fst f g a k) (hv : v ≠ own_ABS) : own_Tb (oupd f (own_S a k) a) (oupd g (own_S a k) v) (N + 1) (own_um m a v) := by
  obtain ⟨⟨o, ho⟩, hl, hs⟩ := t
  -- how a place answers now
  have off : ∀ x i, i ≠ own_S a k → (own_Stop (oupd f (own_S a k) a) (oupd g (own_S a k) v) x i ↔ own_Stop f g x i) := fun x i hi => by
    unfold own_Stop; rw [upd_miss hi, upd_miss hi]
  have on : ∀ x, own_Stop (oupd f (own_S a k) a) (oupd g (own_S a k) v) x (own_S a k) ↔ x = a := fun x => by
    unfold own_Stop; rw [upd_hit rfl, upd_hit rfl]
    exact ⟨fun h => h.elim (fun q => absurd q hv) Eq.symm, fun h => Or.inr h.symm⟩
  -- the id itself
  have self : own_Fst (oupd f (own_S a k) a) (oupd g (own_S a k) v) a k :=
    ⟨hF.1, (on a).mpr rfl, fun j hj q => hF.2.2 j hj ((off a _ (fun e => absurd (own_Sinj (Nat.lt_trans hj hF.1) hF.1 e) (Nat.ne_of_lt hj))).mp q)⟩
  -- another id that was found elsewhere
  have other : ∀ x j, x ≠ a → own_Fst f g x j → own_S x j ≠ own_S a k → own_Fst (oupd f (own_S a k) a) (oupd g (own_S a k) v) x j := fun x j hx h hne =>
    ⟨h.1, (off x _ hne).mpr h.2.1, fun i hi q => by
      by_cases e : own_S x i = own_S a k
      · rw [e] at q; exact hx ((on x).mp q)
      · exact h.2.2 i hi ((off x _ e).mp q)⟩
  refine ⟨⟨fun j => if j < N then o j else own_S a k, fun i hi hg => ?_⟩, fun x j hx => ?_, fun i hi hg => ?_⟩
  · by_cases e : i = own_S a k
    · exact ⟨N, Nat.lt_succ_self N, e.trans (if_neg (Nat.lt_irrefl N)).symm⟩
    · rw [upd_miss e] at hg
      obtain ⟨j, hj, ej⟩ := ho i hi hg
      exact ⟨j, Nat.lt_succ_of_lt hj, ej.trans (if_pos hj).symm⟩
  · by_cases e : x = a
    · subst e
      have := own_uniq hx self; subst this
      rw [upd_hit rfl]; exact (if_pos rfl).symm
    · rw [show own_um m a v x = m x from if_neg e]
      have hne : own_S x j ≠ own_S a k := fun q => by
        have := hx.2.1; rw [q] at this; exact e ((on x).mp this)
      rw [upd_miss hne]
      -- the old search of x: it stops at j, or at the place that is taken now
      by_cases hold : own_Fst f g x j
      · exact hl x j hold
      · -- some earlier place stopped it
        have : ∃ i, i < j ∧ own_Stop f g x (own_S x i) := by
          by_cases w : ∃ i, i < j ∧ own_Stop f g x (own_S x i)
          · exact w
          · exact absurd ⟨hx.1, (off x _ hne).mp hx.2.1, fun i hi q => w ⟨i, hi, q⟩⟩ hold
        obtain ⟨i, hi, hsi⟩ := this
        have ei : own_S x i = own_S a k := by
          by_cases w : own_S x i = own_S a k
          · exact w
          · exact absurd ((off x _ w).mpr hsi) (hx.2.2 i hi)
        have fi : own_Fst f g x i := ⟨Nat.lt_trans hi hx.1, hsi, fun i' hi' q => by
          have : own_S x i' ≠ own_S a k := fun w => absurd (own_Sinj (Nat.lt_trans hi' (Nat.lt_trans hi hx.1)) (Nat.lt_trans hi hx.1) (w.trans ei.symm)) (Nat.ne_of_lt hi')
          exact hx.2.2 i' (Nat.lt_trans hi' hi) ((off x _ this).mpr q)⟩
        have gA : g (own_S a k) = own_ABS := by
          rcases hsi with q | q
          · rw [ei] at q; exact q
          · rcases hF.2.1 with r | r
            · exact r
            · rw [ei] at q; exact absurd (q.symm.trans r) e
        have mA : m x = own_ABS := by rw [← hl x i fi, ei]; exact gA
        rw [mA]
        by_cases gj : g (own_S x j) = own_ABS
        · exact gj
        · exfalso
          have fx : f (own_S x j) = x := ((off x _ hne).mp hx.2.1).elim (fun q => absurd q gj) id
          obtain ⟨k', h1, h2⟩ := hs _ (own_Slt x j) gj
          rw [fx] at h1 h2
          have := own_uniq h1 fi; subst this
          exact hne (h2.symm.trans ei)
  · by_cases e : i = own_S a k
    · rw [e, upd_hit rfl]; exact ⟨k, self, rfl⟩
    · rw [upd_miss e] at hg ⊢
      obtain ⟨k', h1, h2⟩ := hs i hi hg
      by_cases q : f i = a
      · rw [q] at h1 h2
        have := own_uniq h1 hF; subst this
        exact absurd h2.symm e
      · exact ⟨k', other _ _ q h1 (by rw [h2]; exact e), h2⟩
theorem own_stop {f g : Nat → Int64} {N : Nat} {m : Int64 → Int64} (t : own_Tb f g N m) (hN : N ≤ 3) (x : Int64) : g (own_h x).toNatClampNeg = own_ABS ∨ g (own_n (own_h x)).toNatClampNeg = own_ABS ∨ g (own_n (own_n (own_h x))).toNatClampNeg = own_ABS ∨ g (own_n (own_n (own_n (own_h x)))).toNatClampNeg = own_ABS := by
  rw [own_S0, own_S1, own_S2, own_S3]; exact own_free t hN x
theorem own_slot {f g : Nat → Int64} {q : Int64} {w : Int32} (h : g (own_h q).toNatClampNeg = own_ABS ∨ g (own_n (own_h q)).toNatClampNeg = own_ABS ∨ g (own_n (own_n (own_h q))).toNatClampNeg = own_ABS ∨ g (own_n (own_n (own_n (own_h q)))).toNatClampNeg = own_ABS) :
    ∃ k, own_Fst f g q k ∧ (fn7 q w f g).toNatClampNeg = own_S q k ∧ 0 ≤ (fn7 q w f g).toInt ∧ (fn7 q w f g).toInt < 1024 := by
  have e : fn7 q w f g = (if g (own_h q).toNatClampNeg = own_ABS then own_h q else if f (own_h q).toNatClampNeg = q then own_h q else if g (own_n (own_h q)).toNatClampNeg = own_ABS then own_n (own_h q) else if f (own_n (own_h q)).toNatClampNeg = q then own_n (own_h q) else if g (own_n (own_n (own_h q))).toNatClampNeg = own_ABS then own_n (own_n (own_h q)) else if f (own_n (own_n (own_h q))).toNatClampNeg = q then own_n (own_n (own_h q)) else own_n (own_n (own_n (own_h q)))) := rfl
  rw [own_S0, own_S1, own_S2] at e
  rw [own_S0, own_S1, own_S2, own_S3] at h
  rw [e]
  have hb1 := (own_nn (own_hb q)).2
  have hb2 := (own_nn hb1).2
  have hb3 := (own_nn hb2).2
  by_cases a0 : g (own_S q 0) = own_ABS
  · rw [if_pos a0]; exact ⟨0, ⟨by decide, Or.inl a0, fun j hj => absurd hj (Nat.not_lt_zero _)⟩, own_S0 q, own_hb q⟩
  rw [if_neg a0]
  by_cases b0 : f (own_S q 0) = q
  · rw [if_pos b0]; exact ⟨0, ⟨by decide, Or.inr b0, fun j hj => absurd hj (Nat.not_lt_zero _)⟩, own_S0 q, own_hb q⟩
  rw [if_neg b0]
  have n0 : ¬ own_Stop f g q (own_S q 0) := fun z => z.elim a0 b0
  have l1 : ∀ j, j < 1 → ¬ own_Stop f g q (own_S q j) := fun j hj => by obtain rfl : j = 0 := by omega
                                                                        exact n0
  by_cases a1 : g (own_S q 1) = own_ABS
  · rw [if_pos a1]; exact ⟨1, ⟨by decide, Or.inl a1, l1⟩, own_S1 q, hb1⟩
  rw [if_neg a1]
  by_cases b1 : f (own_S q 1) = q
  · rw [if_pos b1]; exact ⟨1, ⟨by decide, Or.inr b1, l1⟩, own_S1 q, hb1⟩
  rw [if_neg b1]
  have n1 : ¬ own_Stop f g q (own_S q 1) := fun z => z.elim a1 b1
  have l2 : ∀ j, j < 2 → ¬ own_Stop f g q (own_S q j) := fun j hj => by
    rcases (show j = 0 ∨ j = 1 by omega) with rfl | rfl
    · exact n0
    · exact n1
  by_cases a2 : g (own_S q 2) = own_ABS
  · rw [if_pos a2]; exact ⟨2, ⟨by decide, Or.inl a2, l2⟩, own_S2 q, hb2⟩
  rw [if_neg a2]
  by_cases b2 : f (own_S q 2) = q
  · rw [if_pos b2]; exact ⟨2, ⟨by decide, Or.inr b2, l2⟩, own_S2 q, hb2⟩
  rw [if_neg b2]
  have n2 : ¬ own_Stop f g q (own_S q 2) := fun z => z.elim a2 b2
  have l3 : ∀ j, j < 3 → ¬ own_Stop f g q (own_S q j) := fun j hj => by
    rcases (show j = 0 ∨ j = 1 ∨ j = 2 by omega) with rfl | rfl | rfl
    · exact n0
    · exact n1
    · exact n2
  exact ⟨3, ⟨by decide, Or.inl (own_4 h a0 a1 a2), l3⟩, own_S3 q, hb3⟩
theorem own_sb {f g : Nat → Int64} {q : Int64} {w : Int32} (h : g (own_h q).toNatClampNeg = own_ABS ∨ g (own_n (own_h q)).toNatClampNeg = own_ABS ∨ g (own_n (own_n (own_h q))).toNatClampNeg = own_ABS ∨ g (own_n (own_n (own_n (own_h q)))).toNatClampNeg = own_ABS) : 0 ≤ (fn7 q w f g).toInt ∧ (fn7 q w f g).toInt < 1024 := by
  obtain ⟨k, -, -, h1, h2⟩ := own_slot (f := f) (w := w) h
  exact ⟨h1, h2⟩
theorem own_get {f g : Nat → Int64} {N : Nat} {m : Int64 → Int64} (t : own_Tb f g N m) (hN : N ≤ 3) (q : Int64) (w : Int32) : g (fn7 q w f g).toNatClampNeg = m q := by
  obtain ⟨k, hF, hS, -, -⟩ := own_slot (f := f) (w := w) (own_stop t hN q)
  rw [hS]; exact t.2.1 q k hF
theorem own_cap {w : Int32} {N : Nat} (hN : N ≤ 2) (h : 0 ≤ w.toInt ∧ w.toInt ≤ N) : ¬ ((1024 : Int32) < ((2 : Int32) * (w + (1 : Int32)))) := by
  have a := c_iadd w 1
  have b := rng32 (w + 1)
  have c := c_imul 2 (w + 1)
  have d := rng32 (2 * (w + 1))
  have e1 : (1 : Int32).toInt = 1 := rfl
  have e2 : (2 : Int32).toInt = 2 := rfl
  have e3 : (1024 : Int32).toInt = 1024 := rfl
  rw [Int32.lt_iff_toInt_lt, e3]
  rw [e2] at c
  omega
theorem own_sz {w v : Int32} {N : Nat} {c : Prop} [Decidable c] (hN : N ≤ 2) (h : 0 ≤ w.toInt ∧ w.toInt ≤ N) (hv : v = if c then w + (1 : Int32) else w) : 0 ≤ v.toInt ∧ v.toInt ≤ ((N + 1 : Nat) : Int) := by
  have a := c_iadd w 1
  have b := rng32 (w + 1)
  have e1 : (1 : Int32).toInt = 1 := rfl
  rw [hv]; split <;> omega
theorem d9_0 : decode prog_7_method_3_code 0 = .ok (.aload_n 0, 1) := by decide +kernel
theorem d9_1 : decode prog_7_method_3_code 1 = .ok (.getfield 30, 3) := by decide +kernel
theorem d9_4 : decode prog_7_method_3_code 4 = .ok (.aload_n 0, 1) := by decide +kernel
theorem d9_5 : decode prog_7_method_3_code 5 = .ok (.lload_n 1, 1) := by decide +kernel
theorem d9_6 : decode prog_7_method_3_code 6 = .ok (.invokevirtual 26, 3) := by decide +kernel
theorem d9_9 : decode prog_7_method_3_code 9 = .ok (.laload, 1) := by decide +kernel
theorem d9_10 : decode prog_7_method_3_code 10 = .ok (.lreturn, 1) := by decide +kernel
theorem pd9_4 : parseMethodDescriptor "(J)I" = some ⟨[.long], some .int⟩ := by decide +kernel
theorem ef_9 (m : MethodId) (a1 : Addr) (q2 : Int64) : entryFrame m #[(.ref a1), (.long q2)] 3 = mkF m 0 #[.val (.ref a1), .val (.long q2), .second] [] := by first | (simp [entryFrame, mkF, argsToLocals, Value.category]; done) | rfl
def Q9 (Z : State) (a1 : Addr) (q2 : Int64) (b1 : Addr) (b2 : Addr) (w_size : Int32) (f : Nat → Int64) (g : Nat → Int64) (N : Nat) (mm : Int64 → Int64) (h0 : Heap) (n0 : Nat) : Option Value → Heap → List Loc → Prop := fun v h L => v = some (Value.long (mm q2)) ∧ Fr n0 L ∧ h = h0
def room9 : Room := { frames := 1, cells := 0, slots := 0, locals := 17 }
set_option maxRecDepth 65536 in
set_option maxHeartbeats 40000000 in
theorem rm9 (l : Launch) (Z : State) (a0 : Array Value) (hw : ∀ d ∈ tables_1, d.before a0 Z = true) (a1 : Addr) (q2 : Int64) (b1 : Addr) (b2 : Addr) (w_size : Int32) (f : Nat → Int64) (g : Nat → Int64) (N : Nat) (mm : Int64 → Int64) (h0 : Heap) (n0 : Nat) (R_a1 : Idt Z h0 a1 (.ref b1) (.ref b2) (54 : Int32) w_size) (R_b1 : LA Z h0 b1 (1024 : Int32) f) (R_b2 : LA Z h0 b2 (1024 : Int32) g) (ht : own_Tb f g N mm) (hN : N ≤ 3) : Ctr l Z (⟨"com/example/tour/tour/io/IdTable", "get", "(J)J"⟩ : MethodName) prog_7_method_3_code 3 (some .long) room9 #[(.ref a1), (.long q2)] h0 (Q9 Z a1 q2 b1 b2 w_size f g N mm h0 n0) := by
  refine Ctr.of (plainFor_of_name pn_3) ?_
  intro p e s m below meth c s₁ hx hby hml hown hnm hret hlk hZ e0 X0
  have hown : s.vm.findClass "com/example/tour/tour/io/IdTable" = some m.cls := hown
  have hml : c.maxLocals = 3 := hml
  have hnm : meth.name = "get" := hnm
  have hret : meth.sig.returnType = (some .long) := hret
  have N0 := Fr.nil n0
  refine Till.cast (ef_9 m a1 q2) ?_
  show Till p e below s (Q9 Z a1 q2 b1 b2 w_size f g N mm h0 n0) room9.cells room9.slots (s₁.setTop (mkF m 0 #[.val (.ref a1), .val (.long q2), .second] []))
  refine Till.pre (fun _ hr => XS.aloadN X0.here hx rfl (hb hby d9_0) rfl rfl hr) ?_
  show Till p e below s (Q9 Z a1 q2 b1 b2 w_size f g N mm h0 n0) room9.cells room9.slots (s₁.setTop (mkF m 1 #[.val (.ref a1), .val (.long q2), .second] [(.ref a1)]))
  refine Till.getF X0 hx hZ hown (hw _ (List.mem_of_getElem? (i := 24) rfl)) e0 R_a1.2.2.1 (hb hby d9_1) (fun T1 X2 e3 => ?_)
  show Till p e below s (Q9 Z a1 q2 b1 b2 w_size f g N mm h0 n0) room9.cells room9.slots (T1.setTop (mkF m 4 #[.val (.ref a1), .val (.long q2), .second] [(.ref b2)]))
  refine Till.pre (fun _ hr => XS.aloadN X2.here hx rfl (hb hby d9_4) rfl rfl hr) ?_
  show Till p e below s (Q9 Z a1 q2 b1 b2 w_size f g N mm h0 n0) room9.cells room9.slots (T1.setTop (mkF m 5 #[.val (.ref a1), .val (.long q2), .second] [(.ref a1), (.ref b2)]))
  refine Till.pre (fun _ hr => XS.lloadN X2.here hx rfl (hb hby d9_5) rfl hr) ?_
  show Till p e below s (Q9 Z a1 q2 b1 b2 w_size f g N mm h0 n0) room9.cells room9.slots (T1.setTop (mkF m 6 #[.val (.ref a1), .val (.long q2), .second] [(.long q2), (.ref a1), (.ref b2)]))
  refine Till.callP (rm7 l Z a0 hw a1 q2 b1 b2 w_size f g h0 n0 R_a1 R_b1 R_b2 (own_stop ht hN q2)) R_a1.1 X2 hx hZ hown (hw _ (List.mem_of_getElem? (i := 51) rfl)) (hw _ (List.mem_of_getElem? (i := 52) rfl)) (hw _ (List.mem_of_getElem? (i := 53) rfl)) (hw _ (List.mem_of_getElem? (i := 12) rfl)) (hw _ (List.mem_of_getElem? (i := 13) rfl)) (hw _ (List.mem_of_getElem? (i := 54) rfl)) (by decide) (by decide) (W := 1) (by decide) (by rw [hml]; rfl) (a := a1) (argsL := [(.long q2)]) (rest := [(.ref b2)]) (lenOf pd9_4 rfl) rfl rfl (Nat.le_of_eq rfl) (hb hby d9_6) e3 (by decide) (by decide) ?_
  rintro _ T4 L5 X6 ⟨rfl, N7, e8⟩
  have N7 := Fr.app N0 N7
  show Till p e below s (Q9 Z a1 q2 b1 b2 w_size f g N mm h0 n0) room9.cells room9.slots (T4.setTop (mkF m 9 #[.val (.ref a1), .val (.long q2), .second] [(.int (fn7 q2 w_size f g)), (.ref b2)]))
  refine Till.laload R_b2 (own_b1 (own_sb (own_stop ht hN q2))) (own_b2 (own_sb (own_stop ht hN q2))) X6 hx hZ e8 (hb hby d9_9) ?_
  show Till p e below s (Q9 Z a1 q2 b1 b2 w_size f g N mm h0 n0) room9.cells room9.slots (T4.setTop (mkF m 10 #[.val (.ref a1), .val (.long q2), .second] [(.long (g ((fn7 q2 w_size f g)).toNatClampNeg))]))
  refine Till.retJ X6 hx hret hlk (hb hby d9_10) (by decide) (by decide) ?_
  exact ⟨congrArg (fun z => some (Value.long z)) (own_get ht hN q2 w_size), N7, e8⟩
theorem d6_0 : decode prog_7_method_2_code 0 = .ok (.iconst 2, 1) := by decide +kernel
theorem d6_1 : decode prog_7_method_2_code 1 = .ok (.aload_n 0, 1) := by decide +kernel
theorem d6_2 : decode prog_7_method_2_code 2 = .ok (.getfield 15, 3) := by decide +kernel
theorem d6_5 : decode prog_7_method_2_code 5 = .ok (.iconst 1, 1) := by decide +kernel
theorem d6_6 : decode prog_7_method_2_code 6 = .ok (.iadd, 1) := by decide +kernel
theorem d6_7 : decode prog_7_method_2_code 7 = .ok (.imul, 1) := by decide +kernel
theorem d6_8 : decode prog_7_method_2_code 8 = .ok (.aload_n 0, 1) := by decide +kernel
theorem d6_9 : decode prog_7_method_2_code 9 = .ok (.getfield 19, 3) := by decide +kernel
theorem d6_12 : decode prog_7_method_2_code 12 = .ok (.arraylength, 1) := by decide +kernel
theorem d6_13 : decode prog_7_method_2_code 13 = .ok (.if_icmp .le 7, 3) := by decide +kernel
theorem d6_20 : decode prog_7_method_2_code 20 = .ok (.aload_n 0, 1) := by decide +kernel
theorem d6_21 : decode prog_7_method_2_code 21 = .ok (.lload_n 1, 1) := by decide +kernel
theorem d6_22 : decode prog_7_method_2_code 22 = .ok (.invokevirtual 26, 3) := by decide +kernel
theorem d6_25 : decode prog_7_method_2_code 25 = .ok (.istore 5, 2) := by decide +kernel
theorem d6_27 : decode prog_7_method_2_code 27 = .ok (.aload_n 0, 1) := by decide +kernel
theorem d6_28 : decode prog_7_method_2_code 28 = .ok (.getfield 30, 3) := by decide +kernel
theorem d6_31 : decode prog_7_method_2_code 31 = .ok (.iload 5, 2) := by decide +kernel
theorem d6_33 : decode prog_7_method_2_code 33 = .ok (.laload, 1) := by decide +kernel
theorem d6_34 : decode prog_7_method_2_code 34 = .ok (.ldc2_w 33, 3) := by decide +kernel
theorem d6_37 : decode prog_7_method_2_code 37 = .ok (.lcmp, 1) := by decide +kernel
theorem d6_38 : decode prog_7_method_2_code 38 = .ok (.ifCond .ne 13, 3) := by decide +kernel
theorem d6_41 : decode prog_7_method_2_code 41 = .ok (.aload_n 0, 1) := by decide +kernel
theorem d6_42 : decode prog_7_method_2_code 42 = .ok (.dup, 1) := by decide +kernel
theorem d6_43 : decode prog_7_method_2_code 43 = .ok (.getfield 15, 3) := by decide +kernel
theorem d6_46 : decode prog_7_method_2_code 46 = .ok (.iconst 1, 1) := by decide +kernel
theorem d6_47 : decode prog_7_method_2_code 47 = .ok (.iadd, 1) := by decide +kernel
theorem d6_48 : decode prog_7_method_2_code 48 = .ok (.putfield 15, 3) := by decide +kernel
theorem d6_51 : decode prog_7_method_2_code 51 = .ok (.aload_n 0, 1) := by decide +kernel
theorem d6_52 : decode prog_7_method_2_code 52 = .ok (.getfield 19, 3) := by decide +kernel
theorem d6_55 : decode prog_7_method_2_code 55 = .ok (.iload 5, 2) := by decide +kernel
theorem d6_57 : decode prog_7_method_2_code 57 = .ok (.lload_n 1, 1) := by decide +kernel
theorem d6_58 : decode prog_7_method_2_code 58 = .ok (.lastore, 1) := by decide +kernel
theorem d6_59 : decode prog_7_method_2_code 59 = .ok (.aload_n 0, 1) := by decide +kernel
theorem d6_60 : decode prog_7_method_2_code 60 = .ok (.getfield 30, 3) := by decide +kernel
theorem d6_63 : decode prog_7_method_2_code 63 = .ok (.iload 5, 2) := by decide +kernel
theorem d6_65 : decode prog_7_method_2_code 65 = .ok (.lload_n 3, 1) := by decide +kernel
theorem d6_66 : decode prog_7_method_2_code 66 = .ok (.lastore, 1) := by decide +kernel
theorem d6_67 : decode prog_7_method_2_code 67 = .ok (.return_, 1) := by decide +kernel
theorem pd6_4 : parseMethodDescriptor "(J)I" = some ⟨[.long], some .int⟩ := by decide +kernel
theorem ef_6 (m : MethodId) (a1 : Addr) (q2 : Int64) (q3 : Int64) : entryFrame m #[(.ref a1), (.long q2), (.long q3)] 6 = mkF m 0 #[.val (.ref a1), .val (.long q2), .second, .val (.long q3), .second, .unset] [] := by first | (simp [entryFrame, mkF, argsToLocals, Value.category]; done) | rfl
def Q6 (Z : State) (a1 : Addr) (q2 : Int64) (q3 : Int64) (b1 : Addr) (b2 : Addr) (w_size : Int32) (f : Nat → Int64) (g : Nat → Int64) (N : Nat) (mm : Int64 → Int64) (h0 : Heap) (n0 : Nat) : Option Value → Heap → List Loc → Prop := fun v h L => ∃ (f' g' : Nat → Int64) (w' : Int32), v = none ∧ Fr n0 L ∧ Keep h0 h [a1, b1, b2] ∧ Idt Z h a1 (.ref b1) (.ref b2) (54 : Int32) w' ∧ LA Z h b1 (1024 : Int32) f' ∧ LA Z h b2 (1024 : Int32) g' ∧ own_Tb f' g' (N + 1) (own_um mm q2 q3) ∧ (0 ≤ w'.toInt ∧ w'.toInt ≤ ((N + 1 : Nat) : Int))
def room6 : Room := { frames := 1, cells := 0, slots := 0, locals := 16 }
set_option maxRecDepth 65536 in
set_option maxHeartbeats 40000000 in
theorem rm6 (l : Launch) (Z : State) (a0 : Array Value) (hw : ∀ d ∈ tables_1, d.before a0 Z = true) (a1 : Addr) (q2 : Int64) (q3 : Int64) (b1 : Addr) (b2 : Addr) (w_size : Int32) (f : Nat → Int64) (g : Nat → Int64) (N : Nat) (mm : Int64 → Int64) (h0 : Heap) (n0 : Nat) (Zs : n0 ≤ h0.size) (R_a1 : Idt Z h0 a1 (.ref b1) (.ref b2) (54 : Int32) w_size) (R_b1 : LA Z h0 b1 (1024 : Int32) f) (R_b2 : LA Z h0 b2 (1024 : Int32) g) (g_a1 : n0 ≤ a1) (g_b1 : n0 ≤ b1) (g_b2 : n0 ≤ b2) (ne_a1_b1 : a1 ≠ b1) (ne_a1_b2 : a1 ≠ b2) (ne_b1_b2 : b1 ≠ b2) (ht : own_Tb f g N mm) (hN : N ≤ 2) (hsz : 0 ≤ w_size.toInt ∧ w_size.toInt ≤ (N : Int)) (hv : q3 ≠ own_ABS) : Ctr l Z (⟨"com/example/tour/tour/io/IdTable", "put", "(JJ)V"⟩ : MethodName) prog_7_method_2_code 6 none room6 #[(.ref a1), (.long q2), (.long q3)] h0 (Q6 Z a1 q2 q3 b1 b2 w_size f g N mm h0 n0) := by
  refine Ctr.of (plainFor_of_name pn_3) ?_
  intro p e s m below meth c s₁ hx hby hml hown hnm hret hlk hZ e0 X0
  have hown : s.vm.findClass "com/example/tour/tour/io/IdTable" = some m.cls := hown
  have hml : c.maxLocals = 6 := hml
  have hnm : meth.name = "put" := hnm
  have hret : meth.sig.returnType = none := hret
  have N0 := Fr.nil n0
  refine Till.cast (ef_6 m a1 q2 q3) ?_
  have Kp := Keep.refl h0 [a1, b1, b2]
  show Till p e below s (Q6 Z a1 q2 q3 b1 b2 w_size f g N mm h0 n0) room6.cells room6.slots (s₁.setTop (mkF m 0 #[.val (.ref a1), .val (.long q2), .second, .val (.long q3), .second, .unset] []))
  refine Till.pre (fun _ hr => XS.iconst X0.here hx rfl (hb hby d6_0) hr) ?_
  show Till p e below s (Q6 Z a1 q2 q3 b1 b2 w_size f g N mm h0 n0) room6.cells room6.slots (s₁.setTop (mkF m 1 #[.val (.ref a1), .val (.long q2), .second, .val (.long q3), .second, .unset] [(.int (2 : Int32))]))
  refine Till.pre (fun _ hr => XS.aloadN X0.here hx rfl (hb hby d6_1) rfl rfl hr) ?_
  show Till p e below s (Q6 Z a1 q2 q3 b1 b2 w_size f g N mm h0 n0) room6.cells room6.slots (s₁.setTop (mkF m 2 #[.val (.ref a1), .val (.long q2), .second, .val (.long q3), .second, .unset] [(.ref a1), (.int (2 : Int32))]))
  refine Till.getF X0 hx hZ hown (hw _ (List.mem_of_getElem? (i := 49) rfl)) e0 R_a1.2.2.2.2 (hb hby d6_2) (fun T1 X2 e3 => ?_)
  show Till p e below s (Q6 Z a1 q2 q3 b1 b2 w_size f g N mm h0 n0) room6.cells room6.slots (T1.setTop (mkF m 5 #[.val (.ref a1), .val (.long q2), .second, .val (.long q3), .second, .unset] [(.int w_size), (.int (2 : Int32))]))
  refine Till.pre (fun _ hr => XS.iconst X2.here hx rfl (hb hby d6_5) hr) ?_
  show Till p e below s (Q6 Z a1 q2 q3 b1 b2 w_size f g N mm h0 n0) room6.cells room6.slots (T1.setTop (mkF m 6 #[.val (.ref a1), .val (.long q2), .second, .val (.long q3), .second, .unset] [(.int (1 : Int32)), (.int w_size), (.int (2 : Int32))]))
  refine Till.pre (fun _ hr => XS.iadd X2.here hx rfl (hb hby d6_6) rfl hr) ?_
  show Till p e below s (Q6 Z a1 q2 q3 b1 b2 w_size f g N mm h0 n0) room6.cells room6.slots (T1.setTop (mkF m 7 #[.val (.ref a1), .val (.long q2), .second, .val (.long q3), .second, .unset] [(.int (w_size + (1 : Int32))), (.int (2 : Int32))]))
  refine Till.pre (fun _ hr => XS.imul X2.here hx rfl (hb hby d6_7) rfl hr) ?_
  show Till p e below s (Q6 Z a1 q2 q3 b1 b2 w_size f g N mm h0 n0) room6.cells room6.slots (T1.setTop (mkF m 8 #[.val (.ref a1), .val (.long q2), .second, .val (.long q3), .second, .unset] [(.int ((2 : Int32) * (w_size + (1 : Int32))))]))
  refine Till.pre (fun _ hr => XS.aloadN X2.here hx rfl (hb hby d6_8) rfl rfl hr) ?_
  show Till p e below s (Q6 Z a1 q2 q3 b1 b2 w_size f g N mm h0 n0) room6.cells room6.slots (T1.setTop (mkF m 9 #[.val (.ref a1), .val (.long q2), .second, .val (.long q3), .second, .unset] [(.ref a1), (.int ((2 : Int32) * (w_size + (1 : Int32))))]))
  refine Till.getF X2 hx hZ hown (hw _ (List.mem_of_getElem? (i := 22) rfl)) e3 R_a1.2.1 (hb hby d6_9) (fun T4 X5 e6 => ?_)
  show Till p e below s (Q6 Z a1 q2 q3 b1 b2 w_size f g N mm h0 n0) room6.cells room6.slots (T4.setTop (mkF m 12 #[.val (.ref a1), .val (.long q2), .second, .val (.long q3), .second, .unset] [(.ref b1), (.int ((2 : Int32) * (w_size + (1 : Int32))))]))
  refine Till.alen R_b1 X5 hx hZ e6 (hb hby d6_12) ?_
  show Till p e below s (Q6 Z a1 q2 q3 b1 b2 w_size f g N mm h0 n0) room6.cells room6.slots (T4.setTop (mkF m 13 #[.val (.ref a1), .val (.long q2), .second, .val (.long q3), .second, .unset] [(.int (1024 : Int32)), (.int ((2 : Int32) * (w_size + (1 : Int32))))]))
  refine Till.icmp (pc' := 20) X5.here hx (hb hby d6_13) (by decide) (by decide) (fun q => ?_) (fun q => absurd (hLt.2.2.2.2.2.2.2 q) (own_cap hN hsz : ¬ ((1024 : Int32) < ((2 : Int32) * (w_size + (1 : Int32))))))
  show Till p e below s (Q6 Z a1 q2 q3 b1 b2 w_size f g N mm h0 n0) room6.cells room6.slots (T4.setTop (mkF m 20 #[.val (.ref a1), .val (.long q2), .second, .val (.long q3), .second, .unset] []))
  refine Till.pre (fun _ hr => XS.aloadN X5.here hx rfl (hb hby d6_20) rfl rfl hr) ?_
  show Till p e below s (Q6 Z a1 q2 q3 b1 b2 w_size f g N mm h0 n0) room6.cells room6.slots (T4.setTop (mkF m 21 #[.val (.ref a1), .val (.long q2), .second, .val (.long q3), .second, .unset] [(.ref a1)]))
  refine Till.pre (fun _ hr => XS.lloadN X5.here hx rfl (hb hby d6_21) rfl hr) ?_
  show Till p e below s (Q6 Z a1 q2 q3 b1 b2 w_size f g N mm h0 n0) room6.cells room6.slots (T4.setTop (mkF m 22 #[.val (.ref a1), .val (.long q2), .second, .val (.long q3), .second, .unset] [(.long q2), (.ref a1)]))
  refine Till.callP (rm7 l Z a0 hw a1 q2 b1 b2 w_size f g h0 n0 R_a1 R_b1 R_b2 (own_stop ht (Nat.le_trans hN (by decide)) q2)) R_a1.1 X5 hx hZ hown (hw _ (List.mem_of_getElem? (i := 51) rfl)) (hw _ (List.mem_of_getElem? (i := 52) rfl)) (hw _ (List.mem_of_getElem? (i := 53) rfl)) (hw _ (List.mem_of_getElem? (i := 12) rfl)) (hw _ (List.mem_of_getElem? (i := 13) rfl)) (hw _ (List.mem_of_getElem? (i := 54) rfl)) (by decide) (by decide) (W := 0) (by decide) (by rw [hml]; rfl) (a := a1) (argsL := [(.long q2)]) (rest := []) (lenOf pd6_4 rfl) rfl rfl (Nat.le_of_eq rfl) (hb hby d6_22) e6 (by decide) (by decide) ?_
  rintro _ T7 L8 X9 ⟨rfl, N10, e11⟩
  have N10 := Fr.app N0 N10
  show Till p e below s (Q6 Z a1 q2 q3 b1 b2 w_size f g N mm h0 n0) room6.cells room6.slots (T7.setTop (mkF m 25 #[.val (.ref a1), .val (.long q2), .second, .val (.long q3), .second, .unset] [(.int (fn7 q2 w_size f g))]))
  refine Till.pre (fun _ hr => XS.istore X9.here hx rfl (hb hby d6_25) rfl (l' := #[.val (.ref a1), .val (.long q2), .second, .val (.long q3), .second, .val (.int (fn7 q2 w_size f g))]) rfl hr) ?_
  show Till p e below s (Q6 Z a1 q2 q3 b1 b2 w_size f g N mm h0 n0) room6.cells room6.slots (T7.setTop (mkF m 27 #[.val (.ref a1), .val (.long q2), .second, .val (.long q3), .second, .val (.int (fn7 q2 w_size f g))] []))
  refine Till.pre (fun _ hr => XS.aloadN X9.here hx rfl (hb hby d6_27) rfl rfl hr) ?_
  show Till p e below s (Q6 Z a1 q2 q3 b1 b2 w_size f g N mm h0 n0) room6.cells room6.slots (T7.setTop (mkF m 28 #[.val (.ref a1), .val (.long q2), .second, .val (.long q3), .second, .val (.int (fn7 q2 w_size f g))] [(.ref a1)]))
  refine Till.getF X9 hx hZ hown (hw _ (List.mem_of_getElem? (i := 24) rfl)) e11 R_a1.2.2.1 (hb hby d6_28) (fun T12 X13 e14 => ?_)
  show Till p e below s (Q6 Z a1 q2 q3 b1 b2 w_size f g N mm h0 n0) room6.cells room6.slots (T12.setTop (mkF m 31 #[.val (.ref a1), .val (.long q2), .second, .val (.long q3), .second, .val (.int (fn7 q2 w_size f g))] [(.ref b2)]))
  refine Till.pre (fun _ hr => XS.iload X13.here hx rfl (hb hby d6_31) rfl hr) ?_
  show Till p e below s (Q6 Z a1 q2 q3 b1 b2 w_size f g N mm h0 n0) room6.cells room6.slots (T12.setTop (mkF m 33 #[.val (.ref a1), .val (.long q2), .second, .val (.long q3), .second, .val (.int (fn7 q2 w_size f g))] [(.int (fn7 q2 w_size f g)), (.ref b2)]))
  refine Till.laload R_b2 (own_b1 (own_sb (own_stop ht (Nat.le_trans hN (by decide)) q2))) (own_b2 (own_sb (own_stop ht (Nat.le_trans hN (by decide)) q2))) X13 hx hZ e14 (hb hby d6_33) ?_
  show Till p e below s (Q6 Z a1 q2 q3 b1 b2 w_size f g N mm h0 n0) room6.cells room6.slots (T12.setTop (mkF m 34 #[.val (.ref a1), .val (.long q2), .second, .val (.long q3), .second, .val (.int (fn7 q2 w_size f g))] [(.long (g ((fn7 q2 w_size f g)).toNatClampNeg))]))
  refine Till.pre (X13.ldc2Long hx hown (mvT hZ (hw _ (List.mem_of_getElem? (i := 26) rfl))) (g := (mkF m 34 #[.val (.ref a1), .val (.long q2), .second, .val (.long q3), .second, .val (.int (fn7 q2 w_size f g))] [(.long (g ((fn7 q2 w_size f g)).toNatClampNeg))])) rfl (hb hby d6_34)) ?_
  show Till p e below s (Q6 Z a1 q2 q3 b1 b2 w_size f g N mm h0 n0) room6.cells room6.slots (T12.setTop (mkF m 37 #[.val (.ref a1), .val (.long q2), .second, .val (.long q3), .second, .val (.int (fn7 q2 w_size f g))] [(.long (-9223372036854775808 : Int64)), (.long (g ((fn7 q2 w_size f g)).toNatClampNeg))]))
  refine Till.pre (fun _ hr => XS.lcmp X13.here hx rfl (hb hby d6_37) rfl hr) ?_
  show Till p e below s (Q6 Z a1 q2 q3 b1 b2 w_size f g N mm h0 n0) room6.cells room6.slots (T12.setTop (mkF m 38 #[.val (.ref a1), .val (.long q2), .second, .val (.long q3), .second, .val (.int (fn7 q2 w_size f g))] [(.int (lcmpW (g ((fn7 q2 w_size f g)).toNatClampNeg) (-9223372036854775808 : Int64)))]))
  have J51_28 : ∀ (T25 : State) (L26 : List Loc) (X27 : Stand p l e room6 s m #[(.ref a1), (.long q2), (.long q3)] below meth c T25 L26 0 0) (N28 : Fr n0 L26) (Zs : n0 ≤ T25.heap.size) (Kp : Keep h0 T25.heap [a1, b1, b2]) (v51f0_3 : Int32) (hv51f0_3 : v51f0_3 = (if ((g ((fn7 q2 w_size f g)).toNatClampNeg) = (-9223372036854775808 : Int64)) then (w_size + (1 : Int32)) else w_size)) (R_a1 : Idt Z T25.heap a1 (.ref b1) (.ref b2) (54 : Int32) v51f0_3) (R_b1 : LA Z T25.heap b1 (1024 : Int32) f) (R_b2 : LA Z T25.heap b2 (1024 : Int32) g), Till p e below s (Q6 Z a1 q2 q3 b1 b2 w_size f g N mm h0 n0) room6.cells room6.slots (T25.setTop (mkF m 51 #[.val (.ref a1), .val (.long q2), .second, .val (.long q3), .second, .val (.int (fn7 q2 w_size f g))] [])) := by
    intro T25 L26 X27 N28 Zs Kp v51f0_3 hv51f0_3 R_a1 R_b1 R_b2
    show Till p e below s (Q6 Z a1 q2 q3 b1 b2 w_size f g N mm h0 n0) room6.cells room6.slots (T25.setTop (mkF m 51 #[.val (.ref a1), .val (.long q2), .second, .val (.long q3), .second, .val (.int (fn7 q2 w_size f g))] []))
    refine Till.pre (fun _ hr => XS.aloadN X27.here hx rfl (hb hby d6_51) rfl rfl hr) ?_
    show Till p e below s (Q6 Z a1 q2 q3 b1 b2 w_size f g N mm h0 n0) room6.cells room6.slots (T25.setTop (mkF m 52 #[.val (.ref a1), .val (.long q2), .second, .val (.long q3), .second, .val (.int (fn7 q2 w_size f g))] [(.ref a1)]))
    refine Till.getF X27 hx hZ hown (hw _ (List.mem_of_getElem? (i := 22) rfl)) rfl R_a1.2.1 (hb hby d6_52) (fun T30 X31 e32 => ?_)
    show Till p e below s (Q6 Z a1 q2 q3 b1 b2 w_size f g N mm h0 n0) room6.cells room6.slots (T30.setTop (mkF m 55 #[.val (.ref a1), .val (.long q2), .second, .val (.long q3), .second, .val (.int (fn7 q2 w_size f g))] [(.ref b1)]))
    refine Till.pre (fun _ hr => XS.iload X31.here hx rfl (hb hby d6_55) rfl hr) ?_
    show Till p e below s (Q6 Z a1 q2 q3 b1 b2 w_size f g N mm h0 n0) room6.cells room6.slots (T30.setTop (mkF m 57 #[.val (.ref a1), .val (.long q2), .second, .val (.long q3), .second, .val (.int (fn7 q2 w_size f g))] [(.int (fn7 q2 w_size f g)), (.ref b1)]))
    refine Till.pre (fun _ hr => XS.lloadN X31.here hx rfl (hb hby d6_57) rfl hr) ?_
    show Till p e below s (Q6 Z a1 q2 q3 b1 b2 w_size f g N mm h0 n0) room6.cells room6.slots (T30.setTop (mkF m 58 #[.val (.ref a1), .val (.long q2), .second, .val (.long q3), .second, .val (.int (fn7 q2 w_size f g))] [(.long q2), (.int (fn7 q2 w_size f g)), (.ref b1)]))
    refine Till.lastore R_b1 (own_b1 (own_sb (own_stop ht (Nat.le_trans hN (by decide)) q2))) (own_b2 (own_sb (own_stop ht (Nat.le_trans hN (by decide)) q2))) X31 hx hZ e32 (hb hby d6_58) (fun T33 h34 X35 e36 W37 A38 => ?_)
    have N39 := Fr.snoc X35 N28 g_b1
    have R_a1 := R_a1.wr W37 ne_a1_b1
    have R_b2 := R_b2.wr W37 (Ne.symm ne_b1_b2)
    have Zs := Nat.le_trans Zs (Keep.of_wr W37).1
    have Kp := Kp.wr W37 (Or.inl (List.mem_of_getElem? (i := 1) rfl))
    have R_b1 : LA Z h34 b1 (1024 : Int32) (oupd f ((fn7 q2 w_size f g)).toNatClampNeg q2) := A38
    show Till p e below s (Q6 Z a1 q2 q3 b1 b2 w_size f g N mm h0 n0) room6.cells room6.slots (T33.setTop (mkF m 59 #[.val (.ref a1), .val (.long q2), .second, .val (.long q3), .second, .val (.int (fn7 q2 w_size f g))] []))
    refine Till.pre (fun _ hr => XS.aloadN X35.here hx rfl (hb hby d6_59) rfl rfl hr) ?_
    show Till p e below s (Q6 Z a1 q2 q3 b1 b2 w_size f g N mm h0 n0) room6.cells room6.slots (T33.setTop (mkF m 60 #[.val (.ref a1), .val (.long q2), .second, .val (.long q3), .second, .val (.int (fn7 q2 w_size f g))] [(.ref a1)]))
    refine Till.getF X35 hx hZ hown (hw _ (List.mem_of_getElem? (i := 24) rfl)) e36 R_a1.2.2.1 (hb hby d6_60) (fun T40 X41 e42 => ?_)
    show Till p e below s (Q6 Z a1 q2 q3 b1 b2 w_size f g N mm h0 n0) room6.cells room6.slots (T40.setTop (mkF m 63 #[.val (.ref a1), .val (.long q2), .second, .val (.long q3), .second, .val (.int (fn7 q2 w_size f g))] [(.ref b2)]))
    refine Till.pre (fun _ hr => XS.iload X41.here hx rfl (hb hby d6_63) rfl hr) ?_
    show Till p e below s (Q6 Z a1 q2 q3 b1 b2 w_size f g N mm h0 n0) room6.cells room6.slots (T40.setTop (mkF m 65 #[.val (.ref a1), .val (.long q2), .second, .val (.long q3), .second, .val (.int (fn7 q2 w_size f g))] [(.int (fn7 q2 w_size f g)), (.ref b2)]))
    refine Till.pre (fun _ hr => XS.lloadN X41.here hx rfl (hb hby d6_65) rfl hr) ?_
    show Till p e below s (Q6 Z a1 q2 q3 b1 b2 w_size f g N mm h0 n0) room6.cells room6.slots (T40.setTop (mkF m 66 #[.val (.ref a1), .val (.long q2), .second, .val (.long q3), .second, .val (.int (fn7 q2 w_size f g))] [(.long q3), (.int (fn7 q2 w_size f g)), (.ref b2)]))
    refine Till.lastore R_b2 (own_b1 (own_sb (own_stop ht (Nat.le_trans hN (by decide)) q2))) (own_b2 (own_sb (own_stop ht (Nat.le_trans hN (by decide)) q2))) X41 hx hZ e42 (hb hby d6_66) (fun T43 h44 X45 e46 W47 A48 => ?_)
    have N49 := Fr.snoc X45 N39 g_b2
    have R_a1 := R_a1.wr W47 ne_a1_b2
    have R_b1 := R_b1.wr W47 ne_b1_b2
    have Zs := Nat.le_trans Zs (Keep.of_wr W47).1
    have Kp := Kp.wr W47 (Or.inl (List.mem_of_getElem? (i := 2) rfl))
    have R_b2 : LA Z h44 b2 (1024 : Int32) (oupd g ((fn7 q2 w_size f g)).toNatClampNeg q3) := A48
    show Till p e below s (Q6 Z a1 q2 q3 b1 b2 w_size f g N mm h0 n0) room6.cells room6.slots (T43.setTop (mkF m 67 #[.val (.ref a1), .val (.long q2), .second, .val (.long q3), .second, .val (.int (fn7 q2 w_size f g))] []))
    refine Till.retV X45 hx hret hlk (hb hby d6_67) (by decide) (by decide) ?_
    obtain ⟨k, hF, hS, -, -⟩ := own_slot (f := f) (w := w_size) (own_stop ht (Nat.le_trans hN (by decide)) q2)
    rw [hS] at R_b1 R_b2
    show (Q6 Z a1 q2 q3 b1 b2 w_size f g N mm h0 n0) _ T43.heap _
    rw [e46]
    exact ⟨_, _, _, rfl, N49, Kp, R_a1, R_b1, R_b2, own_put ht hF hv, own_sz hN hsz hv51f0_3⟩
  refine Till.ifc (pc' := 51) X13.here hx (hb hby d6_38) (by decide) (by decide) (fun q => ?_) (fun q => ?_)
  · have hc15 := (mt lEq.mpr (hEq.2.2.1 q))
    show Till p e below s (Q6 Z a1 q2 q3 b1 b2 w_size f g N mm h0 n0) room6.cells room6.slots (T12.setTop (mkF m 51 #[.val (.ref a1), .val (.long q2), .second, .val (.long q3), .second, .val (.int (fn7 q2 w_size f g))] []))
    exact J51_28 _ _ X13 N10 (by rw [e14]; exact Zs) (by rw [e14]; exact Kp) _ (Eq.symm (if_neg hc15)) (by rw [e14]; exact R_a1) (by rw [e14]; exact R_b1) (by rw [e14]; exact R_b2)
  · have hc15 := (lEq.mp (hEq.2.2.2 q))
    show Till p e below s (Q6 Z a1 q2 q3 b1 b2 w_size f g N mm h0 n0) room6.cells room6.slots (T12.setTop (mkF m 41 #[.val (.ref a1), .val (.long q2), .second, .val (.long q3), .second, .val (.int (fn7 q2 w_size f g))] []))
    refine Till.pre (fun _ hr => XS.aloadN X13.here hx rfl (hb hby d6_41) rfl rfl hr) ?_
    show Till p e below s (Q6 Z a1 q2 q3 b1 b2 w_size f g N mm h0 n0) room6.cells room6.slots (T12.setTop (mkF m 42 #[.val (.ref a1), .val (.long q2), .second, .val (.long q3), .second, .val (.int (fn7 q2 w_size f g))] [(.ref a1)]))
    refine Till.pre (fun _ hr => XS.dup X13.here hx rfl (hb hby d6_42) rfl rfl hr) ?_
    show Till p e below s (Q6 Z a1 q2 q3 b1 b2 w_size f g N mm h0 n0) room6.cells room6.slots (T12.setTop (mkF m 43 #[.val (.ref a1), .val (.long q2), .second, .val (.long q3), .second, .val (.int (fn7 q2 w_size f g))] [(.ref a1), (.ref a1)]))
    refine Till.getF X13 hx hZ hown (hw _ (List.mem_of_getElem? (i := 49) rfl)) e14 R_a1.2.2.2.2 (hb hby d6_43) (fun T16 X17 e18 => ?_)
    show Till p e below s (Q6 Z a1 q2 q3 b1 b2 w_size f g N mm h0 n0) room6.cells room6.slots (T16.setTop (mkF m 46 #[.val (.ref a1), .val (.long q2), .second, .val (.long q3), .second, .val (.int (fn7 q2 w_size f g))] [(.int w_size), (.ref a1)]))
    refine Till.pre (fun _ hr => XS.iconst X17.here hx rfl (hb hby d6_46) hr) ?_
    show Till p e below s (Q6 Z a1 q2 q3 b1 b2 w_size f g N mm h0 n0) room6.cells room6.slots (T16.setTop (mkF m 47 #[.val (.ref a1), .val (.long q2), .second, .val (.long q3), .second, .val (.int (fn7 q2 w_size f g))] [(.int (1 : Int32)), (.int w_size), (.ref a1)]))
    refine Till.pre (fun _ hr => XS.iadd X17.here hx rfl (hb hby d6_47) rfl hr) ?_
    show Till p e below s (Q6 Z a1 q2 q3 b1 b2 w_size f g N mm h0 n0) room6.cells room6.slots (T16.setTop (mkF m 48 #[.val (.ref a1), .val (.long q2), .second, .val (.long q3), .second, .val (.int (fn7 q2 w_size f g))] [(.int (w_size + (1 : Int32))), (.ref a1)]))
    refine Till.putF X17 hx hZ hown (hw _ (List.mem_of_getElem? (i := 49) rfl)) e18 R_a1.2.2.2.2 R_a1.1 (Or.inl (hw _ (List.mem_of_getElem? (i := 50) rfl))) (hw _ (List.mem_of_getElem? (i := 12) rfl)) (ty := .int) (by decide) rfl rfl (hb hby d6_48) (fun T19 h20 X21 e22 W23 => ?_)
    have N24 := Fr.snoc X21 N10 g_a1
    have R_b1 := R_b1.wr W23 (Ne.symm ne_a1_b1)
    have R_b2 := R_b2.wr W23 (Ne.symm ne_a1_b2)
    have Zs := Nat.le_trans Zs (Keep.of_wr W23).1
    have Kp := Kp.wr W23 (Or.inl (List.mem_of_getElem? (i := 0) rfl))
    have R_a1 := Idt.set_size hw R_a1 W23
    show Till p e below s (Q6 Z a1 q2 q3 b1 b2 w_size f g N mm h0 n0) room6.cells room6.slots (T19.setTop (mkF m 51 #[.val (.ref a1), .val (.long q2), .second, .val (.long q3), .second, .val (.int (fn7 q2 w_size f g))] []))
    exact J51_28 _ _ X21 N24 (by rw [e22]; exact Zs) (by rw [e22]; exact Kp) _ (Eq.symm (if_pos hc15)) (by rw [e22]; exact R_a1) (by rw [e22]; exact R_b1) (by rw [e22]; exact R_b2)
def Way (Z : State) (h : Heap) (a : Addr) (x0 : Value) (x1 : Value) (x2 : Int32) : Prop := Exa Z h a "com/example/tour/tour/io/WayNodes" ∧ Fld Z h a "com/example/tour/tour/io/WayNodes" "starts" "Lcom/example/tour/tour/io/IdTable;" x0 ∧ Fld Z h a "com/example/tour/tour/io/WayNodes" "lists" "[J" x1 ∧ Fld Z h a "com/example/tour/tour/io/WayNodes" "used" "I" (.int x2)
theorem Way.lt {Z : State} {h : Heap} {a : Addr} {x0 : Value} {x1 : Value} {x2 : Int32} (F : Way Z h a x0 x1 x2) : a < h.size := F.1.lt
theorem Way.ext {Z : State} {h h' : Heap} {a : Addr} {x0 : Value} {x1 : Value} {x2 : Int32} (F : Way Z h a x0 x1 x2) (E : Ext h h') : Way Z h' a x0 x1 x2 := ⟨F.1.ext E, F.2.1.ext E, F.2.2.1.ext E, F.2.2.2.ext E⟩
theorem Way.keep {Z : State} {h h' : Heap} {a : Addr} {x0 : Value} {x1 : Value} {x2 : Int32} {ws : List Addr} (F : Way Z h a x0 x1 x2) (K : Keep h h' ws) (q : a ∉ ws) : Way Z h' a x0 x1 x2 := ⟨F.1.keep K, F.2.1.keep K q, F.2.2.1.keep K q, F.2.2.2.keep K q⟩
theorem Way.wr {Z : State} {h h' : Heap} {a : Addr} {x0 : Value} {x1 : Value} {x2 : Int32} {b : Addr} {sl : Nat} {v : Value} (F : Way Z h a x0 x1 x2) (W : Wr h h' b sl v) (q : a ≠ b) : Way Z h' a x0 x1 x2 := ⟨F.1.wr W, F.2.1.other W (Or.inl q), F.2.2.1.other W (Or.inl q), F.2.2.2.other W (Or.inl q)⟩
theorem Way.set_starts {Z : State} {h h' : Heap} {a : Addr} {x0 : Value} {x1 : Value} {x2 : Int32} {y : Value} {a0 : Array Value} (hw : ∀ d ∈ tables_1, d.before a0 Z = true) (F : Way Z h a x0 x1 x2) (W : Wr h h' a (Jvm.RoadKit.slotOf Z "com/example/tour/tour/io/WayNodes" "starts" "Lcom/example/tour/tour/io/IdTable;") y) : Way Z h' a y x1 x2 := ⟨F.1.wr W, F.2.1.same W, F.2.2.1.other W (Or.inr (Jvm.RoadKit.slot_ne (Or.inl (hw _ (List.mem_of_getElem? (i := 36) rfl))) (Or.inr (hw _ (List.mem_of_getElem? (i := 34) rfl))) (by decide) (t := (.array .long)) (t' := (.object "com/example/tour/tour/io/IdTable")) (by decide) (by decide))), F.2.2.2.other W (Or.inr (Jvm.RoadKit.slot_ne (Or.inl (hw _ (List.mem_of_getElem? (i := 43) rfl))) (Or.inr (hw _ (List.mem_of_getElem? (i := 34) rfl))) (by decide) (t := .int) (t' := (.object "com/example/tour/tour/io/IdTable")) (by decide) (by decide)))⟩
theorem Way.set_lists {Z : State} {h h' : Heap} {a : Addr} {x0 : Value} {x1 : Value} {x2 : Int32} {y : Value} {a0 : Array Value} (hw : ∀ d ∈ tables_1, d.before a0 Z = true) (F : Way Z h a x0 x1 x2) (W : Wr h h' a (Jvm.RoadKit.slotOf Z "com/example/tour/tour/io/WayNodes" "lists" "[J") y) : Way Z h' a x0 y x2 := ⟨F.1.wr W, F.2.1.other W (Or.inr (Jvm.RoadKit.slot_ne (Or.inr (hw _ (List.mem_of_getElem? (i := 34) rfl))) (Or.inl (hw _ (List.mem_of_getElem? (i := 36) rfl))) (by decide) (t := (.object "com/example/tour/tour/io/IdTable")) (t' := (.array .long)) (by decide) (by decide))), F.2.2.1.same W, F.2.2.2.other W (Or.inr (Jvm.RoadKit.slot_ne (Or.inl (hw _ (List.mem_of_getElem? (i := 43) rfl))) (Or.inl (hw _ (List.mem_of_getElem? (i := 36) rfl))) (by decide) (t := .int) (t' := (.array .long)) (by decide) (by decide)))⟩
theorem Way.set_used {Z : State} {h h' : Heap} {a : Addr} {x0 : Value} {x1 : Value} {x2 : Int32} {y : Int32} {a0 : Array Value} (hw : ∀ d ∈ tables_1, d.before a0 Z = true) (F : Way Z h a x0 x1 x2) (W : Wr h h' a (Jvm.RoadKit.slotOf Z "com/example/tour/tour/io/WayNodes" "used" "I") (.int y)) : Way Z h' a x0 x1 y := ⟨F.1.wr W, F.2.1.other W (Or.inr (Jvm.RoadKit.slot_ne (Or.inr (hw _ (List.mem_of_getElem? (i := 34) rfl))) (Or.inl (hw _ (List.mem_of_getElem? (i := 43) rfl))) (by decide) (t := (.object "com/example/tour/tour/io/IdTable")) (t' := .int) (by decide) (by decide))), F.2.2.1.other W (Or.inr (Jvm.RoadKit.slot_ne (Or.inl (hw _ (List.mem_of_getElem? (i := 36) rfl))) (Or.inl (hw _ (List.mem_of_getElem? (i := 43) rfl))) (by decide) (t := (.array .long)) (t' := .int) (by decide) (by decide))), F.2.2.2.same W⟩

theorem d1_0 : decode prog_16_method_1_code 0 = .ok (.aload_n 0, 1) := by decide +kernel
theorem d1_1 : decode prog_16_method_1_code 1 = .ok (.invokespecial 1, 3) := by decide +kernel
theorem d1_4 : decode prog_16_method_1_code 4 = .ok (.aload_n 0, 1) := by decide +kernel
theorem d1_5 : decode prog_16_method_1_code 5 = .ok (.new 7, 3) := by decide +kernel
theorem d1_8 : decode prog_16_method_1_code 8 = .ok (.dup, 1) := by decide +kernel
theorem d1_9 : decode prog_16_method_1_code 9 = .ok (.invokespecial 9, 3) := by decide +kernel
theorem d1_12 : decode prog_16_method_1_code 12 = .ok (.putfield 10, 3) := by decide +kernel
theorem d1_15 : decode prog_16_method_1_code 15 = .ok (.aload_n 0, 1) := by decide +kernel
theorem d1_16 : decode prog_16_method_1_code 16 = .ok (.sipush 4096, 3) := by decide +kernel
theorem d1_19 : decode prog_16_method_1_code 19 = .ok (.newarray .long, 2) := by decide +kernel
theorem d1_21 : decode prog_16_method_1_code 21 = .ok (.putfield 16, 3) := by decide +kernel
theorem d1_24 : decode prog_16_method_1_code 24 = .ok (.return_, 1) := by decide +kernel
theorem pn_1 : plainName "com/example/tour/tour/io/WayNodes" = true := by first | (simp [plainName, overriddenIn]; done) | decide +kernel
theorem pd1_0 : parseMethodDescriptor "()V" = some ⟨[], none⟩ := by decide +kernel
theorem ef_1 (m : MethodId) (a1 : Addr) : entryFrame m #[(.ref a1)] 1 = mkF m 0 #[.val (.ref a1)] [] := by first | (simp [entryFrame, mkF, argsToLocals, Value.category]; done) | rfl
def Q1 (Z : State) (a1 : Addr) (h0 : Heap) (n0 : Nat) : Option Value → Heap → List Loc → Prop := fun v h L => ∃ (b6 : Addr), ∃ (b31 : Addr), ∃ (b21 : Addr), ∃ (b22 : Addr), v = none ∧ Fr n0 L ∧ Keep h0 h [a1] ∧ h0.size ≤ b6 ∧ h0.size ≤ b31 ∧ h0.size ≤ b21 ∧ h0.size ≤ b22 ∧ b6 ≠ b31 ∧ b6 ≠ b21 ∧ b6 ≠ b22 ∧ b31 ≠ b21 ∧ b31 ≠ b22 ∧ b21 ≠ b22 ∧ Way Z h a1 (.ref b6) (.ref b31) (0 : Int32) ∧ Idt Z h b6 (.ref b21) (.ref b22) (54 : Int32) (0 : Int32) ∧ LA Z h b31 (4096 : Int32) (fun _ => (0 : Int64)) ∧ LA Z h b21 (1024 : Int32) (fun _ => (0 : Int64)) ∧ LA Z h b22 (1024 : Int32) (fun _ => (-9223372036854775808 : Int64))
def room1 : Room := { frames := 3, cells := 4, slots := 6148, locals := 43 }
set_option maxRecDepth 65536 in
set_option maxHeartbeats 40000000 in
theorem rm1 (l : Launch) (Z : State) (a0 : Array Value) (hw : ∀ d ∈ tables_1, d.before a0 Z = true) (a1 : Addr) (h0 : Heap) (n0 : Nat) (Zs : n0 ≤ h0.size) (R_a1 : Way Z h0 a1 .null .null (0 : Int32)) (g_a1 : n0 ≤ a1) : Ctr l Z (⟨"com/example/tour/tour/io/WayNodes", "<init>", "()V"⟩ : MethodName) prog_16_method_1_code 1 none room1 #[(.ref a1)] h0 (Q1 Z a1 h0 n0) := by
  refine Ctr.of (plainFor_of_name pn_1) ?_
  intro p e s m below meth c s₁ hx hby hml hown hnm hret hlk hZ e0 X0
  have hown : s.vm.findClass "com/example/tour/tour/io/WayNodes" = some m.cls := hown
  have hml : c.maxLocals = 1 := hml
  have hnm : meth.name = "<init>" := hnm
  have hret : meth.sig.returnType = none := hret
  have N0 := Fr.nil n0
  refine Till.cast (ef_1 m a1) ?_
  have Kp := Keep.refl h0 [a1]
  show Till p e below s (Q1 Z a1 h0 n0) room1.cells room1.slots (s₁.setTop (mkF m 0 #[.val (.ref a1)] []))
  refine Till.pre (fun _ hr => XS.aloadN X0.here hx rfl (hb hby d1_0) rfl rfl hr) ?_
  show Till p e below s (Q1 Z a1 h0 n0) room1.cells room1.slots (s₁.setTop (mkF m 1 #[.val (.ref a1)] [(.ref a1)]))
  refine Till.initO X0 hx hZ hown (hw _ (List.mem_of_getElem? (i := 8) rfl)) (hw _ (List.mem_of_getElem? (i := 9) rfl)) (hw _ (List.mem_of_getElem? (i := 10) rfl)) e0 (by rw [hml]; rfl) (hb hby d1_1) (by decide) (W := 0) (Nat.le_of_eq rfl) (by decide) (fun T1 X2 e3 => ?_)
  show Till p e below s (Q1 Z a1 h0 n0) room1.cells room1.slots (T1.setTop (mkF m 4 #[.val (.ref a1)] []))
  refine Till.pre (fun _ hr => XS.aloadN X2.here hx rfl (hb hby d1_4) rfl rfl hr) ?_
  show Till p e below s (Q1 Z a1 h0 n0) room1.cells room1.slots (T1.setTop (mkF m 5 #[.val (.ref a1)] [(.ref a1)]))
  refine Till.newO X2 hx hZ hown (hw _ (List.mem_of_getElem? (i := 11) rfl)) (hw _ (List.mem_of_getElem? (i := 12) rfl)) (hw _ (List.mem_of_getElem? (i := 13) rfl)) e3 (hb hby d1_5) (by decide) (by decide) (fun T4 h5 b6 g7 X8 e9 E10 A11 D12 => ?_)
  have ne_a1_b6 : a1 ≠ b6 := Nat.ne_of_lt (Nat.lt_of_lt_of_le R_a1.lt (Nat.le_of_eq g7.symm))
  have g_b6 : n0 ≤ b6 := Nat.le_trans Zs (Nat.le_of_eq g7.symm)
  have sz_b6 : h0.size ≤ b6 := Nat.le_trans Kp.1 (Nat.le_of_eq g7.symm)
  have R_a1 := R_a1.ext E10
  have Zs := Nat.le_trans Zs E10.1
  have Kp := Kp.ext E10
  have R_b6 : Idt Z h5 b6 .null .null (0 : Int32) (0 : Int32) := ⟨A11, D12 (Or.inl (hw _ (List.mem_of_getElem? (i := 23) rfl))) (ty := (.array .long)) (by decide), D12 (Or.inl (hw _ (List.mem_of_getElem? (i := 25) rfl))) (ty := (.array .long)) (by decide), D12 (Or.inl (hw _ (List.mem_of_getElem? (i := 32) rfl))) (ty := .int) (by decide), D12 (Or.inl (hw _ (List.mem_of_getElem? (i := 50) rfl))) (ty := .int) (by decide)⟩
  show Till p e below s (Q1 Z a1 h0 n0) room1.cells room1.slots (T4.setTop (mkF m 8 #[.val (.ref a1)] [(.ref b6), (.ref a1)]))
  refine Till.pre (fun _ hr => XS.dup X8.here hx rfl (hb hby d1_8) rfl rfl hr) ?_
  show Till p e below s (Q1 Z a1 h0 n0) room1.cells room1.slots (T4.setTop (mkF m 9 #[.val (.ref a1)] [(.ref b6), (.ref b6), (.ref a1)]))
  refine Till.callC (rm2 l Z a0 hw b6 h5 n0 Zs R_b6 g_b6) X8 hx hZ hown rfl (hw _ (List.mem_of_getElem? (i := 14) rfl)) (hw _ (List.mem_of_getElem? (i := 15) rfl)) (hw _ (List.mem_of_getElem? (i := 13) rfl)) (hw _ (List.mem_of_getElem? (i := 16) rfl)) (by decide) (by decide) (W := 2) (by decide) (by rw [hml]; rfl) (a := b6) (argsL := []) (rest := [(.ref b6), (.ref a1)]) (lenOf pd1_0 rfl) rfl rfl (Nat.le_of_eq rfl) (hb hby d1_9) e9 (by decide) (by decide) ?_
  rintro _ T13 L14 X15 ⟨b21, b22, rfl, N16, K17, szq_b21, szq_b22, ne_b21_b22, q18, q19, q20⟩
  have N16 := Fr.app N0 N16
  have ne_a1_b21 : a1 ≠ b21 := Nat.ne_of_lt (Nat.lt_of_lt_of_le R_a1.lt szq_b21)
  have ne_b6_b21 : b6 ≠ b21 := Nat.ne_of_lt (Nat.lt_of_lt_of_le R_b6.lt szq_b21)
  have g_b21 : n0 ≤ b21 := Nat.le_trans Zs szq_b21
  have sz_b21 : h0.size ≤ b21 := Nat.le_trans Kp.1 szq_b21
  have ne_a1_b22 : a1 ≠ b22 := Nat.ne_of_lt (Nat.lt_of_lt_of_le R_a1.lt szq_b22)
  have ne_b6_b22 : b6 ≠ b22 := Nat.ne_of_lt (Nat.lt_of_lt_of_le R_b6.lt szq_b22)
  have g_b22 : n0 ≤ b22 := Nat.le_trans Zs szq_b22
  have sz_b22 : h0.size ≤ b22 := Nat.le_trans Kp.1 szq_b22
  have R_a1 := R_a1.keep K17 (ninS ne_a1_b6 nin0)
  have Zs := Nat.le_trans Zs K17.1
  have Kp := Kp.trans K17 (allS (Or.inr sz_b6) all0)
  have R_b6 : Idt Z T13.heap b6 (.ref b21) (.ref b22) (54 : Int32) (0 : Int32) := q18
  have R_b21 : LA Z T13.heap b21 (1024 : Int32) (fun _ => (0 : Int64)) := q19
  have R_b22 : LA Z T13.heap b22 (1024 : Int32) (fun _ => (-9223372036854775808 : Int64)) := q20
  show Till p e below s (Q1 Z a1 h0 n0) room1.cells room1.slots (T13.setTop (mkF m 12 #[.val (.ref a1)] [(.ref b6), (.ref a1)]))
  refine Till.putF X15 hx hZ hown (hw _ (List.mem_of_getElem? (i := 33) rfl)) rfl R_a1.2.1 R_a1.1 (Or.inr ⟨(hw _ (List.mem_of_getElem? (i := 34) rfl)), rfl, hnm⟩) (hw _ (List.mem_of_getElem? (i := 3) rfl)) (ty := (.object "com/example/tour/tour/io/IdTable")) (by decide) rfl rfl (hb hby d1_12) (fun T23 h24 X25 e26 W27 => ?_)
  have N28 := Fr.snoc X25 N16 g_a1
  have R_b6 := R_b6.wr W27 (Ne.symm ne_a1_b6)
  have R_b21 := R_b21.wr W27 (Ne.symm ne_a1_b21)
  have R_b22 := R_b22.wr W27 (Ne.symm ne_a1_b22)
  have Zs := Nat.le_trans Zs (Keep.of_wr W27).1
  have Kp := Kp.wr W27 (Or.inl (List.mem_of_getElem? (i := 0) rfl))
  have R_a1 := Way.set_starts hw R_a1 W27
  show Till p e below s (Q1 Z a1 h0 n0) room1.cells room1.slots (T23.setTop (mkF m 15 #[.val (.ref a1)] []))
  refine Till.pre (fun _ hr => XS.aloadN X25.here hx rfl (hb hby d1_15) rfl rfl hr) ?_
  show Till p e below s (Q1 Z a1 h0 n0) room1.cells room1.slots (T23.setTop (mkF m 16 #[.val (.ref a1)] [(.ref a1)]))
  refine Till.pre (fun _ hr => XS.sipush X25.here hx rfl (hb hby d1_16) hr) ?_
  show Till p e below s (Q1 Z a1 h0 n0) room1.cells room1.slots (T23.setTop (mkF m 19 #[.val (.ref a1)] [(.int (4096 : Int32)), (.ref a1)]))
  refine Till.newA (aty := .long) (w := Value.long) (d0 := (0 : Int64)) X25 hx hZ (hw _ (List.mem_of_getElem? (i := 0) rfl)) e26 (hb hby d1_19) rfl (by decide) 4096 (by decide) (by decide) (by decide) (by decide) (fun T29 h30 b31 g32 X33 e34 E35 A36 => ?_)
  have ne_a1_b31 : a1 ≠ b31 := Nat.ne_of_lt (Nat.lt_of_lt_of_le R_a1.lt (Nat.le_of_eq g32.symm))
  have ne_b6_b31 : b6 ≠ b31 := Nat.ne_of_lt (Nat.lt_of_lt_of_le R_b6.lt (Nat.le_of_eq g32.symm))
  have ne_b21_b31 : b21 ≠ b31 := Nat.ne_of_lt (Nat.lt_of_lt_of_le R_b21.lt (Nat.le_of_eq g32.symm))
  have ne_b22_b31 : b22 ≠ b31 := Nat.ne_of_lt (Nat.lt_of_lt_of_le R_b22.lt (Nat.le_of_eq g32.symm))
  have g_b31 : n0 ≤ b31 := Nat.le_trans Zs (Nat.le_of_eq g32.symm)
  have sz_b31 : h0.size ≤ b31 := Nat.le_trans Kp.1 (Nat.le_of_eq g32.symm)
  have R_a1 := R_a1.ext E35
  have R_b6 := R_b6.ext E35
  have R_b21 := R_b21.ext E35
  have R_b22 := R_b22.ext E35
  have Zs := Nat.le_trans Zs E35.1
  have Kp := Kp.ext E35
  have R_b31 : LA Z h30 b31 (4096 : Int32) (fun _ => (0 : Int64)) := A36
  show Till p e below s (Q1 Z a1 h0 n0) room1.cells room1.slots (T29.setTop (mkF m 21 #[.val (.ref a1)] [(.ref b31), (.ref a1)]))
  refine Till.putF X33 hx hZ hown (hw _ (List.mem_of_getElem? (i := 35) rfl)) e34 R_a1.2.2.1 R_a1.1 (Or.inl (hw _ (List.mem_of_getElem? (i := 36) rfl))) (hw _ (List.mem_of_getElem? (i := 3) rfl)) (ty := (.array .long)) (by decide) rfl rfl (hb hby d1_21) (fun T37 h38 X39 e40 W41 => ?_)
  have N42 := Fr.snoc X39 N28 g_a1
  have R_b6 := R_b6.wr W41 (Ne.symm ne_a1_b6)
  have R_b21 := R_b21.wr W41 (Ne.symm ne_a1_b21)
  have R_b22 := R_b22.wr W41 (Ne.symm ne_a1_b22)
  have R_b31 := R_b31.wr W41 (Ne.symm ne_a1_b31)
  have Zs := Nat.le_trans Zs (Keep.of_wr W41).1
  have Kp := Kp.wr W41 (Or.inl (List.mem_of_getElem? (i := 0) rfl))
  have R_a1 := Way.set_lists hw R_a1 W41
  show Till p e below s (Q1 Z a1 h0 n0) room1.cells room1.slots (T37.setTop (mkF m 24 #[.val (.ref a1)] []))
  refine Till.retV X39 hx hret hlk (hb hby d1_24) (by decide) (by decide) ?_
  show (Q1 Z a1 h0 n0) _ T37.heap _
  rw [e40]
  exact ⟨b6, b31, b21, b22, rfl, N42, Kp, sz_b6, sz_b31, sz_b21, sz_b22, ne_b6_b31, ne_b6_b21, ne_b6_b22, (Ne.symm ne_b21_b31), (Ne.symm ne_b22_b31), ne_b21_b22, R_a1, R_b6, R_b31, R_b21, R_b22⟩
theorem d13_0 : decode jdk_29_method_69_code 0 = .ok (.iload_n 0, 1) := by decide +kernel
theorem d13_1 : decode jdk_29_method_69_code 1 = .ok (.iload_n 1, 1) := by decide +kernel
theorem d13_2 : decode jdk_29_method_69_code 2 = .ok (.if_icmp .gt 7, 3) := by decide +kernel
theorem d13_5 : decode jdk_29_method_69_code 5 = .ok (.iload_n 0, 1) := by decide +kernel
theorem d13_6 : decode jdk_29_method_69_code 6 = .ok (.goto 4, 3) := by decide +kernel
theorem d13_9 : decode jdk_29_method_69_code 9 = .ok (.iload_n 1, 1) := by decide +kernel
theorem d13_10 : decode jdk_29_method_69_code 10 = .ok (.ireturn, 1) := by decide +kernel
theorem ef_13 (m : MethodId) (p1 : Int32) (p2 : Int32) : entryFrame m #[(.int p1), (.int p2)] 2 = mkF m 0 #[.val (.int p1), .val (.int p2)] [] := by first | (simp [entryFrame, mkF, argsToLocals, Value.category]; done) | rfl
def fn13 (p1 : Int32) (p2 : Int32) : Int32 := (if (p2 < p1) then p2 else p1)
def Q13 (Z : State) (p1 : Int32) (p2 : Int32) (h0 : Heap) (n0 : Nat) : Option Value → Heap → List Loc → Prop := fun v h L => v = some (Value.int (fn13 p1 p2)) ∧ Fr n0 L ∧ h = h0
def room13 : Room := { frames := 0, cells := 0, slots := 0, locals := 0 }
set_option maxRecDepth 65536 in
set_option maxHeartbeats 40000000 in
theorem rm13 (l : Launch) (Z : State) (a0 : Array Value) (hw : ∀ d ∈ tables_1, d.before a0 Z = true) (p1 : Int32) (p2 : Int32) (h0 : Heap) (n0 : Nat)  : Ctr l Z (⟨"java/lang/Math", "min", "(II)I"⟩ : MethodName) jdk_29_method_69_code 2 (some .int) room13 #[(.int p1), (.int p2)] h0 (Q13 Z p1 p2 h0 n0) := by
  refine Ctr.of (Jvm.Free.JP.mathPlain rfl (by decide +kernel)) ?_
  intro p e s m below meth c s₁ hx hby hml hown hnm hret hlk hZ e0 X0
  have hown : s.vm.findClass "java/lang/Math" = some m.cls := hown
  have hml : c.maxLocals = 2 := hml
  have hnm : meth.name = "min" := hnm
  have hret : meth.sig.returnType = (some .int) := hret
  have N0 := Fr.nil n0
  refine Till.cast (ef_13 m p1 p2) ?_
  show Till p e below s (Q13 Z p1 p2 h0 n0) room13.cells room13.slots (s₁.setTop (mkF m 0 #[.val (.int p1), .val (.int p2)] []))
  refine Till.pre (fun _ hr => XS.iloadN X0.here hx rfl (hb hby d13_0) rfl hr) ?_
  show Till p e below s (Q13 Z p1 p2 h0 n0) room13.cells room13.slots (s₁.setTop (mkF m 1 #[.val (.int p1), .val (.int p2)] [(.int p1)]))
  refine Till.pre (fun _ hr => XS.iloadN X0.here hx rfl (hb hby d13_1) rfl hr) ?_
  show Till p e below s (Q13 Z p1 p2 h0 n0) room13.cells room13.slots (s₁.setTop (mkF m 2 #[.val (.int p1), .val (.int p2)] [(.int p2), (.int p1)]))
  have J10_1 : ∀ (v10s0 : Int32) (hv10s0 : v10s0 = (if (p2 < p1) then p2 else p1)), Till p e below s (Q13 Z p1 p2 h0 n0) room13.cells room13.slots (s₁.setTop (mkF m 10 #[.val (.int p1), .val (.int p2)] [(.int v10s0)])) := by
    intro v10s0 hv10s0
    show Till p e below s (Q13 Z p1 p2 h0 n0) room13.cells room13.slots (s₁.setTop (mkF m 10 #[.val (.int p1), .val (.int p2)] [(.int v10s0)]))
    refine Till.retI X0 hx hret hlk (hb hby d13_10) (by decide) (by decide) ?_
    subst hv10s0
    exact ⟨rfl, N0, e0⟩
  refine Till.icmp (pc' := 9) X0.here hx (hb hby d13_2) (by decide) (by decide) (fun q => ?_) (fun q => ?_)
  · have hc1 := (hLt.2.2.2.2.1 q)
    show Till p e below s (Q13 Z p1 p2 h0 n0) room13.cells room13.slots (s₁.setTop (mkF m 9 #[.val (.int p1), .val (.int p2)] []))
    refine Till.pre (fun _ hr => XS.iloadN X0.here hx rfl (hb hby d13_9) rfl hr) ?_
    show Till p e below s (Q13 Z p1 p2 h0 n0) room13.cells room13.slots (s₁.setTop (mkF m 10 #[.val (.int p1), .val (.int p2)] [(.int p2)]))
    exact J10_1 _ (Eq.symm (if_pos hc1))
  · have hc1 := (hLt.2.2.2.2.2.1 q)
    show Till p e below s (Q13 Z p1 p2 h0 n0) room13.cells room13.slots (s₁.setTop (mkF m 5 #[.val (.int p1), .val (.int p2)] []))
    refine Till.pre (fun _ hr => XS.iloadN X0.here hx rfl (hb hby d13_5) rfl hr) ?_
    show Till p e below s (Q13 Z p1 p2 h0 n0) room13.cells room13.slots (s₁.setTop (mkF m 6 #[.val (.int p1), .val (.int p2)] [(.int p1)]))
    refine Till.pre (fun _ hr => XS.goto X0.here hx rfl (pc0 := 6) (pc' := 10) rfl (hb hby d13_6) (by decide) (by decide) hr) ?_
    show Till p e below s (Q13 Z p1 p2 h0 n0) room13.cells room13.slots (s₁.setTop (mkF m 10 #[.val (.int p1), .val (.int p2)] [(.int p1)]))
    exact J10_1 _ (Eq.symm (if_neg hc1))
theorem own_min {x y : Int32} (h : y.toInt ≤ x.toInt) : (fn13 x y).toInt = y.toInt := by
  unfold fn13
  split
  · rfl
  · rename_i q; rw [Int32.lt_iff_toInt_lt] at q; omega
theorem d12_0 : decode jdk_65_method_131_code 0 = .ok (.iload_n 1, 1) := by decide +kernel
theorem d12_1 : decode jdk_65_method_131_code 1 = .ok (.iload_n 0, 1) := by decide +kernel
theorem d12_2 : decode jdk_65_method_131_code 2 = .ok (.if_icmp .ge 35, 3) := by decide +kernel
theorem d12_37 : decode jdk_65_method_131_code 37 = .ok (.return_, 1) := by decide +kernel
theorem ef_12 (m : MethodId) (p1 : Int32) (p2 : Int32) : entryFrame m #[(.int p1), (.int p2)] 2 = mkF m 0 #[.val (.int p1), .val (.int p2)] [] := by first | (simp [entryFrame, mkF, argsToLocals, Value.category]; done) | rfl
def Q12 (Z : State) (p1 : Int32) (p2 : Int32) (h0 : Heap) (n0 : Nat) : Option Value → Heap → List Loc → Prop := fun v h L => v = none ∧ Fr n0 L ∧ h = h0
def room12 : Room := { frames := 0, cells := 0, slots := 0, locals := 0 }
set_option maxRecDepth 65536 in
set_option maxHeartbeats 40000000 in
theorem rm12 (l : Launch) (Z : State) (a0 : Array Value) (hw : ∀ d ∈ tables_1, d.before a0 Z = true) (p1 : Int32) (p2 : Int32) (h0 : Heap) (n0 : Nat) (hle : ¬ p2 < p1) : Ctr l Z (⟨"java/util/Arrays", "checkLength", "(II)V"⟩ : MethodName) jdk_65_method_131_code 2 none room12 #[(.int p1), (.int p2)] h0 (Q12 Z p1 p2 h0 n0) := by
  refine Ctr.of (plainFor_of_name pn_4) ?_
  intro p e s m below meth c s₁ hx hby hml hown hnm hret hlk hZ e0 X0
  have hown : s.vm.findClass "java/util/Arrays" = some m.cls := hown
  have hml : c.maxLocals = 2 := hml
  have hnm : meth.name = "checkLength" := hnm
  have hret : meth.sig.returnType = none := hret
  have N0 := Fr.nil n0
  refine Till.cast (ef_12 m p1 p2) ?_
  show Till p e below s (Q12 Z p1 p2 h0 n0) room12.cells room12.slots (s₁.setTop (mkF m 0 #[.val (.int p1), .val (.int p2)] []))
  refine Till.pre (fun _ hr => XS.iloadN X0.here hx rfl (hb hby d12_0) rfl hr) ?_
  show Till p e below s (Q12 Z p1 p2 h0 n0) room12.cells room12.slots (s₁.setTop (mkF m 1 #[.val (.int p1), .val (.int p2)] [(.int p2)]))
  refine Till.pre (fun _ hr => XS.iloadN X0.here hx rfl (hb hby d12_1) rfl hr) ?_
  show Till p e below s (Q12 Z p1 p2 h0 n0) room12.cells room12.slots (s₁.setTop (mkF m 2 #[.val (.int p1), .val (.int p2)] [(.int p1), (.int p2)]))
  refine Till.icmp (pc' := 37) X0.here hx (hb hby d12_2) (by decide) (by decide) (fun q => ?_) (fun q => absurd (hLt.2.2.2.1 q) (hle : ¬ (p2 < p1)))
  show Till p e below s (Q12 Z p1 p2 h0 n0) room12.cells room12.slots (s₁.setTop (mkF m 37 #[.val (.int p1), .val (.int p2)] []))
  refine Till.retV X0 hx hret hlk (hb hby d12_37) (by decide) (by decide) ?_
  exact ⟨rfl, N0, e0⟩
theorem own_nlt {a b : Int32} (h : a.toInt ≤ b.toInt) : ¬ b < a := fun q => by rw [Int32.lt_iff_toInt_lt] at q; omega
theorem own_dsub {p q z : Int32} (hb : 1 ≤ p.toInt ∧ p.toInt ≤ q.toInt ∧ q.toInt ≤ z.toInt ∧ q.toInt - p.toInt ≤ 3) : (q - p).toInt = q.toInt - p.toInt := by
  have := c_isub q p
  have := rng32 (q - p)
  omega
theorem own_sb0 {p q z : Int32} (hb : 1 ≤ p.toInt ∧ p.toInt ≤ q.toInt ∧ q.toInt ≤ z.toInt ∧ q.toInt - p.toInt ≤ 3) : ¬ (q - p) < (0 : Int32) ∧ (q - p).toNatClampNeg ≤ 3 := by
  have := own_dsub hb
  refine ⟨own_neg (by omega), ?_⟩
  simp only [Int32.toNatClampNeg]; omega
theorem own_minl {p q z : Int32} (hb : 1 ≤ p.toInt ∧ p.toInt ≤ q.toInt ∧ q.toInt ≤ z.toInt ∧ q.toInt - p.toInt ≤ 3) : (fn13 (z - p) (q - p)).toInt = q.toInt - p.toInt ∧ 0 ≤ q.toInt - p.toInt := by
  have a := own_dsub hb
  have b := c_isub z p
  have c := rng32 (z - p)
  have d := rng32 z
  have e := own_min (x := z - p) (y := q - p) (by omega)
  omega
theorem own_cr1 {p q z : Int32} (hb : 1 ≤ p.toInt ∧ p.toInt ≤ q.toInt ∧ q.toInt ≤ z.toInt ∧ q.toInt - p.toInt ≤ 3) : ¬ p < (0 : Int32) := own_neg (by omega)
theorem own_cr2 {x : Int32} {k : Int} (h : x.toInt = k ∧ 0 ≤ k) : ¬ x < (0 : Int32) := own_neg (by omega)
theorem own_cr3 {p q z x : Int32} (hb : 1 ≤ p.toInt ∧ p.toInt ≤ q.toInt ∧ q.toInt ≤ z.toInt ∧ q.toInt - p.toInt ≤ 3) (h : x.toInt = q.toInt - p.toInt ∧ 0 ≤ q.toInt - p.toInt) : p.toNatClampNeg + x.toNatClampNeg ≤ z.toNatClampNeg := by
  simp only [Int32.toNatClampNeg]; omega
theorem own_cr4 {p q z x : Int32} (hb : 1 ≤ p.toInt ∧ p.toInt ≤ q.toInt ∧ q.toInt ≤ z.toInt ∧ q.toInt - p.toInt ≤ 3) (h : x.toInt = q.toInt - p.toInt ∧ 0 ≤ q.toInt - p.toInt) : (0 : Int32).toNatClampNeg + x.toNatClampNeg ≤ (q - p).toNatClampNeg := by
  have := own_dsub hb
  have e : (0 : Int32).toInt = 0 := rfl
  simp only [Int32.toNatClampNeg, e]; omega
theorem own_cr5 {p q z x : Int32} {f : Nat → Int64} (hb : 1 ≤ p.toInt ∧ p.toInt ≤ q.toInt ∧ q.toInt ≤ z.toInt ∧ q.toInt - p.toInt ≤ 3) (h : x.toInt = q.toInt - p.toInt ∧ 0 ≤ q.toInt - p.toInt) : ∀ i, i < (q - p).toNatClampNeg → cpy f (fun _ => (0 : Int64)) (p).toNatClampNeg 0 (x).toNatClampNeg i = f ((p).toNatClampNeg + i) := by
  intro i hi
  have := own_dsub hb
  have e : (q - p).toNatClampNeg = x.toNatClampNeg := by simp only [Int32.toNatClampNeg]; omega
  show (if 0 ≤ i ∧ i < 0 + x.toNatClampNeg then f (p.toNatClampNeg + (i - 0)) else (0 : Int64)) = _
  rw [if_pos ⟨Nat.zero_le _, by omega⟩, Nat.sub_zero]
theorem own_p20 {p q z : Int32} (hb : 1 ≤ p.toInt ∧ p.toInt ≤ q.toInt ∧ q.toInt ≤ z.toInt ∧ q.toInt - p.toInt ≤ 3) : ¬ p = (0 : Int32) := fun e => by
  rw [e] at hb; exact absurd hb.1 (by decide)
theorem own_abs (x : Int32) : x.toInt64 ≠ own_ABS := fun e => by
  have a := c_i2l x
  have r := rng32 x
  rw [e] at a
  have b : own_ABS.toInt = -9223372036854775808 := rfl
  omega
theorem own_lt4 {x : Int32} (h : 0 ≤ x.toInt ∧ x.toInt ≤ 10) : x < (4096 : Int32) := by rw [Int32.lt_iff_toInt_lt, show (4096 : Int32).toInt = 4096 from rfl]; omega
theorem own_lt4' {x : Int32} (h : 0 ≤ x.toInt ∧ x.toInt ≤ 8) : x < (4096 : Int32) := own_lt4 (by omega)
theorem own_x1 {x : Int32} (h : 0 ≤ x.toInt ∧ x.toInt ≤ 10) : (x + (1 : Int32)).toInt = x.toInt + 1 := by
  have := c_iadd x 1
  have := rng32 (x + 1)
  have e : (1 : Int32).toInt = 1 := rfl
  omega
theorem own_x2 {x c : Int32} (h : 0 ≤ x.toInt ∧ x.toInt ≤ 10) (hc : 0 ≤ c.toInt ∧ c.toInt ≤ 3) : ((x + (1 : Int32)) + c).toInt = x.toInt + 1 + c.toInt := by
  have := own_x1 h
  have := c_iadd (x + 1) c
  have := rng32 ((x + 1) + c)
  omega
theorem own_fb {x c : Int32} (h : 0 ≤ x.toInt ∧ x.toInt ≤ 10) (hc : 0 ≤ c.toInt ∧ c.toInt ≤ 3) : 1 ≤ (x + (1 : Int32)).toInt ∧ (x + (1 : Int32)).toInt ≤ ((x + (1 : Int32)) + c).toInt ∧ ((x + (1 : Int32)) + c).toInt ≤ (4096 : Int32).toInt ∧ ((x + (1 : Int32)) + c).toInt - (x + (1 : Int32)).toInt ≤ 3 := by
  have := own_x1 h
  have := own_x2 h hc
  have e : (4096 : Int32).toInt = 4096 := rfl
  omega
theorem own_dif {x c : Int32} : ((x + (1 : Int32)) + c) - (x + (1 : Int32)) = c := by
  rw [Int32.add_comm (x + 1) c, Int32.add_sub_cancel]
theorem own_pc {x c : Int32} (h : 0 ≤ x.toInt ∧ x.toInt ≤ 8) (hc : 0 ≤ c.toInt ∧ c.toInt ≤ 3) : ¬ (4096 : Int32) < ((x + (1 : Int32)) + c) := by
  have := own_x2 (x := x) (by omega) hc
  rw [Int32.lt_iff_toInt_lt, show (4096 : Int32).toInt = 4096 from rfl]; omega
theorem own_u1 {x : Int32} (h : 0 ≤ x.toInt ∧ x.toInt ≤ 8) : ¬ (x + (1 : Int32)) < (0 : Int32) := own_neg (by have := own_x1 (x := x) (by omega); omega)
theorem own_u3 {c : Int32} (hc : 0 ≤ c.toInt ∧ c.toInt ≤ 3) : (0 : Int32).toNatClampNeg + c.toNatClampNeg ≤ (3 : Int32).toNatClampNeg := by
  have e : (0 : Int32).toInt = 0 := rfl
  have e3 : (3 : Int32).toInt = 3 := rfl
  simp only [Int32.toNatClampNeg, e, e3]; omega
theorem own_u4 {x c : Int32} (h : 0 ≤ x.toInt ∧ x.toInt ≤ 8) (hc : 0 ≤ c.toInt ∧ c.toInt ≤ 3) : (x + (1 : Int32)).toNatClampNeg + c.toNatClampNeg ≤ (4096 : Int32).toNatClampNeg := by
  have := own_x1 (x := x) (by omega)
  have e : (4096 : Int32).toInt = 4096 := rfl
  simp only [Int32.toNatClampNeg, e]; omega
theorem own_ink {z p a b : Int32} (hz : z = p) (h : ¬ p < b) (hab : a.toInt + 1 = b.toInt) : a < z := by
  rw [hz, Int32.lt_iff_toInt_lt]; rw [Int32.lt_iff_toInt_lt] at h; omega
theorem own_in0 {z p : Int32} (hz : z = p) (h : ¬ p < (1 : Int32)) : (0 : Int32) < z := own_ink hz h rfl
theorem own_in1 {z p : Int32} (hz : z = p) (h : ¬ p < (2 : Int32)) : (1 : Int32) < z := own_ink hz h rfl
theorem own_in2 {z p : Int32} (hz : z = p) (h : ¬ p < (3 : Int32)) : (2 : Int32) < z := own_ink hz h rfl
theorem d11_0 : decode jdk_65_method_139_code 0 = .ok (.iload_n 1, 1) := by decide +kernel
theorem d11_1 : decode jdk_65_method_139_code 1 = .ok (.iload_n 2, 1) := by decide +kernel
theorem d11_2 : decode jdk_65_method_139_code 2 = .ok (.invokestatic 343, 3) := by decide +kernel
theorem d11_5 : decode jdk_65_method_139_code 5 = .ok (.iload_n 2, 1) := by decide +kernel
theorem d11_6 : decode jdk_65_method_139_code 6 = .ok (.iload_n 1, 1) := by decide +kernel
theorem d11_7 : decode jdk_65_method_139_code 7 = .ok (.isub, 1) := by decide +kernel
theorem d11_8 : decode jdk_65_method_139_code 8 = .ok (.istore_n 3, 1) := by decide +kernel
theorem d11_9 : decode jdk_65_method_139_code 9 = .ok (.iload_n 3, 1) := by decide +kernel
theorem d11_10 : decode jdk_65_method_139_code 10 = .ok (.newarray .long, 2) := by decide +kernel
theorem d11_12 : decode jdk_65_method_139_code 12 = .ok (.astore 4, 2) := by decide +kernel
theorem d11_14 : decode jdk_65_method_139_code 14 = .ok (.aload_n 0, 1) := by decide +kernel
theorem d11_15 : decode jdk_65_method_139_code 15 = .ok (.iload_n 1, 1) := by decide +kernel
theorem d11_16 : decode jdk_65_method_139_code 16 = .ok (.aload 4, 2) := by decide +kernel
theorem d11_18 : decode jdk_65_method_139_code 18 = .ok (.iconst 0, 1) := by decide +kernel
theorem d11_19 : decode jdk_65_method_139_code 19 = .ok (.aload_n 0, 1) := by decide +kernel
theorem d11_20 : decode jdk_65_method_139_code 20 = .ok (.arraylength, 1) := by decide +kernel
theorem d11_21 : decode jdk_65_method_139_code 21 = .ok (.iload_n 1, 1) := by decide +kernel
theorem d11_22 : decode jdk_65_method_139_code 22 = .ok (.isub, 1) := by decide +kernel
theorem d11_23 : decode jdk_65_method_139_code 23 = .ok (.iload_n 3, 1) := by decide +kernel
theorem d11_24 : decode jdk_65_method_139_code 24 = .ok (.invokestatic 304, 3) := by decide +kernel
theorem d11_27 : decode jdk_65_method_139_code 27 = .ok (.invokestatic 150, 3) := by decide +kernel
theorem d11_30 : decode jdk_65_method_139_code 30 = .ok (.aload 4, 2) := by decide +kernel
theorem d11_32 : decode jdk_65_method_139_code 32 = .ok (.areturn, 1) := by decide +kernel
theorem pd11_2 : parseMethodDescriptor "(II)I" = some ⟨[.int, .int], some .int⟩ := by decide +kernel
theorem pd11_3 : parseMethodDescriptor "(II)V" = some ⟨[.int, .int], none⟩ := by decide +kernel
theorem ef_11 (m : MethodId) (a1 : Addr) (p2 : Int32) (p3 : Int32) : entryFrame m #[(.ref a1), (.int p2), (.int p3)] 5 = mkF m 0 #[.val (.ref a1), .val (.int p2), .val (.int p3), .unset, .unset] [] := by first | (simp [entryFrame, mkF, argsToLocals, Value.category]; done) | rfl
def Q11 (Z : State) (a1 : Addr) (p2 : Int32) (p3 : Int32) (z : Int32) (f : Nat → Int64) (h0 : Heap) (n0 : Nat) : Option Value → Heap → List Loc → Prop := fun v h L => ∃ (b : Addr), v = some (.ref b) ∧ Fr n0 L ∧ Keep h0 h [] ∧ h0.size ≤ b ∧ LA Z h b (p3 - p2) (fun i => f ((p2).toNatClampNeg + i))
def room11 : Room := { frames := 1, cells := 1, slots := 3, locals := 30 }
set_option maxRecDepth 65536 in
set_option maxHeartbeats 40000000 in
theorem rm11 (l : Launch) (Z : State) (a0 : Array Value) (hw : ∀ d ∈ tables_1, d.before a0 Z = true) (a1 : Addr) (p2 : Int32) (p3 : Int32) (z : Int32) (f : Nat → Int64) (h0 : Heap) (n0 : Nat) (Zs : n0 ≤ h0.size) (R_a1 : LA Z h0 a1 z f) (hbd : 1 ≤ p2.toInt ∧ p2.toInt ≤ p3.toInt ∧ p3.toInt ≤ z.toInt ∧ p3.toInt - p2.toInt ≤ 3) : Ctr l Z (⟨"java/util/Arrays", "copyOfRangeLong", "([JII)[J"⟩ : MethodName) jdk_65_method_139_code 5 (some (.array .long)) room11 #[(.ref a1), (.int p2), (.int p3)] h0 (Q11 Z a1 p2 p3 z f h0 n0) := by
  refine Ctr.of (plainFor_of_name pn_4) ?_
  intro p e s m below meth c s₁ hx hby hml hown hnm hret hlk hZ e0 X0
  have hown : s.vm.findClass "java/util/Arrays" = some m.cls := hown
  have hml : c.maxLocals = 5 := hml
  have hnm : meth.name = "copyOfRangeLong" := hnm
  have hret : meth.sig.returnType = (some (.array .long)) := hret
  have N0 := Fr.nil n0
  refine Till.cast (ef_11 m a1 p2 p3) ?_
  have Kp := Keep.refl h0 []
  show Till p e below s (Q11 Z a1 p2 p3 z f h0 n0) room11.cells room11.slots (s₁.setTop (mkF m 0 #[.val (.ref a1), .val (.int p2), .val (.int p3), .unset, .unset] []))
  refine Till.pre (fun _ hr => XS.iloadN X0.here hx rfl (hb hby d11_0) rfl hr) ?_
  show Till p e below s (Q11 Z a1 p2 p3 z f h0 n0) room11.cells room11.slots (s₁.setTop (mkF m 1 #[.val (.ref a1), .val (.int p2), .val (.int p3), .unset, .unset] [(.int p2)]))
  refine Till.pre (fun _ hr => XS.iloadN X0.here hx rfl (hb hby d11_1) rfl hr) ?_
  show Till p e below s (Q11 Z a1 p2 p3 z f h0 n0) room11.cells room11.slots (s₁.setTop (mkF m 2 #[.val (.ref a1), .val (.int p2), .val (.int p3), .unset, .unset] [(.int p3), (.int p2)]))
  refine Till.callS (rm12 l Z a0 hw p2 p3 h0 n0 (own_nlt hbd.2.1)) X0 hx hZ hown (hw _ (List.mem_of_getElem? (i := 77) rfl)) (hw _ (List.mem_of_getElem? (i := 78) rfl)) (hw _ (List.mem_of_getElem? (i := 29) rfl)) (hw _ (List.mem_of_getElem? (i := 79) rfl)) (by decide) (by decide) (W := 0) (by decide) (by rw [hml]; rfl) (argsL := [(.int p2), (.int p3)]) (rest := []) (lenOf pd11_3 rfl) rfl rfl (Nat.le_of_eq rfl) (hb hby d11_2) e0 (by decide) (by decide) ?_
  rintro _ T1 L2 X3 ⟨rfl, N4, e5⟩
  have N4 := Fr.app N0 N4
  show Till p e below s (Q11 Z a1 p2 p3 z f h0 n0) room11.cells room11.slots (T1.setTop (mkF m 5 #[.val (.ref a1), .val (.int p2), .val (.int p3), .unset, .unset] []))
  refine Till.pre (fun _ hr => XS.iloadN X3.here hx rfl (hb hby d11_5) rfl hr) ?_
  show Till p e below s (Q11 Z a1 p2 p3 z f h0 n0) room11.cells room11.slots (T1.setTop (mkF m 6 #[.val (.ref a1), .val (.int p2), .val (.int p3), .unset, .unset] [(.int p3)]))
  refine Till.pre (fun _ hr => XS.iloadN X3.here hx rfl (hb hby d11_6) rfl hr) ?_
  show Till p e below s (Q11 Z a1 p2 p3 z f h0 n0) room11.cells room11.slots (T1.setTop (mkF m 7 #[.val (.ref a1), .val (.int p2), .val (.int p3), .unset, .unset] [(.int p2), (.int p3)]))
  refine Till.pre (fun _ hr => XS.isub X3.here hx rfl (hb hby d11_7) rfl hr) ?_
  show Till p e below s (Q11 Z a1 p2 p3 z f h0 n0) room11.cells room11.slots (T1.setTop (mkF m 8 #[.val (.ref a1), .val (.int p2), .val (.int p3), .unset, .unset] [(.int (p3 - p2))]))
  refine Till.pre (fun _ hr => XS.istoreN X3.here hx rfl (hb hby d11_8) rfl (l' := #[.val (.ref a1), .val (.int p2), .val (.int p3), .val (.int (p3 - p2)), .unset]) rfl hr) ?_
  show Till p e below s (Q11 Z a1 p2 p3 z f h0 n0) room11.cells room11.slots (T1.setTop (mkF m 9 #[.val (.ref a1), .val (.int p2), .val (.int p3), .val (.int (p3 - p2)), .unset] []))
  refine Till.pre (fun _ hr => XS.iloadN X3.here hx rfl (hb hby d11_9) rfl hr) ?_
  show Till p e below s (Q11 Z a1 p2 p3 z f h0 n0) room11.cells room11.slots (T1.setTop (mkF m 10 #[.val (.ref a1), .val (.int p2), .val (.int p3), .val (.int (p3 - p2)), .unset] [(.int (p3 - p2))]))
  refine Till.newA (aty := .long) (w := Value.long) (d0 := (0 : Int64)) X3 hx hZ (hw _ (List.mem_of_getElem? (i := 0) rfl)) e5 (hb hby d11_10) rfl ((own_sb0 hbd).1) 3 ((own_sb0 hbd).2) (by decide) (by decide) (by decide) (fun T6 h7 b8 g9 X10 e11 E12 A13 => ?_)
  have ne_a1_b8 : a1 ≠ b8 := Nat.ne_of_lt (Nat.lt_of_lt_of_le R_a1.lt (Nat.le_of_eq g9.symm))
  have g_b8 : n0 ≤ b8 := Nat.le_trans Zs (Nat.le_of_eq g9.symm)
  have sz_b8 : h0.size ≤ b8 := Nat.le_trans Kp.1 (Nat.le_of_eq g9.symm)
  have R_a1 := R_a1.ext E12
  have Zs := Nat.le_trans Zs E12.1
  have Kp := Kp.ext E12
  have R_b8 : LA Z h7 b8 (p3 - p2) (fun _ => (0 : Int64)) := A13
  show Till p e below s (Q11 Z a1 p2 p3 z f h0 n0) room11.cells room11.slots (T6.setTop (mkF m 12 #[.val (.ref a1), .val (.int p2), .val (.int p3), .val (.int (p3 - p2)), .unset] [(.ref b8)]))
  refine Till.pre (fun _ hr => XS.astore X10.here hx rfl (hb hby d11_12) rfl rfl (l' := #[.val (.ref a1), .val (.int p2), .val (.int p3), .val (.int (p3 - p2)), .val (.ref b8)]) rfl hr) ?_
  show Till p e below s (Q11 Z a1 p2 p3 z f h0 n0) room11.cells room11.slots (T6.setTop (mkF m 14 #[.val (.ref a1), .val (.int p2), .val (.int p3), .val (.int (p3 - p2)), .val (.ref b8)] []))
  refine Till.pre (fun _ hr => XS.aloadN X10.here hx rfl (hb hby d11_14) rfl rfl hr) ?_
  show Till p e below s (Q11 Z a1 p2 p3 z f h0 n0) room11.cells room11.slots (T6.setTop (mkF m 15 #[.val (.ref a1), .val (.int p2), .val (.int p3), .val (.int (p3 - p2)), .val (.ref b8)] [(.ref a1)]))
  refine Till.pre (fun _ hr => XS.iloadN X10.here hx rfl (hb hby d11_15) rfl hr) ?_
  show Till p e below s (Q11 Z a1 p2 p3 z f h0 n0) room11.cells room11.slots (T6.setTop (mkF m 16 #[.val (.ref a1), .val (.int p2), .val (.int p3), .val (.int (p3 - p2)), .val (.ref b8)] [(.int p2), (.ref a1)]))
  refine Till.pre (fun _ hr => XS.aload X10.here hx rfl (hb hby d11_16) rfl rfl hr) ?_
  show Till p e below s (Q11 Z a1 p2 p3 z f h0 n0) room11.cells room11.slots (T6.setTop (mkF m 18 #[.val (.ref a1), .val (.int p2), .val (.int p3), .val (.int (p3 - p2)), .val (.ref b8)] [(.ref b8), (.int p2), (.ref a1)]))
  refine Till.pre (fun _ hr => XS.iconst X10.here hx rfl (hb hby d11_18) hr) ?_
  show Till p e below s (Q11 Z a1 p2 p3 z f h0 n0) room11.cells room11.slots (T6.setTop (mkF m 19 #[.val (.ref a1), .val (.int p2), .val (.int p3), .val (.int (p3 - p2)), .val (.ref b8)] [(.int (0 : Int32)), (.ref b8), (.int p2), (.ref a1)]))
  refine Till.pre (fun _ hr => XS.aloadN X10.here hx rfl (hb hby d11_19) rfl rfl hr) ?_
  show Till p e below s (Q11 Z a1 p2 p3 z f h0 n0) room11.cells room11.slots (T6.setTop (mkF m 20 #[.val (.ref a1), .val (.int p2), .val (.int p3), .val (.int (p3 - p2)), .val (.ref b8)] [(.ref a1), (.int (0 : Int32)), (.ref b8), (.int p2), (.ref a1)]))
  refine Till.alen R_a1 X10 hx hZ e11 (hb hby d11_20) ?_
  show Till p e below s (Q11 Z a1 p2 p3 z f h0 n0) room11.cells room11.slots (T6.setTop (mkF m 21 #[.val (.ref a1), .val (.int p2), .val (.int p3), .val (.int (p3 - p2)), .val (.ref b8)] [(.int z), (.int (0 : Int32)), (.ref b8), (.int p2), (.ref a1)]))
  refine Till.pre (fun _ hr => XS.iloadN X10.here hx rfl (hb hby d11_21) rfl hr) ?_
  show Till p e below s (Q11 Z a1 p2 p3 z f h0 n0) room11.cells room11.slots (T6.setTop (mkF m 22 #[.val (.ref a1), .val (.int p2), .val (.int p3), .val (.int (p3 - p2)), .val (.ref b8)] [(.int p2), (.int z), (.int (0 : Int32)), (.ref b8), (.int p2), (.ref a1)]))
  refine Till.pre (fun _ hr => XS.isub X10.here hx rfl (hb hby d11_22) rfl hr) ?_
  show Till p e below s (Q11 Z a1 p2 p3 z f h0 n0) room11.cells room11.slots (T6.setTop (mkF m 23 #[.val (.ref a1), .val (.int p2), .val (.int p3), .val (.int (p3 - p2)), .val (.ref b8)] [(.int (z - p2)), (.int (0 : Int32)), (.ref b8), (.int p2), (.ref a1)]))
  refine Till.pre (fun _ hr => XS.iloadN X10.here hx rfl (hb hby d11_23) rfl hr) ?_
  show Till p e below s (Q11 Z a1 p2 p3 z f h0 n0) room11.cells room11.slots (T6.setTop (mkF m 24 #[.val (.ref a1), .val (.int p2), .val (.int p3), .val (.int (p3 - p2)), .val (.ref b8)] [(.int (p3 - p2)), (.int (z - p2)), (.int (0 : Int32)), (.ref b8), (.int p2), (.ref a1)]))
  refine Till.callS (rm13 l Z a0 hw (z - p2) (p3 - p2) h7 n0) X10 hx hZ hown (hw _ (List.mem_of_getElem? (i := 80) rfl)) (hw _ (List.mem_of_getElem? (i := 81) rfl)) (hw _ (List.mem_of_getElem? (i := 82) rfl)) (hw _ (List.mem_of_getElem? (i := 83) rfl)) (by decide) (by decide) (W := 4) (by decide) (by rw [hml]; rfl) (argsL := [(.int (z - p2)), (.int (p3 - p2))]) (rest := [(.int (0 : Int32)), (.ref b8), (.int p2), (.ref a1)]) (lenOf pd11_2 rfl) rfl rfl (Nat.le_of_eq rfl) (hb hby d11_24) e11 (by decide) (by decide) ?_
  rintro _ T14 L15 X16 ⟨rfl, N17, e18⟩
  have N17 := Fr.app N4 N17
  show Till p e below s (Q11 Z a1 p2 p3 z f h0 n0) room11.cells room11.slots (T14.setTop (mkF m 27 #[.val (.ref a1), .val (.int p2), .val (.int p3), .val (.int (p3 - p2)), .val (.ref b8)] [(.int (fn13 (z - p2) (p3 - p2))), (.int (0 : Int32)), (.ref b8), (.int p2), (.ref a1)]))
  refine Till.copyL R_a1 R_b8 (own_cr1 hbd) (by decide) (own_cr2 (own_minl hbd)) (own_cr3 hbd (own_minl hbd)) (own_cr4 hbd (own_minl hbd)) N17 g_b8 X16 hx hZ hown (hw _ (List.mem_of_getElem? (i := 84) rfl)) (hw _ (List.mem_of_getElem? (i := 59) rfl)) (hw _ (List.mem_of_getElem? (i := 57) rfl)) (hw _ (List.mem_of_getElem? (i := 58) rfl)) e18 (by rw [hml]; rfl) (hb hby d11_27) (by decide) (W := 0) (Nat.le_of_eq rfl) (by decide) (fun T19 h20 L21 X22 e23 N24 K25 q26 => ?_)
  have R_a1 := R_a1.keep K25 (ninS ne_a1_b8 nin0)
  have Zs := Nat.le_trans Zs K25.1
  have Kp := Kp.trans K25 (allS (Or.inr sz_b8) all0)
  have R_b8 : LA Z h20 b8 (p3 - p2) (cpy f (fun _ => (0 : Int64)) (p2).toNatClampNeg 0 ((fn13 (z - p2) (p3 - p2))).toNatClampNeg) := q26
  show Till p e below s (Q11 Z a1 p2 p3 z f h0 n0) room11.cells room11.slots (T19.setTop (mkF m 30 #[.val (.ref a1), .val (.int p2), .val (.int p3), .val (.int (p3 - p2)), .val (.ref b8)] []))
  refine Till.pre (fun _ hr => XS.aload X22.here hx rfl (hb hby d11_30) rfl rfl hr) ?_
  show Till p e below s (Q11 Z a1 p2 p3 z f h0 n0) room11.cells room11.slots (T19.setTop (mkF m 32 #[.val (.ref a1), .val (.int p2), .val (.int p3), .val (.int (p3 - p2)), .val (.ref b8)] [(.ref b8)]))
  refine Till.retA X22 hx hret rfl hlk rfl rfl (hb hby d11_32) (by decide) (by decide) ?_
  show (Q11 Z a1 p2 p3 z f h0 n0) _ T19.heap _
  rw [e23]
  exact ⟨b8, rfl, N24, Kp, sz_b8, AR.congr R_b8 (own_cr5 hbd (own_minl hbd))⟩
theorem d10_0 : decode jdk_65_method_138_code 0 = .ok (.iload_n 1, 1) := by decide +kernel
theorem d10_1 : decode jdk_65_method_138_code 1 = .ok (.ifCond .ne 9, 3) := by decide +kernel
theorem d10_10 : decode jdk_65_method_138_code 10 = .ok (.aload_n 0, 1) := by decide +kernel
theorem d10_11 : decode jdk_65_method_138_code 11 = .ok (.iload_n 1, 1) := by decide +kernel
theorem d10_12 : decode jdk_65_method_138_code 12 = .ok (.iload_n 2, 1) := by decide +kernel
theorem d10_13 : decode jdk_65_method_138_code 13 = .ok (.invokestatic 355, 3) := by decide +kernel
theorem d10_16 : decode jdk_65_method_138_code 16 = .ok (.areturn, 1) := by decide +kernel
theorem pd10_10 : parseMethodDescriptor "([JII)[J" = some ⟨[(.array .long), .int, .int], some (.array .long)⟩ := by decide +kernel
theorem ef_10 (m : MethodId) (a1 : Addr) (p2 : Int32) (p3 : Int32) : entryFrame m #[(.ref a1), (.int p2), (.int p3)] 3 = mkF m 0 #[.val (.ref a1), .val (.int p2), .val (.int p3)] [] := by first | (simp [entryFrame, mkF, argsToLocals, Value.category]; done) | rfl
def Q10 (Z : State) (a1 : Addr) (p2 : Int32) (p3 : Int32) (z : Int32) (f : Nat → Int64) (h0 : Heap) (n0 : Nat) : Option Value → Heap → List Loc → Prop := fun v h L => ∃ (b7 : Addr), v = some (.ref b7) ∧ Fr n0 L ∧ Keep h0 h [] ∧ h0.size ≤ b7 ∧ LA Z h b7 (p3 - p2) (fun i => f ((p2).toNatClampNeg + i))
def room10 : Room := { frames := 2, cells := 1, slots := 3, locals := 46 }
set_option maxRecDepth 65536 in
set_option maxHeartbeats 40000000 in
theorem rm10 (l : Launch) (Z : State) (a0 : Array Value) (hw : ∀ d ∈ tables_1, d.before a0 Z = true) (a1 : Addr) (p2 : Int32) (p3 : Int32) (z : Int32) (f : Nat → Int64) (h0 : Heap) (n0 : Nat) (Zs : n0 ≤ h0.size) (R_a1 : LA Z h0 a1 z f) (hbd : 1 ≤ p2.toInt ∧ p2.toInt ≤ p3.toInt ∧ p3.toInt ≤ z.toInt ∧ p3.toInt - p2.toInt ≤ 3) : Ctr l Z (⟨"java/util/Arrays", "copyOfRange", "([JII)[J"⟩ : MethodName) jdk_65_method_138_code 3 (some (.array .long)) room10 #[(.ref a1), (.int p2), (.int p3)] h0 (Q10 Z a1 p2 p3 z f h0 n0) := by
  refine Ctr.of (plainFor_of_name pn_4) ?_
  intro p e s m below meth c s₁ hx hby hml hown hnm hret hlk hZ e0 X0
  have hown : s.vm.findClass "java/util/Arrays" = some m.cls := hown
  have hml : c.maxLocals = 3 := hml
  have hnm : meth.name = "copyOfRange" := hnm
  have hret : meth.sig.returnType = (some (.array .long)) := hret
  have N0 := Fr.nil n0
  refine Till.cast (ef_10 m a1 p2 p3) ?_
  have Kp := Keep.refl h0 []
  show Till p e below s (Q10 Z a1 p2 p3 z f h0 n0) room10.cells room10.slots (s₁.setTop (mkF m 0 #[.val (.ref a1), .val (.int p2), .val (.int p3)] []))
  refine Till.pre (fun _ hr => XS.iloadN X0.here hx rfl (hb hby d10_0) rfl hr) ?_
  show Till p e below s (Q10 Z a1 p2 p3 z f h0 n0) room10.cells room10.slots (s₁.setTop (mkF m 1 #[.val (.ref a1), .val (.int p2), .val (.int p3)] [(.int p2)]))
  refine Till.ifc (pc' := 10) X0.here hx (hb hby d10_1) (by decide) (by decide) (fun q => ?_) (fun q => absurd (hEq.2.2.2 q) (own_p20 hbd : ¬ (p2 = (0 : Int32))))
  show Till p e below s (Q10 Z a1 p2 p3 z f h0 n0) room10.cells room10.slots (s₁.setTop (mkF m 10 #[.val (.ref a1), .val (.int p2), .val (.int p3)] []))
  refine Till.pre (fun _ hr => XS.aloadN X0.here hx rfl (hb hby d10_10) rfl rfl hr) ?_
  show Till p e below s (Q10 Z a1 p2 p3 z f h0 n0) room10.cells room10.slots (s₁.setTop (mkF m 11 #[.val (.ref a1), .val (.int p2), .val (.int p3)] [(.ref a1)]))
  refine Till.pre (fun _ hr => XS.iloadN X0.here hx rfl (hb hby d10_11) rfl hr) ?_
  show Till p e below s (Q10 Z a1 p2 p3 z f h0 n0) room10.cells room10.slots (s₁.setTop (mkF m 12 #[.val (.ref a1), .val (.int p2), .val (.int p3)] [(.int p2), (.ref a1)]))
  refine Till.pre (fun _ hr => XS.iloadN X0.here hx rfl (hb hby d10_12) rfl hr) ?_
  show Till p e below s (Q10 Z a1 p2 p3 z f h0 n0) room10.cells room10.slots (s₁.setTop (mkF m 13 #[.val (.ref a1), .val (.int p2), .val (.int p3)] [(.int p3), (.int p2), (.ref a1)]))
  refine Till.callS (rm11 l Z a0 hw a1 p2 p3 z f h0 n0 Zs R_a1 (hbd)) X0 hx hZ hown (hw _ (List.mem_of_getElem? (i := 74) rfl)) (hw _ (List.mem_of_getElem? (i := 75) rfl)) (hw _ (List.mem_of_getElem? (i := 29) rfl)) (hw _ (List.mem_of_getElem? (i := 76) rfl)) (by decide) (by decide) (W := 0) (by decide) (by rw [hml]; rfl) (argsL := [(.ref a1), (.int p2), (.int p3)]) (rest := []) (lenOf pd10_10 rfl) rfl rfl (Nat.le_of_eq rfl) (hb hby d10_13) e0 (by decide) (by decide) ?_
  rintro _ T1 L2 X3 ⟨b7, rfl, N4, K5, szq_b7, q6⟩
  have N4 := Fr.app N0 N4
  have ne_a1_b7 : a1 ≠ b7 := Nat.ne_of_lt (Nat.lt_of_lt_of_le R_a1.lt szq_b7)
  have g_b7 : n0 ≤ b7 := Nat.le_trans Zs szq_b7
  have sz_b7 : h0.size ≤ b7 := Nat.le_trans Kp.1 szq_b7
  have R_a1 := R_a1.keep K5 nin0
  have Zs := Nat.le_trans Zs K5.1
  have Kp := Kp.trans K5 all0
  have R_b7 : LA Z T1.heap b7 (p3 - p2) (fun i => f ((p2).toNatClampNeg + i)) := q6
  show Till p e below s (Q10 Z a1 p2 p3 z f h0 n0) room10.cells room10.slots (T1.setTop (mkF m 16 #[.val (.ref a1), .val (.int p2), .val (.int p3)] [(.ref b7)]))
  refine Till.retA X3 hx hret rfl hlk rfl rfl (hb hby d10_16) (by decide) (by decide) ?_
  show (Q10 Z a1 p2 p3 z f h0 n0) _ T1.heap _
  exact ⟨b7, rfl, N4, Kp, sz_b7, R_b7⟩
theorem d8_0 : decode prog_16_method_3_code 0 = .ok (.aload_n 0, 1) := by decide +kernel
theorem d8_1 : decode prog_16_method_3_code 1 = .ok (.getfield 10, 3) := by decide +kernel
theorem d8_4 : decode prog_16_method_3_code 4 = .ok (.lload_n 1, 1) := by decide +kernel
theorem d8_5 : decode prog_16_method_3_code 5 = .ok (.invokevirtual 46, 3) := by decide +kernel
theorem d8_8 : decode prog_16_method_3_code 8 = .ok (.lstore_n 3, 1) := by decide +kernel
theorem d8_9 : decode prog_16_method_3_code 9 = .ok (.lload_n 3, 1) := by decide +kernel
theorem d8_10 : decode prog_16_method_3_code 10 = .ok (.ldc2_w 50, 3) := by decide +kernel
theorem d8_13 : decode prog_16_method_3_code 13 = .ok (.lcmp, 1) := by decide +kernel
theorem d8_14 : decode prog_16_method_3_code 14 = .ok (.ifCond .ne 5, 3) := by decide +kernel
theorem d8_17 : decode prog_16_method_3_code 17 = .ok (.aconst_null, 1) := by decide +kernel
theorem d8_18 : decode prog_16_method_3_code 18 = .ok (.areturn, 1) := by decide +kernel
theorem pd8_5 : parseMethodDescriptor "(J)J" = some ⟨[.long], some .long⟩ := by decide +kernel
theorem ef_8_n (m : MethodId) (a1 : Addr) (q2 : Int64) : entryFrame m #[(.ref a1), (.long q2)] 6 = mkF m 0 #[.val (.ref a1), .val (.long q2), .second, .unset, .unset, .unset] [] := by first | (simp [entryFrame, mkF, argsToLocals, Value.category]; done) | rfl
def Q8_n (Z : State) (a1 : Addr) (q2 : Int64) (b1 : Addr) (b3 : Addr) (b4 : Addr) (b2 : Addr) (w_used : Int32) (w_size : Int32) (f : Nat → Int64) (g : Nat → Int64) (u : Nat → Int64) (N : Nat) (mm : Int64 → Int64) (h0 : Heap) (n0 : Nat) : Option Value → Heap → List Loc → Prop := fun v h L => v = some Value.null ∧ Fr n0 L ∧ h = h0
def room8_n : Room := { frames := 2, cells := 0, slots := 0, locals := 31 }
set_option maxRecDepth 65536 in
set_option maxHeartbeats 40000000 in
theorem rm8_n (l : Launch) (Z : State) (a0 : Array Value) (hw : ∀ d ∈ tables_1, d.before a0 Z = true) (a1 : Addr) (q2 : Int64) (b1 : Addr) (b3 : Addr) (b4 : Addr) (b2 : Addr) (w_used : Int32) (w_size : Int32) (f : Nat → Int64) (g : Nat → Int64) (u : Nat → Int64) (N : Nat) (mm : Int64 → Int64) (h0 : Heap) (n0 : Nat) (R_a1 : Way Z h0 a1 (.ref b1) (.ref b2) w_used) (R_b1 : Idt Z h0 b1 (.ref b3) (.ref b4) (54 : Int32) w_size) (R_b3 : LA Z h0 b3 (1024 : Int32) f) (R_b4 : LA Z h0 b4 (1024 : Int32) g) (R_b2 : LA Z h0 b2 (4096 : Int32) u) (ht : own_Tb f g N mm) (hN : N ≤ 3) (hm : mm q2 = own_ABS) : Ctr l Z (⟨"com/example/tour/tour/io/WayNodes", "find", "(J)[J"⟩ : MethodName) prog_16_method_3_code 6 (some (.array .long)) room8_n #[(.ref a1), (.long q2)] h0 (Q8_n Z a1 q2 b1 b3 b4 b2 w_used w_size f g u N mm h0 n0) := by
  refine Ctr.of (plainFor_of_name pn_1) ?_
  intro p e s m below meth c s₁ hx hby hml hown hnm hret hlk hZ e0 X0
  have hown : s.vm.findClass "com/example/tour/tour/io/WayNodes" = some m.cls := hown
  have hml : c.maxLocals = 6 := hml
  have hnm : meth.name = "find" := hnm
  have hret : meth.sig.returnType = (some (.array .long)) := hret
  have N0 := Fr.nil n0
  refine Till.cast (ef_8_n m a1 q2) ?_
  show Till p e below s (Q8_n Z a1 q2 b1 b3 b4 b2 w_used w_size f g u N mm h0 n0) room8_n.cells room8_n.slots (s₁.setTop (mkF m 0 #[.val (.ref a1), .val (.long q2), .second, .unset, .unset, .unset] []))
  refine Till.pre (fun _ hr => XS.aloadN X0.here hx rfl (hb hby d8_0) rfl rfl hr) ?_
  show Till p e below s (Q8_n Z a1 q2 b1 b3 b4 b2 w_used w_size f g u N mm h0 n0) room8_n.cells room8_n.slots (s₁.setTop (mkF m 1 #[.val (.ref a1), .val (.long q2), .second, .unset, .unset, .unset] [(.ref a1)]))
  refine Till.getF X0 hx hZ hown (hw _ (List.mem_of_getElem? (i := 33) rfl)) e0 R_a1.2.1 (hb hby d8_1) (fun T1 X2 e3 => ?_)
  show Till p e below s (Q8_n Z a1 q2 b1 b3 b4 b2 w_used w_size f g u N mm h0 n0) room8_n.cells room8_n.slots (T1.setTop (mkF m 4 #[.val (.ref a1), .val (.long q2), .second, .unset, .unset, .unset] [(.ref b1)]))
  refine Till.pre (fun _ hr => XS.lloadN X2.here hx rfl (hb hby d8_4) rfl hr) ?_
  show Till p e below s (Q8_n Z a1 q2 b1 b3 b4 b2 w_used w_size f g u N mm h0 n0) room8_n.cells room8_n.slots (T1.setTop (mkF m 5 #[.val (.ref a1), .val (.long q2), .second, .unset, .unset, .unset] [(.long q2), (.ref b1)]))
  refine Till.callV (rm9 l Z a0 hw b1 q2 b3 b4 w_size f g N mm h0 n0 R_b1 R_b3 R_b4 (ht) (hN)) R_b1.1 X2 hx hZ hown (hw _ (List.mem_of_getElem? (i := 65) rfl)) (hw _ (List.mem_of_getElem? (i := 66) rfl)) (hw _ (List.mem_of_getElem? (i := 68) rfl)) (hw _ (List.mem_of_getElem? (i := 67) rfl)) (hw _ (List.mem_of_getElem? (i := 13) rfl)) (hw _ (List.mem_of_getElem? (i := 69) rfl)) (by decide) (by decide) (W := 0) (by decide) (by rw [hml]; rfl) (a := b1) (argsL := [(.long q2)]) (rest := []) (lenOf pd8_5 rfl) rfl rfl (Nat.le_of_eq rfl) (hb hby d8_5) e3 (by decide) (by decide) ?_
  rintro _ T4 L5 X6 ⟨rfl, N7, e8⟩
  have N7 := Fr.app N0 N7
  show Till p e below s (Q8_n Z a1 q2 b1 b3 b4 b2 w_used w_size f g u N mm h0 n0) room8_n.cells room8_n.slots (T4.setTop (mkF m 8 #[.val (.ref a1), .val (.long q2), .second, .unset, .unset, .unset] [(.long (mm q2))]))
  refine Till.pre (fun _ hr => XS.lstoreN X6.here hx rfl (hb hby d8_8) rfl (l' := #[.val (.ref a1), .val (.long q2), .second, .val (.long (mm q2)), .second, .unset]) rfl hr) ?_
  show Till p e below s (Q8_n Z a1 q2 b1 b3 b4 b2 w_used w_size f g u N mm h0 n0) room8_n.cells room8_n.slots (T4.setTop (mkF m 9 #[.val (.ref a1), .val (.long q2), .second, .val (.long (mm q2)), .second, .unset] []))
  refine Till.pre (fun _ hr => XS.lloadN X6.here hx rfl (hb hby d8_9) rfl hr) ?_
  show Till p e below s (Q8_n Z a1 q2 b1 b3 b4 b2 w_used w_size f g u N mm h0 n0) room8_n.cells room8_n.slots (T4.setTop (mkF m 10 #[.val (.ref a1), .val (.long q2), .second, .val (.long (mm q2)), .second, .unset] [(.long (mm q2))]))
  refine Till.pre (X6.ldc2Long hx hown (mvT hZ (hw _ (List.mem_of_getElem? (i := 70) rfl))) (g := (mkF m 10 #[.val (.ref a1), .val (.long q2), .second, .val (.long (mm q2)), .second, .unset] [(.long (mm q2))])) rfl (hb hby d8_10)) ?_
  show Till p e below s (Q8_n Z a1 q2 b1 b3 b4 b2 w_used w_size f g u N mm h0 n0) room8_n.cells room8_n.slots (T4.setTop (mkF m 13 #[.val (.ref a1), .val (.long q2), .second, .val (.long (mm q2)), .second, .unset] [(.long (-9223372036854775808 : Int64)), (.long (mm q2))]))
  refine Till.pre (fun _ hr => XS.lcmp X6.here hx rfl (hb hby d8_13) rfl hr) ?_
  show Till p e below s (Q8_n Z a1 q2 b1 b3 b4 b2 w_used w_size f g u N mm h0 n0) room8_n.cells room8_n.slots (T4.setTop (mkF m 14 #[.val (.ref a1), .val (.long q2), .second, .val (.long (mm q2)), .second, .unset] [(.int (lcmpW (mm q2) (-9223372036854775808 : Int64)))]))
  refine Till.ifc (pc' := 19) X6.here hx (hb hby d8_14) (by decide) (by decide) (fun q => absurd (hm : ((mm q2) = (-9223372036854775808 : Int64))) (mt lEq.mpr (hEq.2.2.1 q))) (fun q => ?_)
  show Till p e below s (Q8_n Z a1 q2 b1 b3 b4 b2 w_used w_size f g u N mm h0 n0) room8_n.cells room8_n.slots (T4.setTop (mkF m 17 #[.val (.ref a1), .val (.long q2), .second, .val (.long (mm q2)), .second, .unset] []))
  refine Till.pre (fun _ hr => XS.aconstNull X6.here hx rfl (hb hby d8_17) hr) ?_
  show Till p e below s (Q8_n Z a1 q2 b1 b3 b4 b2 w_used w_size f g u N mm h0 n0) room8_n.cells room8_n.slots (T4.setTop (mkF m 18 #[.val (.ref a1), .val (.long q2), .second, .val (.long (mm q2)), .second, .unset] [.null]))
  refine Till.retA X6 hx hret rfl hlk rfl rfl (hb hby d8_18) (by decide) (by decide) ?_
  exact ⟨rfl, N7, e8⟩
theorem d8_19 : decode prog_16_method_3_code 19 = .ok (.lload_n 3, 1) := by decide +kernel
theorem d8_20 : decode prog_16_method_3_code 20 = .ok (.l2i, 1) := by decide +kernel
theorem d8_21 : decode prog_16_method_3_code 21 = .ok (.iconst 1, 1) := by decide +kernel
theorem d8_22 : decode prog_16_method_3_code 22 = .ok (.iadd, 1) := by decide +kernel
theorem d8_23 : decode prog_16_method_3_code 23 = .ok (.istore 5, 2) := by decide +kernel
theorem d8_25 : decode prog_16_method_3_code 25 = .ok (.aload_n 0, 1) := by decide +kernel
theorem d8_26 : decode prog_16_method_3_code 26 = .ok (.getfield 16, 3) := by decide +kernel
theorem d8_29 : decode prog_16_method_3_code 29 = .ok (.iload 5, 2) := by decide +kernel
theorem d8_31 : decode prog_16_method_3_code 31 = .ok (.iload 5, 2) := by decide +kernel
theorem d8_33 : decode prog_16_method_3_code 33 = .ok (.aload_n 0, 1) := by decide +kernel
theorem d8_34 : decode prog_16_method_3_code 34 = .ok (.getfield 16, 3) := by decide +kernel
theorem d8_37 : decode prog_16_method_3_code 37 = .ok (.lload_n 3, 1) := by decide +kernel
theorem d8_38 : decode prog_16_method_3_code 38 = .ok (.l2i, 1) := by decide +kernel
theorem d8_39 : decode prog_16_method_3_code 39 = .ok (.laload, 1) := by decide +kernel
theorem d8_40 : decode prog_16_method_3_code 40 = .ok (.l2i, 1) := by decide +kernel
theorem d8_41 : decode prog_16_method_3_code 41 = .ok (.iadd, 1) := by decide +kernel
theorem d8_42 : decode prog_16_method_3_code 42 = .ok (.invokestatic 52, 3) := by decide +kernel
theorem d8_45 : decode prog_16_method_3_code 45 = .ok (.areturn, 1) := by decide +kernel
theorem pd8_10 : parseMethodDescriptor "([JII)[J" = some ⟨[(.array .long), .int, .int], some (.array .long)⟩ := by decide +kernel
theorem ef_8_s (m : MethodId) (a1 : Addr) (q2 : Int64) : entryFrame m #[(.ref a1), (.long q2)] 6 = mkF m 0 #[.val (.ref a1), .val (.long q2), .second, .unset, .unset, .unset] [] := by first | (simp [entryFrame, mkF, argsToLocals, Value.category]; done) | rfl
def Q8_s (Z : State) (a1 : Addr) (q2 : Int64) (b1 : Addr) (b3 : Addr) (b4 : Addr) (b2 : Addr) (w_used : Int32) (w_size : Int32) (f : Nat → Int64) (g : Nat → Int64) (u : Nat → Int64) (N : Nat) (mm : Int64 → Int64) (st : Int32) (ct : Int32) (h0 : Heap) (n0 : Nat) : Option Value → Heap → List Loc → Prop := fun v h L => ∃ (b : Addr), v = some (.ref b) ∧ Fr n0 L ∧ Keep h0 h [] ∧ h0.size ≤ b ∧ LA Z h b ct (fun i => u (((st + (1 : Int32))).toNatClampNeg + i))
def room8_s : Room := { frames := 3, cells := 1, slots := 3, locals := 60 }
set_option maxRecDepth 65536 in
set_option maxHeartbeats 40000000 in
theorem rm8_s (l : Launch) (Z : State) (a0 : Array Value) (hw : ∀ d ∈ tables_1, d.before a0 Z = true) (a1 : Addr) (q2 : Int64) (b1 : Addr) (b3 : Addr) (b4 : Addr) (b2 : Addr) (w_used : Int32) (w_size : Int32) (f : Nat → Int64) (g : Nat → Int64) (u : Nat → Int64) (N : Nat) (mm : Int64 → Int64) (st : Int32) (ct : Int32) (h0 : Heap) (n0 : Nat) (Zs : n0 ≤ h0.size) (R_a1 : Way Z h0 a1 (.ref b1) (.ref b2) w_used) (R_b1 : Idt Z h0 b1 (.ref b3) (.ref b4) (54 : Int32) w_size) (R_b3 : LA Z h0 b3 (1024 : Int32) f) (R_b4 : LA Z h0 b4 (1024 : Int32) g) (R_b2 : LA Z h0 b2 (4096 : Int32) u) (ne_a1_b1 : a1 ≠ b1) (ne_a1_b3 : a1 ≠ b3) (ne_a1_b4 : a1 ≠ b4) (ne_a1_b2 : a1 ≠ b2) (ne_b1_b3 : b1 ≠ b3) (ne_b1_b4 : b1 ≠ b4) (ne_b1_b2 : b1 ≠ b2) (ne_b3_b4 : b3 ≠ b4) (ne_b3_b2 : b3 ≠ b2) (ne_b4_b2 : b4 ≠ b2) (ht : own_Tb f g N mm) (hN : N ≤ 3) (hm : mm q2 = st.toInt64) (hs : 0 ≤ st.toInt ∧ st.toInt ≤ 10) (hct : u (st).toNatClampNeg = ct.toInt64) (hc : 0 ≤ ct.toInt ∧ ct.toInt ≤ 3) : Ctr l Z (⟨"com/example/tour/tour/io/WayNodes", "find", "(J)[J"⟩ : MethodName) prog_16_method_3_code 6 (some (.array .long)) room8_s #[(.ref a1), (.long q2)] h0 (Q8_s Z a1 q2 b1 b3 b4 b2 w_used w_size f g u N mm st ct h0 n0) := by
  refine Ctr.of (plainFor_of_name pn_1) ?_
  intro p e s m below meth c s₁ hx hby hml hown hnm hret hlk hZ e0 X0
  have hown : s.vm.findClass "com/example/tour/tour/io/WayNodes" = some m.cls := hown
  have hml : c.maxLocals = 6 := hml
  have hnm : meth.name = "find" := hnm
  have hret : meth.sig.returnType = (some (.array .long)) := hret
  have N0 := Fr.nil n0
  refine Till.cast (ef_8_s m a1 q2) ?_
  have Kp := Keep.refl h0 []
  show Till p e below s (Q8_s Z a1 q2 b1 b3 b4 b2 w_used w_size f g u N mm st ct h0 n0) room8_s.cells room8_s.slots (s₁.setTop (mkF m 0 #[.val (.ref a1), .val (.long q2), .second, .unset, .unset, .unset] []))
  refine Till.pre (fun _ hr => XS.aloadN X0.here hx rfl (hb hby d8_0) rfl rfl hr) ?_
  show Till p e below s (Q8_s Z a1 q2 b1 b3 b4 b2 w_used w_size f g u N mm st ct h0 n0) room8_s.cells room8_s.slots (s₁.setTop (mkF m 1 #[.val (.ref a1), .val (.long q2), .second, .unset, .unset, .unset] [(.ref a1)]))
  refine Till.getF X0 hx hZ hown (hw _ (List.mem_of_getElem? (i := 33) rfl)) e0 R_a1.2.1 (hb hby d8_1) (fun T1 X2 e3 => ?_)
  show Till p e below s (Q8_s Z a1 q2 b1 b3 b4 b2 w_used w_size f g u N mm st ct h0 n0) room8_s.cells room8_s.slots (T1.setTop (mkF m 4 #[.val (.ref a1), .val (.long q2), .second, .unset, .unset, .unset] [(.ref b1)]))
  refine Till.pre (fun _ hr => XS.lloadN X2.here hx rfl (hb hby d8_4) rfl hr) ?_
  show Till p e below s (Q8_s Z a1 q2 b1 b3 b4 b2 w_used w_size f g u N mm st ct h0 n0) room8_s.cells room8_s.slots (T1.setTop (mkF m 5 #[.val (.ref a1), .val (.long q2), .second, .unset, .unset, .unset] [(.long q2), (.ref b1)]))
  refine Till.callV (rm9 l Z a0 hw b1 q2 b3 b4 w_size f g N mm h0 n0 R_b1 R_b3 R_b4 (ht) (hN)) R_b1.1 X2 hx hZ hown (hw _ (List.mem_of_getElem? (i := 65) rfl)) (hw _ (List.mem_of_getElem? (i := 66) rfl)) (hw _ (List.mem_of_getElem? (i := 68) rfl)) (hw _ (List.mem_of_getElem? (i := 67) rfl)) (hw _ (List.mem_of_getElem? (i := 13) rfl)) (hw _ (List.mem_of_getElem? (i := 69) rfl)) (by decide) (by decide) (W := 0) (by decide) (by rw [hml]; rfl) (a := b1) (argsL := [(.long q2)]) (rest := []) (lenOf pd8_5 rfl) rfl rfl (Nat.le_of_eq rfl) (hb hby d8_5) e3 (by decide) (by decide) ?_
  rintro _ T4 L5 X6 ⟨rfl, N7, e8⟩
  have N7 := Fr.app N0 N7
  rw [hm]
  show Till p e below s (Q8_s Z a1 q2 b1 b3 b4 b2 w_used w_size f g u N mm st ct h0 n0) room8_s.cells room8_s.slots (T4.setTop (mkF m 8 #[.val (.ref a1), .val (.long q2), .second, .unset, .unset, .unset] [(.long st.toInt64)]))
  refine Till.pre (fun _ hr => XS.lstoreN X6.here hx rfl (hb hby d8_8) rfl (l' := #[.val (.ref a1), .val (.long q2), .second, .val (.long st.toInt64), .second, .unset]) rfl hr) ?_
  show Till p e below s (Q8_s Z a1 q2 b1 b3 b4 b2 w_used w_size f g u N mm st ct h0 n0) room8_s.cells room8_s.slots (T4.setTop (mkF m 9 #[.val (.ref a1), .val (.long q2), .second, .val (.long st.toInt64), .second, .unset] []))
  refine Till.pre (fun _ hr => XS.lloadN X6.here hx rfl (hb hby d8_9) rfl hr) ?_
  show Till p e below s (Q8_s Z a1 q2 b1 b3 b4 b2 w_used w_size f g u N mm st ct h0 n0) room8_s.cells room8_s.slots (T4.setTop (mkF m 10 #[.val (.ref a1), .val (.long q2), .second, .val (.long st.toInt64), .second, .unset] [(.long st.toInt64)]))
  refine Till.pre (X6.ldc2Long hx hown (mvT hZ (hw _ (List.mem_of_getElem? (i := 70) rfl))) (g := (mkF m 10 #[.val (.ref a1), .val (.long q2), .second, .val (.long st.toInt64), .second, .unset] [(.long st.toInt64)])) rfl (hb hby d8_10)) ?_
  show Till p e below s (Q8_s Z a1 q2 b1 b3 b4 b2 w_used w_size f g u N mm st ct h0 n0) room8_s.cells room8_s.slots (T4.setTop (mkF m 13 #[.val (.ref a1), .val (.long q2), .second, .val (.long st.toInt64), .second, .unset] [(.long (-9223372036854775808 : Int64)), (.long st.toInt64)]))
  refine Till.pre (fun _ hr => XS.lcmp X6.here hx rfl (hb hby d8_13) rfl hr) ?_
  show Till p e below s (Q8_s Z a1 q2 b1 b3 b4 b2 w_used w_size f g u N mm st ct h0 n0) room8_s.cells room8_s.slots (T4.setTop (mkF m 14 #[.val (.ref a1), .val (.long q2), .second, .val (.long st.toInt64), .second, .unset] [(.int (lcmpW st.toInt64 (-9223372036854775808 : Int64)))]))
  refine Till.ifc (pc' := 19) X6.here hx (hb hby d8_14) (by decide) (by decide) (fun q => ?_) (fun q => absurd (lEq.mp (hEq.2.2.2 q)) (own_abs st : ¬ (st.toInt64 = (-9223372036854775808 : Int64))))
  show Till p e below s (Q8_s Z a1 q2 b1 b3 b4 b2 w_used w_size f g u N mm st ct h0 n0) room8_s.cells room8_s.slots (T4.setTop (mkF m 19 #[.val (.ref a1), .val (.long q2), .second, .val (.long st.toInt64), .second, .unset] []))
  refine Till.pre (fun _ hr => XS.lloadN X6.here hx rfl (hb hby d8_19) rfl hr) ?_
  show Till p e below s (Q8_s Z a1 q2 b1 b3 b4 b2 w_used w_size f g u N mm st ct h0 n0) room8_s.cells room8_s.slots (T4.setTop (mkF m 20 #[.val (.ref a1), .val (.long q2), .second, .val (.long st.toInt64), .second, .unset] [(.long st.toInt64)]))
  refine Till.pre (fun _ hr => XS.l2i X6.here hx rfl (hb hby d8_20) rfl hr) ?_
  show Till p e below s (Q8_s Z a1 q2 b1 b3 b4 b2 w_used w_size f g u N mm st ct h0 n0) room8_s.cells room8_s.slots (T4.setTop (mkF m 21 #[.val (.ref a1), .val (.long q2), .second, .val (.long st.toInt64), .second, .unset] [(.int st.toInt64.toInt32)]))
  rw [Int32.toInt32_toInt64]
  show Till p e below s (Q8_s Z a1 q2 b1 b3 b4 b2 w_used w_size f g u N mm st ct h0 n0) room8_s.cells room8_s.slots (T4.setTop (mkF m 21 #[.val (.ref a1), .val (.long q2), .second, .val (.long st.toInt64), .second, .unset] [(.int st)]))
  refine Till.pre (fun _ hr => XS.iconst X6.here hx rfl (hb hby d8_21) hr) ?_
  show Till p e below s (Q8_s Z a1 q2 b1 b3 b4 b2 w_used w_size f g u N mm st ct h0 n0) room8_s.cells room8_s.slots (T4.setTop (mkF m 22 #[.val (.ref a1), .val (.long q2), .second, .val (.long st.toInt64), .second, .unset] [(.int (1 : Int32)), (.int st)]))
  refine Till.pre (fun _ hr => XS.iadd X6.here hx rfl (hb hby d8_22) rfl hr) ?_
  show Till p e below s (Q8_s Z a1 q2 b1 b3 b4 b2 w_used w_size f g u N mm st ct h0 n0) room8_s.cells room8_s.slots (T4.setTop (mkF m 23 #[.val (.ref a1), .val (.long q2), .second, .val (.long st.toInt64), .second, .unset] [(.int (st + (1 : Int32)))]))
  refine Till.pre (fun _ hr => XS.istore X6.here hx rfl (hb hby d8_23) rfl (l' := #[.val (.ref a1), .val (.long q2), .second, .val (.long st.toInt64), .second, .val (.int (st + (1 : Int32)))]) rfl hr) ?_
  show Till p e below s (Q8_s Z a1 q2 b1 b3 b4 b2 w_used w_size f g u N mm st ct h0 n0) room8_s.cells room8_s.slots (T4.setTop (mkF m 25 #[.val (.ref a1), .val (.long q2), .second, .val (.long st.toInt64), .second, .val (.int (st + (1 : Int32)))] []))
  refine Till.pre (fun _ hr => XS.aloadN X6.here hx rfl (hb hby d8_25) rfl rfl hr) ?_
  show Till p e below s (Q8_s Z a1 q2 b1 b3 b4 b2 w_used w_size f g u N mm st ct h0 n0) room8_s.cells room8_s.slots (T4.setTop (mkF m 26 #[.val (.ref a1), .val (.long q2), .second, .val (.long st.toInt64), .second, .val (.int (st + (1 : Int32)))] [(.ref a1)]))
  refine Till.getF X6 hx hZ hown (hw _ (List.mem_of_getElem? (i := 35) rfl)) e8 R_a1.2.2.1 (hb hby d8_26) (fun T9 X10 e11 => ?_)
  show Till p e below s (Q8_s Z a1 q2 b1 b3 b4 b2 w_used w_size f g u N mm st ct h0 n0) room8_s.cells room8_s.slots (T9.setTop (mkF m 29 #[.val (.ref a1), .val (.long q2), .second, .val (.long st.toInt64), .second, .val (.int (st + (1 : Int32)))] [(.ref b2)]))
  refine Till.pre (fun _ hr => XS.iload X10.here hx rfl (hb hby d8_29) rfl hr) ?_
  show Till p e below s (Q8_s Z a1 q2 b1 b3 b4 b2 w_used w_size f g u N mm st ct h0 n0) room8_s.cells room8_s.slots (T9.setTop (mkF m 31 #[.val (.ref a1), .val (.long q2), .second, .val (.long st.toInt64), .second, .val (.int (st + (1 : Int32)))] [(.int (st + (1 : Int32))), (.ref b2)]))
  refine Till.pre (fun _ hr => XS.iload X10.here hx rfl (hb hby d8_31) rfl hr) ?_
  show Till p e below s (Q8_s Z a1 q2 b1 b3 b4 b2 w_used w_size f g u N mm st ct h0 n0) room8_s.cells room8_s.slots (T9.setTop (mkF m 33 #[.val (.ref a1), .val (.long q2), .second, .val (.long st.toInt64), .second, .val (.int (st + (1 : Int32)))] [(.int (st + (1 : Int32))), (.int (st + (1 : Int32))), (.ref b2)]))
  refine Till.pre (fun _ hr => XS.aloadN X10.here hx rfl (hb hby d8_33) rfl rfl hr) ?_
  show Till p e below s (Q8_s Z a1 q2 b1 b3 b4 b2 w_used w_size f g u N mm st ct h0 n0) room8_s.cells room8_s.slots (T9.setTop (mkF m 34 #[.val (.ref a1), .val (.long q2), .second, .val (.long st.toInt64), .second, .val (.int (st + (1 : Int32)))] [(.ref a1), (.int (st + (1 : Int32))), (.int (st + (1 : Int32))), (.ref b2)]))
  refine Till.getF X10 hx hZ hown (hw _ (List.mem_of_getElem? (i := 35) rfl)) e11 R_a1.2.2.1 (hb hby d8_34) (fun T12 X13 e14 => ?_)
  show Till p e below s (Q8_s Z a1 q2 b1 b3 b4 b2 w_used w_size f g u N mm st ct h0 n0) room8_s.cells room8_s.slots (T12.setTop (mkF m 37 #[.val (.ref a1), .val (.long q2), .second, .val (.long st.toInt64), .second, .val (.int (st + (1 : Int32)))] [(.ref b2), (.int (st + (1 : Int32))), (.int (st + (1 : Int32))), (.ref b2)]))
  refine Till.pre (fun _ hr => XS.lloadN X13.here hx rfl (hb hby d8_37) rfl hr) ?_
  show Till p e below s (Q8_s Z a1 q2 b1 b3 b4 b2 w_used w_size f g u N mm st ct h0 n0) room8_s.cells room8_s.slots (T12.setTop (mkF m 38 #[.val (.ref a1), .val (.long q2), .second, .val (.long st.toInt64), .second, .val (.int (st + (1 : Int32)))] [(.long st.toInt64), (.ref b2), (.int (st + (1 : Int32))), (.int (st + (1 : Int32))), (.ref b2)]))
  refine Till.pre (fun _ hr => XS.l2i X13.here hx rfl (hb hby d8_38) rfl hr) ?_
  show Till p e below s (Q8_s Z a1 q2 b1 b3 b4 b2 w_used w_size f g u N mm st ct h0 n0) room8_s.cells room8_s.slots (T12.setTop (mkF m 39 #[.val (.ref a1), .val (.long q2), .second, .val (.long st.toInt64), .second, .val (.int (st + (1 : Int32)))] [(.int st.toInt64.toInt32), (.ref b2), (.int (st + (1 : Int32))), (.int (st + (1 : Int32))), (.ref b2)]))
  rw [Int32.toInt32_toInt64]
  show Till p e below s (Q8_s Z a1 q2 b1 b3 b4 b2 w_used w_size f g u N mm st ct h0 n0) room8_s.cells room8_s.slots (T12.setTop (mkF m 39 #[.val (.ref a1), .val (.long q2), .second, .val (.long st.toInt64), .second, .val (.int (st + (1 : Int32)))] [(.int st), (.ref b2), (.int (st + (1 : Int32))), (.int (st + (1 : Int32))), (.ref b2)]))
  refine Till.laload R_b2 (own_neg hs.1) (own_lt4 hs) X13 hx hZ e14 (hb hby d8_39) ?_
  show Till p e below s (Q8_s Z a1 q2 b1 b3 b4 b2 w_used w_size f g u N mm st ct h0 n0) room8_s.cells room8_s.slots (T12.setTop (mkF m 40 #[.val (.ref a1), .val (.long q2), .second, .val (.long st.toInt64), .second, .val (.int (st + (1 : Int32)))] [(.long (u (st).toNatClampNeg)), (.int (st + (1 : Int32))), (.int (st + (1 : Int32))), (.ref b2)]))
  rw [hct]
  show Till p e below s (Q8_s Z a1 q2 b1 b3 b4 b2 w_used w_size f g u N mm st ct h0 n0) room8_s.cells room8_s.slots (T12.setTop (mkF m 40 #[.val (.ref a1), .val (.long q2), .second, .val (.long st.toInt64), .second, .val (.int (st + (1 : Int32)))] [(.long ct.toInt64), (.int (st + (1 : Int32))), (.int (st + (1 : Int32))), (.ref b2)]))
  refine Till.pre (fun _ hr => XS.l2i X13.here hx rfl (hb hby d8_40) rfl hr) ?_
  show Till p e below s (Q8_s Z a1 q2 b1 b3 b4 b2 w_used w_size f g u N mm st ct h0 n0) room8_s.cells room8_s.slots (T12.setTop (mkF m 41 #[.val (.ref a1), .val (.long q2), .second, .val (.long st.toInt64), .second, .val (.int (st + (1 : Int32)))] [(.int ct.toInt64.toInt32), (.int (st + (1 : Int32))), (.int (st + (1 : Int32))), (.ref b2)]))
  rw [Int32.toInt32_toInt64]
  show Till p e below s (Q8_s Z a1 q2 b1 b3 b4 b2 w_used w_size f g u N mm st ct h0 n0) room8_s.cells room8_s.slots (T12.setTop (mkF m 41 #[.val (.ref a1), .val (.long q2), .second, .val (.long st.toInt64), .second, .val (.int (st + (1 : Int32)))] [(.int ct), (.int (st + (1 : Int32))), (.int (st + (1 : Int32))), (.ref b2)]))
  refine Till.pre (fun _ hr => XS.iadd X13.here hx rfl (hb hby d8_41) rfl hr) ?_
  show Till p e below s (Q8_s Z a1 q2 b1 b3 b4 b2 w_used w_size f g u N mm st ct h0 n0) room8_s.cells room8_s.slots (T12.setTop (mkF m 42 #[.val (.ref a1), .val (.long q2), .second, .val (.long st.toInt64), .second, .val (.int (st + (1 : Int32)))] [(.int ((st + (1 : Int32)) + ct)), (.int (st + (1 : Int32))), (.ref b2)]))
  refine Till.callS (rm10 l Z a0 hw b2 (st + (1 : Int32)) ((st + (1 : Int32)) + ct) (4096 : Int32) u h0 n0 Zs R_b2 (own_fb hs hc)) X13 hx hZ hown (hw _ (List.mem_of_getElem? (i := 71) rfl)) (hw _ (List.mem_of_getElem? (i := 72) rfl)) (hw _ (List.mem_of_getElem? (i := 29) rfl)) (hw _ (List.mem_of_getElem? (i := 73) rfl)) (by decide) (by decide) (W := 0) (by decide) (by rw [hml]; rfl) (argsL := [(.ref b2), (.int (st + (1 : Int32))), (.int ((st + (1 : Int32)) + ct))]) (rest := []) (lenOf pd8_10 rfl) rfl rfl (Nat.le_of_eq rfl) (hb hby d8_42) e14 (by decide) (by decide) ?_
  rintro _ T15 L16 X17 ⟨b21, rfl, N18, K19, szq_b21, q20⟩
  have N18 := Fr.app N7 N18
  have ne_a1_b21 : a1 ≠ b21 := Nat.ne_of_lt (Nat.lt_of_lt_of_le R_a1.lt szq_b21)
  have ne_b1_b21 : b1 ≠ b21 := Nat.ne_of_lt (Nat.lt_of_lt_of_le R_b1.lt szq_b21)
  have ne_b3_b21 : b3 ≠ b21 := Nat.ne_of_lt (Nat.lt_of_lt_of_le R_b3.lt szq_b21)
  have ne_b4_b21 : b4 ≠ b21 := Nat.ne_of_lt (Nat.lt_of_lt_of_le R_b4.lt szq_b21)
  have ne_b2_b21 : b2 ≠ b21 := Nat.ne_of_lt (Nat.lt_of_lt_of_le R_b2.lt szq_b21)
  have g_b21 : n0 ≤ b21 := Nat.le_trans Zs szq_b21
  have sz_b21 : h0.size ≤ b21 := Nat.le_trans Kp.1 szq_b21
  have R_a1 := R_a1.keep K19 nin0
  have R_b1 := R_b1.keep K19 nin0
  have R_b3 := R_b3.keep K19 nin0
  have R_b4 := R_b4.keep K19 nin0
  have R_b2 := R_b2.keep K19 nin0
  have Zs := Nat.le_trans Zs K19.1
  have Kp := Kp.trans K19 all0
  have R_b21 : LA Z T15.heap b21 (((st + (1 : Int32)) + ct) - (st + (1 : Int32))) (fun i => u (((st + (1 : Int32))).toNatClampNeg + i)) := q20
  show Till p e below s (Q8_s Z a1 q2 b1 b3 b4 b2 w_used w_size f g u N mm st ct h0 n0) room8_s.cells room8_s.slots (T15.setTop (mkF m 45 #[.val (.ref a1), .val (.long q2), .second, .val (.long st.toInt64), .second, .val (.int (st + (1 : Int32)))] [(.ref b21)]))
  refine Till.retA X17 hx hret rfl hlk rfl rfl (hb hby d8_45) (by decide) (by decide) ?_
  rw [own_dif] at R_b21
  show (Q8_s Z a1 q2 b1 b3 b4 b2 w_used w_size f g u N mm st ct h0 n0) _ T15.heap _
  exact ⟨b21, rfl, N18, Kp, sz_b21, R_b21⟩
theorem d5_0 : decode prog_16_method_2_code 0 = .ok (.aload_n 0, 1) := by decide +kernel
theorem d5_1 : decode prog_16_method_2_code 1 = .ok (.getfield 20, 3) := by decide +kernel
theorem d5_4 : decode prog_16_method_2_code 4 = .ok (.iconst 1, 1) := by decide +kernel
theorem d5_5 : decode prog_16_method_2_code 5 = .ok (.iadd, 1) := by decide +kernel
theorem d5_6 : decode prog_16_method_2_code 6 = .ok (.iload 4, 2) := by decide +kernel
theorem d5_8 : decode prog_16_method_2_code 8 = .ok (.iadd, 1) := by decide +kernel
theorem d5_9 : decode prog_16_method_2_code 9 = .ok (.aload_n 0, 1) := by decide +kernel
theorem d5_10 : decode prog_16_method_2_code 10 = .ok (.getfield 16, 3) := by decide +kernel
theorem d5_13 : decode prog_16_method_2_code 13 = .ok (.arraylength, 1) := by decide +kernel
theorem d5_14 : decode prog_16_method_2_code 14 = .ok (.if_icmp .le 33, 3) := by decide +kernel
theorem d5_47 : decode prog_16_method_2_code 47 = .ok (.aload_n 0, 1) := by decide +kernel
theorem d5_48 : decode prog_16_method_2_code 48 = .ok (.getfield 10, 3) := by decide +kernel
theorem d5_51 : decode prog_16_method_2_code 51 = .ok (.lload_n 1, 1) := by decide +kernel
theorem d5_52 : decode prog_16_method_2_code 52 = .ok (.aload_n 0, 1) := by decide +kernel
theorem d5_53 : decode prog_16_method_2_code 53 = .ok (.getfield 20, 3) := by decide +kernel
theorem d5_56 : decode prog_16_method_2_code 56 = .ok (.i2l, 1) := by decide +kernel
theorem d5_57 : decode prog_16_method_2_code 57 = .ok (.invokevirtual 36, 3) := by decide +kernel
theorem d5_60 : decode prog_16_method_2_code 60 = .ok (.aload_n 0, 1) := by decide +kernel
theorem d5_61 : decode prog_16_method_2_code 61 = .ok (.getfield 16, 3) := by decide +kernel
theorem d5_64 : decode prog_16_method_2_code 64 = .ok (.aload_n 0, 1) := by decide +kernel
theorem d5_65 : decode prog_16_method_2_code 65 = .ok (.getfield 20, 3) := by decide +kernel
theorem d5_68 : decode prog_16_method_2_code 68 = .ok (.iload 4, 2) := by decide +kernel
theorem d5_70 : decode prog_16_method_2_code 70 = .ok (.i2l, 1) := by decide +kernel
theorem d5_71 : decode prog_16_method_2_code 71 = .ok (.lastore, 1) := by decide +kernel
theorem d5_72 : decode prog_16_method_2_code 72 = .ok (.aload_n 3, 1) := by decide +kernel
theorem d5_73 : decode prog_16_method_2_code 73 = .ok (.iconst 0, 1) := by decide +kernel
theorem d5_74 : decode prog_16_method_2_code 74 = .ok (.aload_n 0, 1) := by decide +kernel
theorem d5_75 : decode prog_16_method_2_code 75 = .ok (.getfield 16, 3) := by decide +kernel
theorem d5_78 : decode prog_16_method_2_code 78 = .ok (.aload_n 0, 1) := by decide +kernel
theorem d5_79 : decode prog_16_method_2_code 79 = .ok (.getfield 20, 3) := by decide +kernel
theorem d5_82 : decode prog_16_method_2_code 82 = .ok (.iconst 1, 1) := by decide +kernel
theorem d5_83 : decode prog_16_method_2_code 83 = .ok (.iadd, 1) := by decide +kernel
theorem d5_84 : decode prog_16_method_2_code 84 = .ok (.iload 4, 2) := by decide +kernel
theorem d5_86 : decode prog_16_method_2_code 86 = .ok (.invokestatic 40, 3) := by decide +kernel
theorem d5_89 : decode prog_16_method_2_code 89 = .ok (.aload_n 0, 1) := by decide +kernel
theorem d5_90 : decode prog_16_method_2_code 90 = .ok (.dup, 1) := by decide +kernel
theorem d5_91 : decode prog_16_method_2_code 91 = .ok (.getfield 20, 3) := by decide +kernel
theorem d5_94 : decode prog_16_method_2_code 94 = .ok (.iconst 1, 1) := by decide +kernel
theorem d5_95 : decode prog_16_method_2_code 95 = .ok (.iload 4, 2) := by decide +kernel
theorem d5_97 : decode prog_16_method_2_code 97 = .ok (.iadd, 1) := by decide +kernel
theorem d5_98 : decode prog_16_method_2_code 98 = .ok (.iadd, 1) := by decide +kernel
theorem d5_99 : decode prog_16_method_2_code 99 = .ok (.putfield 20, 3) := by decide +kernel
theorem d5_102 : decode prog_16_method_2_code 102 = .ok (.return_, 1) := by decide +kernel
theorem pd5_7 : parseMethodDescriptor "(JJ)V" = some ⟨[.long, .long], none⟩ := by decide +kernel
theorem ef_5 (m : MethodId) (a1 : Addr) (q2 : Int64) (a3 : Addr) (p4 : Int32) : entryFrame m #[(.ref a1), (.long q2), (.ref a3), (.int p4)] 5 = mkF m 0 #[.val (.ref a1), .val (.long q2), .second, .val (.ref a3), .val (.int p4)] [] := by first | (simp [entryFrame, mkF, argsToLocals, Value.category]; done) | rfl
def Q5 (Z : State) (a1 : Addr) (q2 : Int64) (a3 : Addr) (p4 : Int32) (b1 : Addr) (b3 : Addr) (b4 : Addr) (b2 : Addr) (w_used : Int32) (w_size : Int32) (f : Nat → Int64) (g : Nat → Int64) (u : Nat → Int64) (nf : Nat → Int64) (N : Nat) (mm : Int64 → Int64) (h0 : Heap) (n0 : Nat) : Option Value → Heap → List Loc → Prop := fun v h L => ∃ (f' g' : Nat → Int64) (w' : Int32), v = none ∧ Fr n0 L ∧ Keep h0 h [a1, b1, b2, b3, b4] ∧ Way Z h a1 (.ref b1) (.ref b2) (w_used + ((1 : Int32) + p4)) ∧ Idt Z h b1 (.ref b3) (.ref b4) (54 : Int32) w' ∧ LA Z h b3 (1024 : Int32) f' ∧ LA Z h b4 (1024 : Int32) g' ∧ LA Z h b2 (4096 : Int32) (cpy nf (oupd u (w_used).toNatClampNeg p4.toInt64) 0 ((w_used + (1 : Int32))).toNatClampNeg (p4).toNatClampNeg) ∧ own_Tb f' g' (N + 1) (own_um mm q2 w_used.toInt64) ∧ (0 ≤ w'.toInt ∧ w'.toInt ≤ ((N + 1 : Nat) : Int))
def room5 : Room := { frames := 2, cells := 0, slots := 0, locals := 33 }
set_option maxRecDepth 65536 in
set_option maxHeartbeats 40000000 in
theorem rm5 (l : Launch) (Z : State) (a0 : Array Value) (hw : ∀ d ∈ tables_1, d.before a0 Z = true) (a1 : Addr) (q2 : Int64) (a3 : Addr) (p4 : Int32) (b1 : Addr) (b3 : Addr) (b4 : Addr) (b2 : Addr) (w_used : Int32) (w_size : Int32) (f : Nat → Int64) (g : Nat → Int64) (u : Nat → Int64) (nf : Nat → Int64) (N : Nat) (mm : Int64 → Int64) (h0 : Heap) (n0 : Nat) (Zs : n0 ≤ h0.size) (R_a1 : Way Z h0 a1 (.ref b1) (.ref b2) w_used) (R_b1 : Idt Z h0 b1 (.ref b3) (.ref b4) (54 : Int32) w_size) (R_b3 : LA Z h0 b3 (1024 : Int32) f) (R_b4 : LA Z h0 b4 (1024 : Int32) g) (R_b2 : LA Z h0 b2 (4096 : Int32) u) (R_a3 : LA Z h0 a3 (3 : Int32) nf) (g_a1 : n0 ≤ a1) (g_b1 : n0 ≤ b1) (g_b2 : n0 ≤ b2) (g_b3 : n0 ≤ b3) (g_b4 : n0 ≤ b4) (ne_a1_b1 : a1 ≠ b1) (ne_a1_b3 : a1 ≠ b3) (ne_a1_b4 : a1 ≠ b4) (ne_a1_b2 : a1 ≠ b2) (ne_a1_a3 : a1 ≠ a3) (ne_b1_b3 : b1 ≠ b3) (ne_b1_b4 : b1 ≠ b4) (ne_b1_b2 : b1 ≠ b2) (ne_b1_a3 : b1 ≠ a3) (ne_b3_b4 : b3 ≠ b4) (ne_b3_b2 : b3 ≠ b2) (ne_b3_a3 : b3 ≠ a3) (ne_b4_b2 : b4 ≠ b2) (ne_b4_a3 : b4 ≠ a3) (ne_b2_a3 : b2 ≠ a3) (ht : own_Tb f g N mm) (hN : N ≤ 2) (hsz : 0 ≤ w_size.toInt ∧ w_size.toInt ≤ (N : Int)) (hu : 0 ≤ w_used.toInt ∧ w_used.toInt ≤ 8) (hc : 0 ≤ p4.toInt ∧ p4.toInt ≤ 3) : Ctr l Z (⟨"com/example/tour/tour/io/WayNodes", "put", "(J[JI)V"⟩ : MethodName) prog_16_method_2_code 5 none room5 #[(.ref a1), (.long q2), (.ref a3), (.int p4)] h0 (Q5 Z a1 q2 a3 p4 b1 b3 b4 b2 w_used w_size f g u nf N mm h0 n0) := by
  refine Ctr.of (plainFor_of_name pn_1) ?_
  intro p e s m below meth c s₁ hx hby hml hown hnm hret hlk hZ e0 X0
  have hown : s.vm.findClass "com/example/tour/tour/io/WayNodes" = some m.cls := hown
  have hml : c.maxLocals = 5 := hml
  have hnm : meth.name = "put" := hnm
  have hret : meth.sig.returnType = none := hret
  have N0 := Fr.nil n0
  refine Till.cast (ef_5 m a1 q2 a3 p4) ?_
  have Kp := Keep.refl h0 [a1, b1, b2, b3, b4]
  show Till p e below s (Q5 Z a1 q2 a3 p4 b1 b3 b4 b2 w_used w_size f g u nf N mm h0 n0) room5.cells room5.slots (s₁.setTop (mkF m 0 #[.val (.ref a1), .val (.long q2), .second, .val (.ref a3), .val (.int p4)] []))
  refine Till.pre (fun _ hr => XS.aloadN X0.here hx rfl (hb hby d5_0) rfl rfl hr) ?_
  show Till p e below s (Q5 Z a1 q2 a3 p4 b1 b3 b4 b2 w_used w_size f g u nf N mm h0 n0) room5.cells room5.slots (s₁.setTop (mkF m 1 #[.val (.ref a1), .val (.long q2), .second, .val (.ref a3), .val (.int p4)] [(.ref a1)]))
  refine Till.getF X0 hx hZ hown (hw _ (List.mem_of_getElem? (i := 42) rfl)) e0 R_a1.2.2.2 (hb hby d5_1) (fun T1 X2 e3 => ?_)
  show Till p e below s (Q5 Z a1 q2 a3 p4 b1 b3 b4 b2 w_used w_size f g u nf N mm h0 n0) room5.cells room5.slots (T1.setTop (mkF m 4 #[.val (.ref a1), .val (.long q2), .second, .val (.ref a3), .val (.int p4)] [(.int w_used)]))
  refine Till.pre (fun _ hr => XS.iconst X2.here hx rfl (hb hby d5_4) hr) ?_
  show Till p e below s (Q5 Z a1 q2 a3 p4 b1 b3 b4 b2 w_used w_size f g u nf N mm h0 n0) room5.cells room5.slots (T1.setTop (mkF m 5 #[.val (.ref a1), .val (.long q2), .second, .val (.ref a3), .val (.int p4)] [(.int (1 : Int32)), (.int w_used)]))
  refine Till.pre (fun _ hr => XS.iadd X2.here hx rfl (hb hby d5_5) rfl hr) ?_
  show Till p e below s (Q5 Z a1 q2 a3 p4 b1 b3 b4 b2 w_used w_size f g u nf N mm h0 n0) room5.cells room5.slots (T1.setTop (mkF m 6 #[.val (.ref a1), .val (.long q2), .second, .val (.ref a3), .val (.int p4)] [(.int (w_used + (1 : Int32)))]))
  refine Till.pre (fun _ hr => XS.iload X2.here hx rfl (hb hby d5_6) rfl hr) ?_
  show Till p e below s (Q5 Z a1 q2 a3 p4 b1 b3 b4 b2 w_used w_size f g u nf N mm h0 n0) room5.cells room5.slots (T1.setTop (mkF m 8 #[.val (.ref a1), .val (.long q2), .second, .val (.ref a3), .val (.int p4)] [(.int p4), (.int (w_used + (1 : Int32)))]))
  refine Till.pre (fun _ hr => XS.iadd X2.here hx rfl (hb hby d5_8) rfl hr) ?_
  show Till p e below s (Q5 Z a1 q2 a3 p4 b1 b3 b4 b2 w_used w_size f g u nf N mm h0 n0) room5.cells room5.slots (T1.setTop (mkF m 9 #[.val (.ref a1), .val (.long q2), .second, .val (.ref a3), .val (.int p4)] [(.int ((w_used + (1 : Int32)) + p4))]))
  refine Till.pre (fun _ hr => XS.aloadN X2.here hx rfl (hb hby d5_9) rfl rfl hr) ?_
  show Till p e below s (Q5 Z a1 q2 a3 p4 b1 b3 b4 b2 w_used w_size f g u nf N mm h0 n0) room5.cells room5.slots (T1.setTop (mkF m 10 #[.val (.ref a1), .val (.long q2), .second, .val (.ref a3), .val (.int p4)] [(.ref a1), (.int ((w_used + (1 : Int32)) + p4))]))
  refine Till.getF X2 hx hZ hown (hw _ (List.mem_of_getElem? (i := 35) rfl)) e3 R_a1.2.2.1 (hb hby d5_10) (fun T4 X5 e6 => ?_)
  show Till p e below s (Q5 Z a1 q2 a3 p4 b1 b3 b4 b2 w_used w_size f g u nf N mm h0 n0) room5.cells room5.slots (T4.setTop (mkF m 13 #[.val (.ref a1), .val (.long q2), .second, .val (.ref a3), .val (.int p4)] [(.ref b2), (.int ((w_used + (1 : Int32)) + p4))]))
  refine Till.alen R_b2 X5 hx hZ e6 (hb hby d5_13) ?_
  show Till p e below s (Q5 Z a1 q2 a3 p4 b1 b3 b4 b2 w_used w_size f g u nf N mm h0 n0) room5.cells room5.slots (T4.setTop (mkF m 14 #[.val (.ref a1), .val (.long q2), .second, .val (.ref a3), .val (.int p4)] [(.int (4096 : Int32)), (.int ((w_used + (1 : Int32)) + p4))]))
  refine Till.icmp (pc' := 47) X5.here hx (hb hby d5_14) (by decide) (by decide) (fun q => ?_) (fun q => absurd (hLt.2.2.2.2.2.2.2 q) (own_pc hu hc : ¬ ((4096 : Int32) < ((w_used + (1 : Int32)) + p4))))
  show Till p e below s (Q5 Z a1 q2 a3 p4 b1 b3 b4 b2 w_used w_size f g u nf N mm h0 n0) room5.cells room5.slots (T4.setTop (mkF m 47 #[.val (.ref a1), .val (.long q2), .second, .val (.ref a3), .val (.int p4)] []))
  refine Till.pre (fun _ hr => XS.aloadN X5.here hx rfl (hb hby d5_47) rfl rfl hr) ?_
  show Till p e below s (Q5 Z a1 q2 a3 p4 b1 b3 b4 b2 w_used w_size f g u nf N mm h0 n0) room5.cells room5.slots (T4.setTop (mkF m 48 #[.val (.ref a1), .val (.long q2), .second, .val (.ref a3), .val (.int p4)] [(.ref a1)]))
  refine Till.getF X5 hx hZ hown (hw _ (List.mem_of_getElem? (i := 33) rfl)) e6 R_a1.2.1 (hb hby d5_48) (fun T7 X8 e9 => ?_)
  show Till p e below s (Q5 Z a1 q2 a3 p4 b1 b3 b4 b2 w_used w_size f g u nf N mm h0 n0) room5.cells room5.slots (T7.setTop (mkF m 51 #[.val (.ref a1), .val (.long q2), .second, .val (.ref a3), .val (.int p4)] [(.ref b1)]))
  refine Till.pre (fun _ hr => XS.lloadN X8.here hx rfl (hb hby d5_51) rfl hr) ?_
  show Till p e below s (Q5 Z a1 q2 a3 p4 b1 b3 b4 b2 w_used w_size f g u nf N mm h0 n0) room5.cells room5.slots (T7.setTop (mkF m 52 #[.val (.ref a1), .val (.long q2), .second, .val (.ref a3), .val (.int p4)] [(.long q2), (.ref b1)]))
  refine Till.pre (fun _ hr => XS.aloadN X8.here hx rfl (hb hby d5_52) rfl rfl hr) ?_
  show Till p e below s (Q5 Z a1 q2 a3 p4 b1 b3 b4 b2 w_used w_size f g u nf N mm h0 n0) room5.cells room5.slots (T7.setTop (mkF m 53 #[.val (.ref a1), .val (.long q2), .second, .val (.ref a3), .val (.int p4)] [(.ref a1), (.long q2), (.ref b1)]))
  refine Till.getF X8 hx hZ hown (hw _ (List.mem_of_getElem? (i := 42) rfl)) e9 R_a1.2.2.2 (hb hby d5_53) (fun T10 X11 e12 => ?_)
  show Till p e below s (Q5 Z a1 q2 a3 p4 b1 b3 b4 b2 w_used w_size f g u nf N mm h0 n0) room5.cells room5.slots (T10.setTop (mkF m 56 #[.val (.ref a1), .val (.long q2), .second, .val (.ref a3), .val (.int p4)] [(.int w_used), (.long q2), (.ref b1)]))
  refine Till.pre (fun _ hr => XS.i2l X11.here hx rfl (hb hby d5_56) rfl hr) ?_
  show Till p e below s (Q5 Z a1 q2 a3 p4 b1 b3 b4 b2 w_used w_size f g u nf N mm h0 n0) room5.cells room5.slots (T10.setTop (mkF m 57 #[.val (.ref a1), .val (.long q2), .second, .val (.ref a3), .val (.int p4)] [(.long w_used.toInt64), (.long q2), (.ref b1)]))
  refine Till.callV (rm6 l Z a0 hw b1 q2 w_used.toInt64 b3 b4 w_size f g N mm h0 n0 Zs R_b1 R_b3 R_b4 g_b1 g_b3 g_b4 ne_b1_b3 ne_b1_b4 ne_b3_b4 (ht) (hN) (hsz) (own_abs w_used)) R_b1.1 X11 hx hZ hown (hw _ (List.mem_of_getElem? (i := 44) rfl)) (hw _ (List.mem_of_getElem? (i := 45) rfl)) (hw _ (List.mem_of_getElem? (i := 47) rfl)) (hw _ (List.mem_of_getElem? (i := 46) rfl)) (hw _ (List.mem_of_getElem? (i := 13) rfl)) (hw _ (List.mem_of_getElem? (i := 48) rfl)) (by decide) (by decide) (W := 0) (by decide) (by rw [hml]; rfl) (a := b1) (argsL := [(.long q2), (.long w_used.toInt64)]) (rest := []) (lenOf pd5_7 rfl) rfl rfl (Nat.le_of_eq rfl) (hb hby d5_57) e12 (by decide) (by decide) ?_
  rintro _ T13 L14 X15 ⟨f17, g18, w19, rfl, N16, K22, q23, q24, q25, tb20, sz21⟩
  have N16 := Fr.app N0 N16
  have R_a1 := R_a1.keep K22 (ninS ne_a1_b1 (ninS ne_a1_b3 (ninS ne_a1_b4 nin0)))
  have R_b2 := R_b2.keep K22 (ninS (Ne.symm ne_b1_b2) (ninS (Ne.symm ne_b3_b2) (ninS (Ne.symm ne_b4_b2) nin0)))
  have R_a3 := R_a3.keep K22 (ninS (Ne.symm ne_b1_a3) (ninS (Ne.symm ne_b3_a3) (ninS (Ne.symm ne_b4_a3) nin0)))
  have Zs := Nat.le_trans Zs K22.1
  have Kp := Kp.trans K22 (allS (Or.inl (List.mem_of_getElem? (i := 1) rfl)) (allS (Or.inl (List.mem_of_getElem? (i := 3) rfl)) (allS (Or.inl (List.mem_of_getElem? (i := 4) rfl)) all0)))
  have R_b1 : Idt Z T13.heap b1 (.ref b3) (.ref b4) (54 : Int32) w19 := q23
  have R_b3 : LA Z T13.heap b3 (1024 : Int32) f17 := q24
  have R_b4 : LA Z T13.heap b4 (1024 : Int32) g18 := q25
  have tb20 : own_Tb f17 g18 (N + 1) (own_um mm q2 w_used.toInt64) := tb20
  show Till p e below s (Q5 Z a1 q2 a3 p4 b1 b3 b4 b2 w_used w_size f g u nf N mm h0 n0) room5.cells room5.slots (T13.setTop (mkF m 60 #[.val (.ref a1), .val (.long q2), .second, .val (.ref a3), .val (.int p4)] []))
  refine Till.pre (fun _ hr => XS.aloadN X15.here hx rfl (hb hby d5_60) rfl rfl hr) ?_
  show Till p e below s (Q5 Z a1 q2 a3 p4 b1 b3 b4 b2 w_used w_size f g u nf N mm h0 n0) room5.cells room5.slots (T13.setTop (mkF m 61 #[.val (.ref a1), .val (.long q2), .second, .val (.ref a3), .val (.int p4)] [(.ref a1)]))
  refine Till.getF X15 hx hZ hown (hw _ (List.mem_of_getElem? (i := 35) rfl)) rfl R_a1.2.2.1 (hb hby d5_61) (fun T26 X27 e28 => ?_)
  show Till p e below s (Q5 Z a1 q2 a3 p4 b1 b3 b4 b2 w_used w_size f g u nf N mm h0 n0) room5.cells room5.slots (T26.setTop (mkF m 64 #[.val (.ref a1), .val (.long q2), .second, .val (.ref a3), .val (.int p4)] [(.ref b2)]))
  refine Till.pre (fun _ hr => XS.aloadN X27.here hx rfl (hb hby d5_64) rfl rfl hr) ?_
  show Till p e below s (Q5 Z a1 q2 a3 p4 b1 b3 b4 b2 w_used w_size f g u nf N mm h0 n0) room5.cells room5.slots (T26.setTop (mkF m 65 #[.val (.ref a1), .val (.long q2), .second, .val (.ref a3), .val (.int p4)] [(.ref a1), (.ref b2)]))
  refine Till.getF X27 hx hZ hown (hw _ (List.mem_of_getElem? (i := 42) rfl)) e28 R_a1.2.2.2 (hb hby d5_65) (fun T29 X30 e31 => ?_)
  show Till p e below s (Q5 Z a1 q2 a3 p4 b1 b3 b4 b2 w_used w_size f g u nf N mm h0 n0) room5.cells room5.slots (T29.setTop (mkF m 68 #[.val (.ref a1), .val (.long q2), .second, .val (.ref a3), .val (.int p4)] [(.int w_used), (.ref b2)]))
  refine Till.pre (fun _ hr => XS.iload X30.here hx rfl (hb hby d5_68) rfl hr) ?_
  show Till p e below s (Q5 Z a1 q2 a3 p4 b1 b3 b4 b2 w_used w_size f g u nf N mm h0 n0) room5.cells room5.slots (T29.setTop (mkF m 70 #[.val (.ref a1), .val (.long q2), .second, .val (.ref a3), .val (.int p4)] [(.int p4), (.int w_used), (.ref b2)]))
  refine Till.pre (fun _ hr => XS.i2l X30.here hx rfl (hb hby d5_70) rfl hr) ?_
  show Till p e below s (Q5 Z a1 q2 a3 p4 b1 b3 b4 b2 w_used w_size f g u nf N mm h0 n0) room5.cells room5.slots (T29.setTop (mkF m 71 #[.val (.ref a1), .val (.long q2), .second, .val (.ref a3), .val (.int p4)] [(.long p4.toInt64), (.int w_used), (.ref b2)]))
  refine Till.lastore R_b2 (own_neg hu.1) (own_lt4' hu) X30 hx hZ e31 (hb hby d5_71) (fun T32 h33 X34 e35 W36 A37 => ?_)
  have N38 := Fr.snoc X34 N16 g_b2
  have R_a1 := R_a1.wr W36 ne_a1_b2
  have R_b1 := R_b1.wr W36 ne_b1_b2
  have R_b3 := R_b3.wr W36 ne_b3_b2
  have R_b4 := R_b4.wr W36 ne_b4_b2
  have R_a3 := R_a3.wr W36 (Ne.symm ne_b2_a3)
  have Zs := Nat.le_trans Zs (Keep.of_wr W36).1
  have Kp := Kp.wr W36 (Or.inl (List.mem_of_getElem? (i := 2) rfl))
  have R_b2 : LA Z h33 b2 (4096 : Int32) (oupd u (w_used).toNatClampNeg p4.toInt64) := A37
  show Till p e below s (Q5 Z a1 q2 a3 p4 b1 b3 b4 b2 w_used w_size f g u nf N mm h0 n0) room5.cells room5.slots (T32.setTop (mkF m 72 #[.val (.ref a1), .val (.long q2), .second, .val (.ref a3), .val (.int p4)] []))
  refine Till.pre (fun _ hr => XS.aloadN X34.here hx rfl (hb hby d5_72) rfl rfl hr) ?_
  show Till p e below s (Q5 Z a1 q2 a3 p4 b1 b3 b4 b2 w_used w_size f g u nf N mm h0 n0) room5.cells room5.slots (T32.setTop (mkF m 73 #[.val (.ref a1), .val (.long q2), .second, .val (.ref a3), .val (.int p4)] [(.ref a3)]))
  refine Till.pre (fun _ hr => XS.iconst X34.here hx rfl (hb hby d5_73) hr) ?_
  show Till p e below s (Q5 Z a1 q2 a3 p4 b1 b3 b4 b2 w_used w_size f g u nf N mm h0 n0) room5.cells room5.slots (T32.setTop (mkF m 74 #[.val (.ref a1), .val (.long q2), .second, .val (.ref a3), .val (.int p4)] [(.int (0 : Int32)), (.ref a3)]))
  refine Till.pre (fun _ hr => XS.aloadN X34.here hx rfl (hb hby d5_74) rfl rfl hr) ?_
  show Till p e below s (Q5 Z a1 q2 a3 p4 b1 b3 b4 b2 w_used w_size f g u nf N mm h0 n0) room5.cells room5.slots (T32.setTop (mkF m 75 #[.val (.ref a1), .val (.long q2), .second, .val (.ref a3), .val (.int p4)] [(.ref a1), (.int (0 : Int32)), (.ref a3)]))
  refine Till.getF X34 hx hZ hown (hw _ (List.mem_of_getElem? (i := 35) rfl)) e35 R_a1.2.2.1 (hb hby d5_75) (fun T39 X40 e41 => ?_)
  show Till p e below s (Q5 Z a1 q2 a3 p4 b1 b3 b4 b2 w_used w_size f g u nf N mm h0 n0) room5.cells room5.slots (T39.setTop (mkF m 78 #[.val (.ref a1), .val (.long q2), .second, .val (.ref a3), .val (.int p4)] [(.ref b2), (.int (0 : Int32)), (.ref a3)]))
  refine Till.pre (fun _ hr => XS.aloadN X40.here hx rfl (hb hby d5_78) rfl rfl hr) ?_
  show Till p e below s (Q5 Z a1 q2 a3 p4 b1 b3 b4 b2 w_used w_size f g u nf N mm h0 n0) room5.cells room5.slots (T39.setTop (mkF m 79 #[.val (.ref a1), .val (.long q2), .second, .val (.ref a3), .val (.int p4)] [(.ref a1), (.ref b2), (.int (0 : Int32)), (.ref a3)]))
  refine Till.getF X40 hx hZ hown (hw _ (List.mem_of_getElem? (i := 42) rfl)) e41 R_a1.2.2.2 (hb hby d5_79) (fun T42 X43 e44 => ?_)
  show Till p e below s (Q5 Z a1 q2 a3 p4 b1 b3 b4 b2 w_used w_size f g u nf N mm h0 n0) room5.cells room5.slots (T42.setTop (mkF m 82 #[.val (.ref a1), .val (.long q2), .second, .val (.ref a3), .val (.int p4)] [(.int w_used), (.ref b2), (.int (0 : Int32)), (.ref a3)]))
  refine Till.pre (fun _ hr => XS.iconst X43.here hx rfl (hb hby d5_82) hr) ?_
  show Till p e below s (Q5 Z a1 q2 a3 p4 b1 b3 b4 b2 w_used w_size f g u nf N mm h0 n0) room5.cells room5.slots (T42.setTop (mkF m 83 #[.val (.ref a1), .val (.long q2), .second, .val (.ref a3), .val (.int p4)] [(.int (1 : Int32)), (.int w_used), (.ref b2), (.int (0 : Int32)), (.ref a3)]))
  refine Till.pre (fun _ hr => XS.iadd X43.here hx rfl (hb hby d5_83) rfl hr) ?_
  show Till p e below s (Q5 Z a1 q2 a3 p4 b1 b3 b4 b2 w_used w_size f g u nf N mm h0 n0) room5.cells room5.slots (T42.setTop (mkF m 84 #[.val (.ref a1), .val (.long q2), .second, .val (.ref a3), .val (.int p4)] [(.int (w_used + (1 : Int32))), (.ref b2), (.int (0 : Int32)), (.ref a3)]))
  refine Till.pre (fun _ hr => XS.iload X43.here hx rfl (hb hby d5_84) rfl hr) ?_
  show Till p e below s (Q5 Z a1 q2 a3 p4 b1 b3 b4 b2 w_used w_size f g u nf N mm h0 n0) room5.cells room5.slots (T42.setTop (mkF m 86 #[.val (.ref a1), .val (.long q2), .second, .val (.ref a3), .val (.int p4)] [(.int p4), (.int (w_used + (1 : Int32))), (.ref b2), (.int (0 : Int32)), (.ref a3)]))
  refine Till.copyL R_a3 R_b2 (by decide) (own_u1 hu) (own_neg hc.1) (own_u3 hc) (own_u4 hu hc) N38 g_b2 X43 hx hZ hown (hw _ (List.mem_of_getElem? (i := 56) rfl)) (hw _ (List.mem_of_getElem? (i := 59) rfl)) (hw _ (List.mem_of_getElem? (i := 57) rfl)) (hw _ (List.mem_of_getElem? (i := 58) rfl)) e44 (by rw [hml]; rfl) (hb hby d5_86) (by decide) (W := 0) (Nat.le_of_eq rfl) (by decide) (fun T45 h46 L47 X48 e49 N50 K51 q52 => ?_)
  have R_a1 := R_a1.keep K51 (ninS ne_a1_b2 nin0)
  have R_b1 := R_b1.keep K51 (ninS ne_b1_b2 nin0)
  have R_b3 := R_b3.keep K51 (ninS ne_b3_b2 nin0)
  have R_b4 := R_b4.keep K51 (ninS ne_b4_b2 nin0)
  have R_a3 := R_a3.keep K51 (ninS (Ne.symm ne_b2_a3) nin0)
  have Zs := Nat.le_trans Zs K51.1
  have Kp := Kp.trans K51 (allS (Or.inl (List.mem_of_getElem? (i := 2) rfl)) all0)
  have R_b2 : LA Z h46 b2 (4096 : Int32) (cpy nf (oupd u (w_used).toNatClampNeg p4.toInt64) 0 ((w_used + (1 : Int32))).toNatClampNeg (p4).toNatClampNeg) := q52
  show Till p e below s (Q5 Z a1 q2 a3 p4 b1 b3 b4 b2 w_used w_size f g u nf N mm h0 n0) room5.cells room5.slots (T45.setTop (mkF m 89 #[.val (.ref a1), .val (.long q2), .second, .val (.ref a3), .val (.int p4)] []))
  refine Till.pre (fun _ hr => XS.aloadN X48.here hx rfl (hb hby d5_89) rfl rfl hr) ?_
  show Till p e below s (Q5 Z a1 q2 a3 p4 b1 b3 b4 b2 w_used w_size f g u nf N mm h0 n0) room5.cells room5.slots (T45.setTop (mkF m 90 #[.val (.ref a1), .val (.long q2), .second, .val (.ref a3), .val (.int p4)] [(.ref a1)]))
  refine Till.pre (fun _ hr => XS.dup X48.here hx rfl (hb hby d5_90) rfl rfl hr) ?_
  show Till p e below s (Q5 Z a1 q2 a3 p4 b1 b3 b4 b2 w_used w_size f g u nf N mm h0 n0) room5.cells room5.slots (T45.setTop (mkF m 91 #[.val (.ref a1), .val (.long q2), .second, .val (.ref a3), .val (.int p4)] [(.ref a1), (.ref a1)]))
  refine Till.getF X48 hx hZ hown (hw _ (List.mem_of_getElem? (i := 42) rfl)) e49 R_a1.2.2.2 (hb hby d5_91) (fun T53 X54 e55 => ?_)
  show Till p e below s (Q5 Z a1 q2 a3 p4 b1 b3 b4 b2 w_used w_size f g u nf N mm h0 n0) room5.cells room5.slots (T53.setTop (mkF m 94 #[.val (.ref a1), .val (.long q2), .second, .val (.ref a3), .val (.int p4)] [(.int w_used), (.ref a1)]))
  refine Till.pre (fun _ hr => XS.iconst X54.here hx rfl (hb hby d5_94) hr) ?_
  show Till p e below s (Q5 Z a1 q2 a3 p4 b1 b3 b4 b2 w_used w_size f g u nf N mm h0 n0) room5.cells room5.slots (T53.setTop (mkF m 95 #[.val (.ref a1), .val (.long q2), .second, .val (.ref a3), .val (.int p4)] [(.int (1 : Int32)), (.int w_used), (.ref a1)]))
  refine Till.pre (fun _ hr => XS.iload X54.here hx rfl (hb hby d5_95) rfl hr) ?_
  show Till p e below s (Q5 Z a1 q2 a3 p4 b1 b3 b4 b2 w_used w_size f g u nf N mm h0 n0) room5.cells room5.slots (T53.setTop (mkF m 97 #[.val (.ref a1), .val (.long q2), .second, .val (.ref a3), .val (.int p4)] [(.int p4), (.int (1 : Int32)), (.int w_used), (.ref a1)]))
  refine Till.pre (fun _ hr => XS.iadd X54.here hx rfl (hb hby d5_97) rfl hr) ?_
  show Till p e below s (Q5 Z a1 q2 a3 p4 b1 b3 b4 b2 w_used w_size f g u nf N mm h0 n0) room5.cells room5.slots (T53.setTop (mkF m 98 #[.val (.ref a1), .val (.long q2), .second, .val (.ref a3), .val (.int p4)] [(.int ((1 : Int32) + p4)), (.int w_used), (.ref a1)]))
  refine Till.pre (fun _ hr => XS.iadd X54.here hx rfl (hb hby d5_98) rfl hr) ?_
  show Till p e below s (Q5 Z a1 q2 a3 p4 b1 b3 b4 b2 w_used w_size f g u nf N mm h0 n0) room5.cells room5.slots (T53.setTop (mkF m 99 #[.val (.ref a1), .val (.long q2), .second, .val (.ref a3), .val (.int p4)] [(.int (w_used + ((1 : Int32) + p4))), (.ref a1)]))
  refine Till.putF X54 hx hZ hown (hw _ (List.mem_of_getElem? (i := 42) rfl)) e55 R_a1.2.2.2 R_a1.1 (Or.inl (hw _ (List.mem_of_getElem? (i := 43) rfl))) (hw _ (List.mem_of_getElem? (i := 3) rfl)) (ty := .int) (by decide) rfl rfl (hb hby d5_99) (fun T56 h57 X58 e59 W60 => ?_)
  have N61 := Fr.snoc X58 N50 g_a1
  have R_b1 := R_b1.wr W60 (Ne.symm ne_a1_b1)
  have R_b3 := R_b3.wr W60 (Ne.symm ne_a1_b3)
  have R_b4 := R_b4.wr W60 (Ne.symm ne_a1_b4)
  have R_b2 := R_b2.wr W60 (Ne.symm ne_a1_b2)
  have R_a3 := R_a3.wr W60 (Ne.symm ne_a1_a3)
  have Zs := Nat.le_trans Zs (Keep.of_wr W60).1
  have Kp := Kp.wr W60 (Or.inl (List.mem_of_getElem? (i := 0) rfl))
  have R_a1 := Way.set_used hw R_a1 W60
  show Till p e below s (Q5 Z a1 q2 a3 p4 b1 b3 b4 b2 w_used w_size f g u nf N mm h0 n0) room5.cells room5.slots (T56.setTop (mkF m 102 #[.val (.ref a1), .val (.long q2), .second, .val (.ref a3), .val (.int p4)] []))
  refine Till.retV X58 hx hret hlk (hb hby d5_102) (by decide) (by decide) ?_
  show (Q5 Z a1 q2 a3 p4 b1 b3 b4 b2 w_used w_size f g u nf N mm h0 n0) _ T56.heap _
  rw [e59]
  exact ⟨_, _, _, rfl, N61, Kp, R_a1, R_b1, R_b3, R_b4, R_b2, tb20, sz21⟩
theorem d14_0 : decode method_2_code 0 = .ok (.aload_n 0, 1) := by decide +kernel
theorem d14_1 : decode method_2_code 1 = .ok (.ifnull 58, 3) := by decide +kernel
theorem d14_4 : decode method_2_code 4 = .ok (.aload_n 0, 1) := by decide +kernel
theorem d14_5 : decode method_2_code 5 = .ok (.arraylength, 1) := by decide +kernel
theorem d14_6 : decode method_2_code 6 = .ok (.iload_n 2, 1) := by decide +kernel
theorem d14_7 : decode method_2_code 7 = .ok (.if_icmp .ne 52, 3) := by decide +kernel
theorem d14_10 : decode method_2_code 10 = .ok (.iload_n 2, 1) := by decide +kernel
theorem d14_11 : decode method_2_code 11 = .ok (.iconst 1, 1) := by decide +kernel
theorem d14_12 : decode method_2_code 12 = .ok (.if_icmp .lt 13, 3) := by decide +kernel
theorem d14_15 : decode method_2_code 15 = .ok (.aload_n 0, 1) := by decide +kernel
theorem d14_16 : decode method_2_code 16 = .ok (.iconst 0, 1) := by decide +kernel
theorem d14_17 : decode method_2_code 17 = .ok (.laload, 1) := by decide +kernel
theorem d14_18 : decode method_2_code 18 = .ok (.aload_n 1, 1) := by decide +kernel
theorem d14_19 : decode method_2_code 19 = .ok (.iconst 0, 1) := by decide +kernel
theorem d14_20 : decode method_2_code 20 = .ok (.laload, 1) := by decide +kernel
theorem d14_21 : decode method_2_code 21 = .ok (.lcmp, 1) := by decide +kernel
theorem d14_22 : decode method_2_code 22 = .ok (.ifCond .ne 37, 3) := by decide +kernel
theorem d14_25 : decode method_2_code 25 = .ok (.iload_n 2, 1) := by decide +kernel
theorem d14_26 : decode method_2_code 26 = .ok (.iconst 2, 1) := by decide +kernel
theorem d14_27 : decode method_2_code 27 = .ok (.if_icmp .lt 13, 3) := by decide +kernel
theorem d14_30 : decode method_2_code 30 = .ok (.aload_n 0, 1) := by decide +kernel
theorem d14_31 : decode method_2_code 31 = .ok (.iconst 1, 1) := by decide +kernel
theorem d14_32 : decode method_2_code 32 = .ok (.laload, 1) := by decide +kernel
theorem d14_33 : decode method_2_code 33 = .ok (.aload_n 1, 1) := by decide +kernel
theorem d14_34 : decode method_2_code 34 = .ok (.iconst 1, 1) := by decide +kernel
theorem d14_35 : decode method_2_code 35 = .ok (.laload, 1) := by decide +kernel
theorem d14_36 : decode method_2_code 36 = .ok (.lcmp, 1) := by decide +kernel
theorem d14_37 : decode method_2_code 37 = .ok (.ifCond .ne 22, 3) := by decide +kernel
theorem d14_40 : decode method_2_code 40 = .ok (.iload_n 2, 1) := by decide +kernel
theorem d14_41 : decode method_2_code 41 = .ok (.iconst 3, 1) := by decide +kernel
theorem d14_42 : decode method_2_code 42 = .ok (.if_icmp .lt 13, 3) := by decide +kernel
theorem d14_45 : decode method_2_code 45 = .ok (.aload_n 0, 1) := by decide +kernel
theorem d14_46 : decode method_2_code 46 = .ok (.iconst 2, 1) := by decide +kernel
theorem d14_47 : decode method_2_code 47 = .ok (.laload, 1) := by decide +kernel
theorem d14_48 : decode method_2_code 48 = .ok (.aload_n 1, 1) := by decide +kernel
theorem d14_49 : decode method_2_code 49 = .ok (.iconst 2, 1) := by decide +kernel
theorem d14_50 : decode method_2_code 50 = .ok (.laload, 1) := by decide +kernel
theorem d14_51 : decode method_2_code 51 = .ok (.lcmp, 1) := by decide +kernel
theorem d14_52 : decode method_2_code 52 = .ok (.ifCond .ne 7, 3) := by decide +kernel
theorem d14_55 : decode method_2_code 55 = .ok (.iconst 1, 1) := by decide +kernel
theorem d14_56 : decode method_2_code 56 = .ok (.goto 4, 3) := by decide +kernel
theorem d14_59 : decode method_2_code 59 = .ok (.iconst 0, 1) := by decide +kernel
theorem d14_60 : decode method_2_code 60 = .ok (.ireturn, 1) := by decide +kernel
theorem pn_14 : plainName "com/example/tour/tour/io/WayNodesFindPinLaw" = true := by first | (simp [plainName, overriddenIn]; done) | decide +kernel
theorem ef_14 (m : MethodId) (a1 : Addr) (a2 : Addr) (p3 : Int32) : entryFrame m #[(.ref a1), (.ref a2), (.int p3)] 3 = mkF m 0 #[.val (.ref a1), .val (.ref a2), .val (.int p3)] [] := by first | (simp [entryFrame, mkF, argsToLocals, Value.category]; done) | rfl
def fn14 (p3 : Int32) (z : Int32) (f : Nat → Int64) (g : Nat → Int64) : Int32 := ((if (z = p3) then (if (p3 < (1 : Int32)) then (if (p3 < (2 : Int32)) then (if (p3 < (3 : Int32)) then (1 : Int32) else (if ((f 2) = (g 2)) then (1 : Int32) else (0 : Int32))) else (if ((f 1) = (g 1)) then (if (p3 < (3 : Int32)) then (1 : Int32) else (if ((f 2) = (g 2)) then (1 : Int32) else (0 : Int32))) else (0 : Int32))) else (if ((f 0) = (g 0)) then (if (p3 < (2 : Int32)) then (if (p3 < (3 : Int32)) then (1 : Int32) else (if ((f 2) = (g 2)) then (1 : Int32) else (0 : Int32))) else (if ((f 1) = (g 1)) then (if (p3 < (3 : Int32)) then (1 : Int32) else (if ((f 2) = (g 2)) then (1 : Int32) else (0 : Int32))) else (0 : Int32))) else (0 : Int32))) else (0 : Int32)) &&& 1)
def Q14 (Z : State) (a1 : Addr) (a2 : Addr) (p3 : Int32) (z : Int32) (f : Nat → Int64) (g : Nat → Int64) (h0 : Heap) (n0 : Nat) : Option Value → Heap → List Loc → Prop := fun v h L => v = some (Value.int (fn14 p3 z f g)) ∧ Fr n0 L ∧ h = h0
def room14 : Room := { frames := 0, cells := 0, slots := 0, locals := 0 }
set_option maxRecDepth 65536 in
set_option maxHeartbeats 40000000 in
theorem rm14 (l : Launch) (Z : State) (a0 : Array Value) (hw : ∀ d ∈ tables_1, d.before a0 Z = true) (a1 : Addr) (a2 : Addr) (p3 : Int32) (z : Int32) (f : Nat → Int64) (g : Nat → Int64) (h0 : Heap) (n0 : Nat) (R_a1 : LA Z h0 a1 z f) (R_a2 : LA Z h0 a2 (3 : Int32) g) : Ctr l Z (⟨"com/example/tour/tour/io/WayNodesFindPinLaw", "same", "([J[JI)Z"⟩ : MethodName) method_2_code 3 (some .boolean) room14 #[(.ref a1), (.ref a2), (.int p3)] h0 (Q14 Z a1 a2 p3 z f g h0 n0) := by
  refine Ctr.of (plainFor_of_name pn_14) ?_
  intro p e s m below meth c s₁ hx hby hml hown hnm hret hlk hZ e0 X0
  have hown : s.vm.findClass "com/example/tour/tour/io/WayNodesFindPinLaw" = some m.cls := hown
  have hml : c.maxLocals = 3 := hml
  have hnm : meth.name = "same" := hnm
  have hret : meth.sig.returnType = (some .boolean) := hret
  have N0 := Fr.nil n0
  refine Till.cast (ef_14 m a1 a2 p3) ?_
  show Till p e below s (Q14 Z a1 a2 p3 z f g h0 n0) room14.cells room14.slots (s₁.setTop (mkF m 0 #[.val (.ref a1), .val (.ref a2), .val (.int p3)] []))
  refine Till.pre (fun _ hr => XS.aloadN X0.here hx rfl (hb hby d14_0) rfl rfl hr) ?_
  show Till p e below s (Q14 Z a1 a2 p3 z f g h0 n0) room14.cells room14.slots (s₁.setTop (mkF m 1 #[.val (.ref a1), .val (.ref a2), .val (.int p3)] [(.ref a1)]))
  refine Till.pre (fun _ hr => XS.ifnullNo X0.here hx rfl (hb hby d14_1) rfl hr) ?_
  show Till p e below s (Q14 Z a1 a2 p3 z f g h0 n0) room14.cells room14.slots (s₁.setTop (mkF m 4 #[.val (.ref a1), .val (.ref a2), .val (.int p3)] []))
  refine Till.pre (fun _ hr => XS.aloadN X0.here hx rfl (hb hby d14_4) rfl rfl hr) ?_
  show Till p e below s (Q14 Z a1 a2 p3 z f g h0 n0) room14.cells room14.slots (s₁.setTop (mkF m 5 #[.val (.ref a1), .val (.ref a2), .val (.int p3)] [(.ref a1)]))
  refine Till.alen R_a1 X0 hx hZ e0 (hb hby d14_5) ?_
  show Till p e below s (Q14 Z a1 a2 p3 z f g h0 n0) room14.cells room14.slots (s₁.setTop (mkF m 6 #[.val (.ref a1), .val (.ref a2), .val (.int p3)] [(.int z)]))
  refine Till.pre (fun _ hr => XS.iloadN X0.here hx rfl (hb hby d14_6) rfl hr) ?_
  show Till p e below s (Q14 Z a1 a2 p3 z f g h0 n0) room14.cells room14.slots (s₁.setTop (mkF m 7 #[.val (.ref a1), .val (.ref a2), .val (.int p3)] [(.int p3), (.int z)]))
  have J60_15 : ∀ (v60s0 : Int32) (hv60s0 : v60s0 = (if (z = p3) then (if (p3 < (1 : Int32)) then (if (p3 < (2 : Int32)) then (if (p3 < (3 : Int32)) then (1 : Int32) else (if ((f 2) = (g 2)) then (1 : Int32) else (0 : Int32))) else (if ((f 1) = (g 1)) then (if (p3 < (3 : Int32)) then (1 : Int32) else (if ((f 2) = (g 2)) then (1 : Int32) else (0 : Int32))) else (0 : Int32))) else (if ((f 0) = (g 0)) then (if (p3 < (2 : Int32)) then (if (p3 < (3 : Int32)) then (1 : Int32) else (if ((f 2) = (g 2)) then (1 : Int32) else (0 : Int32))) else (if ((f 1) = (g 1)) then (if (p3 < (3 : Int32)) then (1 : Int32) else (if ((f 2) = (g 2)) then (1 : Int32) else (0 : Int32))) else (0 : Int32))) else (0 : Int32))) else (0 : Int32))), Till p e below s (Q14 Z a1 a2 p3 z f g h0 n0) room14.cells room14.slots (s₁.setTop (mkF m 60 #[.val (.ref a1), .val (.ref a2), .val (.int p3)] [(.int v60s0)])) := by
    intro v60s0 hv60s0
    show Till p e below s (Q14 Z a1 a2 p3 z f g h0 n0) room14.cells room14.slots (s₁.setTop (mkF m 60 #[.val (.ref a1), .val (.ref a2), .val (.int p3)] [(.int v60s0)]))
    refine Till.retZ (w := (v60s0 &&& 1)) X0 hx hret hlk (hb hby d14_60) (by decide) (by decide) (rfl) ?_
    subst hv60s0
    exact ⟨rfl, N0, e0⟩
  refine Till.icmp (pc' := 59) X0.here hx (hb hby d14_7) (by decide) (by decide) (fun q => ?_) (fun q => ?_)
  · have hc1 := (hEq.2.2.1 q)
    show Till p e below s (Q14 Z a1 a2 p3 z f g h0 n0) room14.cells room14.slots (s₁.setTop (mkF m 59 #[.val (.ref a1), .val (.ref a2), .val (.int p3)] []))
    refine Till.pre (fun _ hr => XS.iconst X0.here hx rfl (hb hby d14_59) hr) ?_
    show Till p e below s (Q14 Z a1 a2 p3 z f g h0 n0) room14.cells room14.slots (s₁.setTop (mkF m 60 #[.val (.ref a1), .val (.ref a2), .val (.int p3)] [(.int (0 : Int32))]))
    exact J60_15 _ (Eq.symm (if_neg hc1))
  · have hc1 := (hEq.2.2.2 q)
    show Till p e below s (Q14 Z a1 a2 p3 z f g h0 n0) room14.cells room14.slots (s₁.setTop (mkF m 10 #[.val (.ref a1), .val (.ref a2), .val (.int p3)] []))
    refine Till.pre (fun _ hr => XS.iloadN X0.here hx rfl (hb hby d14_10) rfl hr) ?_
    show Till p e below s (Q14 Z a1 a2 p3 z f g h0 n0) room14.cells room14.slots (s₁.setTop (mkF m 11 #[.val (.ref a1), .val (.ref a2), .val (.int p3)] [(.int p3)]))
    refine Till.pre (fun _ hr => XS.iconst X0.here hx rfl (hb hby d14_11) hr) ?_
    show Till p e below s (Q14 Z a1 a2 p3 z f g h0 n0) room14.cells room14.slots (s₁.setTop (mkF m 12 #[.val (.ref a1), .val (.ref a2), .val (.int p3)] [(.int (1 : Int32)), (.int p3)]))
    refine Till.icmp (pc' := 25) X0.here hx (hb hby d14_12) (by decide) (by decide) (fun q => ?_) (fun q => ?_)
    · have hc2 := (hLt.1 q)
      show Till p e below s (Q14 Z a1 a2 p3 z f g h0 n0) room14.cells room14.slots (s₁.setTop (mkF m 25 #[.val (.ref a1), .val (.ref a2), .val (.int p3)] []))
      refine Till.pre (fun _ hr => XS.iloadN X0.here hx rfl (hb hby d14_25) rfl hr) ?_
      show Till p e below s (Q14 Z a1 a2 p3 z f g h0 n0) room14.cells room14.slots (s₁.setTop (mkF m 26 #[.val (.ref a1), .val (.ref a2), .val (.int p3)] [(.int p3)]))
      refine Till.pre (fun _ hr => XS.iconst X0.here hx rfl (hb hby d14_26) hr) ?_
      show Till p e below s (Q14 Z a1 a2 p3 z f g h0 n0) room14.cells room14.slots (s₁.setTop (mkF m 27 #[.val (.ref a1), .val (.ref a2), .val (.int p3)] [(.int (2 : Int32)), (.int p3)]))
      refine Till.icmp (pc' := 40) X0.here hx (hb hby d14_27) (by decide) (by decide) (fun q => ?_) (fun q => ?_)
      · have hc3 := (hLt.1 q)
        show Till p e below s (Q14 Z a1 a2 p3 z f g h0 n0) room14.cells room14.slots (s₁.setTop (mkF m 40 #[.val (.ref a1), .val (.ref a2), .val (.int p3)] []))
        refine Till.pre (fun _ hr => XS.iloadN X0.here hx rfl (hb hby d14_40) rfl hr) ?_
        show Till p e below s (Q14 Z a1 a2 p3 z f g h0 n0) room14.cells room14.slots (s₁.setTop (mkF m 41 #[.val (.ref a1), .val (.ref a2), .val (.int p3)] [(.int p3)]))
        refine Till.pre (fun _ hr => XS.iconst X0.here hx rfl (hb hby d14_41) hr) ?_
        show Till p e below s (Q14 Z a1 a2 p3 z f g h0 n0) room14.cells room14.slots (s₁.setTop (mkF m 42 #[.val (.ref a1), .val (.ref a2), .val (.int p3)] [(.int (3 : Int32)), (.int p3)]))
        refine Till.icmp (pc' := 55) X0.here hx (hb hby d14_42) (by decide) (by decide) (fun q => ?_) (fun q => ?_)
        · have hc4 := (hLt.1 q)
          show Till p e below s (Q14 Z a1 a2 p3 z f g h0 n0) room14.cells room14.slots (s₁.setTop (mkF m 55 #[.val (.ref a1), .val (.ref a2), .val (.int p3)] []))
          refine Till.pre (fun _ hr => XS.iconst X0.here hx rfl (hb hby d14_55) hr) ?_
          show Till p e below s (Q14 Z a1 a2 p3 z f g h0 n0) room14.cells room14.slots (s₁.setTop (mkF m 56 #[.val (.ref a1), .val (.ref a2), .val (.int p3)] [(.int (1 : Int32))]))
          refine Till.pre (fun _ hr => XS.goto X0.here hx rfl (pc0 := 56) (pc' := 60) rfl (hb hby d14_56) (by decide) (by decide) hr) ?_
          show Till p e below s (Q14 Z a1 a2 p3 z f g h0 n0) room14.cells room14.slots (s₁.setTop (mkF m 60 #[.val (.ref a1), .val (.ref a2), .val (.int p3)] [(.int (1 : Int32))]))
          exact J60_15 _ (Eq.symm ((if_pos hc1).trans ((if_pos hc2).trans ((if_pos hc3).trans (if_pos hc4)))))
        · have hc4 := (hLt.2.1 q)
          show Till p e below s (Q14 Z a1 a2 p3 z f g h0 n0) room14.cells room14.slots (s₁.setTop (mkF m 45 #[.val (.ref a1), .val (.ref a2), .val (.int p3)] []))
          refine Till.pre (fun _ hr => XS.aloadN X0.here hx rfl (hb hby d14_45) rfl rfl hr) ?_
          show Till p e below s (Q14 Z a1 a2 p3 z f g h0 n0) room14.cells room14.slots (s₁.setTop (mkF m 46 #[.val (.ref a1), .val (.ref a2), .val (.int p3)] [(.ref a1)]))
          refine Till.pre (fun _ hr => XS.iconst X0.here hx rfl (hb hby d14_46) hr) ?_
          show Till p e below s (Q14 Z a1 a2 p3 z f g h0 n0) room14.cells room14.slots (s₁.setTop (mkF m 47 #[.val (.ref a1), .val (.ref a2), .val (.int p3)] [(.int (2 : Int32)), (.ref a1)]))
          refine Till.laload R_a1 (by decide) (own_in2 hc1 hc4) X0 hx hZ e0 (hb hby d14_47) ?_
          show Till p e below s (Q14 Z a1 a2 p3 z f g h0 n0) room14.cells room14.slots (s₁.setTop (mkF m 48 #[.val (.ref a1), .val (.ref a2), .val (.int p3)] [(.long (f 2))]))
          refine Till.pre (fun _ hr => XS.aloadN X0.here hx rfl (hb hby d14_48) rfl rfl hr) ?_
          show Till p e below s (Q14 Z a1 a2 p3 z f g h0 n0) room14.cells room14.slots (s₁.setTop (mkF m 49 #[.val (.ref a1), .val (.ref a2), .val (.int p3)] [(.ref a2), (.long (f 2))]))
          refine Till.pre (fun _ hr => XS.iconst X0.here hx rfl (hb hby d14_49) hr) ?_
          show Till p e below s (Q14 Z a1 a2 p3 z f g h0 n0) room14.cells room14.slots (s₁.setTop (mkF m 50 #[.val (.ref a1), .val (.ref a2), .val (.int p3)] [(.int (2 : Int32)), (.ref a2), (.long (f 2))]))
          refine Till.laload R_a2 (by decide) (by decide) X0 hx hZ e0 (hb hby d14_50) ?_
          show Till p e below s (Q14 Z a1 a2 p3 z f g h0 n0) room14.cells room14.slots (s₁.setTop (mkF m 51 #[.val (.ref a1), .val (.ref a2), .val (.int p3)] [(.long (g 2)), (.long (f 2))]))
          refine Till.pre (fun _ hr => XS.lcmp X0.here hx rfl (hb hby d14_51) rfl hr) ?_
          show Till p e below s (Q14 Z a1 a2 p3 z f g h0 n0) room14.cells room14.slots (s₁.setTop (mkF m 52 #[.val (.ref a1), .val (.ref a2), .val (.int p3)] [(.int (lcmpW (f 2) (g 2)))]))
          refine Till.ifc (pc' := 59) X0.here hx (hb hby d14_52) (by decide) (by decide) (fun q => ?_) (fun q => ?_)
          · have hc5 := (mt lEq.mpr (hEq.2.2.1 q))
            show Till p e below s (Q14 Z a1 a2 p3 z f g h0 n0) room14.cells room14.slots (s₁.setTop (mkF m 59 #[.val (.ref a1), .val (.ref a2), .val (.int p3)] []))
            refine Till.pre (fun _ hr => XS.iconst X0.here hx rfl (hb hby d14_59) hr) ?_
            show Till p e below s (Q14 Z a1 a2 p3 z f g h0 n0) room14.cells room14.slots (s₁.setTop (mkF m 60 #[.val (.ref a1), .val (.ref a2), .val (.int p3)] [(.int (0 : Int32))]))
            exact J60_15 _ (Eq.symm ((if_pos hc1).trans ((if_pos hc2).trans ((if_pos hc3).trans ((if_neg hc4).trans (if_neg hc5))))))
          · have hc5 := (lEq.mp (hEq.2.2.2 q))
            show Till p e below s (Q14 Z a1 a2 p3 z f g h0 n0) room14.cells room14.slots (s₁.setTop (mkF m 55 #[.val (.ref a1), .val (.ref a2), .val (.int p3)] []))
            refine Till.pre (fun _ hr => XS.iconst X0.here hx rfl (hb hby d14_55) hr) ?_
            show Till p e below s (Q14 Z a1 a2 p3 z f g h0 n0) room14.cells room14.slots (s₁.setTop (mkF m 56 #[.val (.ref a1), .val (.ref a2), .val (.int p3)] [(.int (1 : Int32))]))
            refine Till.pre (fun _ hr => XS.goto X0.here hx rfl (pc0 := 56) (pc' := 60) rfl (hb hby d14_56) (by decide) (by decide) hr) ?_
            show Till p e below s (Q14 Z a1 a2 p3 z f g h0 n0) room14.cells room14.slots (s₁.setTop (mkF m 60 #[.val (.ref a1), .val (.ref a2), .val (.int p3)] [(.int (1 : Int32))]))
            exact J60_15 _ (Eq.symm ((if_pos hc1).trans ((if_pos hc2).trans ((if_pos hc3).trans ((if_neg hc4).trans (if_pos hc5))))))
      · have hc3 := (hLt.2.1 q)
        show Till p e below s (Q14 Z a1 a2 p3 z f g h0 n0) room14.cells room14.slots (s₁.setTop (mkF m 30 #[.val (.ref a1), .val (.ref a2), .val (.int p3)] []))
        refine Till.pre (fun _ hr => XS.aloadN X0.here hx rfl (hb hby d14_30) rfl rfl hr) ?_
        show Till p e below s (Q14 Z a1 a2 p3 z f g h0 n0) room14.cells room14.slots (s₁.setTop (mkF m 31 #[.val (.ref a1), .val (.ref a2), .val (.int p3)] [(.ref a1)]))
        refine Till.pre (fun _ hr => XS.iconst X0.here hx rfl (hb hby d14_31) hr) ?_
        show Till p e below s (Q14 Z a1 a2 p3 z f g h0 n0) room14.cells room14.slots (s₁.setTop (mkF m 32 #[.val (.ref a1), .val (.ref a2), .val (.int p3)] [(.int (1 : Int32)), (.ref a1)]))
        refine Till.laload R_a1 (by decide) (own_in1 hc1 hc3) X0 hx hZ e0 (hb hby d14_32) ?_
        show Till p e below s (Q14 Z a1 a2 p3 z f g h0 n0) room14.cells room14.slots (s₁.setTop (mkF m 33 #[.val (.ref a1), .val (.ref a2), .val (.int p3)] [(.long (f 1))]))
        refine Till.pre (fun _ hr => XS.aloadN X0.here hx rfl (hb hby d14_33) rfl rfl hr) ?_
        show Till p e below s (Q14 Z a1 a2 p3 z f g h0 n0) room14.cells room14.slots (s₁.setTop (mkF m 34 #[.val (.ref a1), .val (.ref a2), .val (.int p3)] [(.ref a2), (.long (f 1))]))
        refine Till.pre (fun _ hr => XS.iconst X0.here hx rfl (hb hby d14_34) hr) ?_
        show Till p e below s (Q14 Z a1 a2 p3 z f g h0 n0) room14.cells room14.slots (s₁.setTop (mkF m 35 #[.val (.ref a1), .val (.ref a2), .val (.int p3)] [(.int (1 : Int32)), (.ref a2), (.long (f 1))]))
        refine Till.laload R_a2 (by decide) (by decide) X0 hx hZ e0 (hb hby d14_35) ?_
        show Till p e below s (Q14 Z a1 a2 p3 z f g h0 n0) room14.cells room14.slots (s₁.setTop (mkF m 36 #[.val (.ref a1), .val (.ref a2), .val (.int p3)] [(.long (g 1)), (.long (f 1))]))
        refine Till.pre (fun _ hr => XS.lcmp X0.here hx rfl (hb hby d14_36) rfl hr) ?_
        show Till p e below s (Q14 Z a1 a2 p3 z f g h0 n0) room14.cells room14.slots (s₁.setTop (mkF m 37 #[.val (.ref a1), .val (.ref a2), .val (.int p3)] [(.int (lcmpW (f 1) (g 1)))]))
        refine Till.ifc (pc' := 59) X0.here hx (hb hby d14_37) (by decide) (by decide) (fun q => ?_) (fun q => ?_)
        · have hc6 := (mt lEq.mpr (hEq.2.2.1 q))
          show Till p e below s (Q14 Z a1 a2 p3 z f g h0 n0) room14.cells room14.slots (s₁.setTop (mkF m 59 #[.val (.ref a1), .val (.ref a2), .val (.int p3)] []))
          refine Till.pre (fun _ hr => XS.iconst X0.here hx rfl (hb hby d14_59) hr) ?_
          show Till p e below s (Q14 Z a1 a2 p3 z f g h0 n0) room14.cells room14.slots (s₁.setTop (mkF m 60 #[.val (.ref a1), .val (.ref a2), .val (.int p3)] [(.int (0 : Int32))]))
          exact J60_15 _ (Eq.symm ((if_pos hc1).trans ((if_pos hc2).trans ((if_neg hc3).trans (if_neg hc6)))))
        · have hc6 := (lEq.mp (hEq.2.2.2 q))
          show Till p e below s (Q14 Z a1 a2 p3 z f g h0 n0) room14.cells room14.slots (s₁.setTop (mkF m 40 #[.val (.ref a1), .val (.ref a2), .val (.int p3)] []))
          refine Till.pre (fun _ hr => XS.iloadN X0.here hx rfl (hb hby d14_40) rfl hr) ?_
          show Till p e below s (Q14 Z a1 a2 p3 z f g h0 n0) room14.cells room14.slots (s₁.setTop (mkF m 41 #[.val (.ref a1), .val (.ref a2), .val (.int p3)] [(.int p3)]))
          refine Till.pre (fun _ hr => XS.iconst X0.here hx rfl (hb hby d14_41) hr) ?_
          show Till p e below s (Q14 Z a1 a2 p3 z f g h0 n0) room14.cells room14.slots (s₁.setTop (mkF m 42 #[.val (.ref a1), .val (.ref a2), .val (.int p3)] [(.int (3 : Int32)), (.int p3)]))
          refine Till.icmp (pc' := 55) X0.here hx (hb hby d14_42) (by decide) (by decide) (fun q => ?_) (fun q => ?_)
          · have hc7 := (hLt.1 q)
            show Till p e below s (Q14 Z a1 a2 p3 z f g h0 n0) room14.cells room14.slots (s₁.setTop (mkF m 55 #[.val (.ref a1), .val (.ref a2), .val (.int p3)] []))
            refine Till.pre (fun _ hr => XS.iconst X0.here hx rfl (hb hby d14_55) hr) ?_
            show Till p e below s (Q14 Z a1 a2 p3 z f g h0 n0) room14.cells room14.slots (s₁.setTop (mkF m 56 #[.val (.ref a1), .val (.ref a2), .val (.int p3)] [(.int (1 : Int32))]))
            refine Till.pre (fun _ hr => XS.goto X0.here hx rfl (pc0 := 56) (pc' := 60) rfl (hb hby d14_56) (by decide) (by decide) hr) ?_
            show Till p e below s (Q14 Z a1 a2 p3 z f g h0 n0) room14.cells room14.slots (s₁.setTop (mkF m 60 #[.val (.ref a1), .val (.ref a2), .val (.int p3)] [(.int (1 : Int32))]))
            exact J60_15 _ (Eq.symm ((if_pos hc1).trans ((if_pos hc2).trans ((if_neg hc3).trans ((if_pos hc6).trans (if_pos hc7))))))
          · have hc7 := (hLt.2.1 q)
            show Till p e below s (Q14 Z a1 a2 p3 z f g h0 n0) room14.cells room14.slots (s₁.setTop (mkF m 45 #[.val (.ref a1), .val (.ref a2), .val (.int p3)] []))
            refine Till.pre (fun _ hr => XS.aloadN X0.here hx rfl (hb hby d14_45) rfl rfl hr) ?_
            show Till p e below s (Q14 Z a1 a2 p3 z f g h0 n0) room14.cells room14.slots (s₁.setTop (mkF m 46 #[.val (.ref a1), .val (.ref a2), .val (.int p3)] [(.ref a1)]))
            refine Till.pre (fun _ hr => XS.iconst X0.here hx rfl (hb hby d14_46) hr) ?_
            show Till p e below s (Q14 Z a1 a2 p3 z f g h0 n0) room14.cells room14.slots (s₁.setTop (mkF m 47 #[.val (.ref a1), .val (.ref a2), .val (.int p3)] [(.int (2 : Int32)), (.ref a1)]))
            refine Till.laload R_a1 (by decide) (own_in2 hc1 hc7) X0 hx hZ e0 (hb hby d14_47) ?_
            show Till p e below s (Q14 Z a1 a2 p3 z f g h0 n0) room14.cells room14.slots (s₁.setTop (mkF m 48 #[.val (.ref a1), .val (.ref a2), .val (.int p3)] [(.long (f 2))]))
            refine Till.pre (fun _ hr => XS.aloadN X0.here hx rfl (hb hby d14_48) rfl rfl hr) ?_
            show Till p e below s (Q14 Z a1 a2 p3 z f g h0 n0) room14.cells room14.slots (s₁.setTop (mkF m 49 #[.val (.ref a1), .val (.ref a2), .val (.int p3)] [(.ref a2), (.long (f 2))]))
            refine Till.pre (fun _ hr => XS.iconst X0.here hx rfl (hb hby d14_49) hr) ?_
            show Till p e below s (Q14 Z a1 a2 p3 z f g h0 n0) room14.cells room14.slots (s₁.setTop (mkF m 50 #[.val (.ref a1), .val (.ref a2), .val (.int p3)] [(.int (2 : Int32)), (.ref a2), (.long (f 2))]))
            refine Till.laload R_a2 (by decide) (by decide) X0 hx hZ e0 (hb hby d14_50) ?_
            show Till p e below s (Q14 Z a1 a2 p3 z f g h0 n0) room14.cells room14.slots (s₁.setTop (mkF m 51 #[.val (.ref a1), .val (.ref a2), .val (.int p3)] [(.long (g 2)), (.long (f 2))]))
            refine Till.pre (fun _ hr => XS.lcmp X0.here hx rfl (hb hby d14_51) rfl hr) ?_
            show Till p e below s (Q14 Z a1 a2 p3 z f g h0 n0) room14.cells room14.slots (s₁.setTop (mkF m 52 #[.val (.ref a1), .val (.ref a2), .val (.int p3)] [(.int (lcmpW (f 2) (g 2)))]))
            refine Till.ifc (pc' := 59) X0.here hx (hb hby d14_52) (by decide) (by decide) (fun q => ?_) (fun q => ?_)
            · have hc8 := (mt lEq.mpr (hEq.2.2.1 q))
              show Till p e below s (Q14 Z a1 a2 p3 z f g h0 n0) room14.cells room14.slots (s₁.setTop (mkF m 59 #[.val (.ref a1), .val (.ref a2), .val (.int p3)] []))
              refine Till.pre (fun _ hr => XS.iconst X0.here hx rfl (hb hby d14_59) hr) ?_
              show Till p e below s (Q14 Z a1 a2 p3 z f g h0 n0) room14.cells room14.slots (s₁.setTop (mkF m 60 #[.val (.ref a1), .val (.ref a2), .val (.int p3)] [(.int (0 : Int32))]))
              exact J60_15 _ (Eq.symm ((if_pos hc1).trans ((if_pos hc2).trans ((if_neg hc3).trans ((if_pos hc6).trans ((if_neg hc7).trans (if_neg hc8)))))))
            · have hc8 := (lEq.mp (hEq.2.2.2 q))
              show Till p e below s (Q14 Z a1 a2 p3 z f g h0 n0) room14.cells room14.slots (s₁.setTop (mkF m 55 #[.val (.ref a1), .val (.ref a2), .val (.int p3)] []))
              refine Till.pre (fun _ hr => XS.iconst X0.here hx rfl (hb hby d14_55) hr) ?_
              show Till p e below s (Q14 Z a1 a2 p3 z f g h0 n0) room14.cells room14.slots (s₁.setTop (mkF m 56 #[.val (.ref a1), .val (.ref a2), .val (.int p3)] [(.int (1 : Int32))]))
              refine Till.pre (fun _ hr => XS.goto X0.here hx rfl (pc0 := 56) (pc' := 60) rfl (hb hby d14_56) (by decide) (by decide) hr) ?_
              show Till p e below s (Q14 Z a1 a2 p3 z f g h0 n0) room14.cells room14.slots (s₁.setTop (mkF m 60 #[.val (.ref a1), .val (.ref a2), .val (.int p3)] [(.int (1 : Int32))]))
              exact J60_15 _ (Eq.symm ((if_pos hc1).trans ((if_pos hc2).trans ((if_neg hc3).trans ((if_pos hc6).trans ((if_neg hc7).trans (if_pos hc8)))))))
    · have hc2 := (hLt.2.1 q)
      show Till p e below s (Q14 Z a1 a2 p3 z f g h0 n0) room14.cells room14.slots (s₁.setTop (mkF m 15 #[.val (.ref a1), .val (.ref a2), .val (.int p3)] []))
      refine Till.pre (fun _ hr => XS.aloadN X0.here hx rfl (hb hby d14_15) rfl rfl hr) ?_
      show Till p e below s (Q14 Z a1 a2 p3 z f g h0 n0) room14.cells room14.slots (s₁.setTop (mkF m 16 #[.val (.ref a1), .val (.ref a2), .val (.int p3)] [(.ref a1)]))
      refine Till.pre (fun _ hr => XS.iconst X0.here hx rfl (hb hby d14_16) hr) ?_
      show Till p e below s (Q14 Z a1 a2 p3 z f g h0 n0) room14.cells room14.slots (s₁.setTop (mkF m 17 #[.val (.ref a1), .val (.ref a2), .val (.int p3)] [(.int (0 : Int32)), (.ref a1)]))
      refine Till.laload R_a1 (by decide) (own_in0 hc1 hc2) X0 hx hZ e0 (hb hby d14_17) ?_
      show Till p e below s (Q14 Z a1 a2 p3 z f g h0 n0) room14.cells room14.slots (s₁.setTop (mkF m 18 #[.val (.ref a1), .val (.ref a2), .val (.int p3)] [(.long (f 0))]))
      refine Till.pre (fun _ hr => XS.aloadN X0.here hx rfl (hb hby d14_18) rfl rfl hr) ?_
      show Till p e below s (Q14 Z a1 a2 p3 z f g h0 n0) room14.cells room14.slots (s₁.setTop (mkF m 19 #[.val (.ref a1), .val (.ref a2), .val (.int p3)] [(.ref a2), (.long (f 0))]))
      refine Till.pre (fun _ hr => XS.iconst X0.here hx rfl (hb hby d14_19) hr) ?_
      show Till p e below s (Q14 Z a1 a2 p3 z f g h0 n0) room14.cells room14.slots (s₁.setTop (mkF m 20 #[.val (.ref a1), .val (.ref a2), .val (.int p3)] [(.int (0 : Int32)), (.ref a2), (.long (f 0))]))
      refine Till.laload R_a2 (by decide) (by decide) X0 hx hZ e0 (hb hby d14_20) ?_
      show Till p e below s (Q14 Z a1 a2 p3 z f g h0 n0) room14.cells room14.slots (s₁.setTop (mkF m 21 #[.val (.ref a1), .val (.ref a2), .val (.int p3)] [(.long (g 0)), (.long (f 0))]))
      refine Till.pre (fun _ hr => XS.lcmp X0.here hx rfl (hb hby d14_21) rfl hr) ?_
      show Till p e below s (Q14 Z a1 a2 p3 z f g h0 n0) room14.cells room14.slots (s₁.setTop (mkF m 22 #[.val (.ref a1), .val (.ref a2), .val (.int p3)] [(.int (lcmpW (f 0) (g 0)))]))
      refine Till.ifc (pc' := 59) X0.here hx (hb hby d14_22) (by decide) (by decide) (fun q => ?_) (fun q => ?_)
      · have hc9 := (mt lEq.mpr (hEq.2.2.1 q))
        show Till p e below s (Q14 Z a1 a2 p3 z f g h0 n0) room14.cells room14.slots (s₁.setTop (mkF m 59 #[.val (.ref a1), .val (.ref a2), .val (.int p3)] []))
        refine Till.pre (fun _ hr => XS.iconst X0.here hx rfl (hb hby d14_59) hr) ?_
        show Till p e below s (Q14 Z a1 a2 p3 z f g h0 n0) room14.cells room14.slots (s₁.setTop (mkF m 60 #[.val (.ref a1), .val (.ref a2), .val (.int p3)] [(.int (0 : Int32))]))
        exact J60_15 _ (Eq.symm ((if_pos hc1).trans ((if_neg hc2).trans (if_neg hc9))))
      · have hc9 := (lEq.mp (hEq.2.2.2 q))
        show Till p e below s (Q14 Z a1 a2 p3 z f g h0 n0) room14.cells room14.slots (s₁.setTop (mkF m 25 #[.val (.ref a1), .val (.ref a2), .val (.int p3)] []))
        refine Till.pre (fun _ hr => XS.iloadN X0.here hx rfl (hb hby d14_25) rfl hr) ?_
        show Till p e below s (Q14 Z a1 a2 p3 z f g h0 n0) room14.cells room14.slots (s₁.setTop (mkF m 26 #[.val (.ref a1), .val (.ref a2), .val (.int p3)] [(.int p3)]))
        refine Till.pre (fun _ hr => XS.iconst X0.here hx rfl (hb hby d14_26) hr) ?_
        show Till p e below s (Q14 Z a1 a2 p3 z f g h0 n0) room14.cells room14.slots (s₁.setTop (mkF m 27 #[.val (.ref a1), .val (.ref a2), .val (.int p3)] [(.int (2 : Int32)), (.int p3)]))
        refine Till.icmp (pc' := 40) X0.here hx (hb hby d14_27) (by decide) (by decide) (fun q => ?_) (fun q => ?_)
        · have hc10 := (hLt.1 q)
          show Till p e below s (Q14 Z a1 a2 p3 z f g h0 n0) room14.cells room14.slots (s₁.setTop (mkF m 40 #[.val (.ref a1), .val (.ref a2), .val (.int p3)] []))
          refine Till.pre (fun _ hr => XS.iloadN X0.here hx rfl (hb hby d14_40) rfl hr) ?_
          show Till p e below s (Q14 Z a1 a2 p3 z f g h0 n0) room14.cells room14.slots (s₁.setTop (mkF m 41 #[.val (.ref a1), .val (.ref a2), .val (.int p3)] [(.int p3)]))
          refine Till.pre (fun _ hr => XS.iconst X0.here hx rfl (hb hby d14_41) hr) ?_
          show Till p e below s (Q14 Z a1 a2 p3 z f g h0 n0) room14.cells room14.slots (s₁.setTop (mkF m 42 #[.val (.ref a1), .val (.ref a2), .val (.int p3)] [(.int (3 : Int32)), (.int p3)]))
          refine Till.icmp (pc' := 55) X0.here hx (hb hby d14_42) (by decide) (by decide) (fun q => ?_) (fun q => ?_)
          · have hc11 := (hLt.1 q)
            show Till p e below s (Q14 Z a1 a2 p3 z f g h0 n0) room14.cells room14.slots (s₁.setTop (mkF m 55 #[.val (.ref a1), .val (.ref a2), .val (.int p3)] []))
            refine Till.pre (fun _ hr => XS.iconst X0.here hx rfl (hb hby d14_55) hr) ?_
            show Till p e below s (Q14 Z a1 a2 p3 z f g h0 n0) room14.cells room14.slots (s₁.setTop (mkF m 56 #[.val (.ref a1), .val (.ref a2), .val (.int p3)] [(.int (1 : Int32))]))
            refine Till.pre (fun _ hr => XS.goto X0.here hx rfl (pc0 := 56) (pc' := 60) rfl (hb hby d14_56) (by decide) (by decide) hr) ?_
            show Till p e below s (Q14 Z a1 a2 p3 z f g h0 n0) room14.cells room14.slots (s₁.setTop (mkF m 60 #[.val (.ref a1), .val (.ref a2), .val (.int p3)] [(.int (1 : Int32))]))
            exact J60_15 _ (Eq.symm ((if_pos hc1).trans ((if_neg hc2).trans ((if_pos hc9).trans ((if_pos hc10).trans (if_pos hc11))))))
          · have hc11 := (hLt.2.1 q)
            show Till p e below s (Q14 Z a1 a2 p3 z f g h0 n0) room14.cells room14.slots (s₁.setTop (mkF m 45 #[.val (.ref a1), .val (.ref a2), .val (.int p3)] []))
            refine Till.pre (fun _ hr => XS.aloadN X0.here hx rfl (hb hby d14_45) rfl rfl hr) ?_
            show Till p e below s (Q14 Z a1 a2 p3 z f g h0 n0) room14.cells room14.slots (s₁.setTop (mkF m 46 #[.val (.ref a1), .val (.ref a2), .val (.int p3)] [(.ref a1)]))
            refine Till.pre (fun _ hr => XS.iconst X0.here hx rfl (hb hby d14_46) hr) ?_
            show Till p e below s (Q14 Z a1 a2 p3 z f g h0 n0) room14.cells room14.slots (s₁.setTop (mkF m 47 #[.val (.ref a1), .val (.ref a2), .val (.int p3)] [(.int (2 : Int32)), (.ref a1)]))
            refine Till.laload R_a1 (by decide) (own_in2 hc1 hc11) X0 hx hZ e0 (hb hby d14_47) ?_
            show Till p e below s (Q14 Z a1 a2 p3 z f g h0 n0) room14.cells room14.slots (s₁.setTop (mkF m 48 #[.val (.ref a1), .val (.ref a2), .val (.int p3)] [(.long (f 2))]))
            refine Till.pre (fun _ hr => XS.aloadN X0.here hx rfl (hb hby d14_48) rfl rfl hr) ?_
            show Till p e below s (Q14 Z a1 a2 p3 z f g h0 n0) room14.cells room14.slots (s₁.setTop (mkF m 49 #[.val (.ref a1), .val (.ref a2), .val (.int p3)] [(.ref a2), (.long (f 2))]))
            refine Till.pre (fun _ hr => XS.iconst X0.here hx rfl (hb hby d14_49) hr) ?_
            show Till p e below s (Q14 Z a1 a2 p3 z f g h0 n0) room14.cells room14.slots (s₁.setTop (mkF m 50 #[.val (.ref a1), .val (.ref a2), .val (.int p3)] [(.int (2 : Int32)), (.ref a2), (.long (f 2))]))
            refine Till.laload R_a2 (by decide) (by decide) X0 hx hZ e0 (hb hby d14_50) ?_
            show Till p e below s (Q14 Z a1 a2 p3 z f g h0 n0) room14.cells room14.slots (s₁.setTop (mkF m 51 #[.val (.ref a1), .val (.ref a2), .val (.int p3)] [(.long (g 2)), (.long (f 2))]))
            refine Till.pre (fun _ hr => XS.lcmp X0.here hx rfl (hb hby d14_51) rfl hr) ?_
            show Till p e below s (Q14 Z a1 a2 p3 z f g h0 n0) room14.cells room14.slots (s₁.setTop (mkF m 52 #[.val (.ref a1), .val (.ref a2), .val (.int p3)] [(.int (lcmpW (f 2) (g 2)))]))
            refine Till.ifc (pc' := 59) X0.here hx (hb hby d14_52) (by decide) (by decide) (fun q => ?_) (fun q => ?_)
            · have hc12 := (mt lEq.mpr (hEq.2.2.1 q))
              show Till p e below s (Q14 Z a1 a2 p3 z f g h0 n0) room14.cells room14.slots (s₁.setTop (mkF m 59 #[.val (.ref a1), .val (.ref a2), .val (.int p3)] []))
              refine Till.pre (fun _ hr => XS.iconst X0.here hx rfl (hb hby d14_59) hr) ?_
              show Till p e below s (Q14 Z a1 a2 p3 z f g h0 n0) room14.cells room14.slots (s₁.setTop (mkF m 60 #[.val (.ref a1), .val (.ref a2), .val (.int p3)] [(.int (0 : Int32))]))
              exact J60_15 _ (Eq.symm ((if_pos hc1).trans ((if_neg hc2).trans ((if_pos hc9).trans ((if_pos hc10).trans ((if_neg hc11).trans (if_neg hc12)))))))
            · have hc12 := (lEq.mp (hEq.2.2.2 q))
              show Till p e below s (Q14 Z a1 a2 p3 z f g h0 n0) room14.cells room14.slots (s₁.setTop (mkF m 55 #[.val (.ref a1), .val (.ref a2), .val (.int p3)] []))
              refine Till.pre (fun _ hr => XS.iconst X0.here hx rfl (hb hby d14_55) hr) ?_
              show Till p e below s (Q14 Z a1 a2 p3 z f g h0 n0) room14.cells room14.slots (s₁.setTop (mkF m 56 #[.val (.ref a1), .val (.ref a2), .val (.int p3)] [(.int (1 : Int32))]))
              refine Till.pre (fun _ hr => XS.goto X0.here hx rfl (pc0 := 56) (pc' := 60) rfl (hb hby d14_56) (by decide) (by decide) hr) ?_
              show Till p e below s (Q14 Z a1 a2 p3 z f g h0 n0) room14.cells room14.slots (s₁.setTop (mkF m 60 #[.val (.ref a1), .val (.ref a2), .val (.int p3)] [(.int (1 : Int32))]))
              exact J60_15 _ (Eq.symm ((if_pos hc1).trans ((if_neg hc2).trans ((if_pos hc9).trans ((if_pos hc10).trans ((if_neg hc11).trans (if_pos hc12)))))))
        · have hc10 := (hLt.2.1 q)
          show Till p e below s (Q14 Z a1 a2 p3 z f g h0 n0) room14.cells room14.slots (s₁.setTop (mkF m 30 #[.val (.ref a1), .val (.ref a2), .val (.int p3)] []))
          refine Till.pre (fun _ hr => XS.aloadN X0.here hx rfl (hb hby d14_30) rfl rfl hr) ?_
          show Till p e below s (Q14 Z a1 a2 p3 z f g h0 n0) room14.cells room14.slots (s₁.setTop (mkF m 31 #[.val (.ref a1), .val (.ref a2), .val (.int p3)] [(.ref a1)]))
          refine Till.pre (fun _ hr => XS.iconst X0.here hx rfl (hb hby d14_31) hr) ?_
          show Till p e below s (Q14 Z a1 a2 p3 z f g h0 n0) room14.cells room14.slots (s₁.setTop (mkF m 32 #[.val (.ref a1), .val (.ref a2), .val (.int p3)] [(.int (1 : Int32)), (.ref a1)]))
          refine Till.laload R_a1 (by decide) (own_in1 hc1 hc10) X0 hx hZ e0 (hb hby d14_32) ?_
          show Till p e below s (Q14 Z a1 a2 p3 z f g h0 n0) room14.cells room14.slots (s₁.setTop (mkF m 33 #[.val (.ref a1), .val (.ref a2), .val (.int p3)] [(.long (f 1))]))
          refine Till.pre (fun _ hr => XS.aloadN X0.here hx rfl (hb hby d14_33) rfl rfl hr) ?_
          show Till p e below s (Q14 Z a1 a2 p3 z f g h0 n0) room14.cells room14.slots (s₁.setTop (mkF m 34 #[.val (.ref a1), .val (.ref a2), .val (.int p3)] [(.ref a2), (.long (f 1))]))
          refine Till.pre (fun _ hr => XS.iconst X0.here hx rfl (hb hby d14_34) hr) ?_
          show Till p e below s (Q14 Z a1 a2 p3 z f g h0 n0) room14.cells room14.slots (s₁.setTop (mkF m 35 #[.val (.ref a1), .val (.ref a2), .val (.int p3)] [(.int (1 : Int32)), (.ref a2), (.long (f 1))]))
          refine Till.laload R_a2 (by decide) (by decide) X0 hx hZ e0 (hb hby d14_35) ?_
          show Till p e below s (Q14 Z a1 a2 p3 z f g h0 n0) room14.cells room14.slots (s₁.setTop (mkF m 36 #[.val (.ref a1), .val (.ref a2), .val (.int p3)] [(.long (g 1)), (.long (f 1))]))
          refine Till.pre (fun _ hr => XS.lcmp X0.here hx rfl (hb hby d14_36) rfl hr) ?_
          show Till p e below s (Q14 Z a1 a2 p3 z f g h0 n0) room14.cells room14.slots (s₁.setTop (mkF m 37 #[.val (.ref a1), .val (.ref a2), .val (.int p3)] [(.int (lcmpW (f 1) (g 1)))]))
          refine Till.ifc (pc' := 59) X0.here hx (hb hby d14_37) (by decide) (by decide) (fun q => ?_) (fun q => ?_)
          · have hc13 := (mt lEq.mpr (hEq.2.2.1 q))
            show Till p e below s (Q14 Z a1 a2 p3 z f g h0 n0) room14.cells room14.slots (s₁.setTop (mkF m 59 #[.val (.ref a1), .val (.ref a2), .val (.int p3)] []))
            refine Till.pre (fun _ hr => XS.iconst X0.here hx rfl (hb hby d14_59) hr) ?_
            show Till p e below s (Q14 Z a1 a2 p3 z f g h0 n0) room14.cells room14.slots (s₁.setTop (mkF m 60 #[.val (.ref a1), .val (.ref a2), .val (.int p3)] [(.int (0 : Int32))]))
            exact J60_15 _ (Eq.symm ((if_pos hc1).trans ((if_neg hc2).trans ((if_pos hc9).trans ((if_neg hc10).trans (if_neg hc13))))))
          · have hc13 := (lEq.mp (hEq.2.2.2 q))
            show Till p e below s (Q14 Z a1 a2 p3 z f g h0 n0) room14.cells room14.slots (s₁.setTop (mkF m 40 #[.val (.ref a1), .val (.ref a2), .val (.int p3)] []))
            refine Till.pre (fun _ hr => XS.iloadN X0.here hx rfl (hb hby d14_40) rfl hr) ?_
            show Till p e below s (Q14 Z a1 a2 p3 z f g h0 n0) room14.cells room14.slots (s₁.setTop (mkF m 41 #[.val (.ref a1), .val (.ref a2), .val (.int p3)] [(.int p3)]))
            refine Till.pre (fun _ hr => XS.iconst X0.here hx rfl (hb hby d14_41) hr) ?_
            show Till p e below s (Q14 Z a1 a2 p3 z f g h0 n0) room14.cells room14.slots (s₁.setTop (mkF m 42 #[.val (.ref a1), .val (.ref a2), .val (.int p3)] [(.int (3 : Int32)), (.int p3)]))
            refine Till.icmp (pc' := 55) X0.here hx (hb hby d14_42) (by decide) (by decide) (fun q => ?_) (fun q => ?_)
            · have hc14 := (hLt.1 q)
              show Till p e below s (Q14 Z a1 a2 p3 z f g h0 n0) room14.cells room14.slots (s₁.setTop (mkF m 55 #[.val (.ref a1), .val (.ref a2), .val (.int p3)] []))
              refine Till.pre (fun _ hr => XS.iconst X0.here hx rfl (hb hby d14_55) hr) ?_
              show Till p e below s (Q14 Z a1 a2 p3 z f g h0 n0) room14.cells room14.slots (s₁.setTop (mkF m 56 #[.val (.ref a1), .val (.ref a2), .val (.int p3)] [(.int (1 : Int32))]))
              refine Till.pre (fun _ hr => XS.goto X0.here hx rfl (pc0 := 56) (pc' := 60) rfl (hb hby d14_56) (by decide) (by decide) hr) ?_
              show Till p e below s (Q14 Z a1 a2 p3 z f g h0 n0) room14.cells room14.slots (s₁.setTop (mkF m 60 #[.val (.ref a1), .val (.ref a2), .val (.int p3)] [(.int (1 : Int32))]))
              exact J60_15 _ (Eq.symm ((if_pos hc1).trans ((if_neg hc2).trans ((if_pos hc9).trans ((if_neg hc10).trans ((if_pos hc13).trans (if_pos hc14)))))))
            · have hc14 := (hLt.2.1 q)
              show Till p e below s (Q14 Z a1 a2 p3 z f g h0 n0) room14.cells room14.slots (s₁.setTop (mkF m 45 #[.val (.ref a1), .val (.ref a2), .val (.int p3)] []))
              refine Till.pre (fun _ hr => XS.aloadN X0.here hx rfl (hb hby d14_45) rfl rfl hr) ?_
              show Till p e below s (Q14 Z a1 a2 p3 z f g h0 n0) room14.cells room14.slots (s₁.setTop (mkF m 46 #[.val (.ref a1), .val (.ref a2), .val (.int p3)] [(.ref a1)]))
              refine Till.pre (fun _ hr => XS.iconst X0.here hx rfl (hb hby d14_46) hr) ?_
              show Till p e below s (Q14 Z a1 a2 p3 z f g h0 n0) room14.cells room14.slots (s₁.setTop (mkF m 47 #[.val (.ref a1), .val (.ref a2), .val (.int p3)] [(.int (2 : Int32)), (.ref a1)]))
              refine Till.laload R_a1 (by decide) (own_in2 hc1 hc14) X0 hx hZ e0 (hb hby d14_47) ?_
              show Till p e below s (Q14 Z a1 a2 p3 z f g h0 n0) room14.cells room14.slots (s₁.setTop (mkF m 48 #[.val (.ref a1), .val (.ref a2), .val (.int p3)] [(.long (f 2))]))
              refine Till.pre (fun _ hr => XS.aloadN X0.here hx rfl (hb hby d14_48) rfl rfl hr) ?_
              show Till p e below s (Q14 Z a1 a2 p3 z f g h0 n0) room14.cells room14.slots (s₁.setTop (mkF m 49 #[.val (.ref a1), .val (.ref a2), .val (.int p3)] [(.ref a2), (.long (f 2))]))
              refine Till.pre (fun _ hr => XS.iconst X0.here hx rfl (hb hby d14_49) hr) ?_
              show Till p e below s (Q14 Z a1 a2 p3 z f g h0 n0) room14.cells room14.slots (s₁.setTop (mkF m 50 #[.val (.ref a1), .val (.ref a2), .val (.int p3)] [(.int (2 : Int32)), (.ref a2), (.long (f 2))]))
              refine Till.laload R_a2 (by decide) (by decide) X0 hx hZ e0 (hb hby d14_50) ?_
              show Till p e below s (Q14 Z a1 a2 p3 z f g h0 n0) room14.cells room14.slots (s₁.setTop (mkF m 51 #[.val (.ref a1), .val (.ref a2), .val (.int p3)] [(.long (g 2)), (.long (f 2))]))
              refine Till.pre (fun _ hr => XS.lcmp X0.here hx rfl (hb hby d14_51) rfl hr) ?_
              show Till p e below s (Q14 Z a1 a2 p3 z f g h0 n0) room14.cells room14.slots (s₁.setTop (mkF m 52 #[.val (.ref a1), .val (.ref a2), .val (.int p3)] [(.int (lcmpW (f 2) (g 2)))]))
              refine Till.ifc (pc' := 59) X0.here hx (hb hby d14_52) (by decide) (by decide) (fun q => ?_) (fun q => ?_)
              · have hc15 := (mt lEq.mpr (hEq.2.2.1 q))
                show Till p e below s (Q14 Z a1 a2 p3 z f g h0 n0) room14.cells room14.slots (s₁.setTop (mkF m 59 #[.val (.ref a1), .val (.ref a2), .val (.int p3)] []))
                refine Till.pre (fun _ hr => XS.iconst X0.here hx rfl (hb hby d14_59) hr) ?_
                show Till p e below s (Q14 Z a1 a2 p3 z f g h0 n0) room14.cells room14.slots (s₁.setTop (mkF m 60 #[.val (.ref a1), .val (.ref a2), .val (.int p3)] [(.int (0 : Int32))]))
                exact J60_15 _ (Eq.symm ((if_pos hc1).trans ((if_neg hc2).trans ((if_pos hc9).trans ((if_neg hc10).trans ((if_pos hc13).trans ((if_neg hc14).trans (if_neg hc15))))))))
              · have hc15 := (lEq.mp (hEq.2.2.2 q))
                show Till p e below s (Q14 Z a1 a2 p3 z f g h0 n0) room14.cells room14.slots (s₁.setTop (mkF m 55 #[.val (.ref a1), .val (.ref a2), .val (.int p3)] []))
                refine Till.pre (fun _ hr => XS.iconst X0.here hx rfl (hb hby d14_55) hr) ?_
                show Till p e below s (Q14 Z a1 a2 p3 z f g h0 n0) room14.cells room14.slots (s₁.setTop (mkF m 56 #[.val (.ref a1), .val (.ref a2), .val (.int p3)] [(.int (1 : Int32))]))
                refine Till.pre (fun _ hr => XS.goto X0.here hx rfl (pc0 := 56) (pc' := 60) rfl (hb hby d14_56) (by decide) (by decide) hr) ?_
                show Till p e below s (Q14 Z a1 a2 p3 z f g h0 n0) room14.cells room14.slots (s₁.setTop (mkF m 60 #[.val (.ref a1), .val (.ref a2), .val (.int p3)] [(.int (1 : Int32))]))
                exact J60_15 _ (Eq.symm ((if_pos hc1).trans ((if_neg hc2).trans ((if_pos hc9).trans ((if_neg hc10).trans ((if_pos hc13).trans ((if_neg hc14).trans (if_pos hc15))))))))
theorem own_same {p : Int32} {f g : Nat → Int64} (hp : 0 ≤ p.toInt ∧ p.toInt ≤ 3) (h : ∀ i, i < p.toNatClampNeg → f i = g i) : fn14 p p f g = 1 := by
  have hn : p.toNatClampNeg = p.toInt.toNat := rfl
  have e0 : ¬ p < (1 : Int32) → f 0 = g 0 := fun q => h 0 (by rw [Int32.lt_iff_toInt_lt, show (1 : Int32).toInt = 1 from rfl] at q; omega)
  have e1 : ¬ p < (2 : Int32) → f 1 = g 1 := fun q => h 1 (by rw [Int32.lt_iff_toInt_lt, show (2 : Int32).toInt = 2 from rfl] at q; omega)
  have e2 : ¬ p < (3 : Int32) → f 2 = g 2 := fun q => h 2 (by rw [Int32.lt_iff_toInt_lt, show (3 : Int32).toInt = 3 from rfl] at q; omega)
  unfold fn14
  rw [if_pos rfl]
  repeat' split
  all_goals first | rfl | exact absurd (e0 ‹¬ p < (1 : Int32)›) ‹¬ f 0 = g 0› | exact absurd (e1 ‹¬ p < (2 : Int32)›) ‹¬ f 1 = g 1› | exact absurd (e2 ‹¬ p < (3 : Int32)›) ‹¬ f 2 = g 2›
theorem own_n4 {x n : Int32} (h : x &&& (3 : Int32) = n) : 0 ≤ n.toInt ∧ n.toInt ≤ 3 := by
  have := c_mask x 3 2 (by decide) (by decide)
  rw [h] at this
  omega
theorem own_usv {n us : Int32} (h : (0 : Int32) + ((1 : Int32) + n) = us) (hn : 0 ≤ n.toInt ∧ n.toInt ≤ 3) : us.toInt = 1 + n.toInt := by
  have a := c_iadd 1 n
  have r := rng32 (1 + n)
  have e : (1 : Int32).toInt = 1 := rfl
  rw [Int32.zero_add] at h
  rw [← h]; omega
theorem own_us {n us : Int32} (h : (0 : Int32) + ((1 : Int32) + n) = us) (hn : 0 ≤ n.toInt ∧ n.toInt ≤ 3) : 0 ≤ us.toInt ∧ us.toInt ≤ 10 := by have := own_usv h hn; omega
theorem own_us8 {n us : Int32} (h : (0 : Int32) + ((1 : Int32) + n) = us) (hn : 0 ≤ n.toInt ∧ n.toInt ≤ 3) : 0 ≤ us.toInt ∧ us.toInt ≤ 8 := by have := own_usv h hn; omega
section Map
variable {m : Int64 → Int64} {a b c s t : Int64}
theorem own_mA (h : b = a) : own_um (own_um m a s) b t a = t := if_pos h.symm
theorem own_mB (h : ¬ b = a) : own_um (own_um m a s) b t a = s := (if_neg fun q => h q.symm).trans (if_pos rfl)
theorem own_m2 : own_um (own_um m a s) b t b = t := if_pos rfl
theorem own_m3B (h : c = b) : own_um (own_um m a s) b t c = t := if_pos h
theorem own_m3C (h : ¬ c = b) (h' : c = a) : own_um (own_um m a s) b t c = s := (if_neg h).trans (if_pos h')
theorem own_m3n (h : ¬ c = b) (h' : ¬ c = a) : own_um (own_um (fun _ => own_ABS) a s) b t c = own_ABS := (if_neg h).trans (if_neg h')
end Map
section Lists
variable {A1 A2 u1 u2 : Nat → Int64} {n1 n2 us : Int32}
theorem own_nats (hu : (0 : Int32) + ((1 : Int32) + n1) = us) (h1 : 0 ≤ n1.toInt ∧ n1.toInt ≤ 3) : us.toNatClampNeg = 1 + n1.toNatClampNeg ∧ (us + (1 : Int32)).toNatClampNeg = 2 + n1.toNatClampNeg := by
  have a := own_usv hu h1
  have b := own_x1 (own_us hu h1)
  simp only [Int32.toNatClampNeg]; omega
theorem own_u1v (e1 : cpy A1 (oupd (fun _ => (0 : Int64)) ((0 : Int32)).toNatClampNeg n1.toInt64) 0 ((1 : Int32)).toNatClampNeg (n1).toNatClampNeg = u1) : u1 0 = n1.toInt64 ∧ ∀ i, i < n1.toNatClampNeg → u1 (1 + i) = A1 i := by
  rw [← e1]
  constructor
  · show (if 1 ≤ 0 ∧ _ then _ else oupd (fun _ => (0 : Int64)) 0 n1.toInt64 0) = _
    rw [if_neg (by omega)]; rfl
  · intro i hi
    show (if 1 ≤ 1 + i ∧ 1 + i < 1 + n1.toNatClampNeg then A1 (0 + (1 + i - 1)) else _) = _
    rw [if_pos ⟨by omega, by omega⟩, show 0 + (1 + i - 1) = i by omega]
theorem own_u2v (hu : (0 : Int32) + ((1 : Int32) + n1) = us) (h1 : 0 ≤ n1.toInt ∧ n1.toInt ≤ 3) (e2 : cpy A2 (oupd u1 (us).toNatClampNeg n2.toInt64) 0 ((us + (1 : Int32))).toNatClampNeg (n2).toNatClampNeg = u2) : u2 us.toNatClampNeg = n2.toInt64 ∧ (∀ i, i < us.toNatClampNeg → u2 i = u1 i) ∧ ∀ i, i < n2.toNatClampNeg → u2 ((us + (1 : Int32)).toNatClampNeg + i) = A2 i := by
  obtain ⟨q1, q2⟩ := own_nats hu h1
  rw [← e2]
  refine ⟨?_, fun i hi => ?_, fun i hi => ?_⟩
  · show (if (us + (1 : Int32)).toNatClampNeg ≤ us.toNatClampNeg ∧ _ then _ else oupd u1 us.toNatClampNeg n2.toInt64 us.toNatClampNeg) = _
    rw [if_neg (by omega)]; exact upd_hit rfl
  · show (if (us + (1 : Int32)).toNatClampNeg ≤ i ∧ _ then _ else oupd u1 us.toNatClampNeg n2.toInt64 i) = _
    rw [if_neg (by omega)]; exact upd_miss (by omega)
  · show (if (us + (1 : Int32)).toNatClampNeg ≤ (us + (1 : Int32)).toNatClampNeg + i ∧ (us + (1 : Int32)).toNatClampNeg + i < (us + (1 : Int32)).toNatClampNeg + n2.toNatClampNeg then A2 (0 + ((us + (1 : Int32)).toNatClampNeg + i - (us + (1 : Int32)).toNatClampNeg)) else _) = _
    rw [if_pos ⟨by omega, by omega⟩, show 0 + ((us + (1 : Int32)).toNatClampNeg + i - (us + (1 : Int32)).toNatClampNeg) = i by omega]
theorem own_c1 (hu : (0 : Int32) + ((1 : Int32) + n1) = us) (h1 : 0 ≤ n1.toInt ∧ n1.toInt ≤ 3) (e1 : cpy A1 (oupd (fun _ => (0 : Int64)) ((0 : Int32)).toNatClampNeg n1.toInt64) 0 ((1 : Int32)).toNatClampNeg (n1).toNatClampNeg = u1) (e2 : cpy A2 (oupd u1 (us).toNatClampNeg n2.toInt64) 0 ((us + (1 : Int32))).toNatClampNeg (n2).toNatClampNeg = u2) : u2 ((0 : Int32)).toNatClampNeg = n1.toInt64 := by
  have a := (own_u2v hu h1 e2).2.1 0 (by rw [(own_nats hu h1).1]; omega)
  exact a.trans (own_u1v e1).1
theorem own_c2 (hu : (0 : Int32) + ((1 : Int32) + n1) = us) (h1 : 0 ≤ n1.toInt ∧ n1.toInt ≤ 3) (e2 : cpy A2 (oupd u1 (us).toNatClampNeg n2.toInt64) 0 ((us + (1 : Int32))).toNatClampNeg (n2).toNatClampNeg = u2) : u2 (us).toNatClampNeg = n2.toInt64 := (own_u2v hu h1 e2).1
theorem own_s1 (hu : (0 : Int32) + ((1 : Int32) + n1) = us) (h1 : 0 ≤ n1.toInt ∧ n1.toInt ≤ 3) (e1 : cpy A1 (oupd (fun _ => (0 : Int64)) ((0 : Int32)).toNatClampNeg n1.toInt64) 0 ((1 : Int32)).toNatClampNeg (n1).toNatClampNeg = u1) (e2 : cpy A2 (oupd u1 (us).toNatClampNeg n2.toInt64) 0 ((us + (1 : Int32))).toNatClampNeg (n2).toNatClampNeg = u2) : fn14 n1 n1 (fun i => u2 (((1 : Int32)).toNatClampNeg + i)) A1 = 1 :=
  own_same h1 fun i hi => ((own_u2v hu h1 e2).2.1 (1 + i) (by rw [(own_nats hu h1).1]; omega)).trans ((own_u1v e1).2 i hi)
theorem own_s2 (hu : (0 : Int32) + ((1 : Int32) + n1) = us) (h1 : 0 ≤ n1.toInt ∧ n1.toInt ≤ 3) (h2 : 0 ≤ n2.toInt ∧ n2.toInt ≤ 3) (e2 : cpy A2 (oupd u1 (us).toNatClampNeg n2.toInt64) 0 ((us + (1 : Int32))).toNatClampNeg (n2).toNatClampNeg = u2) : fn14 n2 n2 (fun i => u2 (((us + (1 : Int32))).toNatClampNeg + i)) A2 = 1 :=
  own_same h2 fun i hi => (own_u2v hu h1 e2).2.2 i hi
end Lists
theorem pd0_0 : parseMethodDescriptor "()V" = some ⟨[], none⟩ := by decide +kernel
theorem pd0_6 : parseMethodDescriptor "(J)[J" = some ⟨[.long], some (.array .long)⟩ := by decide +kernel
theorem pd0_8 : parseMethodDescriptor "(J[JI)V" = some ⟨[.long, (.array .long), .int], none⟩ := by decide +kernel
theorem pd0_12 : parseMethodDescriptor "([J[JI)Z" = some ⟨[(.array .long), (.array .long), .int], some .boolean⟩ := by decide +kernel
theorem ef_0 (m : MethodId) (q1 : Int64) (q2 : Int64) (q3 : Int64) (q4 : Int64) (q5 : Int64) (p6 : Int32) : entryFrame m #[(.long q1), (.long q2), (.long q3), (.long q4), (.long q5), (.int p6)] maxLocals = mkF m 0 #[.val (.long q1), .second, .val (.long q2), .second, .val (.long q3), .second, .val (.long q4), .second, .val (.long q5), .second, .val (.int p6), .unset, .unset, .unset, .unset, .unset, .unset, .unset, .unset, .unset, .unset, .unset, .unset, .unset, .unset, .unset, .unset] [] := by first | (simp [entryFrame, mkF, argsToLocals, Value.category, maxLocals]; done) | rfl
def Q0 (Z : State) (q1 : Int64) (q2 : Int64) (q3 : Int64) (q4 : Int64) (q5 : Int64) (p6 : Int32) (h0 : Heap) (n0 : Nat) : Option Value → Heap → List Loc → Prop := fun v h L => v = some (.int 1) ∧ Fr n0 L
set_option maxRecDepth 65536 in
set_option maxHeartbeats 40000000 in
theorem rm0 (l : Launch) (Z : State) (a0 : Array Value) (hw : ∀ d ∈ tables_1, d.before a0 Z = true) (q1 : Int64) (q2 : Int64) (q3 : Int64) (q4 : Int64) (q5 : Int64) (p6 : Int32) (h0 : Heap) (n0 : Nat) (Zs : n0 ≤ h0.size) : Ctr l Z x code maxLocals ret room_1 #[(.long q1), (.long q2), (.long q3), (.long q4), (.long q5), (.int p6)] h0 (Q0 Z q1 q2 q3 q4 q5 p6 h0 n0) := by
  refine Ctr.of (plainFor_of_name pn_14) ?_
  intro p e s m below meth c s₁ hx hby hml hown hnm hret hlk hZ e0 X0
  have hown : s.vm.findClass "com/example/tour/tour/io/WayNodesFindPinLaw" = some m.cls := hown
  have hml : c.maxLocals = 27 := hml
  have hnm : meth.name = "law" := hnm
  have hret : meth.sig.returnType = (some .boolean) := hret
  have N0 := Fr.nil n0
  refine Till.cast (ef_0 m q1 q2 q3 q4 q5 p6) ?_
  show Till p e below s (Q0 Z q1 q2 q3 q4 q5 p6 h0 n0) room_1.cells room_1.slots (s₁.setTop (mkF m 0 #[.val (.long q1), .second, .val (.long q2), .second, .val (.long q3), .second, .val (.long q4), .second, .val (.long q5), .second, .val (.int p6), .unset, .unset, .unset, .unset, .unset, .unset, .unset, .unset, .unset, .unset, .unset, .unset, .unset, .unset, .unset, .unset] []))
  refine Till.pre (fun _ hr => XS.iconst X0.here hx rfl (hb hby at_0) hr) ?_
  show Till p e below s (Q0 Z q1 q2 q3 q4 q5 p6 h0 n0) room_1.cells room_1.slots (s₁.setTop (mkF m 1 #[.val (.long q1), .second, .val (.long q2), .second, .val (.long q3), .second, .val (.long q4), .second, .val (.long q5), .second, .val (.int p6), .unset, .unset, .unset, .unset, .unset, .unset, .unset, .unset, .unset, .unset, .unset, .unset, .unset, .unset, .unset, .unset] [(.int (3 : Int32))]))
  refine Till.newA (aty := .long) (w := Value.long) (d0 := (0 : Int64)) X0 hx hZ (hw _ (List.mem_of_getElem? (i := 0) rfl)) e0 (hb hby at_1) rfl (by decide) 3 (by decide) (by decide) (by decide) (by decide) (fun T1 h2 b3 g4 X5 e6 E7 A8 => ?_)
  have g_b3 : n0 ≤ b3 := Nat.le_trans Zs (Nat.le_of_eq g4.symm)
  have Zs := Nat.le_trans Zs E7.1
  have R_b3 : LA Z h2 b3 (3 : Int32) (fun _ => (0 : Int64)) := A8
  show Till p e below s (Q0 Z q1 q2 q3 q4 q5 p6 h0 n0) room_1.cells room_1.slots (T1.setTop (mkF m 3 #[.val (.long q1), .second, .val (.long q2), .second, .val (.long q3), .second, .val (.long q4), .second, .val (.long q5), .second, .val (.int p6), .unset, .unset, .unset, .unset, .unset, .unset, .unset, .unset, .unset, .unset, .unset, .unset, .unset, .unset, .unset, .unset] [(.ref b3)]))
  refine Till.pre (fun _ hr => XS.dup X5.here hx rfl (hb hby at_3) rfl rfl hr) ?_
  show Till p e below s (Q0 Z q1 q2 q3 q4 q5 p6 h0 n0) room_1.cells room_1.slots (T1.setTop (mkF m 4 #[.val (.long q1), .second, .val (.long q2), .second, .val (.long q3), .second, .val (.long q4), .second, .val (.long q5), .second, .val (.int p6), .unset, .unset, .unset, .unset, .unset, .unset, .unset, .unset, .unset, .unset, .unset, .unset, .unset, .unset, .unset, .unset] [(.ref b3), (.ref b3)]))
  refine Till.pre (fun _ hr => XS.iconst X5.here hx rfl (hb hby at_4) hr) ?_
  show Till p e below s (Q0 Z q1 q2 q3 q4 q5 p6 h0 n0) room_1.cells room_1.slots (T1.setTop (mkF m 5 #[.val (.long q1), .second, .val (.long q2), .second, .val (.long q3), .second, .val (.long q4), .second, .val (.long q5), .second, .val (.int p6), .unset, .unset, .unset, .unset, .unset, .unset, .unset, .unset, .unset, .unset, .unset, .unset, .unset, .unset, .unset, .unset] [(.int (0 : Int32)), (.ref b3), (.ref b3)]))
  refine Till.pre (fun _ hr => XS.lload X5.here hx rfl (hb hby at_5) rfl hr) ?_
  show Till p e below s (Q0 Z q1 q2 q3 q4 q5 p6 h0 n0) room_1.cells room_1.slots (T1.setTop (mkF m 7 #[.val (.long q1), .second, .val (.long q2), .second, .val (.long q3), .second, .val (.long q4), .second, .val (.long q5), .second, .val (.int p6), .unset, .unset, .unset, .unset, .unset, .unset, .unset, .unset, .unset, .unset, .unset, .unset, .unset, .unset, .unset, .unset] [(.long q4), (.int (0 : Int32)), (.ref b3), (.ref b3)]))
  refine Till.lastore R_b3 (by decide) (by decide) X5 hx hZ e6 (hb hby at_7) (fun T9 h10 X11 e12 W13 A14 => ?_)
  have N15 := Fr.snoc X11 N0 g_b3
  have Zs := Nat.le_trans Zs (Keep.of_wr W13).1
  have R_b3 : LA Z h10 b3 (3 : Int32) (oupd (fun _ => (0 : Int64)) 0 q4) := A14
  show Till p e below s (Q0 Z q1 q2 q3 q4 q5 p6 h0 n0) room_1.cells room_1.slots (T9.setTop (mkF m 8 #[.val (.long q1), .second, .val (.long q2), .second, .val (.long q3), .second, .val (.long q4), .second, .val (.long q5), .second, .val (.int p6), .unset, .unset, .unset, .unset, .unset, .unset, .unset, .unset, .unset, .unset, .unset, .unset, .unset, .unset, .unset, .unset] [(.ref b3)]))
  refine Till.pre (fun _ hr => XS.dup X11.here hx rfl (hb hby at_8) rfl rfl hr) ?_
  show Till p e below s (Q0 Z q1 q2 q3 q4 q5 p6 h0 n0) room_1.cells room_1.slots (T9.setTop (mkF m 9 #[.val (.long q1), .second, .val (.long q2), .second, .val (.long q3), .second, .val (.long q4), .second, .val (.long q5), .second, .val (.int p6), .unset, .unset, .unset, .unset, .unset, .unset, .unset, .unset, .unset, .unset, .unset, .unset, .unset, .unset, .unset, .unset] [(.ref b3), (.ref b3)]))
  refine Till.pre (fun _ hr => XS.iconst X11.here hx rfl (hb hby at_9) hr) ?_
  show Till p e below s (Q0 Z q1 q2 q3 q4 q5 p6 h0 n0) room_1.cells room_1.slots (T9.setTop (mkF m 10 #[.val (.long q1), .second, .val (.long q2), .second, .val (.long q3), .second, .val (.long q4), .second, .val (.long q5), .second, .val (.int p6), .unset, .unset, .unset, .unset, .unset, .unset, .unset, .unset, .unset, .unset, .unset, .unset, .unset, .unset, .unset, .unset] [(.int (1 : Int32)), (.ref b3), (.ref b3)]))
  refine Till.pre (fun _ hr => XS.lload X11.here hx rfl (hb hby at_10) rfl hr) ?_
  show Till p e below s (Q0 Z q1 q2 q3 q4 q5 p6 h0 n0) room_1.cells room_1.slots (T9.setTop (mkF m 12 #[.val (.long q1), .second, .val (.long q2), .second, .val (.long q3), .second, .val (.long q4), .second, .val (.long q5), .second, .val (.int p6), .unset, .unset, .unset, .unset, .unset, .unset, .unset, .unset, .unset, .unset, .unset, .unset, .unset, .unset, .unset, .unset] [(.long q5), (.int (1 : Int32)), (.ref b3), (.ref b3)]))
  refine Till.lastore R_b3 (by decide) (by decide) X11 hx hZ e12 (hb hby at_12) (fun T16 h17 X18 e19 W20 A21 => ?_)
  have N22 := Fr.snoc X18 N15 g_b3
  have Zs := Nat.le_trans Zs (Keep.of_wr W20).1
  have R_b3 : LA Z h17 b3 (3 : Int32) (oupd (oupd (fun _ => (0 : Int64)) 0 q4) 1 q5) := A21
  show Till p e below s (Q0 Z q1 q2 q3 q4 q5 p6 h0 n0) room_1.cells room_1.slots (T16.setTop (mkF m 13 #[.val (.long q1), .second, .val (.long q2), .second, .val (.long q3), .second, .val (.long q4), .second, .val (.long q5), .second, .val (.int p6), .unset, .unset, .unset, .unset, .unset, .unset, .unset, .unset, .unset, .unset, .unset, .unset, .unset, .unset, .unset, .unset] [(.ref b3)]))
  refine Till.pre (fun _ hr => XS.dup X18.here hx rfl (hb hby at_13) rfl rfl hr) ?_
  show Till p e below s (Q0 Z q1 q2 q3 q4 q5 p6 h0 n0) room_1.cells room_1.slots (T16.setTop (mkF m 14 #[.val (.long q1), .second, .val (.long q2), .second, .val (.long q3), .second, .val (.long q4), .second, .val (.long q5), .second, .val (.int p6), .unset, .unset, .unset, .unset, .unset, .unset, .unset, .unset, .unset, .unset, .unset, .unset, .unset, .unset, .unset, .unset] [(.ref b3), (.ref b3)]))
  refine Till.pre (fun _ hr => XS.iconst X18.here hx rfl (hb hby at_14) hr) ?_
  show Till p e below s (Q0 Z q1 q2 q3 q4 q5 p6 h0 n0) room_1.cells room_1.slots (T16.setTop (mkF m 15 #[.val (.long q1), .second, .val (.long q2), .second, .val (.long q3), .second, .val (.long q4), .second, .val (.long q5), .second, .val (.int p6), .unset, .unset, .unset, .unset, .unset, .unset, .unset, .unset, .unset, .unset, .unset, .unset, .unset, .unset, .unset, .unset] [(.int (2 : Int32)), (.ref b3), (.ref b3)]))
  refine Till.pre (fun _ hr => XS.lload X18.here hx rfl (hb hby at_15) rfl hr) ?_
  show Till p e below s (Q0 Z q1 q2 q3 q4 q5 p6 h0 n0) room_1.cells room_1.slots (T16.setTop (mkF m 17 #[.val (.long q1), .second, .val (.long q2), .second, .val (.long q3), .second, .val (.long q4), .second, .val (.long q5), .second, .val (.int p6), .unset, .unset, .unset, .unset, .unset, .unset, .unset, .unset, .unset, .unset, .unset, .unset, .unset, .unset, .unset, .unset] [(.long q4), (.int (2 : Int32)), (.ref b3), (.ref b3)]))
  refine Till.pre (X18.ldc2Long hx hown (mvT hZ (hw _ (List.mem_of_getElem? (i := 1) rfl))) (g := (mkF m 17 #[.val (.long q1), .second, .val (.long q2), .second, .val (.long q3), .second, .val (.long q4), .second, .val (.long q5), .second, .val (.int p6), .unset, .unset, .unset, .unset, .unset, .unset, .unset, .unset, .unset, .unset, .unset, .unset, .unset, .unset, .unset, .unset] [(.long q4), (.int (2 : Int32)), (.ref b3), (.ref b3)])) rfl (hb hby at_17)) ?_
  show Till p e below s (Q0 Z q1 q2 q3 q4 q5 p6 h0 n0) room_1.cells room_1.slots (T16.setTop (mkF m 20 #[.val (.long q1), .second, .val (.long q2), .second, .val (.long q3), .second, .val (.long q4), .second, .val (.long q5), .second, .val (.int p6), .unset, .unset, .unset, .unset, .unset, .unset, .unset, .unset, .unset, .unset, .unset, .unset, .unset, .unset, .unset, .unset] [(.long (-1 : Int64)), (.long q4), (.int (2 : Int32)), (.ref b3), (.ref b3)]))
  refine Till.pre (fun _ hr => XS.lxor X18.here hx rfl (hb hby at_20) rfl hr) ?_
  show Till p e below s (Q0 Z q1 q2 q3 q4 q5 p6 h0 n0) room_1.cells room_1.slots (T16.setTop (mkF m 21 #[.val (.long q1), .second, .val (.long q2), .second, .val (.long q3), .second, .val (.long q4), .second, .val (.long q5), .second, .val (.int p6), .unset, .unset, .unset, .unset, .unset, .unset, .unset, .unset, .unset, .unset, .unset, .unset, .unset, .unset, .unset, .unset] [(.long (q4 ^^^ (-1 : Int64))), (.int (2 : Int32)), (.ref b3), (.ref b3)]))
  refine Till.lastore R_b3 (by decide) (by decide) X18 hx hZ e19 (hb hby at_21) (fun T23 h24 X25 e26 W27 A28 => ?_)
  have N29 := Fr.snoc X25 N22 g_b3
  have Zs := Nat.le_trans Zs (Keep.of_wr W27).1
  have R_b3 : LA Z h24 b3 (3 : Int32) (oupd (oupd (oupd (fun _ => (0 : Int64)) 0 q4) 1 q5) 2 (q4 ^^^ (-1 : Int64))) := A28
  show Till p e below s (Q0 Z q1 q2 q3 q4 q5 p6 h0 n0) room_1.cells room_1.slots (T23.setTop (mkF m 22 #[.val (.long q1), .second, .val (.long q2), .second, .val (.long q3), .second, .val (.long q4), .second, .val (.long q5), .second, .val (.int p6), .unset, .unset, .unset, .unset, .unset, .unset, .unset, .unset, .unset, .unset, .unset, .unset, .unset, .unset, .unset, .unset] [(.ref b3)]))
  refine Till.pre (fun _ hr => XS.astore X25.here hx rfl (hb hby at_22) rfl rfl (l' := #[.val (.long q1), .second, .val (.long q2), .second, .val (.long q3), .second, .val (.long q4), .second, .val (.long q5), .second, .val (.int p6), .val (.ref b3), .unset, .unset, .unset, .unset, .unset, .unset, .unset, .unset, .unset, .unset, .unset, .unset, .unset, .unset, .unset]) rfl hr) ?_
  show Till p e below s (Q0 Z q1 q2 q3 q4 q5 p6 h0 n0) room_1.cells room_1.slots (T23.setTop (mkF m 24 #[.val (.long q1), .second, .val (.long q2), .second, .val (.long q3), .second, .val (.long q4), .second, .val (.long q5), .second, .val (.int p6), .val (.ref b3), .unset, .unset, .unset, .unset, .unset, .unset, .unset, .unset, .unset, .unset, .unset, .unset, .unset, .unset, .unset] []))
  refine Till.pre (fun _ hr => XS.iconst X25.here hx rfl (hb hby at_24) hr) ?_
  show Till p e below s (Q0 Z q1 q2 q3 q4 q5 p6 h0 n0) room_1.cells room_1.slots (T23.setTop (mkF m 25 #[.val (.long q1), .second, .val (.long q2), .second, .val (.long q3), .second, .val (.long q4), .second, .val (.long q5), .second, .val (.int p6), .val (.ref b3), .unset, .unset, .unset, .unset, .unset, .unset, .unset, .unset, .unset, .unset, .unset, .unset, .unset, .unset, .unset] [(.int (3 : Int32))]))
  refine Till.newA (aty := .long) (w := Value.long) (d0 := (0 : Int64)) X25 hx hZ (hw _ (List.mem_of_getElem? (i := 0) rfl)) e26 (hb hby at_25) rfl (by decide) 3 (by decide) (by decide) (by decide) (by decide) (fun T30 h31 b32 g33 X34 e35 E36 A37 => ?_)
  have ne_b3_b32 : b3 ≠ b32 := Nat.ne_of_lt (Nat.lt_of_lt_of_le R_b3.lt (Nat.le_of_eq g33.symm))
  have g_b32 : n0 ≤ b32 := Nat.le_trans Zs (Nat.le_of_eq g33.symm)
  have R_b3 := R_b3.ext E36
  have Zs := Nat.le_trans Zs E36.1
  have R_b32 : LA Z h31 b32 (3 : Int32) (fun _ => (0 : Int64)) := A37
  show Till p e below s (Q0 Z q1 q2 q3 q4 q5 p6 h0 n0) room_1.cells room_1.slots (T30.setTop (mkF m 27 #[.val (.long q1), .second, .val (.long q2), .second, .val (.long q3), .second, .val (.long q4), .second, .val (.long q5), .second, .val (.int p6), .val (.ref b3), .unset, .unset, .unset, .unset, .unset, .unset, .unset, .unset, .unset, .unset, .unset, .unset, .unset, .unset, .unset] [(.ref b32)]))
  refine Till.pre (fun _ hr => XS.dup X34.here hx rfl (hb hby at_27) rfl rfl hr) ?_
  show Till p e below s (Q0 Z q1 q2 q3 q4 q5 p6 h0 n0) room_1.cells room_1.slots (T30.setTop (mkF m 28 #[.val (.long q1), .second, .val (.long q2), .second, .val (.long q3), .second, .val (.long q4), .second, .val (.long q5), .second, .val (.int p6), .val (.ref b3), .unset, .unset, .unset, .unset, .unset, .unset, .unset, .unset, .unset, .unset, .unset, .unset, .unset, .unset, .unset] [(.ref b32), (.ref b32)]))
  refine Till.pre (fun _ hr => XS.iconst X34.here hx rfl (hb hby at_28) hr) ?_
  show Till p e below s (Q0 Z q1 q2 q3 q4 q5 p6 h0 n0) room_1.cells room_1.slots (T30.setTop (mkF m 29 #[.val (.long q1), .second, .val (.long q2), .second, .val (.long q3), .second, .val (.long q4), .second, .val (.long q5), .second, .val (.int p6), .val (.ref b3), .unset, .unset, .unset, .unset, .unset, .unset, .unset, .unset, .unset, .unset, .unset, .unset, .unset, .unset, .unset] [(.int (0 : Int32)), (.ref b32), (.ref b32)]))
  refine Till.pre (fun _ hr => XS.lload X34.here hx rfl (hb hby at_29) rfl hr) ?_
  show Till p e below s (Q0 Z q1 q2 q3 q4 q5 p6 h0 n0) room_1.cells room_1.slots (T30.setTop (mkF m 31 #[.val (.long q1), .second, .val (.long q2), .second, .val (.long q3), .second, .val (.long q4), .second, .val (.long q5), .second, .val (.int p6), .val (.ref b3), .unset, .unset, .unset, .unset, .unset, .unset, .unset, .unset, .unset, .unset, .unset, .unset, .unset, .unset, .unset] [(.long q5), (.int (0 : Int32)), (.ref b32), (.ref b32)]))
  refine Till.lastore R_b32 (by decide) (by decide) X34 hx hZ e35 (hb hby at_31) (fun T38 h39 X40 e41 W42 A43 => ?_)
  have N44 := Fr.snoc X40 N29 g_b32
  have R_b3 := R_b3.wr W42 ne_b3_b32
  have Zs := Nat.le_trans Zs (Keep.of_wr W42).1
  have R_b32 : LA Z h39 b32 (3 : Int32) (oupd (fun _ => (0 : Int64)) 0 q5) := A43
  show Till p e below s (Q0 Z q1 q2 q3 q4 q5 p6 h0 n0) room_1.cells room_1.slots (T38.setTop (mkF m 32 #[.val (.long q1), .second, .val (.long q2), .second, .val (.long q3), .second, .val (.long q4), .second, .val (.long q5), .second, .val (.int p6), .val (.ref b3), .unset, .unset, .unset, .unset, .unset, .unset, .unset, .unset, .unset, .unset, .unset, .unset, .unset, .unset, .unset] [(.ref b32)]))
  refine Till.pre (fun _ hr => XS.dup X40.here hx rfl (hb hby at_32) rfl rfl hr) ?_
  show Till p e below s (Q0 Z q1 q2 q3 q4 q5 p6 h0 n0) room_1.cells room_1.slots (T38.setTop (mkF m 33 #[.val (.long q1), .second, .val (.long q2), .second, .val (.long q3), .second, .val (.long q4), .second, .val (.long q5), .second, .val (.int p6), .val (.ref b3), .unset, .unset, .unset, .unset, .unset, .unset, .unset, .unset, .unset, .unset, .unset, .unset, .unset, .unset, .unset] [(.ref b32), (.ref b32)]))
  refine Till.pre (fun _ hr => XS.iconst X40.here hx rfl (hb hby at_33) hr) ?_
  show Till p e below s (Q0 Z q1 q2 q3 q4 q5 p6 h0 n0) room_1.cells room_1.slots (T38.setTop (mkF m 34 #[.val (.long q1), .second, .val (.long q2), .second, .val (.long q3), .second, .val (.long q4), .second, .val (.long q5), .second, .val (.int p6), .val (.ref b3), .unset, .unset, .unset, .unset, .unset, .unset, .unset, .unset, .unset, .unset, .unset, .unset, .unset, .unset, .unset] [(.int (1 : Int32)), (.ref b32), (.ref b32)]))
  refine Till.pre (fun _ hr => XS.lload X40.here hx rfl (hb hby at_34) rfl hr) ?_
  show Till p e below s (Q0 Z q1 q2 q3 q4 q5 p6 h0 n0) room_1.cells room_1.slots (T38.setTop (mkF m 36 #[.val (.long q1), .second, .val (.long q2), .second, .val (.long q3), .second, .val (.long q4), .second, .val (.long q5), .second, .val (.int p6), .val (.ref b3), .unset, .unset, .unset, .unset, .unset, .unset, .unset, .unset, .unset, .unset, .unset, .unset, .unset, .unset, .unset] [(.long q4), (.int (1 : Int32)), (.ref b32), (.ref b32)]))
  refine Till.lastore R_b32 (by decide) (by decide) X40 hx hZ e41 (hb hby at_36) (fun T45 h46 X47 e48 W49 A50 => ?_)
  have N51 := Fr.snoc X47 N44 g_b32
  have R_b3 := R_b3.wr W49 ne_b3_b32
  have Zs := Nat.le_trans Zs (Keep.of_wr W49).1
  have R_b32 : LA Z h46 b32 (3 : Int32) (oupd (oupd (fun _ => (0 : Int64)) 0 q5) 1 q4) := A50
  show Till p e below s (Q0 Z q1 q2 q3 q4 q5 p6 h0 n0) room_1.cells room_1.slots (T45.setTop (mkF m 37 #[.val (.long q1), .second, .val (.long q2), .second, .val (.long q3), .second, .val (.long q4), .second, .val (.long q5), .second, .val (.int p6), .val (.ref b3), .unset, .unset, .unset, .unset, .unset, .unset, .unset, .unset, .unset, .unset, .unset, .unset, .unset, .unset, .unset] [(.ref b32)]))
  refine Till.pre (fun _ hr => XS.dup X47.here hx rfl (hb hby at_37) rfl rfl hr) ?_
  show Till p e below s (Q0 Z q1 q2 q3 q4 q5 p6 h0 n0) room_1.cells room_1.slots (T45.setTop (mkF m 38 #[.val (.long q1), .second, .val (.long q2), .second, .val (.long q3), .second, .val (.long q4), .second, .val (.long q5), .second, .val (.int p6), .val (.ref b3), .unset, .unset, .unset, .unset, .unset, .unset, .unset, .unset, .unset, .unset, .unset, .unset, .unset, .unset, .unset] [(.ref b32), (.ref b32)]))
  refine Till.pre (fun _ hr => XS.iconst X47.here hx rfl (hb hby at_38) hr) ?_
  show Till p e below s (Q0 Z q1 q2 q3 q4 q5 p6 h0 n0) room_1.cells room_1.slots (T45.setTop (mkF m 39 #[.val (.long q1), .second, .val (.long q2), .second, .val (.long q3), .second, .val (.long q4), .second, .val (.long q5), .second, .val (.int p6), .val (.ref b3), .unset, .unset, .unset, .unset, .unset, .unset, .unset, .unset, .unset, .unset, .unset, .unset, .unset, .unset, .unset] [(.int (2 : Int32)), (.ref b32), (.ref b32)]))
  refine Till.pre (fun _ hr => XS.lload X47.here hx rfl (hb hby at_39) rfl hr) ?_
  show Till p e below s (Q0 Z q1 q2 q3 q4 q5 p6 h0 n0) room_1.cells room_1.slots (T45.setTop (mkF m 41 #[.val (.long q1), .second, .val (.long q2), .second, .val (.long q3), .second, .val (.long q4), .second, .val (.long q5), .second, .val (.int p6), .val (.ref b3), .unset, .unset, .unset, .unset, .unset, .unset, .unset, .unset, .unset, .unset, .unset, .unset, .unset, .unset, .unset] [(.long q4), (.int (2 : Int32)), (.ref b32), (.ref b32)]))
  refine Till.pre (fun _ hr => XS.lload X47.here hx rfl (hb hby at_41) rfl hr) ?_
  show Till p e below s (Q0 Z q1 q2 q3 q4 q5 p6 h0 n0) room_1.cells room_1.slots (T45.setTop (mkF m 43 #[.val (.long q1), .second, .val (.long q2), .second, .val (.long q3), .second, .val (.long q4), .second, .val (.long q5), .second, .val (.int p6), .val (.ref b3), .unset, .unset, .unset, .unset, .unset, .unset, .unset, .unset, .unset, .unset, .unset, .unset, .unset, .unset, .unset] [(.long q5), (.long q4), (.int (2 : Int32)), (.ref b32), (.ref b32)]))
  refine Till.pre (fun _ hr => XS.lxor X47.here hx rfl (hb hby at_43) rfl hr) ?_
  show Till p e below s (Q0 Z q1 q2 q3 q4 q5 p6 h0 n0) room_1.cells room_1.slots (T45.setTop (mkF m 44 #[.val (.long q1), .second, .val (.long q2), .second, .val (.long q3), .second, .val (.long q4), .second, .val (.long q5), .second, .val (.int p6), .val (.ref b3), .unset, .unset, .unset, .unset, .unset, .unset, .unset, .unset, .unset, .unset, .unset, .unset, .unset, .unset, .unset] [(.long (q4 ^^^ q5)), (.int (2 : Int32)), (.ref b32), (.ref b32)]))
  refine Till.lastore R_b32 (by decide) (by decide) X47 hx hZ e48 (hb hby at_44) (fun T52 h53 X54 e55 W56 A57 => ?_)
  have N58 := Fr.snoc X54 N51 g_b32
  have R_b3 := R_b3.wr W56 ne_b3_b32
  have Zs := Nat.le_trans Zs (Keep.of_wr W56).1
  have R_b32 : LA Z h53 b32 (3 : Int32) (oupd (oupd (oupd (fun _ => (0 : Int64)) 0 q5) 1 q4) 2 (q4 ^^^ q5)) := A57
  show Till p e below s (Q0 Z q1 q2 q3 q4 q5 p6 h0 n0) room_1.cells room_1.slots (T52.setTop (mkF m 45 #[.val (.long q1), .second, .val (.long q2), .second, .val (.long q3), .second, .val (.long q4), .second, .val (.long q5), .second, .val (.int p6), .val (.ref b3), .unset, .unset, .unset, .unset, .unset, .unset, .unset, .unset, .unset, .unset, .unset, .unset, .unset, .unset, .unset] [(.ref b32)]))
  refine Till.pre (fun _ hr => XS.astore X54.here hx rfl (hb hby at_45) rfl rfl (l' := #[.val (.long q1), .second, .val (.long q2), .second, .val (.long q3), .second, .val (.long q4), .second, .val (.long q5), .second, .val (.int p6), .val (.ref b3), .val (.ref b32), .unset, .unset, .unset, .unset, .unset, .unset, .unset, .unset, .unset, .unset, .unset, .unset, .unset, .unset]) rfl hr) ?_
  show Till p e below s (Q0 Z q1 q2 q3 q4 q5 p6 h0 n0) room_1.cells room_1.slots (T52.setTop (mkF m 47 #[.val (.long q1), .second, .val (.long q2), .second, .val (.long q3), .second, .val (.long q4), .second, .val (.long q5), .second, .val (.int p6), .val (.ref b3), .val (.ref b32), .unset, .unset, .unset, .unset, .unset, .unset, .unset, .unset, .unset, .unset, .unset, .unset, .unset, .unset] []))
  refine Till.pre (fun _ hr => XS.iload X54.here hx rfl (hb hby at_47) rfl hr) ?_
  show Till p e below s (Q0 Z q1 q2 q3 q4 q5 p6 h0 n0) room_1.cells room_1.slots (T52.setTop (mkF m 49 #[.val (.long q1), .second, .val (.long q2), .second, .val (.long q3), .second, .val (.long q4), .second, .val (.long q5), .second, .val (.int p6), .val (.ref b3), .val (.ref b32), .unset, .unset, .unset, .unset, .unset, .unset, .unset, .unset, .unset, .unset, .unset, .unset, .unset, .unset] [(.int p6)]))
  refine Till.pre (fun _ hr => XS.iconst X54.here hx rfl (hb hby at_49) hr) ?_
  show Till p e below s (Q0 Z q1 q2 q3 q4 q5 p6 h0 n0) room_1.cells room_1.slots (T52.setTop (mkF m 50 #[.val (.long q1), .second, .val (.long q2), .second, .val (.long q3), .second, .val (.long q4), .second, .val (.long q5), .second, .val (.int p6), .val (.ref b3), .val (.ref b32), .unset, .unset, .unset, .unset, .unset, .unset, .unset, .unset, .unset, .unset, .unset, .unset, .unset, .unset] [(.int (3 : Int32)), (.int p6)]))
  refine Till.pre (fun _ hr => XS.iand X54.here hx rfl (hb hby at_50) rfl hr) ?_
  show Till p e below s (Q0 Z q1 q2 q3 q4 q5 p6 h0 n0) room_1.cells room_1.slots (T52.setTop (mkF m 51 #[.val (.long q1), .second, .val (.long q2), .second, .val (.long q3), .second, .val (.long q4), .second, .val (.long q5), .second, .val (.int p6), .val (.ref b3), .val (.ref b32), .unset, .unset, .unset, .unset, .unset, .unset, .unset, .unset, .unset, .unset, .unset, .unset, .unset, .unset] [(.int (p6 &&& (3 : Int32)))]))
  generalize hu_n1 : (p6 &&& (3 : Int32)) = n1
  show Till p e below s (Q0 Z q1 q2 q3 q4 q5 p6 h0 n0) room_1.cells room_1.slots (T52.setTop (mkF m 51 #[.val (.long q1), .second, .val (.long q2), .second, .val (.long q3), .second, .val (.long q4), .second, .val (.long q5), .second, .val (.int p6), .val (.ref b3), .val (.ref b32), .unset, .unset, .unset, .unset, .unset, .unset, .unset, .unset, .unset, .unset, .unset, .unset, .unset, .unset] [(.int n1)]))
  refine Till.pre (fun _ hr => XS.istore X54.here hx rfl (hb hby at_51) rfl (l' := #[.val (.long q1), .second, .val (.long q2), .second, .val (.long q3), .second, .val (.long q4), .second, .val (.long q5), .second, .val (.int p6), .val (.ref b3), .val (.ref b32), .val (.int n1), .unset, .unset, .unset, .unset, .unset, .unset, .unset, .unset, .unset, .unset, .unset, .unset, .unset]) rfl hr) ?_
  show Till p e below s (Q0 Z q1 q2 q3 q4 q5 p6 h0 n0) room_1.cells room_1.slots (T52.setTop (mkF m 53 #[.val (.long q1), .second, .val (.long q2), .second, .val (.long q3), .second, .val (.long q4), .second, .val (.long q5), .second, .val (.int p6), .val (.ref b3), .val (.ref b32), .val (.int n1), .unset, .unset, .unset, .unset, .unset, .unset, .unset, .unset, .unset, .unset, .unset, .unset, .unset] []))
  refine Till.pre (fun _ hr => XS.iload X54.here hx rfl (hb hby at_53) rfl hr) ?_
  show Till p e below s (Q0 Z q1 q2 q3 q4 q5 p6 h0 n0) room_1.cells room_1.slots (T52.setTop (mkF m 55 #[.val (.long q1), .second, .val (.long q2), .second, .val (.long q3), .second, .val (.long q4), .second, .val (.long q5), .second, .val (.int p6), .val (.ref b3), .val (.ref b32), .val (.int n1), .unset, .unset, .unset, .unset, .unset, .unset, .unset, .unset, .unset, .unset, .unset, .unset, .unset] [(.int p6)]))
  refine Till.pre (fun _ hr => XS.iconst X54.here hx rfl (hb hby at_55) hr) ?_
  show Till p e below s (Q0 Z q1 q2 q3 q4 q5 p6 h0 n0) room_1.cells room_1.slots (T52.setTop (mkF m 56 #[.val (.long q1), .second, .val (.long q2), .second, .val (.long q3), .second, .val (.long q4), .second, .val (.long q5), .second, .val (.int p6), .val (.ref b3), .val (.ref b32), .val (.int n1), .unset, .unset, .unset, .unset, .unset, .unset, .unset, .unset, .unset, .unset, .unset, .unset, .unset] [(.int (2 : Int32)), (.int p6)]))
  refine Till.pre (fun _ hr => XS.iushr X54.here hx rfl (hb hby at_56) rfl hr) ?_
  show Till p e below s (Q0 Z q1 q2 q3 q4 q5 p6 h0 n0) room_1.cells room_1.slots (T52.setTop (mkF m 57 #[.val (.long q1), .second, .val (.long q2), .second, .val (.long q3), .second, .val (.long q4), .second, .val (.long q5), .second, .val (.int p6), .val (.ref b3), .val (.ref b32), .val (.int n1), .unset, .unset, .unset, .unset, .unset, .unset, .unset, .unset, .unset, .unset, .unset, .unset, .unset] [(.int ((p6.toUInt32 >>> ((2 : Int32) &&& 31).toUInt32).toInt32))]))
  refine Till.pre (fun _ hr => XS.iconst X54.here hx rfl (hb hby at_57) hr) ?_
  show Till p e below s (Q0 Z q1 q2 q3 q4 q5 p6 h0 n0) room_1.cells room_1.slots (T52.setTop (mkF m 58 #[.val (.long q1), .second, .val (.long q2), .second, .val (.long q3), .second, .val (.long q4), .second, .val (.long q5), .second, .val (.int p6), .val (.ref b3), .val (.ref b32), .val (.int n1), .unset, .unset, .unset, .unset, .unset, .unset, .unset, .unset, .unset, .unset, .unset, .unset, .unset] [(.int (3 : Int32)), (.int ((p6.toUInt32 >>> ((2 : Int32) &&& 31).toUInt32).toInt32))]))
  refine Till.pre (fun _ hr => XS.iand X54.here hx rfl (hb hby at_58) rfl hr) ?_
  show Till p e below s (Q0 Z q1 q2 q3 q4 q5 p6 h0 n0) room_1.cells room_1.slots (T52.setTop (mkF m 59 #[.val (.long q1), .second, .val (.long q2), .second, .val (.long q3), .second, .val (.long q4), .second, .val (.long q5), .second, .val (.int p6), .val (.ref b3), .val (.ref b32), .val (.int n1), .unset, .unset, .unset, .unset, .unset, .unset, .unset, .unset, .unset, .unset, .unset, .unset, .unset] [(.int (((p6.toUInt32 >>> ((2 : Int32) &&& 31).toUInt32).toInt32) &&& (3 : Int32)))]))
  generalize hu_n2 : (((p6.toUInt32 >>> ((2 : Int32) &&& 31).toUInt32).toInt32) &&& (3 : Int32)) = n2
  show Till p e below s (Q0 Z q1 q2 q3 q4 q5 p6 h0 n0) room_1.cells room_1.slots (T52.setTop (mkF m 59 #[.val (.long q1), .second, .val (.long q2), .second, .val (.long q3), .second, .val (.long q4), .second, .val (.long q5), .second, .val (.int p6), .val (.ref b3), .val (.ref b32), .val (.int n1), .unset, .unset, .unset, .unset, .unset, .unset, .unset, .unset, .unset, .unset, .unset, .unset, .unset] [(.int n2)]))
  refine Till.pre (fun _ hr => XS.istore X54.here hx rfl (hb hby at_59) rfl (l' := #[.val (.long q1), .second, .val (.long q2), .second, .val (.long q3), .second, .val (.long q4), .second, .val (.long q5), .second, .val (.int p6), .val (.ref b3), .val (.ref b32), .val (.int n1), .val (.int n2), .unset, .unset, .unset, .unset, .unset, .unset, .unset, .unset, .unset, .unset, .unset, .unset]) rfl hr) ?_
  show Till p e below s (Q0 Z q1 q2 q3 q4 q5 p6 h0 n0) room_1.cells room_1.slots (T52.setTop (mkF m 61 #[.val (.long q1), .second, .val (.long q2), .second, .val (.long q3), .second, .val (.long q4), .second, .val (.long q5), .second, .val (.int p6), .val (.ref b3), .val (.ref b32), .val (.int n1), .val (.int n2), .unset, .unset, .unset, .unset, .unset, .unset, .unset, .unset, .unset, .unset, .unset, .unset] []))
  refine Till.pre (fun _ hr => XS.iload X54.here hx rfl (hb hby at_61) rfl hr) ?_
  show Till p e below s (Q0 Z q1 q2 q3 q4 q5 p6 h0 n0) room_1.cells room_1.slots (T52.setTop (mkF m 63 #[.val (.long q1), .second, .val (.long q2), .second, .val (.long q3), .second, .val (.long q4), .second, .val (.long q5), .second, .val (.int p6), .val (.ref b3), .val (.ref b32), .val (.int n1), .val (.int n2), .unset, .unset, .unset, .unset, .unset, .unset, .unset, .unset, .unset, .unset, .unset, .unset] [(.int p6)]))
  refine Till.pre (fun _ hr => XS.iconst X54.here hx rfl (hb hby at_63) hr) ?_
  show Till p e below s (Q0 Z q1 q2 q3 q4 q5 p6 h0 n0) room_1.cells room_1.slots (T52.setTop (mkF m 64 #[.val (.long q1), .second, .val (.long q2), .second, .val (.long q3), .second, .val (.long q4), .second, .val (.long q5), .second, .val (.int p6), .val (.ref b3), .val (.ref b32), .val (.int n1), .val (.int n2), .unset, .unset, .unset, .unset, .unset, .unset, .unset, .unset, .unset, .unset, .unset, .unset] [(.int (4 : Int32)), (.int p6)]))
  refine Till.pre (fun _ hr => XS.iushr X54.here hx rfl (hb hby at_64) rfl hr) ?_
  show Till p e below s (Q0 Z q1 q2 q3 q4 q5 p6 h0 n0) room_1.cells room_1.slots (T52.setTop (mkF m 65 #[.val (.long q1), .second, .val (.long q2), .second, .val (.long q3), .second, .val (.long q4), .second, .val (.long q5), .second, .val (.int p6), .val (.ref b3), .val (.ref b32), .val (.int n1), .val (.int n2), .unset, .unset, .unset, .unset, .unset, .unset, .unset, .unset, .unset, .unset, .unset, .unset] [(.int ((p6.toUInt32 >>> ((4 : Int32) &&& 31).toUInt32).toInt32))]))
  refine Till.pre (fun _ hr => XS.iconst X54.here hx rfl (hb hby at_65) hr) ?_
  show Till p e below s (Q0 Z q1 q2 q3 q4 q5 p6 h0 n0) room_1.cells room_1.slots (T52.setTop (mkF m 66 #[.val (.long q1), .second, .val (.long q2), .second, .val (.long q3), .second, .val (.long q4), .second, .val (.long q5), .second, .val (.int p6), .val (.ref b3), .val (.ref b32), .val (.int n1), .val (.int n2), .unset, .unset, .unset, .unset, .unset, .unset, .unset, .unset, .unset, .unset, .unset, .unset] [(.int (1 : Int32)), (.int ((p6.toUInt32 >>> ((4 : Int32) &&& 31).toUInt32).toInt32))]))
  refine Till.pre (fun _ hr => XS.iand X54.here hx rfl (hb hby at_66) rfl hr) ?_
  show Till p e below s (Q0 Z q1 q2 q3 q4 q5 p6 h0 n0) room_1.cells room_1.slots (T52.setTop (mkF m 67 #[.val (.long q1), .second, .val (.long q2), .second, .val (.long q3), .second, .val (.long q4), .second, .val (.long q5), .second, .val (.int p6), .val (.ref b3), .val (.ref b32), .val (.int n1), .val (.int n2), .unset, .unset, .unset, .unset, .unset, .unset, .unset, .unset, .unset, .unset, .unset, .unset] [(.int (((p6.toUInt32 >>> ((4 : Int32) &&& 31).toUInt32).toInt32) &&& (1 : Int32)))]))
  have J75_59 : ∀ (v75s0 : Int64) (hv75s0 : v75s0 = (if ((((p6.toUInt32 >>> ((4 : Int32) &&& 31).toUInt32).toInt32) &&& (1 : Int32)) = (0 : Int32)) then q2 else q1)), Till p e below s (Q0 Z q1 q2 q3 q4 q5 p6 h0 n0) room_1.cells room_1.slots (T52.setTop (mkF m 75 #[.val (.long q1), .second, .val (.long q2), .second, .val (.long q3), .second, .val (.long q4), .second, .val (.long q5), .second, .val (.int p6), .val (.ref b3), .val (.ref b32), .val (.int n1), .val (.int n2), .unset, .unset, .unset, .unset, .unset, .unset, .unset, .unset, .unset, .unset, .unset, .unset] [(.long v75s0)])) := by
    intro v75s0 hv75s0
    show Till p e below s (Q0 Z q1 q2 q3 q4 q5 p6 h0 n0) room_1.cells room_1.slots (T52.setTop (mkF m 75 #[.val (.long q1), .second, .val (.long q2), .second, .val (.long q3), .second, .val (.long q4), .second, .val (.long q5), .second, .val (.int p6), .val (.ref b3), .val (.ref b32), .val (.int n1), .val (.int n2), .unset, .unset, .unset, .unset, .unset, .unset, .unset, .unset, .unset, .unset, .unset, .unset] [(.long v75s0)]))
    refine Till.pre (fun _ hr => XS.lstore X54.here hx rfl (hb hby at_75) rfl (l' := #[.val (.long q1), .second, .val (.long q2), .second, .val (.long q3), .second, .val (.long q4), .second, .val (.long q5), .second, .val (.int p6), .val (.ref b3), .val (.ref b32), .val (.int n1), .val (.int n2), .val (.long v75s0), .second, .unset, .unset, .unset, .unset, .unset, .unset, .unset, .unset, .unset, .unset]) rfl hr) ?_
    show Till p e below s (Q0 Z q1 q2 q3 q4 q5 p6 h0 n0) room_1.cells room_1.slots (T52.setTop (mkF m 77 #[.val (.long q1), .second, .val (.long q2), .second, .val (.long q3), .second, .val (.long q4), .second, .val (.long q5), .second, .val (.int p6), .val (.ref b3), .val (.ref b32), .val (.int n1), .val (.int n2), .val (.long v75s0), .second, .unset, .unset, .unset, .unset, .unset, .unset, .unset, .unset, .unset, .unset] []))
    refine Till.pre (fun _ hr => XS.iload X54.here hx rfl (hb hby at_77) rfl hr) ?_
    show Till p e below s (Q0 Z q1 q2 q3 q4 q5 p6 h0 n0) room_1.cells room_1.slots (T52.setTop (mkF m 79 #[.val (.long q1), .second, .val (.long q2), .second, .val (.long q3), .second, .val (.long q4), .second, .val (.long q5), .second, .val (.int p6), .val (.ref b3), .val (.ref b32), .val (.int n1), .val (.int n2), .val (.long v75s0), .second, .unset, .unset, .unset, .unset, .unset, .unset, .unset, .unset, .unset, .unset] [(.int p6)]))
    refine Till.pre (fun _ hr => XS.iconst X54.here hx rfl (hb hby at_79) hr) ?_
    show Till p e below s (Q0 Z q1 q2 q3 q4 q5 p6 h0 n0) room_1.cells room_1.slots (T52.setTop (mkF m 80 #[.val (.long q1), .second, .val (.long q2), .second, .val (.long q3), .second, .val (.long q4), .second, .val (.long q5), .second, .val (.int p6), .val (.ref b3), .val (.ref b32), .val (.int n1), .val (.int n2), .val (.long v75s0), .second, .unset, .unset, .unset, .unset, .unset, .unset, .unset, .unset, .unset, .unset] [(.int (5 : Int32)), (.int p6)]))
    refine Till.pre (fun _ hr => XS.iushr X54.here hx rfl (hb hby at_80) rfl hr) ?_
    show Till p e below s (Q0 Z q1 q2 q3 q4 q5 p6 h0 n0) room_1.cells room_1.slots (T52.setTop (mkF m 81 #[.val (.long q1), .second, .val (.long q2), .second, .val (.long q3), .second, .val (.long q4), .second, .val (.long q5), .second, .val (.int p6), .val (.ref b3), .val (.ref b32), .val (.int n1), .val (.int n2), .val (.long v75s0), .second, .unset, .unset, .unset, .unset, .unset, .unset, .unset, .unset, .unset, .unset] [(.int ((p6.toUInt32 >>> ((5 : Int32) &&& 31).toUInt32).toInt32))]))
    refine Till.pre (fun _ hr => XS.iconst X54.here hx rfl (hb hby at_81) hr) ?_
    show Till p e below s (Q0 Z q1 q2 q3 q4 q5 p6 h0 n0) room_1.cells room_1.slots (T52.setTop (mkF m 82 #[.val (.long q1), .second, .val (.long q2), .second, .val (.long q3), .second, .val (.long q4), .second, .val (.long q5), .second, .val (.int p6), .val (.ref b3), .val (.ref b32), .val (.int n1), .val (.int n2), .val (.long v75s0), .second, .unset, .unset, .unset, .unset, .unset, .unset, .unset, .unset, .unset, .unset] [(.int (3 : Int32)), (.int ((p6.toUInt32 >>> ((5 : Int32) &&& 31).toUInt32).toInt32))]))
    refine Till.pre (fun _ hr => XS.iand X54.here hx rfl (hb hby at_82) rfl hr) ?_
    show Till p e below s (Q0 Z q1 q2 q3 q4 q5 p6 h0 n0) room_1.cells room_1.slots (T52.setTop (mkF m 83 #[.val (.long q1), .second, .val (.long q2), .second, .val (.long q3), .second, .val (.long q4), .second, .val (.long q5), .second, .val (.int p6), .val (.ref b3), .val (.ref b32), .val (.int n1), .val (.int n2), .val (.long v75s0), .second, .unset, .unset, .unset, .unset, .unset, .unset, .unset, .unset, .unset, .unset] [(.int (((p6.toUInt32 >>> ((5 : Int32) &&& 31).toUInt32).toInt32) &&& (3 : Int32)))]))
    refine Till.pre (fun _ hr => XS.istore X54.here hx rfl (hb hby at_83) rfl (l' := #[.val (.long q1), .second, .val (.long q2), .second, .val (.long q3), .second, .val (.long q4), .second, .val (.long q5), .second, .val (.int p6), .val (.ref b3), .val (.ref b32), .val (.int n1), .val (.int n2), .val (.long v75s0), .second, .val (.int (((p6.toUInt32 >>> ((5 : Int32) &&& 31).toUInt32).toInt32) &&& (3 : Int32))), .unset, .unset, .unset, .unset, .unset, .unset, .unset, .unset, .unset]) rfl hr) ?_
    show Till p e below s (Q0 Z q1 q2 q3 q4 q5 p6 h0 n0) room_1.cells room_1.slots (T52.setTop (mkF m 85 #[.val (.long q1), .second, .val (.long q2), .second, .val (.long q3), .second, .val (.long q4), .second, .val (.long q5), .second, .val (.int p6), .val (.ref b3), .val (.ref b32), .val (.int n1), .val (.int n2), .val (.long v75s0), .second, .val (.int (((p6.toUInt32 >>> ((5 : Int32) &&& 31).toUInt32).toInt32) &&& (3 : Int32))), .unset, .unset, .unset, .unset, .unset, .unset, .unset, .unset, .unset] []))
    refine Till.pre (fun _ hr => XS.iload X54.here hx rfl (hb hby at_85) rfl hr) ?_
    show Till p e below s (Q0 Z q1 q2 q3 q4 q5 p6 h0 n0) room_1.cells room_1.slots (T52.setTop (mkF m 87 #[.val (.long q1), .second, .val (.long q2), .second, .val (.long q3), .second, .val (.long q4), .second, .val (.long q5), .second, .val (.int p6), .val (.ref b3), .val (.ref b32), .val (.int n1), .val (.int n2), .val (.long v75s0), .second, .val (.int (((p6.toUInt32 >>> ((5 : Int32) &&& 31).toUInt32).toInt32) &&& (3 : Int32))), .unset, .unset, .unset, .unset, .unset, .unset, .unset, .unset, .unset] [(.int (((p6.toUInt32 >>> ((5 : Int32) &&& 31).toUInt32).toInt32) &&& (3 : Int32)))]))
    refine Till.pre (fun _ hr => XS.iconst X54.here hx rfl (hb hby at_87) hr) ?_
    show Till p e below s (Q0 Z q1 q2 q3 q4 q5 p6 h0 n0) room_1.cells room_1.slots (T52.setTop (mkF m 88 #[.val (.long q1), .second, .val (.long q2), .second, .val (.long q3), .second, .val (.long q4), .second, .val (.long q5), .second, .val (.int p6), .val (.ref b3), .val (.ref b32), .val (.int n1), .val (.int n2), .val (.long v75s0), .second, .val (.int (((p6.toUInt32 >>> ((5 : Int32) &&& 31).toUInt32).toInt32) &&& (3 : Int32))), .unset, .unset, .unset, .unset, .unset, .unset, .unset, .unset, .unset] [(.int (1 : Int32)), (.int (((p6.toUInt32 >>> ((5 : Int32) &&& 31).toUInt32).toInt32) &&& (3 : Int32)))]))
    have J108_62 : ∀ (v108s0 : Int64) (hv108s0 : v108s0 = (if ((((p6.toUInt32 >>> ((5 : Int32) &&& 31).toUInt32).toInt32) &&& (3 : Int32)) = (1 : Int32)) then q1 else (if ((((p6.toUInt32 >>> ((5 : Int32) &&& 31).toUInt32).toInt32) &&& (3 : Int32)) = (2 : Int32)) then v75s0 else q3))), Till p e below s (Q0 Z q1 q2 q3 q4 q5 p6 h0 n0) room_1.cells room_1.slots (T52.setTop (mkF m 108 #[.val (.long q1), .second, .val (.long q2), .second, .val (.long q3), .second, .val (.long q4), .second, .val (.long q5), .second, .val (.int p6), .val (.ref b3), .val (.ref b32), .val (.int n1), .val (.int n2), .val (.long v75s0), .second, .val (.int (((p6.toUInt32 >>> ((5 : Int32) &&& 31).toUInt32).toInt32) &&& (3 : Int32))), .unset, .unset, .unset, .unset, .unset, .unset, .unset, .unset, .unset] [(.long v108s0)])) := by
      intro v108s0 hv108s0
      show Till p e below s (Q0 Z q1 q2 q3 q4 q5 p6 h0 n0) room_1.cells room_1.slots (T52.setTop (mkF m 108 #[.val (.long q1), .second, .val (.long q2), .second, .val (.long q3), .second, .val (.long q4), .second, .val (.long q5), .second, .val (.int p6), .val (.ref b3), .val (.ref b32), .val (.int n1), .val (.int n2), .val (.long v75s0), .second, .val (.int (((p6.toUInt32 >>> ((5 : Int32) &&& 31).toUInt32).toInt32) &&& (3 : Int32))), .unset, .unset, .unset, .unset, .unset, .unset, .unset, .unset, .unset] [(.long v108s0)]))
      refine Till.pre (fun _ hr => XS.lstore X54.here hx rfl (hb hby at_108) rfl (l' := #[.val (.long q1), .second, .val (.long q2), .second, .val (.long q3), .second, .val (.long q4), .second, .val (.long q5), .second, .val (.int p6), .val (.ref b3), .val (.ref b32), .val (.int n1), .val (.int n2), .val (.long v75s0), .second, .val (.int (((p6.toUInt32 >>> ((5 : Int32) &&& 31).toUInt32).toInt32) &&& (3 : Int32))), .val (.long v108s0), .second, .unset, .unset, .unset, .unset, .unset, .unset, .unset]) rfl hr) ?_
      show Till p e below s (Q0 Z q1 q2 q3 q4 q5 p6 h0 n0) room_1.cells room_1.slots (T52.setTop (mkF m 110 #[.val (.long q1), .second, .val (.long q2), .second, .val (.long q3), .second, .val (.long q4), .second, .val (.long q5), .second, .val (.int p6), .val (.ref b3), .val (.ref b32), .val (.int n1), .val (.int n2), .val (.long v75s0), .second, .val (.int (((p6.toUInt32 >>> ((5 : Int32) &&& 31).toUInt32).toInt32) &&& (3 : Int32))), .val (.long v108s0), .second, .unset, .unset, .unset, .unset, .unset, .unset, .unset] []))
      refine Till.newO X54 hx hZ hown (hw _ (List.mem_of_getElem? (i := 2) rfl)) (hw _ (List.mem_of_getElem? (i := 3) rfl)) (hw _ (List.mem_of_getElem? (i := 4) rfl)) e55 (hb hby at_110) (by decide) (by decide) (fun T64 h65 b66 g67 X68 e69 E70 A71 D72 => ?_)
      have ne_b3_b66 : b3 ≠ b66 := Nat.ne_of_lt (Nat.lt_of_lt_of_le R_b3.lt (Nat.le_of_eq g67.symm))
      have ne_b32_b66 : b32 ≠ b66 := Nat.ne_of_lt (Nat.lt_of_lt_of_le R_b32.lt (Nat.le_of_eq g67.symm))
      have g_b66 : n0 ≤ b66 := Nat.le_trans Zs (Nat.le_of_eq g67.symm)
      have R_b3 := R_b3.ext E70
      have R_b32 := R_b32.ext E70
      have Zs := Nat.le_trans Zs E70.1
      have R_b66 : Way Z h65 b66 .null .null (0 : Int32) := ⟨A71, D72 (Or.inr (hw _ (List.mem_of_getElem? (i := 34) rfl))) (ty := (.object "com/example/tour/tour/io/IdTable")) (by decide), D72 (Or.inl (hw _ (List.mem_of_getElem? (i := 36) rfl))) (ty := (.array .long)) (by decide), D72 (Or.inl (hw _ (List.mem_of_getElem? (i := 43) rfl))) (ty := .int) (by decide)⟩
      show Till p e below s (Q0 Z q1 q2 q3 q4 q5 p6 h0 n0) room_1.cells room_1.slots (T64.setTop (mkF m 113 #[.val (.long q1), .second, .val (.long q2), .second, .val (.long q3), .second, .val (.long q4), .second, .val (.long q5), .second, .val (.int p6), .val (.ref b3), .val (.ref b32), .val (.int n1), .val (.int n2), .val (.long v75s0), .second, .val (.int (((p6.toUInt32 >>> ((5 : Int32) &&& 31).toUInt32).toInt32) &&& (3 : Int32))), .val (.long v108s0), .second, .unset, .unset, .unset, .unset, .unset, .unset, .unset] [(.ref b66)]))
      refine Till.pre (fun _ hr => XS.dup X68.here hx rfl (hb hby at_113) rfl rfl hr) ?_
      show Till p e below s (Q0 Z q1 q2 q3 q4 q5 p6 h0 n0) room_1.cells room_1.slots (T64.setTop (mkF m 114 #[.val (.long q1), .second, .val (.long q2), .second, .val (.long q3), .second, .val (.long q4), .second, .val (.long q5), .second, .val (.int p6), .val (.ref b3), .val (.ref b32), .val (.int n1), .val (.int n2), .val (.long v75s0), .second, .val (.int (((p6.toUInt32 >>> ((5 : Int32) &&& 31).toUInt32).toInt32) &&& (3 : Int32))), .val (.long v108s0), .second, .unset, .unset, .unset, .unset, .unset, .unset, .unset] [(.ref b66), (.ref b66)]))
      refine Till.callC (rm1 l Z a0 hw b66 h65 n0 Zs R_b66 g_b66) X68 hx hZ hown rfl (hw _ (List.mem_of_getElem? (i := 5) rfl)) (hw _ (List.mem_of_getElem? (i := 6) rfl)) (hw _ (List.mem_of_getElem? (i := 4) rfl)) (hw _ (List.mem_of_getElem? (i := 7) rfl)) (by decide) (by decide) (W := 1) (by decide) (by rw [hml]; rfl) (a := b66) (argsL := []) (rest := [(.ref b66)]) (lenOf pd0_0 rfl) rfl rfl (Nat.le_of_eq rfl) (hb hby at_114) e69 (by decide) (by decide) ?_
      rintro _ T73 L74 X75 ⟨b83, b84, b85, b86, rfl, N76, K77, szq_b83, szq_b84, szq_b85, szq_b86, ne_b83_b84, ne_b83_b85, ne_b83_b86, ne_b84_b85, ne_b84_b86, ne_b85_b86, q78, q79, q80, q81, q82⟩
      have N76 := Fr.app N58 N76
      have ne_b3_b83 : b3 ≠ b83 := Nat.ne_of_lt (Nat.lt_of_lt_of_le R_b3.lt szq_b83)
      have ne_b32_b83 : b32 ≠ b83 := Nat.ne_of_lt (Nat.lt_of_lt_of_le R_b32.lt szq_b83)
      have ne_b66_b83 : b66 ≠ b83 := Nat.ne_of_lt (Nat.lt_of_lt_of_le R_b66.lt szq_b83)
      have g_b83 : n0 ≤ b83 := Nat.le_trans Zs szq_b83
      have ne_b3_b84 : b3 ≠ b84 := Nat.ne_of_lt (Nat.lt_of_lt_of_le R_b3.lt szq_b84)
      have ne_b32_b84 : b32 ≠ b84 := Nat.ne_of_lt (Nat.lt_of_lt_of_le R_b32.lt szq_b84)
      have ne_b66_b84 : b66 ≠ b84 := Nat.ne_of_lt (Nat.lt_of_lt_of_le R_b66.lt szq_b84)
      have g_b84 : n0 ≤ b84 := Nat.le_trans Zs szq_b84
      have ne_b3_b85 : b3 ≠ b85 := Nat.ne_of_lt (Nat.lt_of_lt_of_le R_b3.lt szq_b85)
      have ne_b32_b85 : b32 ≠ b85 := Nat.ne_of_lt (Nat.lt_of_lt_of_le R_b32.lt szq_b85)
      have ne_b66_b85 : b66 ≠ b85 := Nat.ne_of_lt (Nat.lt_of_lt_of_le R_b66.lt szq_b85)
      have g_b85 : n0 ≤ b85 := Nat.le_trans Zs szq_b85
      have ne_b3_b86 : b3 ≠ b86 := Nat.ne_of_lt (Nat.lt_of_lt_of_le R_b3.lt szq_b86)
      have ne_b32_b86 : b32 ≠ b86 := Nat.ne_of_lt (Nat.lt_of_lt_of_le R_b32.lt szq_b86)
      have ne_b66_b86 : b66 ≠ b86 := Nat.ne_of_lt (Nat.lt_of_lt_of_le R_b66.lt szq_b86)
      have g_b86 : n0 ≤ b86 := Nat.le_trans Zs szq_b86
      have R_b3 := R_b3.keep K77 (ninS ne_b3_b66 nin0)
      have R_b32 := R_b32.keep K77 (ninS ne_b32_b66 nin0)
      have Zs := Nat.le_trans Zs K77.1
      have R_b66 : Way Z T73.heap b66 (.ref b83) (.ref b84) (0 : Int32) := q78
      have R_b83 : Idt Z T73.heap b83 (.ref b85) (.ref b86) (54 : Int32) (0 : Int32) := q79
      have R_b84 : LA Z T73.heap b84 (4096 : Int32) (fun _ => (0 : Int64)) := q80
      have R_b85 : LA Z T73.heap b85 (1024 : Int32) (fun _ => (0 : Int64)) := q81
      have R_b86 : LA Z T73.heap b86 (1024 : Int32) (fun _ => (-9223372036854775808 : Int64)) := q82
      show Till p e below s (Q0 Z q1 q2 q3 q4 q5 p6 h0 n0) room_1.cells room_1.slots (T73.setTop (mkF m 117 #[.val (.long q1), .second, .val (.long q2), .second, .val (.long q3), .second, .val (.long q4), .second, .val (.long q5), .second, .val (.int p6), .val (.ref b3), .val (.ref b32), .val (.int n1), .val (.int n2), .val (.long v75s0), .second, .val (.int (((p6.toUInt32 >>> ((5 : Int32) &&& 31).toUInt32).toInt32) &&& (3 : Int32))), .val (.long v108s0), .second, .unset, .unset, .unset, .unset, .unset, .unset, .unset] [(.ref b66)]))
      refine Till.pre (fun _ hr => XS.astore X75.here hx rfl (hb hby at_117) rfl rfl (l' := #[.val (.long q1), .second, .val (.long q2), .second, .val (.long q3), .second, .val (.long q4), .second, .val (.long q5), .second, .val (.int p6), .val (.ref b3), .val (.ref b32), .val (.int n1), .val (.int n2), .val (.long v75s0), .second, .val (.int (((p6.toUInt32 >>> ((5 : Int32) &&& 31).toUInt32).toInt32) &&& (3 : Int32))), .val (.long v108s0), .second, .val (.ref b66), .unset, .unset, .unset, .unset, .unset, .unset]) rfl hr) ?_
      show Till p e below s (Q0 Z q1 q2 q3 q4 q5 p6 h0 n0) room_1.cells room_1.slots (T73.setTop (mkF m 119 #[.val (.long q1), .second, .val (.long q2), .second, .val (.long q3), .second, .val (.long q4), .second, .val (.long q5), .second, .val (.int p6), .val (.ref b3), .val (.ref b32), .val (.int n1), .val (.int n2), .val (.long v75s0), .second, .val (.int (((p6.toUInt32 >>> ((5 : Int32) &&& 31).toUInt32).toInt32) &&& (3 : Int32))), .val (.long v108s0), .second, .val (.ref b66), .unset, .unset, .unset, .unset, .unset, .unset] []))
      refine Till.pre (fun _ hr => XS.aload X75.here hx rfl (hb hby at_119) rfl rfl hr) ?_
      show Till p e below s (Q0 Z q1 q2 q3 q4 q5 p6 h0 n0) room_1.cells room_1.slots (T73.setTop (mkF m 121 #[.val (.long q1), .second, .val (.long q2), .second, .val (.long q3), .second, .val (.long q4), .second, .val (.long q5), .second, .val (.int p6), .val (.ref b3), .val (.ref b32), .val (.int n1), .val (.int n2), .val (.long v75s0), .second, .val (.int (((p6.toUInt32 >>> ((5 : Int32) &&& 31).toUInt32).toInt32) &&& (3 : Int32))), .val (.long v108s0), .second, .val (.ref b66), .unset, .unset, .unset, .unset, .unset, .unset] [(.ref b66)]))
      refine Till.pre (fun _ hr => XS.lloadN X75.here hx rfl (hb hby at_121) rfl hr) ?_
      show Till p e below s (Q0 Z q1 q2 q3 q4 q5 p6 h0 n0) room_1.cells room_1.slots (T73.setTop (mkF m 122 #[.val (.long q1), .second, .val (.long q2), .second, .val (.long q3), .second, .val (.long q4), .second, .val (.long q5), .second, .val (.int p6), .val (.ref b3), .val (.ref b32), .val (.int n1), .val (.int n2), .val (.long v75s0), .second, .val (.int (((p6.toUInt32 >>> ((5 : Int32) &&& 31).toUInt32).toInt32) &&& (3 : Int32))), .val (.long v108s0), .second, .val (.ref b66), .unset, .unset, .unset, .unset, .unset, .unset] [(.long q1), (.ref b66)]))
      refine Till.pre (fun _ hr => XS.aload X75.here hx rfl (hb hby at_122) rfl rfl hr) ?_
      show Till p e below s (Q0 Z q1 q2 q3 q4 q5 p6 h0 n0) room_1.cells room_1.slots (T73.setTop (mkF m 124 #[.val (.long q1), .second, .val (.long q2), .second, .val (.long q3), .second, .val (.long q4), .second, .val (.long q5), .second, .val (.int p6), .val (.ref b3), .val (.ref b32), .val (.int n1), .val (.int n2), .val (.long v75s0), .second, .val (.int (((p6.toUInt32 >>> ((5 : Int32) &&& 31).toUInt32).toInt32) &&& (3 : Int32))), .val (.long v108s0), .second, .val (.ref b66), .unset, .unset, .unset, .unset, .unset, .unset] [(.ref b3), (.long q1), (.ref b66)]))
      refine Till.pre (fun _ hr => XS.iload X75.here hx rfl (hb hby at_124) rfl hr) ?_
      show Till p e below s (Q0 Z q1 q2 q3 q4 q5 p6 h0 n0) room_1.cells room_1.slots (T73.setTop (mkF m 126 #[.val (.long q1), .second, .val (.long q2), .second, .val (.long q3), .second, .val (.long q4), .second, .val (.long q5), .second, .val (.int p6), .val (.ref b3), .val (.ref b32), .val (.int n1), .val (.int n2), .val (.long v75s0), .second, .val (.int (((p6.toUInt32 >>> ((5 : Int32) &&& 31).toUInt32).toInt32) &&& (3 : Int32))), .val (.long v108s0), .second, .val (.ref b66), .unset, .unset, .unset, .unset, .unset, .unset] [(.int n1), (.ref b3), (.long q1), (.ref b66)]))
      refine Till.callV (rm5 l Z a0 hw b66 q1 b3 n1 b83 b85 b86 b84 (0 : Int32) (0 : Int32) (fun _ => (0 : Int64)) (fun _ => (-9223372036854775808 : Int64)) (fun _ => (0 : Int64)) (oupd (oupd (oupd (fun _ => (0 : Int64)) 0 q4) 1 q5) 2 (q4 ^^^ (-1 : Int64))) 0 (fun _ => own_ABS) T73.heap n0 Zs R_b66 R_b83 R_b85 R_b86 R_b84 R_b3 g_b66 g_b83 g_b84 g_b85 g_b86 ne_b66_b83 ne_b66_b85 ne_b66_b86 ne_b66_b84 (Ne.symm ne_b3_b66) ne_b83_b85 ne_b83_b86 ne_b83_b84 (Ne.symm ne_b3_b83) ne_b85_b86 (Ne.symm ne_b84_b85) (Ne.symm ne_b3_b85) (Ne.symm ne_b84_b86) (Ne.symm ne_b3_b86) (Ne.symm ne_b3_b84) ((own_empty _)) (by decide) (⟨by decide, by decide⟩) (by decide) (own_n4 hu_n1)) R_b66.1 X75 hx hZ hown (hw _ (List.mem_of_getElem? (i := 37) rfl)) (hw _ (List.mem_of_getElem? (i := 38) rfl)) (hw _ (List.mem_of_getElem? (i := 40) rfl)) (hw _ (List.mem_of_getElem? (i := 39) rfl)) (hw _ (List.mem_of_getElem? (i := 4) rfl)) (hw _ (List.mem_of_getElem? (i := 41) rfl)) (by decide) (by decide) (W := 0) (by decide) (by rw [hml]; rfl) (a := b66) (argsL := [(.long q1), (.ref b3), (.int n1)]) (rest := []) (lenOf pd0_8 rfl) rfl rfl (Nat.le_of_eq rfl) (hb hby at_126) rfl (by decide) (by decide) ?_
      rintro _ T87 L88 X89 ⟨f91, g92, w93, rfl, N90, K96, q97, q98, q99, q100, q101, tb94, sz95⟩
      have N90 := Fr.app N76 N90
      have R_b3 := R_b3.keep K96 (ninS ne_b3_b66 (ninS ne_b3_b83 (ninS ne_b3_b84 (ninS ne_b3_b85 (ninS ne_b3_b86 nin0)))))
      have R_b32 := R_b32.keep K96 (ninS ne_b32_b66 (ninS ne_b32_b83 (ninS ne_b32_b84 (ninS ne_b32_b85 (ninS ne_b32_b86 nin0)))))
      have Zs := Nat.le_trans Zs K96.1
      have R_b66 : Way Z T87.heap b66 (.ref b83) (.ref b84) ((0 : Int32) + ((1 : Int32) + n1)) := q97
      have R_b83 : Idt Z T87.heap b83 (.ref b85) (.ref b86) (54 : Int32) w93 := q98
      have R_b85 : LA Z T87.heap b85 (1024 : Int32) f91 := q99
      have R_b86 : LA Z T87.heap b86 (1024 : Int32) g92 := q100
      have R_b84 : LA Z T87.heap b84 (4096 : Int32) (cpy (oupd (oupd (oupd (fun _ => (0 : Int64)) 0 q4) 1 q5) 2 (q4 ^^^ (-1 : Int64))) (oupd (fun _ => (0 : Int64)) ((0 : Int32)).toNatClampNeg n1.toInt64) 0 ((1 : Int32)).toNatClampNeg (n1).toNatClampNeg) := q101
      generalize hu_us : ((0 : Int32) + ((1 : Int32) + n1)) = us at *
      generalize hu_u1 : (cpy (oupd (oupd (oupd (fun _ => (0 : Int64)) 0 q4) 1 q5) 2 (q4 ^^^ (-1 : Int64))) (oupd (fun _ => (0 : Int64)) ((0 : Int32)).toNatClampNeg n1.toInt64) 0 ((1 : Int32)).toNatClampNeg (n1).toNatClampNeg) = u1 at *
      show Till p e below s (Q0 Z q1 q2 q3 q4 q5 p6 h0 n0) room_1.cells room_1.slots (T87.setTop (mkF m 129 #[.val (.long q1), .second, .val (.long q2), .second, .val (.long q3), .second, .val (.long q4), .second, .val (.long q5), .second, .val (.int p6), .val (.ref b3), .val (.ref b32), .val (.int n1), .val (.int n2), .val (.long v75s0), .second, .val (.int (((p6.toUInt32 >>> ((5 : Int32) &&& 31).toUInt32).toInt32) &&& (3 : Int32))), .val (.long v108s0), .second, .val (.ref b66), .unset, .unset, .unset, .unset, .unset, .unset] []))
      refine Till.pre (fun _ hr => XS.aload X89.here hx rfl (hb hby at_129) rfl rfl hr) ?_
      show Till p e below s (Q0 Z q1 q2 q3 q4 q5 p6 h0 n0) room_1.cells room_1.slots (T87.setTop (mkF m 131 #[.val (.long q1), .second, .val (.long q2), .second, .val (.long q3), .second, .val (.long q4), .second, .val (.long q5), .second, .val (.int p6), .val (.ref b3), .val (.ref b32), .val (.int n1), .val (.int n2), .val (.long v75s0), .second, .val (.int (((p6.toUInt32 >>> ((5 : Int32) &&& 31).toUInt32).toInt32) &&& (3 : Int32))), .val (.long v108s0), .second, .val (.ref b66), .unset, .unset, .unset, .unset, .unset, .unset] [(.ref b66)]))
      refine Till.pre (fun _ hr => XS.lload X89.here hx rfl (hb hby at_131) rfl hr) ?_
      show Till p e below s (Q0 Z q1 q2 q3 q4 q5 p6 h0 n0) room_1.cells room_1.slots (T87.setTop (mkF m 133 #[.val (.long q1), .second, .val (.long q2), .second, .val (.long q3), .second, .val (.long q4), .second, .val (.long q5), .second, .val (.int p6), .val (.ref b3), .val (.ref b32), .val (.int n1), .val (.int n2), .val (.long v75s0), .second, .val (.int (((p6.toUInt32 >>> ((5 : Int32) &&& 31).toUInt32).toInt32) &&& (3 : Int32))), .val (.long v108s0), .second, .val (.ref b66), .unset, .unset, .unset, .unset, .unset, .unset] [(.long v75s0), (.ref b66)]))
      refine Till.pre (fun _ hr => XS.aload X89.here hx rfl (hb hby at_133) rfl rfl hr) ?_
      show Till p e below s (Q0 Z q1 q2 q3 q4 q5 p6 h0 n0) room_1.cells room_1.slots (T87.setTop (mkF m 135 #[.val (.long q1), .second, .val (.long q2), .second, .val (.long q3), .second, .val (.long q4), .second, .val (.long q5), .second, .val (.int p6), .val (.ref b3), .val (.ref b32), .val (.int n1), .val (.int n2), .val (.long v75s0), .second, .val (.int (((p6.toUInt32 >>> ((5 : Int32) &&& 31).toUInt32).toInt32) &&& (3 : Int32))), .val (.long v108s0), .second, .val (.ref b66), .unset, .unset, .unset, .unset, .unset, .unset] [(.ref b32), (.long v75s0), (.ref b66)]))
      refine Till.pre (fun _ hr => XS.iload X89.here hx rfl (hb hby at_135) rfl hr) ?_
      show Till p e below s (Q0 Z q1 q2 q3 q4 q5 p6 h0 n0) room_1.cells room_1.slots (T87.setTop (mkF m 137 #[.val (.long q1), .second, .val (.long q2), .second, .val (.long q3), .second, .val (.long q4), .second, .val (.long q5), .second, .val (.int p6), .val (.ref b3), .val (.ref b32), .val (.int n1), .val (.int n2), .val (.long v75s0), .second, .val (.int (((p6.toUInt32 >>> ((5 : Int32) &&& 31).toUInt32).toInt32) &&& (3 : Int32))), .val (.long v108s0), .second, .val (.ref b66), .unset, .unset, .unset, .unset, .unset, .unset] [(.int n2), (.ref b32), (.long v75s0), (.ref b66)]))
      refine Till.callV (rm5 l Z a0 hw b66 v75s0 b32 n2 b83 b85 b86 b84 us w93 f91 g92 u1 (oupd (oupd (oupd (fun _ => (0 : Int64)) 0 q5) 1 q4) 2 (q4 ^^^ q5)) 1 (own_um (fun _ => own_ABS) q1 (0 : Int32).toInt64) T87.heap n0 Zs R_b66 R_b83 R_b85 R_b86 R_b84 R_b32 g_b66 g_b83 g_b84 g_b85 g_b86 ne_b66_b83 ne_b66_b85 ne_b66_b86 ne_b66_b84 (Ne.symm ne_b32_b66) ne_b83_b85 ne_b83_b86 ne_b83_b84 (Ne.symm ne_b32_b83) ne_b85_b86 (Ne.symm ne_b84_b85) (Ne.symm ne_b32_b85) (Ne.symm ne_b84_b86) (Ne.symm ne_b32_b86) (Ne.symm ne_b32_b84) (tb94) (by decide) (sz95) (own_us8 hu_us (own_n4 hu_n1)) (own_n4 hu_n2)) R_b66.1 X89 hx hZ hown (hw _ (List.mem_of_getElem? (i := 37) rfl)) (hw _ (List.mem_of_getElem? (i := 38) rfl)) (hw _ (List.mem_of_getElem? (i := 40) rfl)) (hw _ (List.mem_of_getElem? (i := 39) rfl)) (hw _ (List.mem_of_getElem? (i := 4) rfl)) (hw _ (List.mem_of_getElem? (i := 41) rfl)) (by decide) (by decide) (W := 0) (by decide) (by rw [hml]; rfl) (a := b66) (argsL := [(.long v75s0), (.ref b32), (.int n2)]) (rest := []) (lenOf pd0_8 rfl) rfl rfl (Nat.le_of_eq rfl) (hb hby at_137) rfl (by decide) (by decide) ?_
      rintro _ T102 L103 X104 ⟨f106, g107, w108, rfl, N105, K111, q112, q113, q114, q115, q116, tb109, sz110⟩
      have N105 := Fr.app N90 N105
      have R_b3 := R_b3.keep K111 (ninS ne_b3_b66 (ninS ne_b3_b83 (ninS ne_b3_b84 (ninS ne_b3_b85 (ninS ne_b3_b86 nin0)))))
      have R_b32 := R_b32.keep K111 (ninS ne_b32_b66 (ninS ne_b32_b83 (ninS ne_b32_b84 (ninS ne_b32_b85 (ninS ne_b32_b86 nin0)))))
      have Zs := Nat.le_trans Zs K111.1
      have R_b66 : Way Z T102.heap b66 (.ref b83) (.ref b84) (us + ((1 : Int32) + n2)) := q112
      have R_b83 : Idt Z T102.heap b83 (.ref b85) (.ref b86) (54 : Int32) w108 := q113
      have R_b85 : LA Z T102.heap b85 (1024 : Int32) f106 := q114
      have R_b86 : LA Z T102.heap b86 (1024 : Int32) g107 := q115
      have R_b84 : LA Z T102.heap b84 (4096 : Int32) (cpy (oupd (oupd (oupd (fun _ => (0 : Int64)) 0 q5) 1 q4) 2 (q4 ^^^ q5)) (oupd u1 (us).toNatClampNeg n2.toInt64) 0 ((us + (1 : Int32))).toNatClampNeg (n2).toNatClampNeg) := q116
      generalize hu_u2 : (cpy (oupd (oupd (oupd (fun _ => (0 : Int64)) 0 q5) 1 q4) 2 (q4 ^^^ q5)) (oupd u1 (us).toNatClampNeg n2.toInt64) 0 ((us + (1 : Int32))).toNatClampNeg (n2).toNatClampNeg) = u2 at *
      by_cases hA : v75s0 = q1
      · by_cases hB : v108s0 = v75s0
        · skip
          show Till p e below s (Q0 Z q1 q2 q3 q4 q5 p6 h0 n0) room_1.cells room_1.slots (T102.setTop (mkF m 140 #[.val (.long q1), .second, .val (.long q2), .second, .val (.long q3), .second, .val (.long q4), .second, .val (.long q5), .second, .val (.int p6), .val (.ref b3), .val (.ref b32), .val (.int n1), .val (.int n2), .val (.long v75s0), .second, .val (.int (((p6.toUInt32 >>> ((5 : Int32) &&& 31).toUInt32).toInt32) &&& (3 : Int32))), .val (.long v108s0), .second, .val (.ref b66), .unset, .unset, .unset, .unset, .unset, .unset] []))
          refine Till.pre (fun _ hr => XS.aload X104.here hx rfl (hb hby at_140) rfl rfl hr) ?_
          show Till p e below s (Q0 Z q1 q2 q3 q4 q5 p6 h0 n0) room_1.cells room_1.slots (T102.setTop (mkF m 142 #[.val (.long q1), .second, .val (.long q2), .second, .val (.long q3), .second, .val (.long q4), .second, .val (.long q5), .second, .val (.int p6), .val (.ref b3), .val (.ref b32), .val (.int n1), .val (.int n2), .val (.long v75s0), .second, .val (.int (((p6.toUInt32 >>> ((5 : Int32) &&& 31).toUInt32).toInt32) &&& (3 : Int32))), .val (.long v108s0), .second, .val (.ref b66), .unset, .unset, .unset, .unset, .unset, .unset] [(.ref b66)]))
          refine Till.pre (fun _ hr => XS.lloadN X104.here hx rfl (hb hby at_142) rfl hr) ?_
          show Till p e below s (Q0 Z q1 q2 q3 q4 q5 p6 h0 n0) room_1.cells room_1.slots (T102.setTop (mkF m 143 #[.val (.long q1), .second, .val (.long q2), .second, .val (.long q3), .second, .val (.long q4), .second, .val (.long q5), .second, .val (.int p6), .val (.ref b3), .val (.ref b32), .val (.int n1), .val (.int n2), .val (.long v75s0), .second, .val (.int (((p6.toUInt32 >>> ((5 : Int32) &&& 31).toUInt32).toInt32) &&& (3 : Int32))), .val (.long v108s0), .second, .val (.ref b66), .unset, .unset, .unset, .unset, .unset, .unset] [(.long q1), (.ref b66)]))
          refine Till.callV (rm8_s l Z a0 hw b66 q1 b83 b85 b86 b84 (us + ((1 : Int32) + n2)) w108 f106 g107 u2 2 (own_um (own_um (fun _ => own_ABS) q1 (0 : Int32).toInt64) v75s0 us.toInt64) us n2 T102.heap n0 Zs R_b66 R_b83 R_b85 R_b86 R_b84 ne_b66_b83 ne_b66_b85 ne_b66_b86 ne_b66_b84 ne_b83_b85 ne_b83_b86 ne_b83_b84 ne_b85_b86 (Ne.symm ne_b84_b85) (Ne.symm ne_b84_b86) (tb109) (by decide) (own_mA hA) (own_us hu_us (own_n4 hu_n1)) (own_c2 hu_us (own_n4 hu_n1) hu_u2) (own_n4 hu_n2)) R_b66.1 X104 hx hZ hown (hw _ (List.mem_of_getElem? (i := 60) rfl)) (hw _ (List.mem_of_getElem? (i := 61) rfl)) (hw _ (List.mem_of_getElem? (i := 63) rfl)) (hw _ (List.mem_of_getElem? (i := 62) rfl)) (hw _ (List.mem_of_getElem? (i := 4) rfl)) (hw _ (List.mem_of_getElem? (i := 64) rfl)) (by decide) (by decide) (W := 0) (by decide) (by rw [hml]; rfl) (a := b66) (argsL := [(.long q1)]) (rest := []) (lenOf pd0_6 rfl) rfl rfl (Nat.le_of_eq rfl) (hb hby at_143) rfl (by decide) (by decide) ?_
          rintro _ T117 L118 X119 ⟨b123, rfl, N120, K121, szq_b123, q122⟩
          have N120 := Fr.app N105 N120
          have ne_b3_b123 : b3 ≠ b123 := Nat.ne_of_lt (Nat.lt_of_lt_of_le R_b3.lt szq_b123)
          have ne_b32_b123 : b32 ≠ b123 := Nat.ne_of_lt (Nat.lt_of_lt_of_le R_b32.lt szq_b123)
          have ne_b66_b123 : b66 ≠ b123 := Nat.ne_of_lt (Nat.lt_of_lt_of_le R_b66.lt szq_b123)
          have ne_b83_b123 : b83 ≠ b123 := Nat.ne_of_lt (Nat.lt_of_lt_of_le R_b83.lt szq_b123)
          have ne_b84_b123 : b84 ≠ b123 := Nat.ne_of_lt (Nat.lt_of_lt_of_le R_b84.lt szq_b123)
          have ne_b85_b123 : b85 ≠ b123 := Nat.ne_of_lt (Nat.lt_of_lt_of_le R_b85.lt szq_b123)
          have ne_b86_b123 : b86 ≠ b123 := Nat.ne_of_lt (Nat.lt_of_lt_of_le R_b86.lt szq_b123)
          have g_b123 : n0 ≤ b123 := Nat.le_trans Zs szq_b123
          have R_b3 := R_b3.keep K121 nin0
          have R_b32 := R_b32.keep K121 nin0
          have R_b66 := R_b66.keep K121 nin0
          have R_b83 := R_b83.keep K121 nin0
          have R_b84 := R_b84.keep K121 nin0
          have R_b85 := R_b85.keep K121 nin0
          have R_b86 := R_b86.keep K121 nin0
          have Zs := Nat.le_trans Zs K121.1
          have R_b123 : LA Z T117.heap b123 n2 (fun i => u2 (((us + (1 : Int32))).toNatClampNeg + i)) := q122
          show Till p e below s (Q0 Z q1 q2 q3 q4 q5 p6 h0 n0) room_1.cells room_1.slots (T117.setTop (mkF m 146 #[.val (.long q1), .second, .val (.long q2), .second, .val (.long q3), .second, .val (.long q4), .second, .val (.long q5), .second, .val (.int p6), .val (.ref b3), .val (.ref b32), .val (.int n1), .val (.int n2), .val (.long v75s0), .second, .val (.int (((p6.toUInt32 >>> ((5 : Int32) &&& 31).toUInt32).toInt32) &&& (3 : Int32))), .val (.long v108s0), .second, .val (.ref b66), .unset, .unset, .unset, .unset, .unset, .unset] [(.ref b123)]))
          refine Till.pre (fun _ hr => XS.astore X119.here hx rfl (hb hby at_146) rfl rfl (l' := #[.val (.long q1), .second, .val (.long q2), .second, .val (.long q3), .second, .val (.long q4), .second, .val (.long q5), .second, .val (.int p6), .val (.ref b3), .val (.ref b32), .val (.int n1), .val (.int n2), .val (.long v75s0), .second, .val (.int (((p6.toUInt32 >>> ((5 : Int32) &&& 31).toUInt32).toInt32) &&& (3 : Int32))), .val (.long v108s0), .second, .val (.ref b66), .val (.ref b123), .unset, .unset, .unset, .unset, .unset]) rfl hr) ?_
          show Till p e below s (Q0 Z q1 q2 q3 q4 q5 p6 h0 n0) room_1.cells room_1.slots (T117.setTop (mkF m 148 #[.val (.long q1), .second, .val (.long q2), .second, .val (.long q3), .second, .val (.long q4), .second, .val (.long q5), .second, .val (.int p6), .val (.ref b3), .val (.ref b32), .val (.int n1), .val (.int n2), .val (.long v75s0), .second, .val (.int (((p6.toUInt32 >>> ((5 : Int32) &&& 31).toUInt32).toInt32) &&& (3 : Int32))), .val (.long v108s0), .second, .val (.ref b66), .val (.ref b123), .unset, .unset, .unset, .unset, .unset] []))
          refine Till.pre (fun _ hr => XS.aload X119.here hx rfl (hb hby at_148) rfl rfl hr) ?_
          show Till p e below s (Q0 Z q1 q2 q3 q4 q5 p6 h0 n0) room_1.cells room_1.slots (T117.setTop (mkF m 150 #[.val (.long q1), .second, .val (.long q2), .second, .val (.long q3), .second, .val (.long q4), .second, .val (.long q5), .second, .val (.int p6), .val (.ref b3), .val (.ref b32), .val (.int n1), .val (.int n2), .val (.long v75s0), .second, .val (.int (((p6.toUInt32 >>> ((5 : Int32) &&& 31).toUInt32).toInt32) &&& (3 : Int32))), .val (.long v108s0), .second, .val (.ref b66), .val (.ref b123), .unset, .unset, .unset, .unset, .unset] [(.ref b66)]))
          refine Till.pre (fun _ hr => XS.lload X119.here hx rfl (hb hby at_150) rfl hr) ?_
          show Till p e below s (Q0 Z q1 q2 q3 q4 q5 p6 h0 n0) room_1.cells room_1.slots (T117.setTop (mkF m 152 #[.val (.long q1), .second, .val (.long q2), .second, .val (.long q3), .second, .val (.long q4), .second, .val (.long q5), .second, .val (.int p6), .val (.ref b3), .val (.ref b32), .val (.int n1), .val (.int n2), .val (.long v75s0), .second, .val (.int (((p6.toUInt32 >>> ((5 : Int32) &&& 31).toUInt32).toInt32) &&& (3 : Int32))), .val (.long v108s0), .second, .val (.ref b66), .val (.ref b123), .unset, .unset, .unset, .unset, .unset] [(.long v75s0), (.ref b66)]))
          refine Till.callV (rm8_s l Z a0 hw b66 v75s0 b83 b85 b86 b84 (us + ((1 : Int32) + n2)) w108 f106 g107 u2 2 (own_um (own_um (fun _ => own_ABS) q1 (0 : Int32).toInt64) v75s0 us.toInt64) us n2 T117.heap n0 Zs R_b66 R_b83 R_b85 R_b86 R_b84 ne_b66_b83 ne_b66_b85 ne_b66_b86 ne_b66_b84 ne_b83_b85 ne_b83_b86 ne_b83_b84 ne_b85_b86 (Ne.symm ne_b84_b85) (Ne.symm ne_b84_b86) (tb109) (by decide) (own_m2) (own_us hu_us (own_n4 hu_n1)) (own_c2 hu_us (own_n4 hu_n1) hu_u2) (own_n4 hu_n2)) R_b66.1 X119 hx hZ hown (hw _ (List.mem_of_getElem? (i := 60) rfl)) (hw _ (List.mem_of_getElem? (i := 61) rfl)) (hw _ (List.mem_of_getElem? (i := 63) rfl)) (hw _ (List.mem_of_getElem? (i := 62) rfl)) (hw _ (List.mem_of_getElem? (i := 4) rfl)) (hw _ (List.mem_of_getElem? (i := 64) rfl)) (by decide) (by decide) (W := 0) (by decide) (by rw [hml]; rfl) (a := b66) (argsL := [(.long v75s0)]) (rest := []) (lenOf pd0_6 rfl) rfl rfl (Nat.le_of_eq rfl) (hb hby at_152) rfl (by decide) (by decide) ?_
          rintro _ T124 L125 X126 ⟨b130, rfl, N127, K128, szq_b130, q129⟩
          have N127 := Fr.app N120 N127
          have ne_b3_b130 : b3 ≠ b130 := Nat.ne_of_lt (Nat.lt_of_lt_of_le R_b3.lt szq_b130)
          have ne_b32_b130 : b32 ≠ b130 := Nat.ne_of_lt (Nat.lt_of_lt_of_le R_b32.lt szq_b130)
          have ne_b66_b130 : b66 ≠ b130 := Nat.ne_of_lt (Nat.lt_of_lt_of_le R_b66.lt szq_b130)
          have ne_b83_b130 : b83 ≠ b130 := Nat.ne_of_lt (Nat.lt_of_lt_of_le R_b83.lt szq_b130)
          have ne_b84_b130 : b84 ≠ b130 := Nat.ne_of_lt (Nat.lt_of_lt_of_le R_b84.lt szq_b130)
          have ne_b85_b130 : b85 ≠ b130 := Nat.ne_of_lt (Nat.lt_of_lt_of_le R_b85.lt szq_b130)
          have ne_b86_b130 : b86 ≠ b130 := Nat.ne_of_lt (Nat.lt_of_lt_of_le R_b86.lt szq_b130)
          have ne_b123_b130 : b123 ≠ b130 := Nat.ne_of_lt (Nat.lt_of_lt_of_le R_b123.lt szq_b130)
          have g_b130 : n0 ≤ b130 := Nat.le_trans Zs szq_b130
          have R_b3 := R_b3.keep K128 nin0
          have R_b32 := R_b32.keep K128 nin0
          have R_b66 := R_b66.keep K128 nin0
          have R_b83 := R_b83.keep K128 nin0
          have R_b84 := R_b84.keep K128 nin0
          have R_b85 := R_b85.keep K128 nin0
          have R_b86 := R_b86.keep K128 nin0
          have R_b123 := R_b123.keep K128 nin0
          have Zs := Nat.le_trans Zs K128.1
          have R_b130 : LA Z T124.heap b130 n2 (fun i => u2 (((us + (1 : Int32))).toNatClampNeg + i)) := q129
          show Till p e below s (Q0 Z q1 q2 q3 q4 q5 p6 h0 n0) room_1.cells room_1.slots (T124.setTop (mkF m 155 #[.val (.long q1), .second, .val (.long q2), .second, .val (.long q3), .second, .val (.long q4), .second, .val (.long q5), .second, .val (.int p6), .val (.ref b3), .val (.ref b32), .val (.int n1), .val (.int n2), .val (.long v75s0), .second, .val (.int (((p6.toUInt32 >>> ((5 : Int32) &&& 31).toUInt32).toInt32) &&& (3 : Int32))), .val (.long v108s0), .second, .val (.ref b66), .val (.ref b123), .unset, .unset, .unset, .unset, .unset] [(.ref b130)]))
          refine Till.pre (fun _ hr => XS.astore X126.here hx rfl (hb hby at_155) rfl rfl (l' := #[.val (.long q1), .second, .val (.long q2), .second, .val (.long q3), .second, .val (.long q4), .second, .val (.long q5), .second, .val (.int p6), .val (.ref b3), .val (.ref b32), .val (.int n1), .val (.int n2), .val (.long v75s0), .second, .val (.int (((p6.toUInt32 >>> ((5 : Int32) &&& 31).toUInt32).toInt32) &&& (3 : Int32))), .val (.long v108s0), .second, .val (.ref b66), .val (.ref b123), .val (.ref b130), .unset, .unset, .unset, .unset]) rfl hr) ?_
          show Till p e below s (Q0 Z q1 q2 q3 q4 q5 p6 h0 n0) room_1.cells room_1.slots (T124.setTop (mkF m 157 #[.val (.long q1), .second, .val (.long q2), .second, .val (.long q3), .second, .val (.long q4), .second, .val (.long q5), .second, .val (.int p6), .val (.ref b3), .val (.ref b32), .val (.int n1), .val (.int n2), .val (.long v75s0), .second, .val (.int (((p6.toUInt32 >>> ((5 : Int32) &&& 31).toUInt32).toInt32) &&& (3 : Int32))), .val (.long v108s0), .second, .val (.ref b66), .val (.ref b123), .val (.ref b130), .unset, .unset, .unset, .unset] []))
          refine Till.pre (fun _ hr => XS.aload X126.here hx rfl (hb hby at_157) rfl rfl hr) ?_
          show Till p e below s (Q0 Z q1 q2 q3 q4 q5 p6 h0 n0) room_1.cells room_1.slots (T124.setTop (mkF m 159 #[.val (.long q1), .second, .val (.long q2), .second, .val (.long q3), .second, .val (.long q4), .second, .val (.long q5), .second, .val (.int p6), .val (.ref b3), .val (.ref b32), .val (.int n1), .val (.int n2), .val (.long v75s0), .second, .val (.int (((p6.toUInt32 >>> ((5 : Int32) &&& 31).toUInt32).toInt32) &&& (3 : Int32))), .val (.long v108s0), .second, .val (.ref b66), .val (.ref b123), .val (.ref b130), .unset, .unset, .unset, .unset] [(.ref b66)]))
          refine Till.pre (fun _ hr => XS.lload X126.here hx rfl (hb hby at_159) rfl hr) ?_
          show Till p e below s (Q0 Z q1 q2 q3 q4 q5 p6 h0 n0) room_1.cells room_1.slots (T124.setTop (mkF m 161 #[.val (.long q1), .second, .val (.long q2), .second, .val (.long q3), .second, .val (.long q4), .second, .val (.long q5), .second, .val (.int p6), .val (.ref b3), .val (.ref b32), .val (.int n1), .val (.int n2), .val (.long v75s0), .second, .val (.int (((p6.toUInt32 >>> ((5 : Int32) &&& 31).toUInt32).toInt32) &&& (3 : Int32))), .val (.long v108s0), .second, .val (.ref b66), .val (.ref b123), .val (.ref b130), .unset, .unset, .unset, .unset] [(.long v108s0), (.ref b66)]))
          refine Till.callV (rm8_s l Z a0 hw b66 v108s0 b83 b85 b86 b84 (us + ((1 : Int32) + n2)) w108 f106 g107 u2 2 (own_um (own_um (fun _ => own_ABS) q1 (0 : Int32).toInt64) v75s0 us.toInt64) us n2 T124.heap n0 Zs R_b66 R_b83 R_b85 R_b86 R_b84 ne_b66_b83 ne_b66_b85 ne_b66_b86 ne_b66_b84 ne_b83_b85 ne_b83_b86 ne_b83_b84 ne_b85_b86 (Ne.symm ne_b84_b85) (Ne.symm ne_b84_b86) (tb109) (by decide) (own_m3B hB) (own_us hu_us (own_n4 hu_n1)) (own_c2 hu_us (own_n4 hu_n1) hu_u2) (own_n4 hu_n2)) R_b66.1 X126 hx hZ hown (hw _ (List.mem_of_getElem? (i := 60) rfl)) (hw _ (List.mem_of_getElem? (i := 61) rfl)) (hw _ (List.mem_of_getElem? (i := 63) rfl)) (hw _ (List.mem_of_getElem? (i := 62) rfl)) (hw _ (List.mem_of_getElem? (i := 4) rfl)) (hw _ (List.mem_of_getElem? (i := 64) rfl)) (by decide) (by decide) (W := 0) (by decide) (by rw [hml]; rfl) (a := b66) (argsL := [(.long v108s0)]) (rest := []) (lenOf pd0_6 rfl) rfl rfl (Nat.le_of_eq rfl) (hb hby at_161) rfl (by decide) (by decide) ?_
          rintro _ T131 L132 X133 ⟨b137, rfl, N134, K135, szq_b137, q136⟩
          have N134 := Fr.app N127 N134
          have ne_b3_b137 : b3 ≠ b137 := Nat.ne_of_lt (Nat.lt_of_lt_of_le R_b3.lt szq_b137)
          have ne_b32_b137 : b32 ≠ b137 := Nat.ne_of_lt (Nat.lt_of_lt_of_le R_b32.lt szq_b137)
          have ne_b66_b137 : b66 ≠ b137 := Nat.ne_of_lt (Nat.lt_of_lt_of_le R_b66.lt szq_b137)
          have ne_b83_b137 : b83 ≠ b137 := Nat.ne_of_lt (Nat.lt_of_lt_of_le R_b83.lt szq_b137)
          have ne_b84_b137 : b84 ≠ b137 := Nat.ne_of_lt (Nat.lt_of_lt_of_le R_b84.lt szq_b137)
          have ne_b85_b137 : b85 ≠ b137 := Nat.ne_of_lt (Nat.lt_of_lt_of_le R_b85.lt szq_b137)
          have ne_b86_b137 : b86 ≠ b137 := Nat.ne_of_lt (Nat.lt_of_lt_of_le R_b86.lt szq_b137)
          have ne_b123_b137 : b123 ≠ b137 := Nat.ne_of_lt (Nat.lt_of_lt_of_le R_b123.lt szq_b137)
          have ne_b130_b137 : b130 ≠ b137 := Nat.ne_of_lt (Nat.lt_of_lt_of_le R_b130.lt szq_b137)
          have g_b137 : n0 ≤ b137 := Nat.le_trans Zs szq_b137
          have R_b3 := R_b3.keep K135 nin0
          have R_b32 := R_b32.keep K135 nin0
          have R_b66 := R_b66.keep K135 nin0
          have R_b83 := R_b83.keep K135 nin0
          have R_b84 := R_b84.keep K135 nin0
          have R_b85 := R_b85.keep K135 nin0
          have R_b86 := R_b86.keep K135 nin0
          have R_b123 := R_b123.keep K135 nin0
          have R_b130 := R_b130.keep K135 nin0
          have Zs := Nat.le_trans Zs K135.1
          have R_b137 : LA Z T131.heap b137 n2 (fun i => u2 (((us + (1 : Int32))).toNatClampNeg + i)) := q136
          show Till p e below s (Q0 Z q1 q2 q3 q4 q5 p6 h0 n0) room_1.cells room_1.slots (T131.setTop (mkF m 164 #[.val (.long q1), .second, .val (.long q2), .second, .val (.long q3), .second, .val (.long q4), .second, .val (.long q5), .second, .val (.int p6), .val (.ref b3), .val (.ref b32), .val (.int n1), .val (.int n2), .val (.long v75s0), .second, .val (.int (((p6.toUInt32 >>> ((5 : Int32) &&& 31).toUInt32).toInt32) &&& (3 : Int32))), .val (.long v108s0), .second, .val (.ref b66), .val (.ref b123), .val (.ref b130), .unset, .unset, .unset, .unset] [(.ref b137)]))
          refine Till.pre (fun _ hr => XS.astore X133.here hx rfl (hb hby at_164) rfl rfl (l' := #[.val (.long q1), .second, .val (.long q2), .second, .val (.long q3), .second, .val (.long q4), .second, .val (.long q5), .second, .val (.int p6), .val (.ref b3), .val (.ref b32), .val (.int n1), .val (.int n2), .val (.long v75s0), .second, .val (.int (((p6.toUInt32 >>> ((5 : Int32) &&& 31).toUInt32).toInt32) &&& (3 : Int32))), .val (.long v108s0), .second, .val (.ref b66), .val (.ref b123), .val (.ref b130), .val (.ref b137), .unset, .unset, .unset]) rfl hr) ?_
          show Till p e below s (Q0 Z q1 q2 q3 q4 q5 p6 h0 n0) room_1.cells room_1.slots (T131.setTop (mkF m 166 #[.val (.long q1), .second, .val (.long q2), .second, .val (.long q3), .second, .val (.long q4), .second, .val (.long q5), .second, .val (.int p6), .val (.ref b3), .val (.ref b32), .val (.int n1), .val (.int n2), .val (.long v75s0), .second, .val (.int (((p6.toUInt32 >>> ((5 : Int32) &&& 31).toUInt32).toInt32) &&& (3 : Int32))), .val (.long v108s0), .second, .val (.ref b66), .val (.ref b123), .val (.ref b130), .val (.ref b137), .unset, .unset, .unset] []))
          refine Till.pre (fun _ hr => XS.lload X133.here hx rfl (hb hby at_166) rfl hr) ?_
          show Till p e below s (Q0 Z q1 q2 q3 q4 q5 p6 h0 n0) room_1.cells room_1.slots (T131.setTop (mkF m 168 #[.val (.long q1), .second, .val (.long q2), .second, .val (.long q3), .second, .val (.long q4), .second, .val (.long q5), .second, .val (.int p6), .val (.ref b3), .val (.ref b32), .val (.int n1), .val (.int n2), .val (.long v75s0), .second, .val (.int (((p6.toUInt32 >>> ((5 : Int32) &&& 31).toUInt32).toInt32) &&& (3 : Int32))), .val (.long v108s0), .second, .val (.ref b66), .val (.ref b123), .val (.ref b130), .val (.ref b137), .unset, .unset, .unset] [(.long v75s0)]))
          refine Till.pre (fun _ hr => XS.lloadN X133.here hx rfl (hb hby at_168) rfl hr) ?_
          show Till p e below s (Q0 Z q1 q2 q3 q4 q5 p6 h0 n0) room_1.cells room_1.slots (T131.setTop (mkF m 169 #[.val (.long q1), .second, .val (.long q2), .second, .val (.long q3), .second, .val (.long q4), .second, .val (.long q5), .second, .val (.int p6), .val (.ref b3), .val (.ref b32), .val (.int n1), .val (.int n2), .val (.long v75s0), .second, .val (.int (((p6.toUInt32 >>> ((5 : Int32) &&& 31).toUInt32).toInt32) &&& (3 : Int32))), .val (.long v108s0), .second, .val (.ref b66), .val (.ref b123), .val (.ref b130), .val (.ref b137), .unset, .unset, .unset] [(.long q1), (.long v75s0)]))
          refine Till.pre (fun _ hr => XS.lcmp X133.here hx rfl (hb hby at_169) rfl hr) ?_
          show Till p e below s (Q0 Z q1 q2 q3 q4 q5 p6 h0 n0) room_1.cells room_1.slots (T131.setTop (mkF m 170 #[.val (.long q1), .second, .val (.long q2), .second, .val (.long q3), .second, .val (.long q4), .second, .val (.long q5), .second, .val (.int p6), .val (.ref b3), .val (.ref b32), .val (.int n1), .val (.int n2), .val (.long v75s0), .second, .val (.int (((p6.toUInt32 >>> ((5 : Int32) &&& 31).toUInt32).toInt32) &&& (3 : Int32))), .val (.long v108s0), .second, .val (.ref b66), .val (.ref b123), .val (.ref b130), .val (.ref b137), .unset, .unset, .unset] [(.int (lcmpW v75s0 q1))]))
          refine Till.ifc (pc' := 185) X133.here hx (hb hby at_170) (by decide) (by decide) (fun q => absurd (hA : (v75s0 = q1)) (mt lEq.mpr (hEq.2.2.1 q))) (fun q => ?_)
          show Till p e below s (Q0 Z q1 q2 q3 q4 q5 p6 h0 n0) room_1.cells room_1.slots (T131.setTop (mkF m 173 #[.val (.long q1), .second, .val (.long q2), .second, .val (.long q3), .second, .val (.long q4), .second, .val (.long q5), .second, .val (.int p6), .val (.ref b3), .val (.ref b32), .val (.int n1), .val (.int n2), .val (.long v75s0), .second, .val (.int (((p6.toUInt32 >>> ((5 : Int32) &&& 31).toUInt32).toInt32) &&& (3 : Int32))), .val (.long v108s0), .second, .val (.ref b66), .val (.ref b123), .val (.ref b130), .val (.ref b137), .unset, .unset, .unset] []))
          refine Till.pre (fun _ hr => XS.aload X133.here hx rfl (hb hby at_173) rfl rfl hr) ?_
          show Till p e below s (Q0 Z q1 q2 q3 q4 q5 p6 h0 n0) room_1.cells room_1.slots (T131.setTop (mkF m 175 #[.val (.long q1), .second, .val (.long q2), .second, .val (.long q3), .second, .val (.long q4), .second, .val (.long q5), .second, .val (.int p6), .val (.ref b3), .val (.ref b32), .val (.int n1), .val (.int n2), .val (.long v75s0), .second, .val (.int (((p6.toUInt32 >>> ((5 : Int32) &&& 31).toUInt32).toInt32) &&& (3 : Int32))), .val (.long v108s0), .second, .val (.ref b66), .val (.ref b123), .val (.ref b130), .val (.ref b137), .unset, .unset, .unset] [(.ref b123)]))
          refine Till.pre (fun _ hr => XS.aload X133.here hx rfl (hb hby at_175) rfl rfl hr) ?_
          show Till p e below s (Q0 Z q1 q2 q3 q4 q5 p6 h0 n0) room_1.cells room_1.slots (T131.setTop (mkF m 177 #[.val (.long q1), .second, .val (.long q2), .second, .val (.long q3), .second, .val (.long q4), .second, .val (.long q5), .second, .val (.int p6), .val (.ref b3), .val (.ref b32), .val (.int n1), .val (.int n2), .val (.long v75s0), .second, .val (.int (((p6.toUInt32 >>> ((5 : Int32) &&& 31).toUInt32).toInt32) &&& (3 : Int32))), .val (.long v108s0), .second, .val (.ref b66), .val (.ref b123), .val (.ref b130), .val (.ref b137), .unset, .unset, .unset] [(.ref b32), (.ref b123)]))
          refine Till.pre (fun _ hr => XS.iload X133.here hx rfl (hb hby at_177) rfl hr) ?_
          show Till p e below s (Q0 Z q1 q2 q3 q4 q5 p6 h0 n0) room_1.cells room_1.slots (T131.setTop (mkF m 179 #[.val (.long q1), .second, .val (.long q2), .second, .val (.long q3), .second, .val (.long q4), .second, .val (.long q5), .second, .val (.int p6), .val (.ref b3), .val (.ref b32), .val (.int n1), .val (.int n2), .val (.long v75s0), .second, .val (.int (((p6.toUInt32 >>> ((5 : Int32) &&& 31).toUInt32).toInt32) &&& (3 : Int32))), .val (.long v108s0), .second, .val (.ref b66), .val (.ref b123), .val (.ref b130), .val (.ref b137), .unset, .unset, .unset] [(.int n2), (.ref b32), (.ref b123)]))
          refine Till.callS (rm14 l Z a0 hw b123 b32 n2 n2 (fun i => u2 (((us + (1 : Int32))).toNatClampNeg + i)) (oupd (oupd (oupd (fun _ => (0 : Int64)) 0 q5) 1 q4) 2 (q4 ^^^ q5)) T131.heap n0 R_b123 R_b32) X133 hx hZ hown (hw _ (List.mem_of_getElem? (i := 85) rfl)) (hw _ (List.mem_of_getElem? (i := 86) rfl)) (hw _ (List.mem_of_getElem? (i := 87) rfl)) (hw _ (List.mem_of_getElem? (i := 88) rfl)) (by decide) (by decide) (W := 0) (by decide) (by rw [hml]; rfl) (argsL := [(.ref b123), (.ref b32), (.int n2)]) (rest := []) (lenOf pd0_12 rfl) rfl rfl (Nat.le_of_eq rfl) (hb hby at_179) rfl (by decide) (by decide) ?_
          rintro _ T138 L139 X140 ⟨rfl, N141, e142⟩
          have N141 := Fr.app N134 N141
          show Till p e below s (Q0 Z q1 q2 q3 q4 q5 p6 h0 n0) room_1.cells room_1.slots (T138.setTop (mkF m 182 #[.val (.long q1), .second, .val (.long q2), .second, .val (.long q3), .second, .val (.long q4), .second, .val (.long q5), .second, .val (.int p6), .val (.ref b3), .val (.ref b32), .val (.int n1), .val (.int n2), .val (.long v75s0), .second, .val (.int (((p6.toUInt32 >>> ((5 : Int32) &&& 31).toUInt32).toInt32) &&& (3 : Int32))), .val (.long v108s0), .second, .val (.ref b66), .val (.ref b123), .val (.ref b130), .val (.ref b137), .unset, .unset, .unset] [(.int (fn14 n2 n2 (fun i => u2 (((us + (1 : Int32))).toNatClampNeg + i)) (oupd (oupd (oupd (fun _ => (0 : Int64)) 0 q5) 1 q4) 2 (q4 ^^^ q5))))]))
          refine Till.pre (fun _ hr => XS.goto X140.here hx rfl (pc0 := 182) (pc' := 194) rfl (hb hby at_182) (by decide) (by decide) hr) ?_
          show Till p e below s (Q0 Z q1 q2 q3 q4 q5 p6 h0 n0) room_1.cells room_1.slots (T138.setTop (mkF m 194 #[.val (.long q1), .second, .val (.long q2), .second, .val (.long q3), .second, .val (.long q4), .second, .val (.long q5), .second, .val (.int p6), .val (.ref b3), .val (.ref b32), .val (.int n1), .val (.int n2), .val (.long v75s0), .second, .val (.int (((p6.toUInt32 >>> ((5 : Int32) &&& 31).toUInt32).toInt32) &&& (3 : Int32))), .val (.long v108s0), .second, .val (.ref b66), .val (.ref b123), .val (.ref b130), .val (.ref b137), .unset, .unset, .unset] [(.int (fn14 n2 n2 (fun i => u2 (((us + (1 : Int32))).toNatClampNeg + i)) (oupd (oupd (oupd (fun _ => (0 : Int64)) 0 q5) 1 q4) 2 (q4 ^^^ q5))))]))
          refine Till.pre (fun _ hr => XS.istore X140.here hx rfl (hb hby at_194) rfl (l' := #[.val (.long q1), .second, .val (.long q2), .second, .val (.long q3), .second, .val (.long q4), .second, .val (.long q5), .second, .val (.int p6), .val (.ref b3), .val (.ref b32), .val (.int n1), .val (.int n2), .val (.long v75s0), .second, .val (.int (((p6.toUInt32 >>> ((5 : Int32) &&& 31).toUInt32).toInt32) &&& (3 : Int32))), .val (.long v108s0), .second, .val (.ref b66), .val (.ref b123), .val (.ref b130), .val (.ref b137), .val (.int (fn14 n2 n2 (fun i => u2 (((us + (1 : Int32))).toNatClampNeg + i)) (oupd (oupd (oupd (fun _ => (0 : Int64)) 0 q5) 1 q4) 2 (q4 ^^^ q5)))), .unset, .unset]) rfl hr) ?_
          show Till p e below s (Q0 Z q1 q2 q3 q4 q5 p6 h0 n0) room_1.cells room_1.slots (T138.setTop (mkF m 196 #[.val (.long q1), .second, .val (.long q2), .second, .val (.long q3), .second, .val (.long q4), .second, .val (.long q5), .second, .val (.int p6), .val (.ref b3), .val (.ref b32), .val (.int n1), .val (.int n2), .val (.long v75s0), .second, .val (.int (((p6.toUInt32 >>> ((5 : Int32) &&& 31).toUInt32).toInt32) &&& (3 : Int32))), .val (.long v108s0), .second, .val (.ref b66), .val (.ref b123), .val (.ref b130), .val (.ref b137), .val (.int (fn14 n2 n2 (fun i => u2 (((us + (1 : Int32))).toNatClampNeg + i)) (oupd (oupd (oupd (fun _ => (0 : Int64)) 0 q5) 1 q4) 2 (q4 ^^^ q5)))), .unset, .unset] []))
          refine Till.pre (fun _ hr => XS.aload X140.here hx rfl (hb hby at_196) rfl rfl hr) ?_
          show Till p e below s (Q0 Z q1 q2 q3 q4 q5 p6 h0 n0) room_1.cells room_1.slots (T138.setTop (mkF m 198 #[.val (.long q1), .second, .val (.long q2), .second, .val (.long q3), .second, .val (.long q4), .second, .val (.long q5), .second, .val (.int p6), .val (.ref b3), .val (.ref b32), .val (.int n1), .val (.int n2), .val (.long v75s0), .second, .val (.int (((p6.toUInt32 >>> ((5 : Int32) &&& 31).toUInt32).toInt32) &&& (3 : Int32))), .val (.long v108s0), .second, .val (.ref b66), .val (.ref b123), .val (.ref b130), .val (.ref b137), .val (.int (fn14 n2 n2 (fun i => u2 (((us + (1 : Int32))).toNatClampNeg + i)) (oupd (oupd (oupd (fun _ => (0 : Int64)) 0 q5) 1 q4) 2 (q4 ^^^ q5)))), .unset, .unset] [(.ref b130)]))
          refine Till.pre (fun _ hr => XS.aload X140.here hx rfl (hb hby at_198) rfl rfl hr) ?_
          show Till p e below s (Q0 Z q1 q2 q3 q4 q5 p6 h0 n0) room_1.cells room_1.slots (T138.setTop (mkF m 200 #[.val (.long q1), .second, .val (.long q2), .second, .val (.long q3), .second, .val (.long q4), .second, .val (.long q5), .second, .val (.int p6), .val (.ref b3), .val (.ref b32), .val (.int n1), .val (.int n2), .val (.long v75s0), .second, .val (.int (((p6.toUInt32 >>> ((5 : Int32) &&& 31).toUInt32).toInt32) &&& (3 : Int32))), .val (.long v108s0), .second, .val (.ref b66), .val (.ref b123), .val (.ref b130), .val (.ref b137), .val (.int (fn14 n2 n2 (fun i => u2 (((us + (1 : Int32))).toNatClampNeg + i)) (oupd (oupd (oupd (fun _ => (0 : Int64)) 0 q5) 1 q4) 2 (q4 ^^^ q5)))), .unset, .unset] [(.ref b32), (.ref b130)]))
          refine Till.pre (fun _ hr => XS.iload X140.here hx rfl (hb hby at_200) rfl hr) ?_
          show Till p e below s (Q0 Z q1 q2 q3 q4 q5 p6 h0 n0) room_1.cells room_1.slots (T138.setTop (mkF m 202 #[.val (.long q1), .second, .val (.long q2), .second, .val (.long q3), .second, .val (.long q4), .second, .val (.long q5), .second, .val (.int p6), .val (.ref b3), .val (.ref b32), .val (.int n1), .val (.int n2), .val (.long v75s0), .second, .val (.int (((p6.toUInt32 >>> ((5 : Int32) &&& 31).toUInt32).toInt32) &&& (3 : Int32))), .val (.long v108s0), .second, .val (.ref b66), .val (.ref b123), .val (.ref b130), .val (.ref b137), .val (.int (fn14 n2 n2 (fun i => u2 (((us + (1 : Int32))).toNatClampNeg + i)) (oupd (oupd (oupd (fun _ => (0 : Int64)) 0 q5) 1 q4) 2 (q4 ^^^ q5)))), .unset, .unset] [(.int n2), (.ref b32), (.ref b130)]))
          refine Till.callS (rm14 l Z a0 hw b130 b32 n2 n2 (fun i => u2 (((us + (1 : Int32))).toNatClampNeg + i)) (oupd (oupd (oupd (fun _ => (0 : Int64)) 0 q5) 1 q4) 2 (q4 ^^^ q5)) T131.heap n0 R_b130 R_b32) X140 hx hZ hown (hw _ (List.mem_of_getElem? (i := 85) rfl)) (hw _ (List.mem_of_getElem? (i := 86) rfl)) (hw _ (List.mem_of_getElem? (i := 87) rfl)) (hw _ (List.mem_of_getElem? (i := 88) rfl)) (by decide) (by decide) (W := 0) (by decide) (by rw [hml]; rfl) (argsL := [(.ref b130), (.ref b32), (.int n2)]) (rest := []) (lenOf pd0_12 rfl) rfl rfl (Nat.le_of_eq rfl) (hb hby at_202) e142 (by decide) (by decide) ?_
          rintro _ T143 L144 X145 ⟨rfl, N146, e147⟩
          have N146 := Fr.app N141 N146
          show Till p e below s (Q0 Z q1 q2 q3 q4 q5 p6 h0 n0) room_1.cells room_1.slots (T143.setTop (mkF m 205 #[.val (.long q1), .second, .val (.long q2), .second, .val (.long q3), .second, .val (.long q4), .second, .val (.long q5), .second, .val (.int p6), .val (.ref b3), .val (.ref b32), .val (.int n1), .val (.int n2), .val (.long v75s0), .second, .val (.int (((p6.toUInt32 >>> ((5 : Int32) &&& 31).toUInt32).toInt32) &&& (3 : Int32))), .val (.long v108s0), .second, .val (.ref b66), .val (.ref b123), .val (.ref b130), .val (.ref b137), .val (.int (fn14 n2 n2 (fun i => u2 (((us + (1 : Int32))).toNatClampNeg + i)) (oupd (oupd (oupd (fun _ => (0 : Int64)) 0 q5) 1 q4) 2 (q4 ^^^ q5)))), .unset, .unset] [(.int (fn14 n2 n2 (fun i => u2 (((us + (1 : Int32))).toNatClampNeg + i)) (oupd (oupd (oupd (fun _ => (0 : Int64)) 0 q5) 1 q4) 2 (q4 ^^^ q5))))]))
          refine Till.pre (fun _ hr => XS.istore X145.here hx rfl (hb hby at_205) rfl (l' := #[.val (.long q1), .second, .val (.long q2), .second, .val (.long q3), .second, .val (.long q4), .second, .val (.long q5), .second, .val (.int p6), .val (.ref b3), .val (.ref b32), .val (.int n1), .val (.int n2), .val (.long v75s0), .second, .val (.int (((p6.toUInt32 >>> ((5 : Int32) &&& 31).toUInt32).toInt32) &&& (3 : Int32))), .val (.long v108s0), .second, .val (.ref b66), .val (.ref b123), .val (.ref b130), .val (.ref b137), .val (.int (fn14 n2 n2 (fun i => u2 (((us + (1 : Int32))).toNatClampNeg + i)) (oupd (oupd (oupd (fun _ => (0 : Int64)) 0 q5) 1 q4) 2 (q4 ^^^ q5)))), .val (.int (fn14 n2 n2 (fun i => u2 (((us + (1 : Int32))).toNatClampNeg + i)) (oupd (oupd (oupd (fun _ => (0 : Int64)) 0 q5) 1 q4) 2 (q4 ^^^ q5)))), .unset]) rfl hr) ?_
          show Till p e below s (Q0 Z q1 q2 q3 q4 q5 p6 h0 n0) room_1.cells room_1.slots (T143.setTop (mkF m 207 #[.val (.long q1), .second, .val (.long q2), .second, .val (.long q3), .second, .val (.long q4), .second, .val (.long q5), .second, .val (.int p6), .val (.ref b3), .val (.ref b32), .val (.int n1), .val (.int n2), .val (.long v75s0), .second, .val (.int (((p6.toUInt32 >>> ((5 : Int32) &&& 31).toUInt32).toInt32) &&& (3 : Int32))), .val (.long v108s0), .second, .val (.ref b66), .val (.ref b123), .val (.ref b130), .val (.ref b137), .val (.int (fn14 n2 n2 (fun i => u2 (((us + (1 : Int32))).toNatClampNeg + i)) (oupd (oupd (oupd (fun _ => (0 : Int64)) 0 q5) 1 q4) 2 (q4 ^^^ q5)))), .val (.int (fn14 n2 n2 (fun i => u2 (((us + (1 : Int32))).toNatClampNeg + i)) (oupd (oupd (oupd (fun _ => (0 : Int64)) 0 q5) 1 q4) 2 (q4 ^^^ q5)))), .unset] []))
          refine Till.pre (fun _ hr => XS.lload X145.here hx rfl (hb hby at_207) rfl hr) ?_
          show Till p e below s (Q0 Z q1 q2 q3 q4 q5 p6 h0 n0) room_1.cells room_1.slots (T143.setTop (mkF m 209 #[.val (.long q1), .second, .val (.long q2), .second, .val (.long q3), .second, .val (.long q4), .second, .val (.long q5), .second, .val (.int p6), .val (.ref b3), .val (.ref b32), .val (.int n1), .val (.int n2), .val (.long v75s0), .second, .val (.int (((p6.toUInt32 >>> ((5 : Int32) &&& 31).toUInt32).toInt32) &&& (3 : Int32))), .val (.long v108s0), .second, .val (.ref b66), .val (.ref b123), .val (.ref b130), .val (.ref b137), .val (.int (fn14 n2 n2 (fun i => u2 (((us + (1 : Int32))).toNatClampNeg + i)) (oupd (oupd (oupd (fun _ => (0 : Int64)) 0 q5) 1 q4) 2 (q4 ^^^ q5)))), .val (.int (fn14 n2 n2 (fun i => u2 (((us + (1 : Int32))).toNatClampNeg + i)) (oupd (oupd (oupd (fun _ => (0 : Int64)) 0 q5) 1 q4) 2 (q4 ^^^ q5)))), .unset] [(.long v108s0)]))
          refine Till.pre (fun _ hr => XS.lload X145.here hx rfl (hb hby at_209) rfl hr) ?_
          show Till p e below s (Q0 Z q1 q2 q3 q4 q5 p6 h0 n0) room_1.cells room_1.slots (T143.setTop (mkF m 211 #[.val (.long q1), .second, .val (.long q2), .second, .val (.long q3), .second, .val (.long q4), .second, .val (.long q5), .second, .val (.int p6), .val (.ref b3), .val (.ref b32), .val (.int n1), .val (.int n2), .val (.long v75s0), .second, .val (.int (((p6.toUInt32 >>> ((5 : Int32) &&& 31).toUInt32).toInt32) &&& (3 : Int32))), .val (.long v108s0), .second, .val (.ref b66), .val (.ref b123), .val (.ref b130), .val (.ref b137), .val (.int (fn14 n2 n2 (fun i => u2 (((us + (1 : Int32))).toNatClampNeg + i)) (oupd (oupd (oupd (fun _ => (0 : Int64)) 0 q5) 1 q4) 2 (q4 ^^^ q5)))), .val (.int (fn14 n2 n2 (fun i => u2 (((us + (1 : Int32))).toNatClampNeg + i)) (oupd (oupd (oupd (fun _ => (0 : Int64)) 0 q5) 1 q4) 2 (q4 ^^^ q5)))), .unset] [(.long v75s0), (.long v108s0)]))
          refine Till.pre (fun _ hr => XS.lcmp X145.here hx rfl (hb hby at_211) rfl hr) ?_
          show Till p e below s (Q0 Z q1 q2 q3 q4 q5 p6 h0 n0) room_1.cells room_1.slots (T143.setTop (mkF m 212 #[.val (.long q1), .second, .val (.long q2), .second, .val (.long q3), .second, .val (.long q4), .second, .val (.long q5), .second, .val (.int p6), .val (.ref b3), .val (.ref b32), .val (.int n1), .val (.int n2), .val (.long v75s0), .second, .val (.int (((p6.toUInt32 >>> ((5 : Int32) &&& 31).toUInt32).toInt32) &&& (3 : Int32))), .val (.long v108s0), .second, .val (.ref b66), .val (.ref b123), .val (.ref b130), .val (.ref b137), .val (.int (fn14 n2 n2 (fun i => u2 (((us + (1 : Int32))).toNatClampNeg + i)) (oupd (oupd (oupd (fun _ => (0 : Int64)) 0 q5) 1 q4) 2 (q4 ^^^ q5)))), .val (.int (fn14 n2 n2 (fun i => u2 (((us + (1 : Int32))).toNatClampNeg + i)) (oupd (oupd (oupd (fun _ => (0 : Int64)) 0 q5) 1 q4) 2 (q4 ^^^ q5)))), .unset] [(.int (lcmpW v108s0 v75s0))]))
          refine Till.ifc (pc' := 229) X145.here hx (hb hby at_212) (by decide) (by decide) (fun q => absurd (hB : (v108s0 = v75s0)) (mt lEq.mpr (hEq.2.2.1 q))) (fun q => ?_)
          show Till p e below s (Q0 Z q1 q2 q3 q4 q5 p6 h0 n0) room_1.cells room_1.slots (T143.setTop (mkF m 215 #[.val (.long q1), .second, .val (.long q2), .second, .val (.long q3), .second, .val (.long q4), .second, .val (.long q5), .second, .val (.int p6), .val (.ref b3), .val (.ref b32), .val (.int n1), .val (.int n2), .val (.long v75s0), .second, .val (.int (((p6.toUInt32 >>> ((5 : Int32) &&& 31).toUInt32).toInt32) &&& (3 : Int32))), .val (.long v108s0), .second, .val (.ref b66), .val (.ref b123), .val (.ref b130), .val (.ref b137), .val (.int (fn14 n2 n2 (fun i => u2 (((us + (1 : Int32))).toNatClampNeg + i)) (oupd (oupd (oupd (fun _ => (0 : Int64)) 0 q5) 1 q4) 2 (q4 ^^^ q5)))), .val (.int (fn14 n2 n2 (fun i => u2 (((us + (1 : Int32))).toNatClampNeg + i)) (oupd (oupd (oupd (fun _ => (0 : Int64)) 0 q5) 1 q4) 2 (q4 ^^^ q5)))), .unset] []))
          refine Till.pre (fun _ hr => XS.aload X145.here hx rfl (hb hby at_215) rfl rfl hr) ?_
          show Till p e below s (Q0 Z q1 q2 q3 q4 q5 p6 h0 n0) room_1.cells room_1.slots (T143.setTop (mkF m 217 #[.val (.long q1), .second, .val (.long q2), .second, .val (.long q3), .second, .val (.long q4), .second, .val (.long q5), .second, .val (.int p6), .val (.ref b3), .val (.ref b32), .val (.int n1), .val (.int n2), .val (.long v75s0), .second, .val (.int (((p6.toUInt32 >>> ((5 : Int32) &&& 31).toUInt32).toInt32) &&& (3 : Int32))), .val (.long v108s0), .second, .val (.ref b66), .val (.ref b123), .val (.ref b130), .val (.ref b137), .val (.int (fn14 n2 n2 (fun i => u2 (((us + (1 : Int32))).toNatClampNeg + i)) (oupd (oupd (oupd (fun _ => (0 : Int64)) 0 q5) 1 q4) 2 (q4 ^^^ q5)))), .val (.int (fn14 n2 n2 (fun i => u2 (((us + (1 : Int32))).toNatClampNeg + i)) (oupd (oupd (oupd (fun _ => (0 : Int64)) 0 q5) 1 q4) 2 (q4 ^^^ q5)))), .unset] [(.ref b137)]))
          refine Till.pre (fun _ hr => XS.aload X145.here hx rfl (hb hby at_217) rfl rfl hr) ?_
          show Till p e below s (Q0 Z q1 q2 q3 q4 q5 p6 h0 n0) room_1.cells room_1.slots (T143.setTop (mkF m 219 #[.val (.long q1), .second, .val (.long q2), .second, .val (.long q3), .second, .val (.long q4), .second, .val (.long q5), .second, .val (.int p6), .val (.ref b3), .val (.ref b32), .val (.int n1), .val (.int n2), .val (.long v75s0), .second, .val (.int (((p6.toUInt32 >>> ((5 : Int32) &&& 31).toUInt32).toInt32) &&& (3 : Int32))), .val (.long v108s0), .second, .val (.ref b66), .val (.ref b123), .val (.ref b130), .val (.ref b137), .val (.int (fn14 n2 n2 (fun i => u2 (((us + (1 : Int32))).toNatClampNeg + i)) (oupd (oupd (oupd (fun _ => (0 : Int64)) 0 q5) 1 q4) 2 (q4 ^^^ q5)))), .val (.int (fn14 n2 n2 (fun i => u2 (((us + (1 : Int32))).toNatClampNeg + i)) (oupd (oupd (oupd (fun _ => (0 : Int64)) 0 q5) 1 q4) 2 (q4 ^^^ q5)))), .unset] [(.ref b32), (.ref b137)]))
          refine Till.pre (fun _ hr => XS.iload X145.here hx rfl (hb hby at_219) rfl hr) ?_
          show Till p e below s (Q0 Z q1 q2 q3 q4 q5 p6 h0 n0) room_1.cells room_1.slots (T143.setTop (mkF m 221 #[.val (.long q1), .second, .val (.long q2), .second, .val (.long q3), .second, .val (.long q4), .second, .val (.long q5), .second, .val (.int p6), .val (.ref b3), .val (.ref b32), .val (.int n1), .val (.int n2), .val (.long v75s0), .second, .val (.int (((p6.toUInt32 >>> ((5 : Int32) &&& 31).toUInt32).toInt32) &&& (3 : Int32))), .val (.long v108s0), .second, .val (.ref b66), .val (.ref b123), .val (.ref b130), .val (.ref b137), .val (.int (fn14 n2 n2 (fun i => u2 (((us + (1 : Int32))).toNatClampNeg + i)) (oupd (oupd (oupd (fun _ => (0 : Int64)) 0 q5) 1 q4) 2 (q4 ^^^ q5)))), .val (.int (fn14 n2 n2 (fun i => u2 (((us + (1 : Int32))).toNatClampNeg + i)) (oupd (oupd (oupd (fun _ => (0 : Int64)) 0 q5) 1 q4) 2 (q4 ^^^ q5)))), .unset] [(.int n2), (.ref b32), (.ref b137)]))
          refine Till.callS (rm14 l Z a0 hw b137 b32 n2 n2 (fun i => u2 (((us + (1 : Int32))).toNatClampNeg + i)) (oupd (oupd (oupd (fun _ => (0 : Int64)) 0 q5) 1 q4) 2 (q4 ^^^ q5)) T131.heap n0 R_b137 R_b32) X145 hx hZ hown (hw _ (List.mem_of_getElem? (i := 85) rfl)) (hw _ (List.mem_of_getElem? (i := 86) rfl)) (hw _ (List.mem_of_getElem? (i := 87) rfl)) (hw _ (List.mem_of_getElem? (i := 88) rfl)) (by decide) (by decide) (W := 0) (by decide) (by rw [hml]; rfl) (argsL := [(.ref b137), (.ref b32), (.int n2)]) (rest := []) (lenOf pd0_12 rfl) rfl rfl (Nat.le_of_eq rfl) (hb hby at_221) e147 (by decide) (by decide) ?_
          rintro _ T148 L149 X150 ⟨rfl, N151, e152⟩
          have N151 := Fr.app N146 N151
          show Till p e below s (Q0 Z q1 q2 q3 q4 q5 p6 h0 n0) room_1.cells room_1.slots (T148.setTop (mkF m 224 #[.val (.long q1), .second, .val (.long q2), .second, .val (.long q3), .second, .val (.long q4), .second, .val (.long q5), .second, .val (.int p6), .val (.ref b3), .val (.ref b32), .val (.int n1), .val (.int n2), .val (.long v75s0), .second, .val (.int (((p6.toUInt32 >>> ((5 : Int32) &&& 31).toUInt32).toInt32) &&& (3 : Int32))), .val (.long v108s0), .second, .val (.ref b66), .val (.ref b123), .val (.ref b130), .val (.ref b137), .val (.int (fn14 n2 n2 (fun i => u2 (((us + (1 : Int32))).toNatClampNeg + i)) (oupd (oupd (oupd (fun _ => (0 : Int64)) 0 q5) 1 q4) 2 (q4 ^^^ q5)))), .val (.int (fn14 n2 n2 (fun i => u2 (((us + (1 : Int32))).toNatClampNeg + i)) (oupd (oupd (oupd (fun _ => (0 : Int64)) 0 q5) 1 q4) 2 (q4 ^^^ q5)))), .unset] [(.int (fn14 n2 n2 (fun i => u2 (((us + (1 : Int32))).toNatClampNeg + i)) (oupd (oupd (oupd (fun _ => (0 : Int64)) 0 q5) 1 q4) 2 (q4 ^^^ q5))))]))
          refine Till.pre (fun _ hr => XS.istore X150.here hx rfl (hb hby at_224) rfl (l' := #[.val (.long q1), .second, .val (.long q2), .second, .val (.long q3), .second, .val (.long q4), .second, .val (.long q5), .second, .val (.int p6), .val (.ref b3), .val (.ref b32), .val (.int n1), .val (.int n2), .val (.long v75s0), .second, .val (.int (((p6.toUInt32 >>> ((5 : Int32) &&& 31).toUInt32).toInt32) &&& (3 : Int32))), .val (.long v108s0), .second, .val (.ref b66), .val (.ref b123), .val (.ref b130), .val (.ref b137), .val (.int (fn14 n2 n2 (fun i => u2 (((us + (1 : Int32))).toNatClampNeg + i)) (oupd (oupd (oupd (fun _ => (0 : Int64)) 0 q5) 1 q4) 2 (q4 ^^^ q5)))), .val (.int (fn14 n2 n2 (fun i => u2 (((us + (1 : Int32))).toNatClampNeg + i)) (oupd (oupd (oupd (fun _ => (0 : Int64)) 0 q5) 1 q4) 2 (q4 ^^^ q5)))), .val (.int (fn14 n2 n2 (fun i => u2 (((us + (1 : Int32))).toNatClampNeg + i)) (oupd (oupd (oupd (fun _ => (0 : Int64)) 0 q5) 1 q4) 2 (q4 ^^^ q5))))]) rfl hr) ?_
          show Till p e below s (Q0 Z q1 q2 q3 q4 q5 p6 h0 n0) room_1.cells room_1.slots (T148.setTop (mkF m 226 #[.val (.long q1), .second, .val (.long q2), .second, .val (.long q3), .second, .val (.long q4), .second, .val (.long q5), .second, .val (.int p6), .val (.ref b3), .val (.ref b32), .val (.int n1), .val (.int n2), .val (.long v75s0), .second, .val (.int (((p6.toUInt32 >>> ((5 : Int32) &&& 31).toUInt32).toInt32) &&& (3 : Int32))), .val (.long v108s0), .second, .val (.ref b66), .val (.ref b123), .val (.ref b130), .val (.ref b137), .val (.int (fn14 n2 n2 (fun i => u2 (((us + (1 : Int32))).toNatClampNeg + i)) (oupd (oupd (oupd (fun _ => (0 : Int64)) 0 q5) 1 q4) 2 (q4 ^^^ q5)))), .val (.int (fn14 n2 n2 (fun i => u2 (((us + (1 : Int32))).toNatClampNeg + i)) (oupd (oupd (oupd (fun _ => (0 : Int64)) 0 q5) 1 q4) 2 (q4 ^^^ q5)))), .val (.int (fn14 n2 n2 (fun i => u2 (((us + (1 : Int32))).toNatClampNeg + i)) (oupd (oupd (oupd (fun _ => (0 : Int64)) 0 q5) 1 q4) 2 (q4 ^^^ q5))))] []))
          refine Till.pre (fun _ hr => XS.goto X150.here hx rfl (pc0 := 226) (pc' := 262) rfl (hb hby at_226) (by decide) (by decide) hr) ?_
          show Till p e below s (Q0 Z q1 q2 q3 q4 q5 p6 h0 n0) room_1.cells room_1.slots (T148.setTop (mkF m 262 #[.val (.long q1), .second, .val (.long q2), .second, .val (.long q3), .second, .val (.long q4), .second, .val (.long q5), .second, .val (.int p6), .val (.ref b3), .val (.ref b32), .val (.int n1), .val (.int n2), .val (.long v75s0), .second, .val (.int (((p6.toUInt32 >>> ((5 : Int32) &&& 31).toUInt32).toInt32) &&& (3 : Int32))), .val (.long v108s0), .second, .val (.ref b66), .val (.ref b123), .val (.ref b130), .val (.ref b137), .val (.int (fn14 n2 n2 (fun i => u2 (((us + (1 : Int32))).toNatClampNeg + i)) (oupd (oupd (oupd (fun _ => (0 : Int64)) 0 q5) 1 q4) 2 (q4 ^^^ q5)))), .val (.int (fn14 n2 n2 (fun i => u2 (((us + (1 : Int32))).toNatClampNeg + i)) (oupd (oupd (oupd (fun _ => (0 : Int64)) 0 q5) 1 q4) 2 (q4 ^^^ q5)))), .val (.int (fn14 n2 n2 (fun i => u2 (((us + (1 : Int32))).toNatClampNeg + i)) (oupd (oupd (oupd (fun _ => (0 : Int64)) 0 q5) 1 q4) 2 (q4 ^^^ q5))))] []))
          refine Till.pre (fun _ hr => XS.iload X150.here hx rfl (hb hby at_262) rfl hr) ?_
          show Till p e below s (Q0 Z q1 q2 q3 q4 q5 p6 h0 n0) room_1.cells room_1.slots (T148.setTop (mkF m 264 #[.val (.long q1), .second, .val (.long q2), .second, .val (.long q3), .second, .val (.long q4), .second, .val (.long q5), .second, .val (.int p6), .val (.ref b3), .val (.ref b32), .val (.int n1), .val (.int n2), .val (.long v75s0), .second, .val (.int (((p6.toUInt32 >>> ((5 : Int32) &&& 31).toUInt32).toInt32) &&& (3 : Int32))), .val (.long v108s0), .second, .val (.ref b66), .val (.ref b123), .val (.ref b130), .val (.ref b137), .val (.int (fn14 n2 n2 (fun i => u2 (((us + (1 : Int32))).toNatClampNeg + i)) (oupd (oupd (oupd (fun _ => (0 : Int64)) 0 q5) 1 q4) 2 (q4 ^^^ q5)))), .val (.int (fn14 n2 n2 (fun i => u2 (((us + (1 : Int32))).toNatClampNeg + i)) (oupd (oupd (oupd (fun _ => (0 : Int64)) 0 q5) 1 q4) 2 (q4 ^^^ q5)))), .val (.int (fn14 n2 n2 (fun i => u2 (((us + (1 : Int32))).toNatClampNeg + i)) (oupd (oupd (oupd (fun _ => (0 : Int64)) 0 q5) 1 q4) 2 (q4 ^^^ q5))))] [(.int (fn14 n2 n2 (fun i => u2 (((us + (1 : Int32))).toNatClampNeg + i)) (oupd (oupd (oupd (fun _ => (0 : Int64)) 0 q5) 1 q4) 2 (q4 ^^^ q5))))]))
          have J282_155 : ∀ (v282s0 : Int32) (hv282s0 : v282s0 = (if ((fn14 n2 n2 (fun i => u2 (((us + (1 : Int32))).toNatClampNeg + i)) (oupd (oupd (oupd (fun _ => (0 : Int64)) 0 q5) 1 q4) 2 (q4 ^^^ q5))) = (0 : Int32)) then (0 : Int32) else (if ((fn14 n2 n2 (fun i => u2 (((us + (1 : Int32))).toNatClampNeg + i)) (oupd (oupd (oupd (fun _ => (0 : Int64)) 0 q5) 1 q4) 2 (q4 ^^^ q5))) = (0 : Int32)) then (0 : Int32) else (if ((fn14 n2 n2 (fun i => u2 (((us + (1 : Int32))).toNatClampNeg + i)) (oupd (oupd (oupd (fun _ => (0 : Int64)) 0 q5) 1 q4) 2 (q4 ^^^ q5))) = (0 : Int32)) then (0 : Int32) else (1 : Int32))))), Till p e below s (Q0 Z q1 q2 q3 q4 q5 p6 h0 n0) room_1.cells room_1.slots (T148.setTop (mkF m 282 #[.val (.long q1), .second, .val (.long q2), .second, .val (.long q3), .second, .val (.long q4), .second, .val (.long q5), .second, .val (.int p6), .val (.ref b3), .val (.ref b32), .val (.int n1), .val (.int n2), .val (.long v75s0), .second, .val (.int (((p6.toUInt32 >>> ((5 : Int32) &&& 31).toUInt32).toInt32) &&& (3 : Int32))), .val (.long v108s0), .second, .val (.ref b66), .val (.ref b123), .val (.ref b130), .val (.ref b137), .val (.int (fn14 n2 n2 (fun i => u2 (((us + (1 : Int32))).toNatClampNeg + i)) (oupd (oupd (oupd (fun _ => (0 : Int64)) 0 q5) 1 q4) 2 (q4 ^^^ q5)))), .val (.int (fn14 n2 n2 (fun i => u2 (((us + (1 : Int32))).toNatClampNeg + i)) (oupd (oupd (oupd (fun _ => (0 : Int64)) 0 q5) 1 q4) 2 (q4 ^^^ q5)))), .val (.int (fn14 n2 n2 (fun i => u2 (((us + (1 : Int32))).toNatClampNeg + i)) (oupd (oupd (oupd (fun _ => (0 : Int64)) 0 q5) 1 q4) 2 (q4 ^^^ q5))))] [(.int v282s0)])) := by
            intro v282s0 hv282s0
            show Till p e below s (Q0 Z q1 q2 q3 q4 q5 p6 h0 n0) room_1.cells room_1.slots (T148.setTop (mkF m 282 #[.val (.long q1), .second, .val (.long q2), .second, .val (.long q3), .second, .val (.long q4), .second, .val (.long q5), .second, .val (.int p6), .val (.ref b3), .val (.ref b32), .val (.int n1), .val (.int n2), .val (.long v75s0), .second, .val (.int (((p6.toUInt32 >>> ((5 : Int32) &&& 31).toUInt32).toInt32) &&& (3 : Int32))), .val (.long v108s0), .second, .val (.ref b66), .val (.ref b123), .val (.ref b130), .val (.ref b137), .val (.int (fn14 n2 n2 (fun i => u2 (((us + (1 : Int32))).toNatClampNeg + i)) (oupd (oupd (oupd (fun _ => (0 : Int64)) 0 q5) 1 q4) 2 (q4 ^^^ q5)))), .val (.int (fn14 n2 n2 (fun i => u2 (((us + (1 : Int32))).toNatClampNeg + i)) (oupd (oupd (oupd (fun _ => (0 : Int64)) 0 q5) 1 q4) 2 (q4 ^^^ q5)))), .val (.int (fn14 n2 n2 (fun i => u2 (((us + (1 : Int32))).toNatClampNeg + i)) (oupd (oupd (oupd (fun _ => (0 : Int64)) 0 q5) 1 q4) 2 (q4 ^^^ q5))))] [(.int v282s0)]))
            refine Till.retZ (w := (1 : Int32)) X150 hx hret hlk (hb hby at_282) (by decide) (by decide) (by rw [hv282s0, own_s2 hu_us (own_n4 hu_n1) (own_n4 hu_n2) hu_u2]; decide) ?_
            exact ⟨rfl, N151⟩
          refine Till.ifc (pc' := 281) X150.here hx (hb hby at_264) (by decide) (by decide) (fun q => ?_) (fun q => ?_)
          · have hc153 := (hEq.1 q)
            show Till p e below s (Q0 Z q1 q2 q3 q4 q5 p6 h0 n0) room_1.cells room_1.slots (T148.setTop (mkF m 281 #[.val (.long q1), .second, .val (.long q2), .second, .val (.long q3), .second, .val (.long q4), .second, .val (.long q5), .second, .val (.int p6), .val (.ref b3), .val (.ref b32), .val (.int n1), .val (.int n2), .val (.long v75s0), .second, .val (.int (((p6.toUInt32 >>> ((5 : Int32) &&& 31).toUInt32).toInt32) &&& (3 : Int32))), .val (.long v108s0), .second, .val (.ref b66), .val (.ref b123), .val (.ref b130), .val (.ref b137), .val (.int (fn14 n2 n2 (fun i => u2 (((us + (1 : Int32))).toNatClampNeg + i)) (oupd (oupd (oupd (fun _ => (0 : Int64)) 0 q5) 1 q4) 2 (q4 ^^^ q5)))), .val (.int (fn14 n2 n2 (fun i => u2 (((us + (1 : Int32))).toNatClampNeg + i)) (oupd (oupd (oupd (fun _ => (0 : Int64)) 0 q5) 1 q4) 2 (q4 ^^^ q5)))), .val (.int (fn14 n2 n2 (fun i => u2 (((us + (1 : Int32))).toNatClampNeg + i)) (oupd (oupd (oupd (fun _ => (0 : Int64)) 0 q5) 1 q4) 2 (q4 ^^^ q5))))] []))
            refine Till.pre (fun _ hr => XS.iconst X150.here hx rfl (hb hby at_281) hr) ?_
            show Till p e below s (Q0 Z q1 q2 q3 q4 q5 p6 h0 n0) room_1.cells room_1.slots (T148.setTop (mkF m 282 #[.val (.long q1), .second, .val (.long q2), .second, .val (.long q3), .second, .val (.long q4), .second, .val (.long q5), .second, .val (.int p6), .val (.ref b3), .val (.ref b32), .val (.int n1), .val (.int n2), .val (.long v75s0), .second, .val (.int (((p6.toUInt32 >>> ((5 : Int32) &&& 31).toUInt32).toInt32) &&& (3 : Int32))), .val (.long v108s0), .second, .val (.ref b66), .val (.ref b123), .val (.ref b130), .val (.ref b137), .val (.int (fn14 n2 n2 (fun i => u2 (((us + (1 : Int32))).toNatClampNeg + i)) (oupd (oupd (oupd (fun _ => (0 : Int64)) 0 q5) 1 q4) 2 (q4 ^^^ q5)))), .val (.int (fn14 n2 n2 (fun i => u2 (((us + (1 : Int32))).toNatClampNeg + i)) (oupd (oupd (oupd (fun _ => (0 : Int64)) 0 q5) 1 q4) 2 (q4 ^^^ q5)))), .val (.int (fn14 n2 n2 (fun i => u2 (((us + (1 : Int32))).toNatClampNeg + i)) (oupd (oupd (oupd (fun _ => (0 : Int64)) 0 q5) 1 q4) 2 (q4 ^^^ q5))))] [(.int (0 : Int32))]))
            exact J282_155 _ (Eq.symm (if_pos hc153))
          · have hc153 := (hEq.2.1 q)
            show Till p e below s (Q0 Z q1 q2 q3 q4 q5 p6 h0 n0) room_1.cells room_1.slots (T148.setTop (mkF m 267 #[.val (.long q1), .second, .val (.long q2), .second, .val (.long q3), .second, .val (.long q4), .second, .val (.long q5), .second, .val (.int p6), .val (.ref b3), .val (.ref b32), .val (.int n1), .val (.int n2), .val (.long v75s0), .second, .val (.int (((p6.toUInt32 >>> ((5 : Int32) &&& 31).toUInt32).toInt32) &&& (3 : Int32))), .val (.long v108s0), .second, .val (.ref b66), .val (.ref b123), .val (.ref b130), .val (.ref b137), .val (.int (fn14 n2 n2 (fun i => u2 (((us + (1 : Int32))).toNatClampNeg + i)) (oupd (oupd (oupd (fun _ => (0 : Int64)) 0 q5) 1 q4) 2 (q4 ^^^ q5)))), .val (.int (fn14 n2 n2 (fun i => u2 (((us + (1 : Int32))).toNatClampNeg + i)) (oupd (oupd (oupd (fun _ => (0 : Int64)) 0 q5) 1 q4) 2 (q4 ^^^ q5)))), .val (.int (fn14 n2 n2 (fun i => u2 (((us + (1 : Int32))).toNatClampNeg + i)) (oupd (oupd (oupd (fun _ => (0 : Int64)) 0 q5) 1 q4) 2 (q4 ^^^ q5))))] []))
            refine Till.pre (fun _ hr => XS.iload X150.here hx rfl (hb hby at_267) rfl hr) ?_
            show Till p e below s (Q0 Z q1 q2 q3 q4 q5 p6 h0 n0) room_1.cells room_1.slots (T148.setTop (mkF m 269 #[.val (.long q1), .second, .val (.long q2), .second, .val (.long q3), .second, .val (.long q4), .second, .val (.long q5), .second, .val (.int p6), .val (.ref b3), .val (.ref b32), .val (.int n1), .val (.int n2), .val (.long v75s0), .second, .val (.int (((p6.toUInt32 >>> ((5 : Int32) &&& 31).toUInt32).toInt32) &&& (3 : Int32))), .val (.long v108s0), .second, .val (.ref b66), .val (.ref b123), .val (.ref b130), .val (.ref b137), .val (.int (fn14 n2 n2 (fun i => u2 (((us + (1 : Int32))).toNatClampNeg + i)) (oupd (oupd (oupd (fun _ => (0 : Int64)) 0 q5) 1 q4) 2 (q4 ^^^ q5)))), .val (.int (fn14 n2 n2 (fun i => u2 (((us + (1 : Int32))).toNatClampNeg + i)) (oupd (oupd (oupd (fun _ => (0 : Int64)) 0 q5) 1 q4) 2 (q4 ^^^ q5)))), .val (.int (fn14 n2 n2 (fun i => u2 (((us + (1 : Int32))).toNatClampNeg + i)) (oupd (oupd (oupd (fun _ => (0 : Int64)) 0 q5) 1 q4) 2 (q4 ^^^ q5))))] [(.int (fn14 n2 n2 (fun i => u2 (((us + (1 : Int32))).toNatClampNeg + i)) (oupd (oupd (oupd (fun _ => (0 : Int64)) 0 q5) 1 q4) 2 (q4 ^^^ q5))))]))
            refine Till.ifc (pc' := 281) X150.here hx (hb hby at_269) (by decide) (by decide) (fun q => ?_) (fun q => ?_)
            · have hc154 := (hEq.1 q)
              show Till p e below s (Q0 Z q1 q2 q3 q4 q5 p6 h0 n0) room_1.cells room_1.slots (T148.setTop (mkF m 281 #[.val (.long q1), .second, .val (.long q2), .second, .val (.long q3), .second, .val (.long q4), .second, .val (.long q5), .second, .val (.int p6), .val (.ref b3), .val (.ref b32), .val (.int n1), .val (.int n2), .val (.long v75s0), .second, .val (.int (((p6.toUInt32 >>> ((5 : Int32) &&& 31).toUInt32).toInt32) &&& (3 : Int32))), .val (.long v108s0), .second, .val (.ref b66), .val (.ref b123), .val (.ref b130), .val (.ref b137), .val (.int (fn14 n2 n2 (fun i => u2 (((us + (1 : Int32))).toNatClampNeg + i)) (oupd (oupd (oupd (fun _ => (0 : Int64)) 0 q5) 1 q4) 2 (q4 ^^^ q5)))), .val (.int (fn14 n2 n2 (fun i => u2 (((us + (1 : Int32))).toNatClampNeg + i)) (oupd (oupd (oupd (fun _ => (0 : Int64)) 0 q5) 1 q4) 2 (q4 ^^^ q5)))), .val (.int (fn14 n2 n2 (fun i => u2 (((us + (1 : Int32))).toNatClampNeg + i)) (oupd (oupd (oupd (fun _ => (0 : Int64)) 0 q5) 1 q4) 2 (q4 ^^^ q5))))] []))
              refine Till.pre (fun _ hr => XS.iconst X150.here hx rfl (hb hby at_281) hr) ?_
              show Till p e below s (Q0 Z q1 q2 q3 q4 q5 p6 h0 n0) room_1.cells room_1.slots (T148.setTop (mkF m 282 #[.val (.long q1), .second, .val (.long q2), .second, .val (.long q3), .second, .val (.long q4), .second, .val (.long q5), .second, .val (.int p6), .val (.ref b3), .val (.ref b32), .val (.int n1), .val (.int n2), .val (.long v75s0), .second, .val (.int (((p6.toUInt32 >>> ((5 : Int32) &&& 31).toUInt32).toInt32) &&& (3 : Int32))), .val (.long v108s0), .second, .val (.ref b66), .val (.ref b123), .val (.ref b130), .val (.ref b137), .val (.int (fn14 n2 n2 (fun i => u2 (((us + (1 : Int32))).toNatClampNeg + i)) (oupd (oupd (oupd (fun _ => (0 : Int64)) 0 q5) 1 q4) 2 (q4 ^^^ q5)))), .val (.int (fn14 n2 n2 (fun i => u2 (((us + (1 : Int32))).toNatClampNeg + i)) (oupd (oupd (oupd (fun _ => (0 : Int64)) 0 q5) 1 q4) 2 (q4 ^^^ q5)))), .val (.int (fn14 n2 n2 (fun i => u2 (((us + (1 : Int32))).toNatClampNeg + i)) (oupd (oupd (oupd (fun _ => (0 : Int64)) 0 q5) 1 q4) 2 (q4 ^^^ q5))))] [(.int (0 : Int32))]))
              exact J282_155 _ (Eq.symm ((if_neg hc153).trans (if_pos hc154)))
            · have hc154 := (hEq.2.1 q)
              show Till p e below s (Q0 Z q1 q2 q3 q4 q5 p6 h0 n0) room_1.cells room_1.slots (T148.setTop (mkF m 272 #[.val (.long q1), .second, .val (.long q2), .second, .val (.long q3), .second, .val (.long q4), .second, .val (.long q5), .second, .val (.int p6), .val (.ref b3), .val (.ref b32), .val (.int n1), .val (.int n2), .val (.long v75s0), .second, .val (.int (((p6.toUInt32 >>> ((5 : Int32) &&& 31).toUInt32).toInt32) &&& (3 : Int32))), .val (.long v108s0), .second, .val (.ref b66), .val (.ref b123), .val (.ref b130), .val (.ref b137), .val (.int (fn14 n2 n2 (fun i => u2 (((us + (1 : Int32))).toNatClampNeg + i)) (oupd (oupd (oupd (fun _ => (0 : Int64)) 0 q5) 1 q4) 2 (q4 ^^^ q5)))), .val (.int (fn14 n2 n2 (fun i => u2 (((us + (1 : Int32))).toNatClampNeg + i)) (oupd (oupd (oupd (fun _ => (0 : Int64)) 0 q5) 1 q4) 2 (q4 ^^^ q5)))), .val (.int (fn14 n2 n2 (fun i => u2 (((us + (1 : Int32))).toNatClampNeg + i)) (oupd (oupd (oupd (fun _ => (0 : Int64)) 0 q5) 1 q4) 2 (q4 ^^^ q5))))] []))
              refine Till.pre (fun _ hr => XS.iload X150.here hx rfl (hb hby at_272) rfl hr) ?_
              show Till p e below s (Q0 Z q1 q2 q3 q4 q5 p6 h0 n0) room_1.cells room_1.slots (T148.setTop (mkF m 274 #[.val (.long q1), .second, .val (.long q2), .second, .val (.long q3), .second, .val (.long q4), .second, .val (.long q5), .second, .val (.int p6), .val (.ref b3), .val (.ref b32), .val (.int n1), .val (.int n2), .val (.long v75s0), .second, .val (.int (((p6.toUInt32 >>> ((5 : Int32) &&& 31).toUInt32).toInt32) &&& (3 : Int32))), .val (.long v108s0), .second, .val (.ref b66), .val (.ref b123), .val (.ref b130), .val (.ref b137), .val (.int (fn14 n2 n2 (fun i => u2 (((us + (1 : Int32))).toNatClampNeg + i)) (oupd (oupd (oupd (fun _ => (0 : Int64)) 0 q5) 1 q4) 2 (q4 ^^^ q5)))), .val (.int (fn14 n2 n2 (fun i => u2 (((us + (1 : Int32))).toNatClampNeg + i)) (oupd (oupd (oupd (fun _ => (0 : Int64)) 0 q5) 1 q4) 2 (q4 ^^^ q5)))), .val (.int (fn14 n2 n2 (fun i => u2 (((us + (1 : Int32))).toNatClampNeg + i)) (oupd (oupd (oupd (fun _ => (0 : Int64)) 0 q5) 1 q4) 2 (q4 ^^^ q5))))] [(.int (fn14 n2 n2 (fun i => u2 (((us + (1 : Int32))).toNatClampNeg + i)) (oupd (oupd (oupd (fun _ => (0 : Int64)) 0 q5) 1 q4) 2 (q4 ^^^ q5))))]))
              refine Till.ifc (pc' := 281) X150.here hx (hb hby at_274) (by decide) (by decide) (fun q => ?_) (fun q => ?_)
              · have hc155 := (hEq.1 q)
                show Till p e below s (Q0 Z q1 q2 q3 q4 q5 p6 h0 n0) room_1.cells room_1.slots (T148.setTop (mkF m 281 #[.val (.long q1), .second, .val (.long q2), .second, .val (.long q3), .second, .val (.long q4), .second, .val (.long q5), .second, .val (.int p6), .val (.ref b3), .val (.ref b32), .val (.int n1), .val (.int n2), .val (.long v75s0), .second, .val (.int (((p6.toUInt32 >>> ((5 : Int32) &&& 31).toUInt32).toInt32) &&& (3 : Int32))), .val (.long v108s0), .second, .val (.ref b66), .val (.ref b123), .val (.ref b130), .val (.ref b137), .val (.int (fn14 n2 n2 (fun i => u2 (((us + (1 : Int32))).toNatClampNeg + i)) (oupd (oupd (oupd (fun _ => (0 : Int64)) 0 q5) 1 q4) 2 (q4 ^^^ q5)))), .val (.int (fn14 n2 n2 (fun i => u2 (((us + (1 : Int32))).toNatClampNeg + i)) (oupd (oupd (oupd (fun _ => (0 : Int64)) 0 q5) 1 q4) 2 (q4 ^^^ q5)))), .val (.int (fn14 n2 n2 (fun i => u2 (((us + (1 : Int32))).toNatClampNeg + i)) (oupd (oupd (oupd (fun _ => (0 : Int64)) 0 q5) 1 q4) 2 (q4 ^^^ q5))))] []))
                refine Till.pre (fun _ hr => XS.iconst X150.here hx rfl (hb hby at_281) hr) ?_
                show Till p e below s (Q0 Z q1 q2 q3 q4 q5 p6 h0 n0) room_1.cells room_1.slots (T148.setTop (mkF m 282 #[.val (.long q1), .second, .val (.long q2), .second, .val (.long q3), .second, .val (.long q4), .second, .val (.long q5), .second, .val (.int p6), .val (.ref b3), .val (.ref b32), .val (.int n1), .val (.int n2), .val (.long v75s0), .second, .val (.int (((p6.toUInt32 >>> ((5 : Int32) &&& 31).toUInt32).toInt32) &&& (3 : Int32))), .val (.long v108s0), .second, .val (.ref b66), .val (.ref b123), .val (.ref b130), .val (.ref b137), .val (.int (fn14 n2 n2 (fun i => u2 (((us + (1 : Int32))).toNatClampNeg + i)) (oupd (oupd (oupd (fun _ => (0 : Int64)) 0 q5) 1 q4) 2 (q4 ^^^ q5)))), .val (.int (fn14 n2 n2 (fun i => u2 (((us + (1 : Int32))).toNatClampNeg + i)) (oupd (oupd (oupd (fun _ => (0 : Int64)) 0 q5) 1 q4) 2 (q4 ^^^ q5)))), .val (.int (fn14 n2 n2 (fun i => u2 (((us + (1 : Int32))).toNatClampNeg + i)) (oupd (oupd (oupd (fun _ => (0 : Int64)) 0 q5) 1 q4) 2 (q4 ^^^ q5))))] [(.int (0 : Int32))]))
                exact J282_155 _ (Eq.symm ((if_neg hc153).trans ((if_neg hc154).trans (if_pos hc155))))
              · have hc155 := (hEq.2.1 q)
                show Till p e below s (Q0 Z q1 q2 q3 q4 q5 p6 h0 n0) room_1.cells room_1.slots (T148.setTop (mkF m 277 #[.val (.long q1), .second, .val (.long q2), .second, .val (.long q3), .second, .val (.long q4), .second, .val (.long q5), .second, .val (.int p6), .val (.ref b3), .val (.ref b32), .val (.int n1), .val (.int n2), .val (.long v75s0), .second, .val (.int (((p6.toUInt32 >>> ((5 : Int32) &&& 31).toUInt32).toInt32) &&& (3 : Int32))), .val (.long v108s0), .second, .val (.ref b66), .val (.ref b123), .val (.ref b130), .val (.ref b137), .val (.int (fn14 n2 n2 (fun i => u2 (((us + (1 : Int32))).toNatClampNeg + i)) (oupd (oupd (oupd (fun _ => (0 : Int64)) 0 q5) 1 q4) 2 (q4 ^^^ q5)))), .val (.int (fn14 n2 n2 (fun i => u2 (((us + (1 : Int32))).toNatClampNeg + i)) (oupd (oupd (oupd (fun _ => (0 : Int64)) 0 q5) 1 q4) 2 (q4 ^^^ q5)))), .val (.int (fn14 n2 n2 (fun i => u2 (((us + (1 : Int32))).toNatClampNeg + i)) (oupd (oupd (oupd (fun _ => (0 : Int64)) 0 q5) 1 q4) 2 (q4 ^^^ q5))))] []))
                refine Till.pre (fun _ hr => XS.iconst X150.here hx rfl (hb hby at_277) hr) ?_
                show Till p e below s (Q0 Z q1 q2 q3 q4 q5 p6 h0 n0) room_1.cells room_1.slots (T148.setTop (mkF m 278 #[.val (.long q1), .second, .val (.long q2), .second, .val (.long q3), .second, .val (.long q4), .second, .val (.long q5), .second, .val (.int p6), .val (.ref b3), .val (.ref b32), .val (.int n1), .val (.int n2), .val (.long v75s0), .second, .val (.int (((p6.toUInt32 >>> ((5 : Int32) &&& 31).toUInt32).toInt32) &&& (3 : Int32))), .val (.long v108s0), .second, .val (.ref b66), .val (.ref b123), .val (.ref b130), .val (.ref b137), .val (.int (fn14 n2 n2 (fun i => u2 (((us + (1 : Int32))).toNatClampNeg + i)) (oupd (oupd (oupd (fun _ => (0 : Int64)) 0 q5) 1 q4) 2 (q4 ^^^ q5)))), .val (.int (fn14 n2 n2 (fun i => u2 (((us + (1 : Int32))).toNatClampNeg + i)) (oupd (oupd (oupd (fun _ => (0 : Int64)) 0 q5) 1 q4) 2 (q4 ^^^ q5)))), .val (.int (fn14 n2 n2 (fun i => u2 (((us + (1 : Int32))).toNatClampNeg + i)) (oupd (oupd (oupd (fun _ => (0 : Int64)) 0 q5) 1 q4) 2 (q4 ^^^ q5))))] [(.int (1 : Int32))]))
                refine Till.pre (fun _ hr => XS.goto X150.here hx rfl (pc0 := 278) (pc' := 282) rfl (hb hby at_278) (by decide) (by decide) hr) ?_
                show Till p e below s (Q0 Z q1 q2 q3 q4 q5 p6 h0 n0) room_1.cells room_1.slots (T148.setTop (mkF m 282 #[.val (.long q1), .second, .val (.long q2), .second, .val (.long q3), .second, .val (.long q4), .second, .val (.long q5), .second, .val (.int p6), .val (.ref b3), .val (.ref b32), .val (.int n1), .val (.int n2), .val (.long v75s0), .second, .val (.int (((p6.toUInt32 >>> ((5 : Int32) &&& 31).toUInt32).toInt32) &&& (3 : Int32))), .val (.long v108s0), .second, .val (.ref b66), .val (.ref b123), .val (.ref b130), .val (.ref b137), .val (.int (fn14 n2 n2 (fun i => u2 (((us + (1 : Int32))).toNatClampNeg + i)) (oupd (oupd (oupd (fun _ => (0 : Int64)) 0 q5) 1 q4) 2 (q4 ^^^ q5)))), .val (.int (fn14 n2 n2 (fun i => u2 (((us + (1 : Int32))).toNatClampNeg + i)) (oupd (oupd (oupd (fun _ => (0 : Int64)) 0 q5) 1 q4) 2 (q4 ^^^ q5)))), .val (.int (fn14 n2 n2 (fun i => u2 (((us + (1 : Int32))).toNatClampNeg + i)) (oupd (oupd (oupd (fun _ => (0 : Int64)) 0 q5) 1 q4) 2 (q4 ^^^ q5))))] [(.int (1 : Int32))]))
                exact J282_155 _ (Eq.symm ((if_neg hc153).trans ((if_neg hc154).trans (if_neg hc155))))
        · skip
          show Till p e below s (Q0 Z q1 q2 q3 q4 q5 p6 h0 n0) room_1.cells room_1.slots (T102.setTop (mkF m 140 #[.val (.long q1), .second, .val (.long q2), .second, .val (.long q3), .second, .val (.long q4), .second, .val (.long q5), .second, .val (.int p6), .val (.ref b3), .val (.ref b32), .val (.int n1), .val (.int n2), .val (.long v75s0), .second, .val (.int (((p6.toUInt32 >>> ((5 : Int32) &&& 31).toUInt32).toInt32) &&& (3 : Int32))), .val (.long v108s0), .second, .val (.ref b66), .unset, .unset, .unset, .unset, .unset, .unset] []))
          refine Till.pre (fun _ hr => XS.aload X104.here hx rfl (hb hby at_140) rfl rfl hr) ?_
          show Till p e below s (Q0 Z q1 q2 q3 q4 q5 p6 h0 n0) room_1.cells room_1.slots (T102.setTop (mkF m 142 #[.val (.long q1), .second, .val (.long q2), .second, .val (.long q3), .second, .val (.long q4), .second, .val (.long q5), .second, .val (.int p6), .val (.ref b3), .val (.ref b32), .val (.int n1), .val (.int n2), .val (.long v75s0), .second, .val (.int (((p6.toUInt32 >>> ((5 : Int32) &&& 31).toUInt32).toInt32) &&& (3 : Int32))), .val (.long v108s0), .second, .val (.ref b66), .unset, .unset, .unset, .unset, .unset, .unset] [(.ref b66)]))
          refine Till.pre (fun _ hr => XS.lloadN X104.here hx rfl (hb hby at_142) rfl hr) ?_
          show Till p e below s (Q0 Z q1 q2 q3 q4 q5 p6 h0 n0) room_1.cells room_1.slots (T102.setTop (mkF m 143 #[.val (.long q1), .second, .val (.long q2), .second, .val (.long q3), .second, .val (.long q4), .second, .val (.long q5), .second, .val (.int p6), .val (.ref b3), .val (.ref b32), .val (.int n1), .val (.int n2), .val (.long v75s0), .second, .val (.int (((p6.toUInt32 >>> ((5 : Int32) &&& 31).toUInt32).toInt32) &&& (3 : Int32))), .val (.long v108s0), .second, .val (.ref b66), .unset, .unset, .unset, .unset, .unset, .unset] [(.long q1), (.ref b66)]))
          refine Till.callV (rm8_s l Z a0 hw b66 q1 b83 b85 b86 b84 (us + ((1 : Int32) + n2)) w108 f106 g107 u2 2 (own_um (own_um (fun _ => own_ABS) q1 (0 : Int32).toInt64) v75s0 us.toInt64) us n2 T102.heap n0 Zs R_b66 R_b83 R_b85 R_b86 R_b84 ne_b66_b83 ne_b66_b85 ne_b66_b86 ne_b66_b84 ne_b83_b85 ne_b83_b86 ne_b83_b84 ne_b85_b86 (Ne.symm ne_b84_b85) (Ne.symm ne_b84_b86) (tb109) (by decide) (own_mA hA) (own_us hu_us (own_n4 hu_n1)) (own_c2 hu_us (own_n4 hu_n1) hu_u2) (own_n4 hu_n2)) R_b66.1 X104 hx hZ hown (hw _ (List.mem_of_getElem? (i := 60) rfl)) (hw _ (List.mem_of_getElem? (i := 61) rfl)) (hw _ (List.mem_of_getElem? (i := 63) rfl)) (hw _ (List.mem_of_getElem? (i := 62) rfl)) (hw _ (List.mem_of_getElem? (i := 4) rfl)) (hw _ (List.mem_of_getElem? (i := 64) rfl)) (by decide) (by decide) (W := 0) (by decide) (by rw [hml]; rfl) (a := b66) (argsL := [(.long q1)]) (rest := []) (lenOf pd0_6 rfl) rfl rfl (Nat.le_of_eq rfl) (hb hby at_143) rfl (by decide) (by decide) ?_
          rintro _ T157 L158 X159 ⟨b163, rfl, N160, K161, szq_b163, q162⟩
          have N160 := Fr.app N105 N160
          have ne_b3_b163 : b3 ≠ b163 := Nat.ne_of_lt (Nat.lt_of_lt_of_le R_b3.lt szq_b163)
          have ne_b32_b163 : b32 ≠ b163 := Nat.ne_of_lt (Nat.lt_of_lt_of_le R_b32.lt szq_b163)
          have ne_b66_b163 : b66 ≠ b163 := Nat.ne_of_lt (Nat.lt_of_lt_of_le R_b66.lt szq_b163)
          have ne_b83_b163 : b83 ≠ b163 := Nat.ne_of_lt (Nat.lt_of_lt_of_le R_b83.lt szq_b163)
          have ne_b84_b163 : b84 ≠ b163 := Nat.ne_of_lt (Nat.lt_of_lt_of_le R_b84.lt szq_b163)
          have ne_b85_b163 : b85 ≠ b163 := Nat.ne_of_lt (Nat.lt_of_lt_of_le R_b85.lt szq_b163)
          have ne_b86_b163 : b86 ≠ b163 := Nat.ne_of_lt (Nat.lt_of_lt_of_le R_b86.lt szq_b163)
          have g_b163 : n0 ≤ b163 := Nat.le_trans Zs szq_b163
          have R_b3 := R_b3.keep K161 nin0
          have R_b32 := R_b32.keep K161 nin0
          have R_b66 := R_b66.keep K161 nin0
          have R_b83 := R_b83.keep K161 nin0
          have R_b84 := R_b84.keep K161 nin0
          have R_b85 := R_b85.keep K161 nin0
          have R_b86 := R_b86.keep K161 nin0
          have Zs := Nat.le_trans Zs K161.1
          have R_b163 : LA Z T157.heap b163 n2 (fun i => u2 (((us + (1 : Int32))).toNatClampNeg + i)) := q162
          show Till p e below s (Q0 Z q1 q2 q3 q4 q5 p6 h0 n0) room_1.cells room_1.slots (T157.setTop (mkF m 146 #[.val (.long q1), .second, .val (.long q2), .second, .val (.long q3), .second, .val (.long q4), .second, .val (.long q5), .second, .val (.int p6), .val (.ref b3), .val (.ref b32), .val (.int n1), .val (.int n2), .val (.long v75s0), .second, .val (.int (((p6.toUInt32 >>> ((5 : Int32) &&& 31).toUInt32).toInt32) &&& (3 : Int32))), .val (.long v108s0), .second, .val (.ref b66), .unset, .unset, .unset, .unset, .unset, .unset] [(.ref b163)]))
          refine Till.pre (fun _ hr => XS.astore X159.here hx rfl (hb hby at_146) rfl rfl (l' := #[.val (.long q1), .second, .val (.long q2), .second, .val (.long q3), .second, .val (.long q4), .second, .val (.long q5), .second, .val (.int p6), .val (.ref b3), .val (.ref b32), .val (.int n1), .val (.int n2), .val (.long v75s0), .second, .val (.int (((p6.toUInt32 >>> ((5 : Int32) &&& 31).toUInt32).toInt32) &&& (3 : Int32))), .val (.long v108s0), .second, .val (.ref b66), .val (.ref b163), .unset, .unset, .unset, .unset, .unset]) rfl hr) ?_
          show Till p e below s (Q0 Z q1 q2 q3 q4 q5 p6 h0 n0) room_1.cells room_1.slots (T157.setTop (mkF m 148 #[.val (.long q1), .second, .val (.long q2), .second, .val (.long q3), .second, .val (.long q4), .second, .val (.long q5), .second, .val (.int p6), .val (.ref b3), .val (.ref b32), .val (.int n1), .val (.int n2), .val (.long v75s0), .second, .val (.int (((p6.toUInt32 >>> ((5 : Int32) &&& 31).toUInt32).toInt32) &&& (3 : Int32))), .val (.long v108s0), .second, .val (.ref b66), .val (.ref b163), .unset, .unset, .unset, .unset, .unset] []))
          refine Till.pre (fun _ hr => XS.aload X159.here hx rfl (hb hby at_148) rfl rfl hr) ?_
          show Till p e below s (Q0 Z q1 q2 q3 q4 q5 p6 h0 n0) room_1.cells room_1.slots (T157.setTop (mkF m 150 #[.val (.long q1), .second, .val (.long q2), .second, .val (.long q3), .second, .val (.long q4), .second, .val (.long q5), .second, .val (.int p6), .val (.ref b3), .val (.ref b32), .val (.int n1), .val (.int n2), .val (.long v75s0), .second, .val (.int (((p6.toUInt32 >>> ((5 : Int32) &&& 31).toUInt32).toInt32) &&& (3 : Int32))), .val (.long v108s0), .second, .val (.ref b66), .val (.ref b163), .unset, .unset, .unset, .unset, .unset] [(.ref b66)]))
          refine Till.pre (fun _ hr => XS.lload X159.here hx rfl (hb hby at_150) rfl hr) ?_
          show Till p e below s (Q0 Z q1 q2 q3 q4 q5 p6 h0 n0) room_1.cells room_1.slots (T157.setTop (mkF m 152 #[.val (.long q1), .second, .val (.long q2), .second, .val (.long q3), .second, .val (.long q4), .second, .val (.long q5), .second, .val (.int p6), .val (.ref b3), .val (.ref b32), .val (.int n1), .val (.int n2), .val (.long v75s0), .second, .val (.int (((p6.toUInt32 >>> ((5 : Int32) &&& 31).toUInt32).toInt32) &&& (3 : Int32))), .val (.long v108s0), .second, .val (.ref b66), .val (.ref b163), .unset, .unset, .unset, .unset, .unset] [(.long v75s0), (.ref b66)]))
          refine Till.callV (rm8_s l Z a0 hw b66 v75s0 b83 b85 b86 b84 (us + ((1 : Int32) + n2)) w108 f106 g107 u2 2 (own_um (own_um (fun _ => own_ABS) q1 (0 : Int32).toInt64) v75s0 us.toInt64) us n2 T157.heap n0 Zs R_b66 R_b83 R_b85 R_b86 R_b84 ne_b66_b83 ne_b66_b85 ne_b66_b86 ne_b66_b84 ne_b83_b85 ne_b83_b86 ne_b83_b84 ne_b85_b86 (Ne.symm ne_b84_b85) (Ne.symm ne_b84_b86) (tb109) (by decide) (own_m2) (own_us hu_us (own_n4 hu_n1)) (own_c2 hu_us (own_n4 hu_n1) hu_u2) (own_n4 hu_n2)) R_b66.1 X159 hx hZ hown (hw _ (List.mem_of_getElem? (i := 60) rfl)) (hw _ (List.mem_of_getElem? (i := 61) rfl)) (hw _ (List.mem_of_getElem? (i := 63) rfl)) (hw _ (List.mem_of_getElem? (i := 62) rfl)) (hw _ (List.mem_of_getElem? (i := 4) rfl)) (hw _ (List.mem_of_getElem? (i := 64) rfl)) (by decide) (by decide) (W := 0) (by decide) (by rw [hml]; rfl) (a := b66) (argsL := [(.long v75s0)]) (rest := []) (lenOf pd0_6 rfl) rfl rfl (Nat.le_of_eq rfl) (hb hby at_152) rfl (by decide) (by decide) ?_
          rintro _ T164 L165 X166 ⟨b170, rfl, N167, K168, szq_b170, q169⟩
          have N167 := Fr.app N160 N167
          have ne_b3_b170 : b3 ≠ b170 := Nat.ne_of_lt (Nat.lt_of_lt_of_le R_b3.lt szq_b170)
          have ne_b32_b170 : b32 ≠ b170 := Nat.ne_of_lt (Nat.lt_of_lt_of_le R_b32.lt szq_b170)
          have ne_b66_b170 : b66 ≠ b170 := Nat.ne_of_lt (Nat.lt_of_lt_of_le R_b66.lt szq_b170)
          have ne_b83_b170 : b83 ≠ b170 := Nat.ne_of_lt (Nat.lt_of_lt_of_le R_b83.lt szq_b170)
          have ne_b84_b170 : b84 ≠ b170 := Nat.ne_of_lt (Nat.lt_of_lt_of_le R_b84.lt szq_b170)
          have ne_b85_b170 : b85 ≠ b170 := Nat.ne_of_lt (Nat.lt_of_lt_of_le R_b85.lt szq_b170)
          have ne_b86_b170 : b86 ≠ b170 := Nat.ne_of_lt (Nat.lt_of_lt_of_le R_b86.lt szq_b170)
          have ne_b163_b170 : b163 ≠ b170 := Nat.ne_of_lt (Nat.lt_of_lt_of_le R_b163.lt szq_b170)
          have g_b170 : n0 ≤ b170 := Nat.le_trans Zs szq_b170
          have R_b3 := R_b3.keep K168 nin0
          have R_b32 := R_b32.keep K168 nin0
          have R_b66 := R_b66.keep K168 nin0
          have R_b83 := R_b83.keep K168 nin0
          have R_b84 := R_b84.keep K168 nin0
          have R_b85 := R_b85.keep K168 nin0
          have R_b86 := R_b86.keep K168 nin0
          have R_b163 := R_b163.keep K168 nin0
          have Zs := Nat.le_trans Zs K168.1
          have R_b170 : LA Z T164.heap b170 n2 (fun i => u2 (((us + (1 : Int32))).toNatClampNeg + i)) := q169
          show Till p e below s (Q0 Z q1 q2 q3 q4 q5 p6 h0 n0) room_1.cells room_1.slots (T164.setTop (mkF m 155 #[.val (.long q1), .second, .val (.long q2), .second, .val (.long q3), .second, .val (.long q4), .second, .val (.long q5), .second, .val (.int p6), .val (.ref b3), .val (.ref b32), .val (.int n1), .val (.int n2), .val (.long v75s0), .second, .val (.int (((p6.toUInt32 >>> ((5 : Int32) &&& 31).toUInt32).toInt32) &&& (3 : Int32))), .val (.long v108s0), .second, .val (.ref b66), .val (.ref b163), .unset, .unset, .unset, .unset, .unset] [(.ref b170)]))
          refine Till.pre (fun _ hr => XS.astore X166.here hx rfl (hb hby at_155) rfl rfl (l' := #[.val (.long q1), .second, .val (.long q2), .second, .val (.long q3), .second, .val (.long q4), .second, .val (.long q5), .second, .val (.int p6), .val (.ref b3), .val (.ref b32), .val (.int n1), .val (.int n2), .val (.long v75s0), .second, .val (.int (((p6.toUInt32 >>> ((5 : Int32) &&& 31).toUInt32).toInt32) &&& (3 : Int32))), .val (.long v108s0), .second, .val (.ref b66), .val (.ref b163), .val (.ref b170), .unset, .unset, .unset, .unset]) rfl hr) ?_
          show Till p e below s (Q0 Z q1 q2 q3 q4 q5 p6 h0 n0) room_1.cells room_1.slots (T164.setTop (mkF m 157 #[.val (.long q1), .second, .val (.long q2), .second, .val (.long q3), .second, .val (.long q4), .second, .val (.long q5), .second, .val (.int p6), .val (.ref b3), .val (.ref b32), .val (.int n1), .val (.int n2), .val (.long v75s0), .second, .val (.int (((p6.toUInt32 >>> ((5 : Int32) &&& 31).toUInt32).toInt32) &&& (3 : Int32))), .val (.long v108s0), .second, .val (.ref b66), .val (.ref b163), .val (.ref b170), .unset, .unset, .unset, .unset] []))
          refine Till.pre (fun _ hr => XS.aload X166.here hx rfl (hb hby at_157) rfl rfl hr) ?_
          show Till p e below s (Q0 Z q1 q2 q3 q4 q5 p6 h0 n0) room_1.cells room_1.slots (T164.setTop (mkF m 159 #[.val (.long q1), .second, .val (.long q2), .second, .val (.long q3), .second, .val (.long q4), .second, .val (.long q5), .second, .val (.int p6), .val (.ref b3), .val (.ref b32), .val (.int n1), .val (.int n2), .val (.long v75s0), .second, .val (.int (((p6.toUInt32 >>> ((5 : Int32) &&& 31).toUInt32).toInt32) &&& (3 : Int32))), .val (.long v108s0), .second, .val (.ref b66), .val (.ref b163), .val (.ref b170), .unset, .unset, .unset, .unset] [(.ref b66)]))
          refine Till.pre (fun _ hr => XS.lload X166.here hx rfl (hb hby at_159) rfl hr) ?_
          show Till p e below s (Q0 Z q1 q2 q3 q4 q5 p6 h0 n0) room_1.cells room_1.slots (T164.setTop (mkF m 161 #[.val (.long q1), .second, .val (.long q2), .second, .val (.long q3), .second, .val (.long q4), .second, .val (.long q5), .second, .val (.int p6), .val (.ref b3), .val (.ref b32), .val (.int n1), .val (.int n2), .val (.long v75s0), .second, .val (.int (((p6.toUInt32 >>> ((5 : Int32) &&& 31).toUInt32).toInt32) &&& (3 : Int32))), .val (.long v108s0), .second, .val (.ref b66), .val (.ref b163), .val (.ref b170), .unset, .unset, .unset, .unset] [(.long v108s0), (.ref b66)]))
          refine Till.callV (rm8_n l Z a0 hw b66 v108s0 b83 b85 b86 b84 (us + ((1 : Int32) + n2)) w108 f106 g107 u2 2 (own_um (own_um (fun _ => own_ABS) q1 (0 : Int32).toInt64) v75s0 us.toInt64) T164.heap n0 R_b66 R_b83 R_b85 R_b86 R_b84 (tb109) (by decide) (own_m3n hB (fun q => hB (q.trans hA.symm)))) R_b66.1 X166 hx hZ hown (hw _ (List.mem_of_getElem? (i := 60) rfl)) (hw _ (List.mem_of_getElem? (i := 61) rfl)) (hw _ (List.mem_of_getElem? (i := 63) rfl)) (hw _ (List.mem_of_getElem? (i := 62) rfl)) (hw _ (List.mem_of_getElem? (i := 4) rfl)) (hw _ (List.mem_of_getElem? (i := 64) rfl)) (by decide) (by decide) (W := 0) (by decide) (by rw [hml]; rfl) (a := b66) (argsL := [(.long v108s0)]) (rest := []) (lenOf pd0_6 rfl) rfl rfl (Nat.le_of_eq rfl) (hb hby at_161) rfl (by decide) (by decide) ?_
          rintro _ T171 L172 X173 ⟨rfl, N174, e175⟩
          have N174 := Fr.app N167 N174
          show Till p e below s (Q0 Z q1 q2 q3 q4 q5 p6 h0 n0) room_1.cells room_1.slots (T171.setTop (mkF m 164 #[.val (.long q1), .second, .val (.long q2), .second, .val (.long q3), .second, .val (.long q4), .second, .val (.long q5), .second, .val (.int p6), .val (.ref b3), .val (.ref b32), .val (.int n1), .val (.int n2), .val (.long v75s0), .second, .val (.int (((p6.toUInt32 >>> ((5 : Int32) &&& 31).toUInt32).toInt32) &&& (3 : Int32))), .val (.long v108s0), .second, .val (.ref b66), .val (.ref b163), .val (.ref b170), .unset, .unset, .unset, .unset] [.null]))
          refine Till.pre (fun _ hr => XS.astore X173.here hx rfl (hb hby at_164) rfl rfl (l' := #[.val (.long q1), .second, .val (.long q2), .second, .val (.long q3), .second, .val (.long q4), .second, .val (.long q5), .second, .val (.int p6), .val (.ref b3), .val (.ref b32), .val (.int n1), .val (.int n2), .val (.long v75s0), .second, .val (.int (((p6.toUInt32 >>> ((5 : Int32) &&& 31).toUInt32).toInt32) &&& (3 : Int32))), .val (.long v108s0), .second, .val (.ref b66), .val (.ref b163), .val (.ref b170), .val .null, .unset, .unset, .unset]) rfl hr) ?_
          show Till p e below s (Q0 Z q1 q2 q3 q4 q5 p6 h0 n0) room_1.cells room_1.slots (T171.setTop (mkF m 166 #[.val (.long q1), .second, .val (.long q2), .second, .val (.long q3), .second, .val (.long q4), .second, .val (.long q5), .second, .val (.int p6), .val (.ref b3), .val (.ref b32), .val (.int n1), .val (.int n2), .val (.long v75s0), .second, .val (.int (((p6.toUInt32 >>> ((5 : Int32) &&& 31).toUInt32).toInt32) &&& (3 : Int32))), .val (.long v108s0), .second, .val (.ref b66), .val (.ref b163), .val (.ref b170), .val .null, .unset, .unset, .unset] []))
          refine Till.pre (fun _ hr => XS.lload X173.here hx rfl (hb hby at_166) rfl hr) ?_
          show Till p e below s (Q0 Z q1 q2 q3 q4 q5 p6 h0 n0) room_1.cells room_1.slots (T171.setTop (mkF m 168 #[.val (.long q1), .second, .val (.long q2), .second, .val (.long q3), .second, .val (.long q4), .second, .val (.long q5), .second, .val (.int p6), .val (.ref b3), .val (.ref b32), .val (.int n1), .val (.int n2), .val (.long v75s0), .second, .val (.int (((p6.toUInt32 >>> ((5 : Int32) &&& 31).toUInt32).toInt32) &&& (3 : Int32))), .val (.long v108s0), .second, .val (.ref b66), .val (.ref b163), .val (.ref b170), .val .null, .unset, .unset, .unset] [(.long v75s0)]))
          refine Till.pre (fun _ hr => XS.lloadN X173.here hx rfl (hb hby at_168) rfl hr) ?_
          show Till p e below s (Q0 Z q1 q2 q3 q4 q5 p6 h0 n0) room_1.cells room_1.slots (T171.setTop (mkF m 169 #[.val (.long q1), .second, .val (.long q2), .second, .val (.long q3), .second, .val (.long q4), .second, .val (.long q5), .second, .val (.int p6), .val (.ref b3), .val (.ref b32), .val (.int n1), .val (.int n2), .val (.long v75s0), .second, .val (.int (((p6.toUInt32 >>> ((5 : Int32) &&& 31).toUInt32).toInt32) &&& (3 : Int32))), .val (.long v108s0), .second, .val (.ref b66), .val (.ref b163), .val (.ref b170), .val .null, .unset, .unset, .unset] [(.long q1), (.long v75s0)]))
          refine Till.pre (fun _ hr => XS.lcmp X173.here hx rfl (hb hby at_169) rfl hr) ?_
          show Till p e below s (Q0 Z q1 q2 q3 q4 q5 p6 h0 n0) room_1.cells room_1.slots (T171.setTop (mkF m 170 #[.val (.long q1), .second, .val (.long q2), .second, .val (.long q3), .second, .val (.long q4), .second, .val (.long q5), .second, .val (.int p6), .val (.ref b3), .val (.ref b32), .val (.int n1), .val (.int n2), .val (.long v75s0), .second, .val (.int (((p6.toUInt32 >>> ((5 : Int32) &&& 31).toUInt32).toInt32) &&& (3 : Int32))), .val (.long v108s0), .second, .val (.ref b66), .val (.ref b163), .val (.ref b170), .val .null, .unset, .unset, .unset] [(.int (lcmpW v75s0 q1))]))
          refine Till.ifc (pc' := 185) X173.here hx (hb hby at_170) (by decide) (by decide) (fun q => absurd (hA : (v75s0 = q1)) (mt lEq.mpr (hEq.2.2.1 q))) (fun q => ?_)
          show Till p e below s (Q0 Z q1 q2 q3 q4 q5 p6 h0 n0) room_1.cells room_1.slots (T171.setTop (mkF m 173 #[.val (.long q1), .second, .val (.long q2), .second, .val (.long q3), .second, .val (.long q4), .second, .val (.long q5), .second, .val (.int p6), .val (.ref b3), .val (.ref b32), .val (.int n1), .val (.int n2), .val (.long v75s0), .second, .val (.int (((p6.toUInt32 >>> ((5 : Int32) &&& 31).toUInt32).toInt32) &&& (3 : Int32))), .val (.long v108s0), .second, .val (.ref b66), .val (.ref b163), .val (.ref b170), .val .null, .unset, .unset, .unset] []))
          refine Till.pre (fun _ hr => XS.aload X173.here hx rfl (hb hby at_173) rfl rfl hr) ?_
          show Till p e below s (Q0 Z q1 q2 q3 q4 q5 p6 h0 n0) room_1.cells room_1.slots (T171.setTop (mkF m 175 #[.val (.long q1), .second, .val (.long q2), .second, .val (.long q3), .second, .val (.long q4), .second, .val (.long q5), .second, .val (.int p6), .val (.ref b3), .val (.ref b32), .val (.int n1), .val (.int n2), .val (.long v75s0), .second, .val (.int (((p6.toUInt32 >>> ((5 : Int32) &&& 31).toUInt32).toInt32) &&& (3 : Int32))), .val (.long v108s0), .second, .val (.ref b66), .val (.ref b163), .val (.ref b170), .val .null, .unset, .unset, .unset] [(.ref b163)]))
          refine Till.pre (fun _ hr => XS.aload X173.here hx rfl (hb hby at_175) rfl rfl hr) ?_
          show Till p e below s (Q0 Z q1 q2 q3 q4 q5 p6 h0 n0) room_1.cells room_1.slots (T171.setTop (mkF m 177 #[.val (.long q1), .second, .val (.long q2), .second, .val (.long q3), .second, .val (.long q4), .second, .val (.long q5), .second, .val (.int p6), .val (.ref b3), .val (.ref b32), .val (.int n1), .val (.int n2), .val (.long v75s0), .second, .val (.int (((p6.toUInt32 >>> ((5 : Int32) &&& 31).toUInt32).toInt32) &&& (3 : Int32))), .val (.long v108s0), .second, .val (.ref b66), .val (.ref b163), .val (.ref b170), .val .null, .unset, .unset, .unset] [(.ref b32), (.ref b163)]))
          refine Till.pre (fun _ hr => XS.iload X173.here hx rfl (hb hby at_177) rfl hr) ?_
          show Till p e below s (Q0 Z q1 q2 q3 q4 q5 p6 h0 n0) room_1.cells room_1.slots (T171.setTop (mkF m 179 #[.val (.long q1), .second, .val (.long q2), .second, .val (.long q3), .second, .val (.long q4), .second, .val (.long q5), .second, .val (.int p6), .val (.ref b3), .val (.ref b32), .val (.int n1), .val (.int n2), .val (.long v75s0), .second, .val (.int (((p6.toUInt32 >>> ((5 : Int32) &&& 31).toUInt32).toInt32) &&& (3 : Int32))), .val (.long v108s0), .second, .val (.ref b66), .val (.ref b163), .val (.ref b170), .val .null, .unset, .unset, .unset] [(.int n2), (.ref b32), (.ref b163)]))
          refine Till.callS (rm14 l Z a0 hw b163 b32 n2 n2 (fun i => u2 (((us + (1 : Int32))).toNatClampNeg + i)) (oupd (oupd (oupd (fun _ => (0 : Int64)) 0 q5) 1 q4) 2 (q4 ^^^ q5)) T164.heap n0 R_b163 R_b32) X173 hx hZ hown (hw _ (List.mem_of_getElem? (i := 85) rfl)) (hw _ (List.mem_of_getElem? (i := 86) rfl)) (hw _ (List.mem_of_getElem? (i := 87) rfl)) (hw _ (List.mem_of_getElem? (i := 88) rfl)) (by decide) (by decide) (W := 0) (by decide) (by rw [hml]; rfl) (argsL := [(.ref b163), (.ref b32), (.int n2)]) (rest := []) (lenOf pd0_12 rfl) rfl rfl (Nat.le_of_eq rfl) (hb hby at_179) e175 (by decide) (by decide) ?_
          rintro _ T176 L177 X178 ⟨rfl, N179, e180⟩
          have N179 := Fr.app N174 N179
          show Till p e below s (Q0 Z q1 q2 q3 q4 q5 p6 h0 n0) room_1.cells room_1.slots (T176.setTop (mkF m 182 #[.val (.long q1), .second, .val (.long q2), .second, .val (.long q3), .second, .val (.long q4), .second, .val (.long q5), .second, .val (.int p6), .val (.ref b3), .val (.ref b32), .val (.int n1), .val (.int n2), .val (.long v75s0), .second, .val (.int (((p6.toUInt32 >>> ((5 : Int32) &&& 31).toUInt32).toInt32) &&& (3 : Int32))), .val (.long v108s0), .second, .val (.ref b66), .val (.ref b163), .val (.ref b170), .val .null, .unset, .unset, .unset] [(.int (fn14 n2 n2 (fun i => u2 (((us + (1 : Int32))).toNatClampNeg + i)) (oupd (oupd (oupd (fun _ => (0 : Int64)) 0 q5) 1 q4) 2 (q4 ^^^ q5))))]))
          refine Till.pre (fun _ hr => XS.goto X178.here hx rfl (pc0 := 182) (pc' := 194) rfl (hb hby at_182) (by decide) (by decide) hr) ?_
          show Till p e below s (Q0 Z q1 q2 q3 q4 q5 p6 h0 n0) room_1.cells room_1.slots (T176.setTop (mkF m 194 #[.val (.long q1), .second, .val (.long q2), .second, .val (.long q3), .second, .val (.long q4), .second, .val (.long q5), .second, .val (.int p6), .val (.ref b3), .val (.ref b32), .val (.int n1), .val (.int n2), .val (.long v75s0), .second, .val (.int (((p6.toUInt32 >>> ((5 : Int32) &&& 31).toUInt32).toInt32) &&& (3 : Int32))), .val (.long v108s0), .second, .val (.ref b66), .val (.ref b163), .val (.ref b170), .val .null, .unset, .unset, .unset] [(.int (fn14 n2 n2 (fun i => u2 (((us + (1 : Int32))).toNatClampNeg + i)) (oupd (oupd (oupd (fun _ => (0 : Int64)) 0 q5) 1 q4) 2 (q4 ^^^ q5))))]))
          refine Till.pre (fun _ hr => XS.istore X178.here hx rfl (hb hby at_194) rfl (l' := #[.val (.long q1), .second, .val (.long q2), .second, .val (.long q3), .second, .val (.long q4), .second, .val (.long q5), .second, .val (.int p6), .val (.ref b3), .val (.ref b32), .val (.int n1), .val (.int n2), .val (.long v75s0), .second, .val (.int (((p6.toUInt32 >>> ((5 : Int32) &&& 31).toUInt32).toInt32) &&& (3 : Int32))), .val (.long v108s0), .second, .val (.ref b66), .val (.ref b163), .val (.ref b170), .val .null, .val (.int (fn14 n2 n2 (fun i => u2 (((us + (1 : Int32))).toNatClampNeg + i)) (oupd (oupd (oupd (fun _ => (0 : Int64)) 0 q5) 1 q4) 2 (q4 ^^^ q5)))), .unset, .unset]) rfl hr) ?_
          show Till p e below s (Q0 Z q1 q2 q3 q4 q5 p6 h0 n0) room_1.cells room_1.slots (T176.setTop (mkF m 196 #[.val (.long q1), .second, .val (.long q2), .second, .val (.long q3), .second, .val (.long q4), .second, .val (.long q5), .second, .val (.int p6), .val (.ref b3), .val (.ref b32), .val (.int n1), .val (.int n2), .val (.long v75s0), .second, .val (.int (((p6.toUInt32 >>> ((5 : Int32) &&& 31).toUInt32).toInt32) &&& (3 : Int32))), .val (.long v108s0), .second, .val (.ref b66), .val (.ref b163), .val (.ref b170), .val .null, .val (.int (fn14 n2 n2 (fun i => u2 (((us + (1 : Int32))).toNatClampNeg + i)) (oupd (oupd (oupd (fun _ => (0 : Int64)) 0 q5) 1 q4) 2 (q4 ^^^ q5)))), .unset, .unset] []))
          refine Till.pre (fun _ hr => XS.aload X178.here hx rfl (hb hby at_196) rfl rfl hr) ?_
          show Till p e below s (Q0 Z q1 q2 q3 q4 q5 p6 h0 n0) room_1.cells room_1.slots (T176.setTop (mkF m 198 #[.val (.long q1), .second, .val (.long q2), .second, .val (.long q3), .second, .val (.long q4), .second, .val (.long q5), .second, .val (.int p6), .val (.ref b3), .val (.ref b32), .val (.int n1), .val (.int n2), .val (.long v75s0), .second, .val (.int (((p6.toUInt32 >>> ((5 : Int32) &&& 31).toUInt32).toInt32) &&& (3 : Int32))), .val (.long v108s0), .second, .val (.ref b66), .val (.ref b163), .val (.ref b170), .val .null, .val (.int (fn14 n2 n2 (fun i => u2 (((us + (1 : Int32))).toNatClampNeg + i)) (oupd (oupd (oupd (fun _ => (0 : Int64)) 0 q5) 1 q4) 2 (q4 ^^^ q5)))), .unset, .unset] [(.ref b170)]))
          refine Till.pre (fun _ hr => XS.aload X178.here hx rfl (hb hby at_198) rfl rfl hr) ?_
          show Till p e below s (Q0 Z q1 q2 q3 q4 q5 p6 h0 n0) room_1.cells room_1.slots (T176.setTop (mkF m 200 #[.val (.long q1), .second, .val (.long q2), .second, .val (.long q3), .second, .val (.long q4), .second, .val (.long q5), .second, .val (.int p6), .val (.ref b3), .val (.ref b32), .val (.int n1), .val (.int n2), .val (.long v75s0), .second, .val (.int (((p6.toUInt32 >>> ((5 : Int32) &&& 31).toUInt32).toInt32) &&& (3 : Int32))), .val (.long v108s0), .second, .val (.ref b66), .val (.ref b163), .val (.ref b170), .val .null, .val (.int (fn14 n2 n2 (fun i => u2 (((us + (1 : Int32))).toNatClampNeg + i)) (oupd (oupd (oupd (fun _ => (0 : Int64)) 0 q5) 1 q4) 2 (q4 ^^^ q5)))), .unset, .unset] [(.ref b32), (.ref b170)]))
          refine Till.pre (fun _ hr => XS.iload X178.here hx rfl (hb hby at_200) rfl hr) ?_
          show Till p e below s (Q0 Z q1 q2 q3 q4 q5 p6 h0 n0) room_1.cells room_1.slots (T176.setTop (mkF m 202 #[.val (.long q1), .second, .val (.long q2), .second, .val (.long q3), .second, .val (.long q4), .second, .val (.long q5), .second, .val (.int p6), .val (.ref b3), .val (.ref b32), .val (.int n1), .val (.int n2), .val (.long v75s0), .second, .val (.int (((p6.toUInt32 >>> ((5 : Int32) &&& 31).toUInt32).toInt32) &&& (3 : Int32))), .val (.long v108s0), .second, .val (.ref b66), .val (.ref b163), .val (.ref b170), .val .null, .val (.int (fn14 n2 n2 (fun i => u2 (((us + (1 : Int32))).toNatClampNeg + i)) (oupd (oupd (oupd (fun _ => (0 : Int64)) 0 q5) 1 q4) 2 (q4 ^^^ q5)))), .unset, .unset] [(.int n2), (.ref b32), (.ref b170)]))
          refine Till.callS (rm14 l Z a0 hw b170 b32 n2 n2 (fun i => u2 (((us + (1 : Int32))).toNatClampNeg + i)) (oupd (oupd (oupd (fun _ => (0 : Int64)) 0 q5) 1 q4) 2 (q4 ^^^ q5)) T164.heap n0 R_b170 R_b32) X178 hx hZ hown (hw _ (List.mem_of_getElem? (i := 85) rfl)) (hw _ (List.mem_of_getElem? (i := 86) rfl)) (hw _ (List.mem_of_getElem? (i := 87) rfl)) (hw _ (List.mem_of_getElem? (i := 88) rfl)) (by decide) (by decide) (W := 0) (by decide) (by rw [hml]; rfl) (argsL := [(.ref b170), (.ref b32), (.int n2)]) (rest := []) (lenOf pd0_12 rfl) rfl rfl (Nat.le_of_eq rfl) (hb hby at_202) e180 (by decide) (by decide) ?_
          rintro _ T181 L182 X183 ⟨rfl, N184, e185⟩
          have N184 := Fr.app N179 N184
          show Till p e below s (Q0 Z q1 q2 q3 q4 q5 p6 h0 n0) room_1.cells room_1.slots (T181.setTop (mkF m 205 #[.val (.long q1), .second, .val (.long q2), .second, .val (.long q3), .second, .val (.long q4), .second, .val (.long q5), .second, .val (.int p6), .val (.ref b3), .val (.ref b32), .val (.int n1), .val (.int n2), .val (.long v75s0), .second, .val (.int (((p6.toUInt32 >>> ((5 : Int32) &&& 31).toUInt32).toInt32) &&& (3 : Int32))), .val (.long v108s0), .second, .val (.ref b66), .val (.ref b163), .val (.ref b170), .val .null, .val (.int (fn14 n2 n2 (fun i => u2 (((us + (1 : Int32))).toNatClampNeg + i)) (oupd (oupd (oupd (fun _ => (0 : Int64)) 0 q5) 1 q4) 2 (q4 ^^^ q5)))), .unset, .unset] [(.int (fn14 n2 n2 (fun i => u2 (((us + (1 : Int32))).toNatClampNeg + i)) (oupd (oupd (oupd (fun _ => (0 : Int64)) 0 q5) 1 q4) 2 (q4 ^^^ q5))))]))
          refine Till.pre (fun _ hr => XS.istore X183.here hx rfl (hb hby at_205) rfl (l' := #[.val (.long q1), .second, .val (.long q2), .second, .val (.long q3), .second, .val (.long q4), .second, .val (.long q5), .second, .val (.int p6), .val (.ref b3), .val (.ref b32), .val (.int n1), .val (.int n2), .val (.long v75s0), .second, .val (.int (((p6.toUInt32 >>> ((5 : Int32) &&& 31).toUInt32).toInt32) &&& (3 : Int32))), .val (.long v108s0), .second, .val (.ref b66), .val (.ref b163), .val (.ref b170), .val .null, .val (.int (fn14 n2 n2 (fun i => u2 (((us + (1 : Int32))).toNatClampNeg + i)) (oupd (oupd (oupd (fun _ => (0 : Int64)) 0 q5) 1 q4) 2 (q4 ^^^ q5)))), .val (.int (fn14 n2 n2 (fun i => u2 (((us + (1 : Int32))).toNatClampNeg + i)) (oupd (oupd (oupd (fun _ => (0 : Int64)) 0 q5) 1 q4) 2 (q4 ^^^ q5)))), .unset]) rfl hr) ?_
          show Till p e below s (Q0 Z q1 q2 q3 q4 q5 p6 h0 n0) room_1.cells room_1.slots (T181.setTop (mkF m 207 #[.val (.long q1), .second, .val (.long q2), .second, .val (.long q3), .second, .val (.long q4), .second, .val (.long q5), .second, .val (.int p6), .val (.ref b3), .val (.ref b32), .val (.int n1), .val (.int n2), .val (.long v75s0), .second, .val (.int (((p6.toUInt32 >>> ((5 : Int32) &&& 31).toUInt32).toInt32) &&& (3 : Int32))), .val (.long v108s0), .second, .val (.ref b66), .val (.ref b163), .val (.ref b170), .val .null, .val (.int (fn14 n2 n2 (fun i => u2 (((us + (1 : Int32))).toNatClampNeg + i)) (oupd (oupd (oupd (fun _ => (0 : Int64)) 0 q5) 1 q4) 2 (q4 ^^^ q5)))), .val (.int (fn14 n2 n2 (fun i => u2 (((us + (1 : Int32))).toNatClampNeg + i)) (oupd (oupd (oupd (fun _ => (0 : Int64)) 0 q5) 1 q4) 2 (q4 ^^^ q5)))), .unset] []))
          refine Till.pre (fun _ hr => XS.lload X183.here hx rfl (hb hby at_207) rfl hr) ?_
          show Till p e below s (Q0 Z q1 q2 q3 q4 q5 p6 h0 n0) room_1.cells room_1.slots (T181.setTop (mkF m 209 #[.val (.long q1), .second, .val (.long q2), .second, .val (.long q3), .second, .val (.long q4), .second, .val (.long q5), .second, .val (.int p6), .val (.ref b3), .val (.ref b32), .val (.int n1), .val (.int n2), .val (.long v75s0), .second, .val (.int (((p6.toUInt32 >>> ((5 : Int32) &&& 31).toUInt32).toInt32) &&& (3 : Int32))), .val (.long v108s0), .second, .val (.ref b66), .val (.ref b163), .val (.ref b170), .val .null, .val (.int (fn14 n2 n2 (fun i => u2 (((us + (1 : Int32))).toNatClampNeg + i)) (oupd (oupd (oupd (fun _ => (0 : Int64)) 0 q5) 1 q4) 2 (q4 ^^^ q5)))), .val (.int (fn14 n2 n2 (fun i => u2 (((us + (1 : Int32))).toNatClampNeg + i)) (oupd (oupd (oupd (fun _ => (0 : Int64)) 0 q5) 1 q4) 2 (q4 ^^^ q5)))), .unset] [(.long v108s0)]))
          refine Till.pre (fun _ hr => XS.lload X183.here hx rfl (hb hby at_209) rfl hr) ?_
          show Till p e below s (Q0 Z q1 q2 q3 q4 q5 p6 h0 n0) room_1.cells room_1.slots (T181.setTop (mkF m 211 #[.val (.long q1), .second, .val (.long q2), .second, .val (.long q3), .second, .val (.long q4), .second, .val (.long q5), .second, .val (.int p6), .val (.ref b3), .val (.ref b32), .val (.int n1), .val (.int n2), .val (.long v75s0), .second, .val (.int (((p6.toUInt32 >>> ((5 : Int32) &&& 31).toUInt32).toInt32) &&& (3 : Int32))), .val (.long v108s0), .second, .val (.ref b66), .val (.ref b163), .val (.ref b170), .val .null, .val (.int (fn14 n2 n2 (fun i => u2 (((us + (1 : Int32))).toNatClampNeg + i)) (oupd (oupd (oupd (fun _ => (0 : Int64)) 0 q5) 1 q4) 2 (q4 ^^^ q5)))), .val (.int (fn14 n2 n2 (fun i => u2 (((us + (1 : Int32))).toNatClampNeg + i)) (oupd (oupd (oupd (fun _ => (0 : Int64)) 0 q5) 1 q4) 2 (q4 ^^^ q5)))), .unset] [(.long v75s0), (.long v108s0)]))
          refine Till.pre (fun _ hr => XS.lcmp X183.here hx rfl (hb hby at_211) rfl hr) ?_
          show Till p e below s (Q0 Z q1 q2 q3 q4 q5 p6 h0 n0) room_1.cells room_1.slots (T181.setTop (mkF m 212 #[.val (.long q1), .second, .val (.long q2), .second, .val (.long q3), .second, .val (.long q4), .second, .val (.long q5), .second, .val (.int p6), .val (.ref b3), .val (.ref b32), .val (.int n1), .val (.int n2), .val (.long v75s0), .second, .val (.int (((p6.toUInt32 >>> ((5 : Int32) &&& 31).toUInt32).toInt32) &&& (3 : Int32))), .val (.long v108s0), .second, .val (.ref b66), .val (.ref b163), .val (.ref b170), .val .null, .val (.int (fn14 n2 n2 (fun i => u2 (((us + (1 : Int32))).toNatClampNeg + i)) (oupd (oupd (oupd (fun _ => (0 : Int64)) 0 q5) 1 q4) 2 (q4 ^^^ q5)))), .val (.int (fn14 n2 n2 (fun i => u2 (((us + (1 : Int32))).toNatClampNeg + i)) (oupd (oupd (oupd (fun _ => (0 : Int64)) 0 q5) 1 q4) 2 (q4 ^^^ q5)))), .unset] [(.int (lcmpW v108s0 v75s0))]))
          refine Till.ifc (pc' := 229) X183.here hx (hb hby at_212) (by decide) (by decide) (fun q => ?_) (fun q => absurd (lEq.mp (hEq.2.2.2 q)) (hB : ¬ (v108s0 = v75s0)))
          show Till p e below s (Q0 Z q1 q2 q3 q4 q5 p6 h0 n0) room_1.cells room_1.slots (T181.setTop (mkF m 229 #[.val (.long q1), .second, .val (.long q2), .second, .val (.long q3), .second, .val (.long q4), .second, .val (.long q5), .second, .val (.int p6), .val (.ref b3), .val (.ref b32), .val (.int n1), .val (.int n2), .val (.long v75s0), .second, .val (.int (((p6.toUInt32 >>> ((5 : Int32) &&& 31).toUInt32).toInt32) &&& (3 : Int32))), .val (.long v108s0), .second, .val (.ref b66), .val (.ref b163), .val (.ref b170), .val .null, .val (.int (fn14 n2 n2 (fun i => u2 (((us + (1 : Int32))).toNatClampNeg + i)) (oupd (oupd (oupd (fun _ => (0 : Int64)) 0 q5) 1 q4) 2 (q4 ^^^ q5)))), .val (.int (fn14 n2 n2 (fun i => u2 (((us + (1 : Int32))).toNatClampNeg + i)) (oupd (oupd (oupd (fun _ => (0 : Int64)) 0 q5) 1 q4) 2 (q4 ^^^ q5)))), .unset] []))
          refine Till.pre (fun _ hr => XS.lload X183.here hx rfl (hb hby at_229) rfl hr) ?_
          show Till p e below s (Q0 Z q1 q2 q3 q4 q5 p6 h0 n0) room_1.cells room_1.slots (T181.setTop (mkF m 231 #[.val (.long q1), .second, .val (.long q2), .second, .val (.long q3), .second, .val (.long q4), .second, .val (.long q5), .second, .val (.int p6), .val (.ref b3), .val (.ref b32), .val (.int n1), .val (.int n2), .val (.long v75s0), .second, .val (.int (((p6.toUInt32 >>> ((5 : Int32) &&& 31).toUInt32).toInt32) &&& (3 : Int32))), .val (.long v108s0), .second, .val (.ref b66), .val (.ref b163), .val (.ref b170), .val .null, .val (.int (fn14 n2 n2 (fun i => u2 (((us + (1 : Int32))).toNatClampNeg + i)) (oupd (oupd (oupd (fun _ => (0 : Int64)) 0 q5) 1 q4) 2 (q4 ^^^ q5)))), .val (.int (fn14 n2 n2 (fun i => u2 (((us + (1 : Int32))).toNatClampNeg + i)) (oupd (oupd (oupd (fun _ => (0 : Int64)) 0 q5) 1 q4) 2 (q4 ^^^ q5)))), .unset] [(.long v108s0)]))
          refine Till.pre (fun _ hr => XS.lloadN X183.here hx rfl (hb hby at_231) rfl hr) ?_
          show Till p e below s (Q0 Z q1 q2 q3 q4 q5 p6 h0 n0) room_1.cells room_1.slots (T181.setTop (mkF m 232 #[.val (.long q1), .second, .val (.long q2), .second, .val (.long q3), .second, .val (.long q4), .second, .val (.long q5), .second, .val (.int p6), .val (.ref b3), .val (.ref b32), .val (.int n1), .val (.int n2), .val (.long v75s0), .second, .val (.int (((p6.toUInt32 >>> ((5 : Int32) &&& 31).toUInt32).toInt32) &&& (3 : Int32))), .val (.long v108s0), .second, .val (.ref b66), .val (.ref b163), .val (.ref b170), .val .null, .val (.int (fn14 n2 n2 (fun i => u2 (((us + (1 : Int32))).toNatClampNeg + i)) (oupd (oupd (oupd (fun _ => (0 : Int64)) 0 q5) 1 q4) 2 (q4 ^^^ q5)))), .val (.int (fn14 n2 n2 (fun i => u2 (((us + (1 : Int32))).toNatClampNeg + i)) (oupd (oupd (oupd (fun _ => (0 : Int64)) 0 q5) 1 q4) 2 (q4 ^^^ q5)))), .unset] [(.long q1), (.long v108s0)]))
          refine Till.pre (fun _ hr => XS.lcmp X183.here hx rfl (hb hby at_232) rfl hr) ?_
          show Till p e below s (Q0 Z q1 q2 q3 q4 q5 p6 h0 n0) room_1.cells room_1.slots (T181.setTop (mkF m 233 #[.val (.long q1), .second, .val (.long q2), .second, .val (.long q3), .second, .val (.long q4), .second, .val (.long q5), .second, .val (.int p6), .val (.ref b3), .val (.ref b32), .val (.int n1), .val (.int n2), .val (.long v75s0), .second, .val (.int (((p6.toUInt32 >>> ((5 : Int32) &&& 31).toUInt32).toInt32) &&& (3 : Int32))), .val (.long v108s0), .second, .val (.ref b66), .val (.ref b163), .val (.ref b170), .val .null, .val (.int (fn14 n2 n2 (fun i => u2 (((us + (1 : Int32))).toNatClampNeg + i)) (oupd (oupd (oupd (fun _ => (0 : Int64)) 0 q5) 1 q4) 2 (q4 ^^^ q5)))), .val (.int (fn14 n2 n2 (fun i => u2 (((us + (1 : Int32))).toNatClampNeg + i)) (oupd (oupd (oupd (fun _ => (0 : Int64)) 0 q5) 1 q4) 2 (q4 ^^^ q5)))), .unset] [(.int (lcmpW v108s0 q1))]))
          refine Till.ifc (pc' := 250) X183.here hx (hb hby at_233) (by decide) (by decide) (fun q => ?_) (fun q => absurd (lEq.mp (hEq.2.2.2 q)) (fun q => hB (q.trans hA.symm) : ¬ (v108s0 = q1)))
          show Till p e below s (Q0 Z q1 q2 q3 q4 q5 p6 h0 n0) room_1.cells room_1.slots (T181.setTop (mkF m 250 #[.val (.long q1), .second, .val (.long q2), .second, .val (.long q3), .second, .val (.long q4), .second, .val (.long q5), .second, .val (.int p6), .val (.ref b3), .val (.ref b32), .val (.int n1), .val (.int n2), .val (.long v75s0), .second, .val (.int (((p6.toUInt32 >>> ((5 : Int32) &&& 31).toUInt32).toInt32) &&& (3 : Int32))), .val (.long v108s0), .second, .val (.ref b66), .val (.ref b163), .val (.ref b170), .val .null, .val (.int (fn14 n2 n2 (fun i => u2 (((us + (1 : Int32))).toNatClampNeg + i)) (oupd (oupd (oupd (fun _ => (0 : Int64)) 0 q5) 1 q4) 2 (q4 ^^^ q5)))), .val (.int (fn14 n2 n2 (fun i => u2 (((us + (1 : Int32))).toNatClampNeg + i)) (oupd (oupd (oupd (fun _ => (0 : Int64)) 0 q5) 1 q4) 2 (q4 ^^^ q5)))), .unset] []))
          refine Till.pre (fun _ hr => XS.aload X183.here hx rfl (hb hby at_250) rfl rfl hr) ?_
          show Till p e below s (Q0 Z q1 q2 q3 q4 q5 p6 h0 n0) room_1.cells room_1.slots (T181.setTop (mkF m 252 #[.val (.long q1), .second, .val (.long q2), .second, .val (.long q3), .second, .val (.long q4), .second, .val (.long q5), .second, .val (.int p6), .val (.ref b3), .val (.ref b32), .val (.int n1), .val (.int n2), .val (.long v75s0), .second, .val (.int (((p6.toUInt32 >>> ((5 : Int32) &&& 31).toUInt32).toInt32) &&& (3 : Int32))), .val (.long v108s0), .second, .val (.ref b66), .val (.ref b163), .val (.ref b170), .val .null, .val (.int (fn14 n2 n2 (fun i => u2 (((us + (1 : Int32))).toNatClampNeg + i)) (oupd (oupd (oupd (fun _ => (0 : Int64)) 0 q5) 1 q4) 2 (q4 ^^^ q5)))), .val (.int (fn14 n2 n2 (fun i => u2 (((us + (1 : Int32))).toNatClampNeg + i)) (oupd (oupd (oupd (fun _ => (0 : Int64)) 0 q5) 1 q4) 2 (q4 ^^^ q5)))), .unset] [.null]))
          refine Till.pre (fun _ hr => XS.ifnonnullNo X183.here hx rfl (hb hby at_252) rfl hr) ?_
          show Till p e below s (Q0 Z q1 q2 q3 q4 q5 p6 h0 n0) room_1.cells room_1.slots (T181.setTop (mkF m 255 #[.val (.long q1), .second, .val (.long q2), .second, .val (.long q3), .second, .val (.long q4), .second, .val (.long q5), .second, .val (.int p6), .val (.ref b3), .val (.ref b32), .val (.int n1), .val (.int n2), .val (.long v75s0), .second, .val (.int (((p6.toUInt32 >>> ((5 : Int32) &&& 31).toUInt32).toInt32) &&& (3 : Int32))), .val (.long v108s0), .second, .val (.ref b66), .val (.ref b163), .val (.ref b170), .val .null, .val (.int (fn14 n2 n2 (fun i => u2 (((us + (1 : Int32))).toNatClampNeg + i)) (oupd (oupd (oupd (fun _ => (0 : Int64)) 0 q5) 1 q4) 2 (q4 ^^^ q5)))), .val (.int (fn14 n2 n2 (fun i => u2 (((us + (1 : Int32))).toNatClampNeg + i)) (oupd (oupd (oupd (fun _ => (0 : Int64)) 0 q5) 1 q4) 2 (q4 ^^^ q5)))), .unset] []))
          refine Till.pre (fun _ hr => XS.iconst X183.here hx rfl (hb hby at_255) hr) ?_
          show Till p e below s (Q0 Z q1 q2 q3 q4 q5 p6 h0 n0) room_1.cells room_1.slots (T181.setTop (mkF m 256 #[.val (.long q1), .second, .val (.long q2), .second, .val (.long q3), .second, .val (.long q4), .second, .val (.long q5), .second, .val (.int p6), .val (.ref b3), .val (.ref b32), .val (.int n1), .val (.int n2), .val (.long v75s0), .second, .val (.int (((p6.toUInt32 >>> ((5 : Int32) &&& 31).toUInt32).toInt32) &&& (3 : Int32))), .val (.long v108s0), .second, .val (.ref b66), .val (.ref b163), .val (.ref b170), .val .null, .val (.int (fn14 n2 n2 (fun i => u2 (((us + (1 : Int32))).toNatClampNeg + i)) (oupd (oupd (oupd (fun _ => (0 : Int64)) 0 q5) 1 q4) 2 (q4 ^^^ q5)))), .val (.int (fn14 n2 n2 (fun i => u2 (((us + (1 : Int32))).toNatClampNeg + i)) (oupd (oupd (oupd (fun _ => (0 : Int64)) 0 q5) 1 q4) 2 (q4 ^^^ q5)))), .unset] [(.int (1 : Int32))]))
          refine Till.pre (fun _ hr => XS.goto X183.here hx rfl (pc0 := 256) (pc' := 260) rfl (hb hby at_256) (by decide) (by decide) hr) ?_
          show Till p e below s (Q0 Z q1 q2 q3 q4 q5 p6 h0 n0) room_1.cells room_1.slots (T181.setTop (mkF m 260 #[.val (.long q1), .second, .val (.long q2), .second, .val (.long q3), .second, .val (.long q4), .second, .val (.long q5), .second, .val (.int p6), .val (.ref b3), .val (.ref b32), .val (.int n1), .val (.int n2), .val (.long v75s0), .second, .val (.int (((p6.toUInt32 >>> ((5 : Int32) &&& 31).toUInt32).toInt32) &&& (3 : Int32))), .val (.long v108s0), .second, .val (.ref b66), .val (.ref b163), .val (.ref b170), .val .null, .val (.int (fn14 n2 n2 (fun i => u2 (((us + (1 : Int32))).toNatClampNeg + i)) (oupd (oupd (oupd (fun _ => (0 : Int64)) 0 q5) 1 q4) 2 (q4 ^^^ q5)))), .val (.int (fn14 n2 n2 (fun i => u2 (((us + (1 : Int32))).toNatClampNeg + i)) (oupd (oupd (oupd (fun _ => (0 : Int64)) 0 q5) 1 q4) 2 (q4 ^^^ q5)))), .unset] [(.int (1 : Int32))]))
          refine Till.pre (fun _ hr => XS.istore X183.here hx rfl (hb hby at_260) rfl (l' := #[.val (.long q1), .second, .val (.long q2), .second, .val (.long q3), .second, .val (.long q4), .second, .val (.long q5), .second, .val (.int p6), .val (.ref b3), .val (.ref b32), .val (.int n1), .val (.int n2), .val (.long v75s0), .second, .val (.int (((p6.toUInt32 >>> ((5 : Int32) &&& 31).toUInt32).toInt32) &&& (3 : Int32))), .val (.long v108s0), .second, .val (.ref b66), .val (.ref b163), .val (.ref b170), .val .null, .val (.int (fn14 n2 n2 (fun i => u2 (((us + (1 : Int32))).toNatClampNeg + i)) (oupd (oupd (oupd (fun _ => (0 : Int64)) 0 q5) 1 q4) 2 (q4 ^^^ q5)))), .val (.int (fn14 n2 n2 (fun i => u2 (((us + (1 : Int32))).toNatClampNeg + i)) (oupd (oupd (oupd (fun _ => (0 : Int64)) 0 q5) 1 q4) 2 (q4 ^^^ q5)))), .val (.int (1 : Int32))]) rfl hr) ?_
          show Till p e below s (Q0 Z q1 q2 q3 q4 q5 p6 h0 n0) room_1.cells room_1.slots (T181.setTop (mkF m 262 #[.val (.long q1), .second, .val (.long q2), .second, .val (.long q3), .second, .val (.long q4), .second, .val (.long q5), .second, .val (.int p6), .val (.ref b3), .val (.ref b32), .val (.int n1), .val (.int n2), .val (.long v75s0), .second, .val (.int (((p6.toUInt32 >>> ((5 : Int32) &&& 31).toUInt32).toInt32) &&& (3 : Int32))), .val (.long v108s0), .second, .val (.ref b66), .val (.ref b163), .val (.ref b170), .val .null, .val (.int (fn14 n2 n2 (fun i => u2 (((us + (1 : Int32))).toNatClampNeg + i)) (oupd (oupd (oupd (fun _ => (0 : Int64)) 0 q5) 1 q4) 2 (q4 ^^^ q5)))), .val (.int (fn14 n2 n2 (fun i => u2 (((us + (1 : Int32))).toNatClampNeg + i)) (oupd (oupd (oupd (fun _ => (0 : Int64)) 0 q5) 1 q4) 2 (q4 ^^^ q5)))), .val (.int (1 : Int32))] []))
          refine Till.pre (fun _ hr => XS.iload X183.here hx rfl (hb hby at_262) rfl hr) ?_
          show Till p e below s (Q0 Z q1 q2 q3 q4 q5 p6 h0 n0) room_1.cells room_1.slots (T181.setTop (mkF m 264 #[.val (.long q1), .second, .val (.long q2), .second, .val (.long q3), .second, .val (.long q4), .second, .val (.long q5), .second, .val (.int p6), .val (.ref b3), .val (.ref b32), .val (.int n1), .val (.int n2), .val (.long v75s0), .second, .val (.int (((p6.toUInt32 >>> ((5 : Int32) &&& 31).toUInt32).toInt32) &&& (3 : Int32))), .val (.long v108s0), .second, .val (.ref b66), .val (.ref b163), .val (.ref b170), .val .null, .val (.int (fn14 n2 n2 (fun i => u2 (((us + (1 : Int32))).toNatClampNeg + i)) (oupd (oupd (oupd (fun _ => (0 : Int64)) 0 q5) 1 q4) 2 (q4 ^^^ q5)))), .val (.int (fn14 n2 n2 (fun i => u2 (((us + (1 : Int32))).toNatClampNeg + i)) (oupd (oupd (oupd (fun _ => (0 : Int64)) 0 q5) 1 q4) 2 (q4 ^^^ q5)))), .val (.int (1 : Int32))] [(.int (fn14 n2 n2 (fun i => u2 (((us + (1 : Int32))).toNatClampNeg + i)) (oupd (oupd (oupd (fun _ => (0 : Int64)) 0 q5) 1 q4) 2 (q4 ^^^ q5))))]))
          have J282_187 : ∀ (v282s0x2 : Int32) (hv282s0x2 : v282s0x2 = (if ((fn14 n2 n2 (fun i => u2 (((us + (1 : Int32))).toNatClampNeg + i)) (oupd (oupd (oupd (fun _ => (0 : Int64)) 0 q5) 1 q4) 2 (q4 ^^^ q5))) = (0 : Int32)) then (0 : Int32) else (if ((fn14 n2 n2 (fun i => u2 (((us + (1 : Int32))).toNatClampNeg + i)) (oupd (oupd (oupd (fun _ => (0 : Int64)) 0 q5) 1 q4) 2 (q4 ^^^ q5))) = (0 : Int32)) then (0 : Int32) else (1 : Int32)))), Till p e below s (Q0 Z q1 q2 q3 q4 q5 p6 h0 n0) room_1.cells room_1.slots (T181.setTop (mkF m 282 #[.val (.long q1), .second, .val (.long q2), .second, .val (.long q3), .second, .val (.long q4), .second, .val (.long q5), .second, .val (.int p6), .val (.ref b3), .val (.ref b32), .val (.int n1), .val (.int n2), .val (.long v75s0), .second, .val (.int (((p6.toUInt32 >>> ((5 : Int32) &&& 31).toUInt32).toInt32) &&& (3 : Int32))), .val (.long v108s0), .second, .val (.ref b66), .val (.ref b163), .val (.ref b170), .val .null, .val (.int (fn14 n2 n2 (fun i => u2 (((us + (1 : Int32))).toNatClampNeg + i)) (oupd (oupd (oupd (fun _ => (0 : Int64)) 0 q5) 1 q4) 2 (q4 ^^^ q5)))), .val (.int (fn14 n2 n2 (fun i => u2 (((us + (1 : Int32))).toNatClampNeg + i)) (oupd (oupd (oupd (fun _ => (0 : Int64)) 0 q5) 1 q4) 2 (q4 ^^^ q5)))), .val (.int (1 : Int32))] [(.int v282s0x2)])) := by
            intro v282s0x2 hv282s0x2
            show Till p e below s (Q0 Z q1 q2 q3 q4 q5 p6 h0 n0) room_1.cells room_1.slots (T181.setTop (mkF m 282 #[.val (.long q1), .second, .val (.long q2), .second, .val (.long q3), .second, .val (.long q4), .second, .val (.long q5), .second, .val (.int p6), .val (.ref b3), .val (.ref b32), .val (.int n1), .val (.int n2), .val (.long v75s0), .second, .val (.int (((p6.toUInt32 >>> ((5 : Int32) &&& 31).toUInt32).toInt32) &&& (3 : Int32))), .val (.long v108s0), .second, .val (.ref b66), .val (.ref b163), .val (.ref b170), .val .null, .val (.int (fn14 n2 n2 (fun i => u2 (((us + (1 : Int32))).toNatClampNeg + i)) (oupd (oupd (oupd (fun _ => (0 : Int64)) 0 q5) 1 q4) 2 (q4 ^^^ q5)))), .val (.int (fn14 n2 n2 (fun i => u2 (((us + (1 : Int32))).toNatClampNeg + i)) (oupd (oupd (oupd (fun _ => (0 : Int64)) 0 q5) 1 q4) 2 (q4 ^^^ q5)))), .val (.int (1 : Int32))] [(.int v282s0x2)]))
            refine Till.retZ (w := (1 : Int32)) X183 hx hret hlk (hb hby at_282) (by decide) (by decide) (by rw [hv282s0x2, own_s2 hu_us (own_n4 hu_n1) (own_n4 hu_n2) hu_u2]; decide) ?_
            exact ⟨rfl, N184⟩
          refine Till.ifc (pc' := 281) X183.here hx (hb hby at_264) (by decide) (by decide) (fun q => ?_) (fun q => ?_)
          · have hc186 := (hEq.1 q)
            show Till p e below s (Q0 Z q1 q2 q3 q4 q5 p6 h0 n0) room_1.cells room_1.slots (T181.setTop (mkF m 281 #[.val (.long q1), .second, .val (.long q2), .second, .val (.long q3), .second, .val (.long q4), .second, .val (.long q5), .second, .val (.int p6), .val (.ref b3), .val (.ref b32), .val (.int n1), .val (.int n2), .val (.long v75s0), .second, .val (.int (((p6.toUInt32 >>> ((5 : Int32) &&& 31).toUInt32).toInt32) &&& (3 : Int32))), .val (.long v108s0), .second, .val (.ref b66), .val (.ref b163), .val (.ref b170), .val .null, .val (.int (fn14 n2 n2 (fun i => u2 (((us + (1 : Int32))).toNatClampNeg + i)) (oupd (oupd (oupd (fun _ => (0 : Int64)) 0 q5) 1 q4) 2 (q4 ^^^ q5)))), .val (.int (fn14 n2 n2 (fun i => u2 (((us + (1 : Int32))).toNatClampNeg + i)) (oupd (oupd (oupd (fun _ => (0 : Int64)) 0 q5) 1 q4) 2 (q4 ^^^ q5)))), .val (.int (1 : Int32))] []))
            refine Till.pre (fun _ hr => XS.iconst X183.here hx rfl (hb hby at_281) hr) ?_
            show Till p e below s (Q0 Z q1 q2 q3 q4 q5 p6 h0 n0) room_1.cells room_1.slots (T181.setTop (mkF m 282 #[.val (.long q1), .second, .val (.long q2), .second, .val (.long q3), .second, .val (.long q4), .second, .val (.long q5), .second, .val (.int p6), .val (.ref b3), .val (.ref b32), .val (.int n1), .val (.int n2), .val (.long v75s0), .second, .val (.int (((p6.toUInt32 >>> ((5 : Int32) &&& 31).toUInt32).toInt32) &&& (3 : Int32))), .val (.long v108s0), .second, .val (.ref b66), .val (.ref b163), .val (.ref b170), .val .null, .val (.int (fn14 n2 n2 (fun i => u2 (((us + (1 : Int32))).toNatClampNeg + i)) (oupd (oupd (oupd (fun _ => (0 : Int64)) 0 q5) 1 q4) 2 (q4 ^^^ q5)))), .val (.int (fn14 n2 n2 (fun i => u2 (((us + (1 : Int32))).toNatClampNeg + i)) (oupd (oupd (oupd (fun _ => (0 : Int64)) 0 q5) 1 q4) 2 (q4 ^^^ q5)))), .val (.int (1 : Int32))] [(.int (0 : Int32))]))
            exact J282_187 _ (Eq.symm (if_pos hc186))
          · have hc186 := (hEq.2.1 q)
            show Till p e below s (Q0 Z q1 q2 q3 q4 q5 p6 h0 n0) room_1.cells room_1.slots (T181.setTop (mkF m 267 #[.val (.long q1), .second, .val (.long q2), .second, .val (.long q3), .second, .val (.long q4), .second, .val (.long q5), .second, .val (.int p6), .val (.ref b3), .val (.ref b32), .val (.int n1), .val (.int n2), .val (.long v75s0), .second, .val (.int (((p6.toUInt32 >>> ((5 : Int32) &&& 31).toUInt32).toInt32) &&& (3 : Int32))), .val (.long v108s0), .second, .val (.ref b66), .val (.ref b163), .val (.ref b170), .val .null, .val (.int (fn14 n2 n2 (fun i => u2 (((us + (1 : Int32))).toNatClampNeg + i)) (oupd (oupd (oupd (fun _ => (0 : Int64)) 0 q5) 1 q4) 2 (q4 ^^^ q5)))), .val (.int (fn14 n2 n2 (fun i => u2 (((us + (1 : Int32))).toNatClampNeg + i)) (oupd (oupd (oupd (fun _ => (0 : Int64)) 0 q5) 1 q4) 2 (q4 ^^^ q5)))), .val (.int (1 : Int32))] []))
            refine Till.pre (fun _ hr => XS.iload X183.here hx rfl (hb hby at_267) rfl hr) ?_
            show Till p e below s (Q0 Z q1 q2 q3 q4 q5 p6 h0 n0) room_1.cells room_1.slots (T181.setTop (mkF m 269 #[.val (.long q1), .second, .val (.long q2), .second, .val (.long q3), .second, .val (.long q4), .second, .val (.long q5), .second, .val (.int p6), .val (.ref b3), .val (.ref b32), .val (.int n1), .val (.int n2), .val (.long v75s0), .second, .val (.int (((p6.toUInt32 >>> ((5 : Int32) &&& 31).toUInt32).toInt32) &&& (3 : Int32))), .val (.long v108s0), .second, .val (.ref b66), .val (.ref b163), .val (.ref b170), .val .null, .val (.int (fn14 n2 n2 (fun i => u2 (((us + (1 : Int32))).toNatClampNeg + i)) (oupd (oupd (oupd (fun _ => (0 : Int64)) 0 q5) 1 q4) 2 (q4 ^^^ q5)))), .val (.int (fn14 n2 n2 (fun i => u2 (((us + (1 : Int32))).toNatClampNeg + i)) (oupd (oupd (oupd (fun _ => (0 : Int64)) 0 q5) 1 q4) 2 (q4 ^^^ q5)))), .val (.int (1 : Int32))] [(.int (fn14 n2 n2 (fun i => u2 (((us + (1 : Int32))).toNatClampNeg + i)) (oupd (oupd (oupd (fun _ => (0 : Int64)) 0 q5) 1 q4) 2 (q4 ^^^ q5))))]))
            refine Till.ifc (pc' := 281) X183.here hx (hb hby at_269) (by decide) (by decide) (fun q => ?_) (fun q => ?_)
            · have hc187 := (hEq.1 q)
              show Till p e below s (Q0 Z q1 q2 q3 q4 q5 p6 h0 n0) room_1.cells room_1.slots (T181.setTop (mkF m 281 #[.val (.long q1), .second, .val (.long q2), .second, .val (.long q3), .second, .val (.long q4), .second, .val (.long q5), .second, .val (.int p6), .val (.ref b3), .val (.ref b32), .val (.int n1), .val (.int n2), .val (.long v75s0), .second, .val (.int (((p6.toUInt32 >>> ((5 : Int32) &&& 31).toUInt32).toInt32) &&& (3 : Int32))), .val (.long v108s0), .second, .val (.ref b66), .val (.ref b163), .val (.ref b170), .val .null, .val (.int (fn14 n2 n2 (fun i => u2 (((us + (1 : Int32))).toNatClampNeg + i)) (oupd (oupd (oupd (fun _ => (0 : Int64)) 0 q5) 1 q4) 2 (q4 ^^^ q5)))), .val (.int (fn14 n2 n2 (fun i => u2 (((us + (1 : Int32))).toNatClampNeg + i)) (oupd (oupd (oupd (fun _ => (0 : Int64)) 0 q5) 1 q4) 2 (q4 ^^^ q5)))), .val (.int (1 : Int32))] []))
              refine Till.pre (fun _ hr => XS.iconst X183.here hx rfl (hb hby at_281) hr) ?_
              show Till p e below s (Q0 Z q1 q2 q3 q4 q5 p6 h0 n0) room_1.cells room_1.slots (T181.setTop (mkF m 282 #[.val (.long q1), .second, .val (.long q2), .second, .val (.long q3), .second, .val (.long q4), .second, .val (.long q5), .second, .val (.int p6), .val (.ref b3), .val (.ref b32), .val (.int n1), .val (.int n2), .val (.long v75s0), .second, .val (.int (((p6.toUInt32 >>> ((5 : Int32) &&& 31).toUInt32).toInt32) &&& (3 : Int32))), .val (.long v108s0), .second, .val (.ref b66), .val (.ref b163), .val (.ref b170), .val .null, .val (.int (fn14 n2 n2 (fun i => u2 (((us + (1 : Int32))).toNatClampNeg + i)) (oupd (oupd (oupd (fun _ => (0 : Int64)) 0 q5) 1 q4) 2 (q4 ^^^ q5)))), .val (.int (fn14 n2 n2 (fun i => u2 (((us + (1 : Int32))).toNatClampNeg + i)) (oupd (oupd (oupd (fun _ => (0 : Int64)) 0 q5) 1 q4) 2 (q4 ^^^ q5)))), .val (.int (1 : Int32))] [(.int (0 : Int32))]))
              exact J282_187 _ (Eq.symm ((if_neg hc186).trans (if_pos hc187)))
            · have hc187 := (hEq.2.1 q)
              show Till p e below s (Q0 Z q1 q2 q3 q4 q5 p6 h0 n0) room_1.cells room_1.slots (T181.setTop (mkF m 272 #[.val (.long q1), .second, .val (.long q2), .second, .val (.long q3), .second, .val (.long q4), .second, .val (.long q5), .second, .val (.int p6), .val (.ref b3), .val (.ref b32), .val (.int n1), .val (.int n2), .val (.long v75s0), .second, .val (.int (((p6.toUInt32 >>> ((5 : Int32) &&& 31).toUInt32).toInt32) &&& (3 : Int32))), .val (.long v108s0), .second, .val (.ref b66), .val (.ref b163), .val (.ref b170), .val .null, .val (.int (fn14 n2 n2 (fun i => u2 (((us + (1 : Int32))).toNatClampNeg + i)) (oupd (oupd (oupd (fun _ => (0 : Int64)) 0 q5) 1 q4) 2 (q4 ^^^ q5)))), .val (.int (fn14 n2 n2 (fun i => u2 (((us + (1 : Int32))).toNatClampNeg + i)) (oupd (oupd (oupd (fun _ => (0 : Int64)) 0 q5) 1 q4) 2 (q4 ^^^ q5)))), .val (.int (1 : Int32))] []))
              refine Till.pre (fun _ hr => XS.iload X183.here hx rfl (hb hby at_272) rfl hr) ?_
              show Till p e below s (Q0 Z q1 q2 q3 q4 q5 p6 h0 n0) room_1.cells room_1.slots (T181.setTop (mkF m 274 #[.val (.long q1), .second, .val (.long q2), .second, .val (.long q3), .second, .val (.long q4), .second, .val (.long q5), .second, .val (.int p6), .val (.ref b3), .val (.ref b32), .val (.int n1), .val (.int n2), .val (.long v75s0), .second, .val (.int (((p6.toUInt32 >>> ((5 : Int32) &&& 31).toUInt32).toInt32) &&& (3 : Int32))), .val (.long v108s0), .second, .val (.ref b66), .val (.ref b163), .val (.ref b170), .val .null, .val (.int (fn14 n2 n2 (fun i => u2 (((us + (1 : Int32))).toNatClampNeg + i)) (oupd (oupd (oupd (fun _ => (0 : Int64)) 0 q5) 1 q4) 2 (q4 ^^^ q5)))), .val (.int (fn14 n2 n2 (fun i => u2 (((us + (1 : Int32))).toNatClampNeg + i)) (oupd (oupd (oupd (fun _ => (0 : Int64)) 0 q5) 1 q4) 2 (q4 ^^^ q5)))), .val (.int (1 : Int32))] [(.int (1 : Int32))]))
              refine Till.ifc (pc' := 281) X183.here hx (hb hby at_274) (by decide) (by decide) (fun q => absurd (hEq.1 q) (by decide : ¬ ((1 : Int32) = (0 : Int32)))) (fun q => ?_)
              show Till p e below s (Q0 Z q1 q2 q3 q4 q5 p6 h0 n0) room_1.cells room_1.slots (T181.setTop (mkF m 277 #[.val (.long q1), .second, .val (.long q2), .second, .val (.long q3), .second, .val (.long q4), .second, .val (.long q5), .second, .val (.int p6), .val (.ref b3), .val (.ref b32), .val (.int n1), .val (.int n2), .val (.long v75s0), .second, .val (.int (((p6.toUInt32 >>> ((5 : Int32) &&& 31).toUInt32).toInt32) &&& (3 : Int32))), .val (.long v108s0), .second, .val (.ref b66), .val (.ref b163), .val (.ref b170), .val .null, .val (.int (fn14 n2 n2 (fun i => u2 (((us + (1 : Int32))).toNatClampNeg + i)) (oupd (oupd (oupd (fun _ => (0 : Int64)) 0 q5) 1 q4) 2 (q4 ^^^ q5)))), .val (.int (fn14 n2 n2 (fun i => u2 (((us + (1 : Int32))).toNatClampNeg + i)) (oupd (oupd (oupd (fun _ => (0 : Int64)) 0 q5) 1 q4) 2 (q4 ^^^ q5)))), .val (.int (1 : Int32))] []))
              refine Till.pre (fun _ hr => XS.iconst X183.here hx rfl (hb hby at_277) hr) ?_
              show Till p e below s (Q0 Z q1 q2 q3 q4 q5 p6 h0 n0) room_1.cells room_1.slots (T181.setTop (mkF m 278 #[.val (.long q1), .second, .val (.long q2), .second, .val (.long q3), .second, .val (.long q4), .second, .val (.long q5), .second, .val (.int p6), .val (.ref b3), .val (.ref b32), .val (.int n1), .val (.int n2), .val (.long v75s0), .second, .val (.int (((p6.toUInt32 >>> ((5 : Int32) &&& 31).toUInt32).toInt32) &&& (3 : Int32))), .val (.long v108s0), .second, .val (.ref b66), .val (.ref b163), .val (.ref b170), .val .null, .val (.int (fn14 n2 n2 (fun i => u2 (((us + (1 : Int32))).toNatClampNeg + i)) (oupd (oupd (oupd (fun _ => (0 : Int64)) 0 q5) 1 q4) 2 (q4 ^^^ q5)))), .val (.int (fn14 n2 n2 (fun i => u2 (((us + (1 : Int32))).toNatClampNeg + i)) (oupd (oupd (oupd (fun _ => (0 : Int64)) 0 q5) 1 q4) 2 (q4 ^^^ q5)))), .val (.int (1 : Int32))] [(.int (1 : Int32))]))
              refine Till.pre (fun _ hr => XS.goto X183.here hx rfl (pc0 := 278) (pc' := 282) rfl (hb hby at_278) (by decide) (by decide) hr) ?_
              show Till p e below s (Q0 Z q1 q2 q3 q4 q5 p6 h0 n0) room_1.cells room_1.slots (T181.setTop (mkF m 282 #[.val (.long q1), .second, .val (.long q2), .second, .val (.long q3), .second, .val (.long q4), .second, .val (.long q5), .second, .val (.int p6), .val (.ref b3), .val (.ref b32), .val (.int n1), .val (.int n2), .val (.long v75s0), .second, .val (.int (((p6.toUInt32 >>> ((5 : Int32) &&& 31).toUInt32).toInt32) &&& (3 : Int32))), .val (.long v108s0), .second, .val (.ref b66), .val (.ref b163), .val (.ref b170), .val .null, .val (.int (fn14 n2 n2 (fun i => u2 (((us + (1 : Int32))).toNatClampNeg + i)) (oupd (oupd (oupd (fun _ => (0 : Int64)) 0 q5) 1 q4) 2 (q4 ^^^ q5)))), .val (.int (fn14 n2 n2 (fun i => u2 (((us + (1 : Int32))).toNatClampNeg + i)) (oupd (oupd (oupd (fun _ => (0 : Int64)) 0 q5) 1 q4) 2 (q4 ^^^ q5)))), .val (.int (1 : Int32))] [(.int (1 : Int32))]))
              exact J282_187 _ (Eq.symm ((if_neg hc186).trans (if_neg hc187)))
      · by_cases hB : v108s0 = v75s0
        · skip
          show Till p e below s (Q0 Z q1 q2 q3 q4 q5 p6 h0 n0) room_1.cells room_1.slots (T102.setTop (mkF m 140 #[.val (.long q1), .second, .val (.long q2), .second, .val (.long q3), .second, .val (.long q4), .second, .val (.long q5), .second, .val (.int p6), .val (.ref b3), .val (.ref b32), .val (.int n1), .val (.int n2), .val (.long v75s0), .second, .val (.int (((p6.toUInt32 >>> ((5 : Int32) &&& 31).toUInt32).toInt32) &&& (3 : Int32))), .val (.long v108s0), .second, .val (.ref b66), .unset, .unset, .unset, .unset, .unset, .unset] []))
          refine Till.pre (fun _ hr => XS.aload X104.here hx rfl (hb hby at_140) rfl rfl hr) ?_
          show Till p e below s (Q0 Z q1 q2 q3 q4 q5 p6 h0 n0) room_1.cells room_1.slots (T102.setTop (mkF m 142 #[.val (.long q1), .second, .val (.long q2), .second, .val (.long q3), .second, .val (.long q4), .second, .val (.long q5), .second, .val (.int p6), .val (.ref b3), .val (.ref b32), .val (.int n1), .val (.int n2), .val (.long v75s0), .second, .val (.int (((p6.toUInt32 >>> ((5 : Int32) &&& 31).toUInt32).toInt32) &&& (3 : Int32))), .val (.long v108s0), .second, .val (.ref b66), .unset, .unset, .unset, .unset, .unset, .unset] [(.ref b66)]))
          refine Till.pre (fun _ hr => XS.lloadN X104.here hx rfl (hb hby at_142) rfl hr) ?_
          show Till p e below s (Q0 Z q1 q2 q3 q4 q5 p6 h0 n0) room_1.cells room_1.slots (T102.setTop (mkF m 143 #[.val (.long q1), .second, .val (.long q2), .second, .val (.long q3), .second, .val (.long q4), .second, .val (.long q5), .second, .val (.int p6), .val (.ref b3), .val (.ref b32), .val (.int n1), .val (.int n2), .val (.long v75s0), .second, .val (.int (((p6.toUInt32 >>> ((5 : Int32) &&& 31).toUInt32).toInt32) &&& (3 : Int32))), .val (.long v108s0), .second, .val (.ref b66), .unset, .unset, .unset, .unset, .unset, .unset] [(.long q1), (.ref b66)]))
          refine Till.callV (rm8_s l Z a0 hw b66 q1 b83 b85 b86 b84 (us + ((1 : Int32) + n2)) w108 f106 g107 u2 2 (own_um (own_um (fun _ => own_ABS) q1 (0 : Int32).toInt64) v75s0 us.toInt64) (0 : Int32) n1 T102.heap n0 Zs R_b66 R_b83 R_b85 R_b86 R_b84 ne_b66_b83 ne_b66_b85 ne_b66_b86 ne_b66_b84 ne_b83_b85 ne_b83_b86 ne_b83_b84 ne_b85_b86 (Ne.symm ne_b84_b85) (Ne.symm ne_b84_b86) (tb109) (by decide) (own_mB hA) (by decide) (own_c1 hu_us (own_n4 hu_n1) hu_u1 hu_u2) (own_n4 hu_n1)) R_b66.1 X104 hx hZ hown (hw _ (List.mem_of_getElem? (i := 60) rfl)) (hw _ (List.mem_of_getElem? (i := 61) rfl)) (hw _ (List.mem_of_getElem? (i := 63) rfl)) (hw _ (List.mem_of_getElem? (i := 62) rfl)) (hw _ (List.mem_of_getElem? (i := 4) rfl)) (hw _ (List.mem_of_getElem? (i := 64) rfl)) (by decide) (by decide) (W := 0) (by decide) (by rw [hml]; rfl) (a := b66) (argsL := [(.long q1)]) (rest := []) (lenOf pd0_6 rfl) rfl rfl (Nat.le_of_eq rfl) (hb hby at_143) rfl (by decide) (by decide) ?_
          rintro _ T189 L190 X191 ⟨b195, rfl, N192, K193, szq_b195, q194⟩
          have N192 := Fr.app N105 N192
          have ne_b3_b195 : b3 ≠ b195 := Nat.ne_of_lt (Nat.lt_of_lt_of_le R_b3.lt szq_b195)
          have ne_b32_b195 : b32 ≠ b195 := Nat.ne_of_lt (Nat.lt_of_lt_of_le R_b32.lt szq_b195)
          have ne_b66_b195 : b66 ≠ b195 := Nat.ne_of_lt (Nat.lt_of_lt_of_le R_b66.lt szq_b195)
          have ne_b83_b195 : b83 ≠ b195 := Nat.ne_of_lt (Nat.lt_of_lt_of_le R_b83.lt szq_b195)
          have ne_b84_b195 : b84 ≠ b195 := Nat.ne_of_lt (Nat.lt_of_lt_of_le R_b84.lt szq_b195)
          have ne_b85_b195 : b85 ≠ b195 := Nat.ne_of_lt (Nat.lt_of_lt_of_le R_b85.lt szq_b195)
          have ne_b86_b195 : b86 ≠ b195 := Nat.ne_of_lt (Nat.lt_of_lt_of_le R_b86.lt szq_b195)
          have g_b195 : n0 ≤ b195 := Nat.le_trans Zs szq_b195
          have R_b3 := R_b3.keep K193 nin0
          have R_b32 := R_b32.keep K193 nin0
          have R_b66 := R_b66.keep K193 nin0
          have R_b83 := R_b83.keep K193 nin0
          have R_b84 := R_b84.keep K193 nin0
          have R_b85 := R_b85.keep K193 nin0
          have R_b86 := R_b86.keep K193 nin0
          have Zs := Nat.le_trans Zs K193.1
          have R_b195 : LA Z T189.heap b195 n1 (fun i => u2 (((1 : Int32)).toNatClampNeg + i)) := q194
          show Till p e below s (Q0 Z q1 q2 q3 q4 q5 p6 h0 n0) room_1.cells room_1.slots (T189.setTop (mkF m 146 #[.val (.long q1), .second, .val (.long q2), .second, .val (.long q3), .second, .val (.long q4), .second, .val (.long q5), .second, .val (.int p6), .val (.ref b3), .val (.ref b32), .val (.int n1), .val (.int n2), .val (.long v75s0), .second, .val (.int (((p6.toUInt32 >>> ((5 : Int32) &&& 31).toUInt32).toInt32) &&& (3 : Int32))), .val (.long v108s0), .second, .val (.ref b66), .unset, .unset, .unset, .unset, .unset, .unset] [(.ref b195)]))
          refine Till.pre (fun _ hr => XS.astore X191.here hx rfl (hb hby at_146) rfl rfl (l' := #[.val (.long q1), .second, .val (.long q2), .second, .val (.long q3), .second, .val (.long q4), .second, .val (.long q5), .second, .val (.int p6), .val (.ref b3), .val (.ref b32), .val (.int n1), .val (.int n2), .val (.long v75s0), .second, .val (.int (((p6.toUInt32 >>> ((5 : Int32) &&& 31).toUInt32).toInt32) &&& (3 : Int32))), .val (.long v108s0), .second, .val (.ref b66), .val (.ref b195), .unset, .unset, .unset, .unset, .unset]) rfl hr) ?_
          show Till p e below s (Q0 Z q1 q2 q3 q4 q5 p6 h0 n0) room_1.cells room_1.slots (T189.setTop (mkF m 148 #[.val (.long q1), .second, .val (.long q2), .second, .val (.long q3), .second, .val (.long q4), .second, .val (.long q5), .second, .val (.int p6), .val (.ref b3), .val (.ref b32), .val (.int n1), .val (.int n2), .val (.long v75s0), .second, .val (.int (((p6.toUInt32 >>> ((5 : Int32) &&& 31).toUInt32).toInt32) &&& (3 : Int32))), .val (.long v108s0), .second, .val (.ref b66), .val (.ref b195), .unset, .unset, .unset, .unset, .unset] []))
          refine Till.pre (fun _ hr => XS.aload X191.here hx rfl (hb hby at_148) rfl rfl hr) ?_
          show Till p e below s (Q0 Z q1 q2 q3 q4 q5 p6 h0 n0) room_1.cells room_1.slots (T189.setTop (mkF m 150 #[.val (.long q1), .second, .val (.long q2), .second, .val (.long q3), .second, .val (.long q4), .second, .val (.long q5), .second, .val (.int p6), .val (.ref b3), .val (.ref b32), .val (.int n1), .val (.int n2), .val (.long v75s0), .second, .val (.int (((p6.toUInt32 >>> ((5 : Int32) &&& 31).toUInt32).toInt32) &&& (3 : Int32))), .val (.long v108s0), .second, .val (.ref b66), .val (.ref b195), .unset, .unset, .unset, .unset, .unset] [(.ref b66)]))
          refine Till.pre (fun _ hr => XS.lload X191.here hx rfl (hb hby at_150) rfl hr) ?_
          show Till p e below s (Q0 Z q1 q2 q3 q4 q5 p6 h0 n0) room_1.cells room_1.slots (T189.setTop (mkF m 152 #[.val (.long q1), .second, .val (.long q2), .second, .val (.long q3), .second, .val (.long q4), .second, .val (.long q5), .second, .val (.int p6), .val (.ref b3), .val (.ref b32), .val (.int n1), .val (.int n2), .val (.long v75s0), .second, .val (.int (((p6.toUInt32 >>> ((5 : Int32) &&& 31).toUInt32).toInt32) &&& (3 : Int32))), .val (.long v108s0), .second, .val (.ref b66), .val (.ref b195), .unset, .unset, .unset, .unset, .unset] [(.long v75s0), (.ref b66)]))
          refine Till.callV (rm8_s l Z a0 hw b66 v75s0 b83 b85 b86 b84 (us + ((1 : Int32) + n2)) w108 f106 g107 u2 2 (own_um (own_um (fun _ => own_ABS) q1 (0 : Int32).toInt64) v75s0 us.toInt64) us n2 T189.heap n0 Zs R_b66 R_b83 R_b85 R_b86 R_b84 ne_b66_b83 ne_b66_b85 ne_b66_b86 ne_b66_b84 ne_b83_b85 ne_b83_b86 ne_b83_b84 ne_b85_b86 (Ne.symm ne_b84_b85) (Ne.symm ne_b84_b86) (tb109) (by decide) (own_m2) (own_us hu_us (own_n4 hu_n1)) (own_c2 hu_us (own_n4 hu_n1) hu_u2) (own_n4 hu_n2)) R_b66.1 X191 hx hZ hown (hw _ (List.mem_of_getElem? (i := 60) rfl)) (hw _ (List.mem_of_getElem? (i := 61) rfl)) (hw _ (List.mem_of_getElem? (i := 63) rfl)) (hw _ (List.mem_of_getElem? (i := 62) rfl)) (hw _ (List.mem_of_getElem? (i := 4) rfl)) (hw _ (List.mem_of_getElem? (i := 64) rfl)) (by decide) (by decide) (W := 0) (by decide) (by rw [hml]; rfl) (a := b66) (argsL := [(.long v75s0)]) (rest := []) (lenOf pd0_6 rfl) rfl rfl (Nat.le_of_eq rfl) (hb hby at_152) rfl (by decide) (by decide) ?_
          rintro _ T196 L197 X198 ⟨b202, rfl, N199, K200, szq_b202, q201⟩
          have N199 := Fr.app N192 N199
          have ne_b3_b202 : b3 ≠ b202 := Nat.ne_of_lt (Nat.lt_of_lt_of_le R_b3.lt szq_b202)
          have ne_b32_b202 : b32 ≠ b202 := Nat.ne_of_lt (Nat.lt_of_lt_of_le R_b32.lt szq_b202)
          have ne_b66_b202 : b66 ≠ b202 := Nat.ne_of_lt (Nat.lt_of_lt_of_le R_b66.lt szq_b202)
          have ne_b83_b202 : b83 ≠ b202 := Nat.ne_of_lt (Nat.lt_of_lt_of_le R_b83.lt szq_b202)
          have ne_b84_b202 : b84 ≠ b202 := Nat.ne_of_lt (Nat.lt_of_lt_of_le R_b84.lt szq_b202)
          have ne_b85_b202 : b85 ≠ b202 := Nat.ne_of_lt (Nat.lt_of_lt_of_le R_b85.lt szq_b202)
          have ne_b86_b202 : b86 ≠ b202 := Nat.ne_of_lt (Nat.lt_of_lt_of_le R_b86.lt szq_b202)
          have ne_b195_b202 : b195 ≠ b202 := Nat.ne_of_lt (Nat.lt_of_lt_of_le R_b195.lt szq_b202)
          have g_b202 : n0 ≤ b202 := Nat.le_trans Zs szq_b202
          have R_b3 := R_b3.keep K200 nin0
          have R_b32 := R_b32.keep K200 nin0
          have R_b66 := R_b66.keep K200 nin0
          have R_b83 := R_b83.keep K200 nin0
          have R_b84 := R_b84.keep K200 nin0
          have R_b85 := R_b85.keep K200 nin0
          have R_b86 := R_b86.keep K200 nin0
          have R_b195 := R_b195.keep K200 nin0
          have Zs := Nat.le_trans Zs K200.1
          have R_b202 : LA Z T196.heap b202 n2 (fun i => u2 (((us + (1 : Int32))).toNatClampNeg + i)) := q201
          show Till p e below s (Q0 Z q1 q2 q3 q4 q5 p6 h0 n0) room_1.cells room_1.slots (T196.setTop (mkF m 155 #[.val (.long q1), .second, .val (.long q2), .second, .val (.long q3), .second, .val (.long q4), .second, .val (.long q5), .second, .val (.int p6), .val (.ref b3), .val (.ref b32), .val (.int n1), .val (.int n2), .val (.long v75s0), .second, .val (.int (((p6.toUInt32 >>> ((5 : Int32) &&& 31).toUInt32).toInt32) &&& (3 : Int32))), .val (.long v108s0), .second, .val (.ref b66), .val (.ref b195), .unset, .unset, .unset, .unset, .unset] [(.ref b202)]))
          refine Till.pre (fun _ hr => XS.astore X198.here hx rfl (hb hby at_155) rfl rfl (l' := #[.val (.long q1), .second, .val (.long q2), .second, .val (.long q3), .second, .val (.long q4), .second, .val (.long q5), .second, .val (.int p6), .val (.ref b3), .val (.ref b32), .val (.int n1), .val (.int n2), .val (.long v75s0), .second, .val (.int (((p6.toUInt32 >>> ((5 : Int32) &&& 31).toUInt32).toInt32) &&& (3 : Int32))), .val (.long v108s0), .second, .val (.ref b66), .val (.ref b195), .val (.ref b202), .unset, .unset, .unset, .unset]) rfl hr) ?_
          show Till p e below s (Q0 Z q1 q2 q3 q4 q5 p6 h0 n0) room_1.cells room_1.slots (T196.setTop (mkF m 157 #[.val (.long q1), .second, .val (.long q2), .second, .val (.long q3), .second, .val (.long q4), .second, .val (.long q5), .second, .val (.int p6), .val (.ref b3), .val (.ref b32), .val (.int n1), .val (.int n2), .val (.long v75s0), .second, .val (.int (((p6.toUInt32 >>> ((5 : Int32) &&& 31).toUInt32).toInt32) &&& (3 : Int32))), .val (.long v108s0), .second, .val (.ref b66), .val (.ref b195), .val (.ref b202), .unset, .unset, .unset, .unset] []))
          refine Till.pre (fun _ hr => XS.aload X198.here hx rfl (hb hby at_157) rfl rfl hr) ?_
          show Till p e below s (Q0 Z q1 q2 q3 q4 q5 p6 h0 n0) room_1.cells room_1.slots (T196.setTop (mkF m 159 #[.val (.long q1), .second, .val (.long q2), .second, .val (.long q3), .second, .val (.long q4), .second, .val (.long q5), .second, .val (.int p6), .val (.ref b3), .val (.ref b32), .val (.int n1), .val (.int n2), .val (.long v75s0), .second, .val (.int (((p6.toUInt32 >>> ((5 : Int32) &&& 31).toUInt32).toInt32) &&& (3 : Int32))), .val (.long v108s0), .second, .val (.ref b66), .val (.ref b195), .val (.ref b202), .unset, .unset, .unset, .unset] [(.ref b66)]))
          refine Till.pre (fun _ hr => XS.lload X198.here hx rfl (hb hby at_159) rfl hr) ?_
          show Till p e below s (Q0 Z q1 q2 q3 q4 q5 p6 h0 n0) room_1.cells room_1.slots (T196.setTop (mkF m 161 #[.val (.long q1), .second, .val (.long q2), .second, .val (.long q3), .second, .val (.long q4), .second, .val (.long q5), .second, .val (.int p6), .val (.ref b3), .val (.ref b32), .val (.int n1), .val (.int n2), .val (.long v75s0), .second, .val (.int (((p6.toUInt32 >>> ((5 : Int32) &&& 31).toUInt32).toInt32) &&& (3 : Int32))), .val (.long v108s0), .second, .val (.ref b66), .val (.ref b195), .val (.ref b202), .unset, .unset, .unset, .unset] [(.long v108s0), (.ref b66)]))
          refine Till.callV (rm8_s l Z a0 hw b66 v108s0 b83 b85 b86 b84 (us + ((1 : Int32) + n2)) w108 f106 g107 u2 2 (own_um (own_um (fun _ => own_ABS) q1 (0 : Int32).toInt64) v75s0 us.toInt64) us n2 T196.heap n0 Zs R_b66 R_b83 R_b85 R_b86 R_b84 ne_b66_b83 ne_b66_b85 ne_b66_b86 ne_b66_b84 ne_b83_b85 ne_b83_b86 ne_b83_b84 ne_b85_b86 (Ne.symm ne_b84_b85) (Ne.symm ne_b84_b86) (tb109) (by decide) (own_m3B hB) (own_us hu_us (own_n4 hu_n1)) (own_c2 hu_us (own_n4 hu_n1) hu_u2) (own_n4 hu_n2)) R_b66.1 X198 hx hZ hown (hw _ (List.mem_of_getElem? (i := 60) rfl)) (hw _ (List.mem_of_getElem? (i := 61) rfl)) (hw _ (List.mem_of_getElem? (i := 63) rfl)) (hw _ (List.mem_of_getElem? (i := 62) rfl)) (hw _ (List.mem_of_getElem? (i := 4) rfl)) (hw _ (List.mem_of_getElem? (i := 64) rfl)) (by decide) (by decide) (W := 0) (by decide) (by rw [hml]; rfl) (a := b66) (argsL := [(.long v108s0)]) (rest := []) (lenOf pd0_6 rfl) rfl rfl (Nat.le_of_eq rfl) (hb hby at_161) rfl (by decide) (by decide) ?_
          rintro _ T203 L204 X205 ⟨b209, rfl, N206, K207, szq_b209, q208⟩
          have N206 := Fr.app N199 N206
          have ne_b3_b209 : b3 ≠ b209 := Nat.ne_of_lt (Nat.lt_of_lt_of_le R_b3.lt szq_b209)
          have ne_b32_b209 : b32 ≠ b209 := Nat.ne_of_lt (Nat.lt_of_lt_of_le R_b32.lt szq_b209)
          have ne_b66_b209 : b66 ≠ b209 := Nat.ne_of_lt (Nat.lt_of_lt_of_le R_b66.lt szq_b209)
          have ne_b83_b209 : b83 ≠ b209 := Nat.ne_of_lt (Nat.lt_of_lt_of_le R_b83.lt szq_b209)
          have ne_b84_b209 : b84 ≠ b209 := Nat.ne_of_lt (Nat.lt_of_lt_of_le R_b84.lt szq_b209)
          have ne_b85_b209 : b85 ≠ b209 := Nat.ne_of_lt (Nat.lt_of_lt_of_le R_b85.lt szq_b209)
          have ne_b86_b209 : b86 ≠ b209 := Nat.ne_of_lt (Nat.lt_of_lt_of_le R_b86.lt szq_b209)
          have ne_b195_b209 : b195 ≠ b209 := Nat.ne_of_lt (Nat.lt_of_lt_of_le R_b195.lt szq_b209)
          have ne_b202_b209 : b202 ≠ b209 := Nat.ne_of_lt (Nat.lt_of_lt_of_le R_b202.lt szq_b209)
          have g_b209 : n0 ≤ b209 := Nat.le_trans Zs szq_b209
          have R_b3 := R_b3.keep K207 nin0
          have R_b32 := R_b32.keep K207 nin0
          have R_b66 := R_b66.keep K207 nin0
          have R_b83 := R_b83.keep K207 nin0
          have R_b84 := R_b84.keep K207 nin0
          have R_b85 := R_b85.keep K207 nin0
          have R_b86 := R_b86.keep K207 nin0
          have R_b195 := R_b195.keep K207 nin0
          have R_b202 := R_b202.keep K207 nin0
          have Zs := Nat.le_trans Zs K207.1
          have R_b209 : LA Z T203.heap b209 n2 (fun i => u2 (((us + (1 : Int32))).toNatClampNeg + i)) := q208
          show Till p e below s (Q0 Z q1 q2 q3 q4 q5 p6 h0 n0) room_1.cells room_1.slots (T203.setTop (mkF m 164 #[.val (.long q1), .second, .val (.long q2), .second, .val (.long q3), .second, .val (.long q4), .second, .val (.long q5), .second, .val (.int p6), .val (.ref b3), .val (.ref b32), .val (.int n1), .val (.int n2), .val (.long v75s0), .second, .val (.int (((p6.toUInt32 >>> ((5 : Int32) &&& 31).toUInt32).toInt32) &&& (3 : Int32))), .val (.long v108s0), .second, .val (.ref b66), .val (.ref b195), .val (.ref b202), .unset, .unset, .unset, .unset] [(.ref b209)]))
          refine Till.pre (fun _ hr => XS.astore X205.here hx rfl (hb hby at_164) rfl rfl (l' := #[.val (.long q1), .second, .val (.long q2), .second, .val (.long q3), .second, .val (.long q4), .second, .val (.long q5), .second, .val (.int p6), .val (.ref b3), .val (.ref b32), .val (.int n1), .val (.int n2), .val (.long v75s0), .second, .val (.int (((p6.toUInt32 >>> ((5 : Int32) &&& 31).toUInt32).toInt32) &&& (3 : Int32))), .val (.long v108s0), .second, .val (.ref b66), .val (.ref b195), .val (.ref b202), .val (.ref b209), .unset, .unset, .unset]) rfl hr) ?_
          show Till p e below s (Q0 Z q1 q2 q3 q4 q5 p6 h0 n0) room_1.cells room_1.slots (T203.setTop (mkF m 166 #[.val (.long q1), .second, .val (.long q2), .second, .val (.long q3), .second, .val (.long q4), .second, .val (.long q5), .second, .val (.int p6), .val (.ref b3), .val (.ref b32), .val (.int n1), .val (.int n2), .val (.long v75s0), .second, .val (.int (((p6.toUInt32 >>> ((5 : Int32) &&& 31).toUInt32).toInt32) &&& (3 : Int32))), .val (.long v108s0), .second, .val (.ref b66), .val (.ref b195), .val (.ref b202), .val (.ref b209), .unset, .unset, .unset] []))
          refine Till.pre (fun _ hr => XS.lload X205.here hx rfl (hb hby at_166) rfl hr) ?_
          show Till p e below s (Q0 Z q1 q2 q3 q4 q5 p6 h0 n0) room_1.cells room_1.slots (T203.setTop (mkF m 168 #[.val (.long q1), .second, .val (.long q2), .second, .val (.long q3), .second, .val (.long q4), .second, .val (.long q5), .second, .val (.int p6), .val (.ref b3), .val (.ref b32), .val (.int n1), .val (.int n2), .val (.long v75s0), .second, .val (.int (((p6.toUInt32 >>> ((5 : Int32) &&& 31).toUInt32).toInt32) &&& (3 : Int32))), .val (.long v108s0), .second, .val (.ref b66), .val (.ref b195), .val (.ref b202), .val (.ref b209), .unset, .unset, .unset] [(.long v75s0)]))
          refine Till.pre (fun _ hr => XS.lloadN X205.here hx rfl (hb hby at_168) rfl hr) ?_
          show Till p e below s (Q0 Z q1 q2 q3 q4 q5 p6 h0 n0) room_1.cells room_1.slots (T203.setTop (mkF m 169 #[.val (.long q1), .second, .val (.long q2), .second, .val (.long q3), .second, .val (.long q4), .second, .val (.long q5), .second, .val (.int p6), .val (.ref b3), .val (.ref b32), .val (.int n1), .val (.int n2), .val (.long v75s0), .second, .val (.int (((p6.toUInt32 >>> ((5 : Int32) &&& 31).toUInt32).toInt32) &&& (3 : Int32))), .val (.long v108s0), .second, .val (.ref b66), .val (.ref b195), .val (.ref b202), .val (.ref b209), .unset, .unset, .unset] [(.long q1), (.long v75s0)]))
          refine Till.pre (fun _ hr => XS.lcmp X205.here hx rfl (hb hby at_169) rfl hr) ?_
          show Till p e below s (Q0 Z q1 q2 q3 q4 q5 p6 h0 n0) room_1.cells room_1.slots (T203.setTop (mkF m 170 #[.val (.long q1), .second, .val (.long q2), .second, .val (.long q3), .second, .val (.long q4), .second, .val (.long q5), .second, .val (.int p6), .val (.ref b3), .val (.ref b32), .val (.int n1), .val (.int n2), .val (.long v75s0), .second, .val (.int (((p6.toUInt32 >>> ((5 : Int32) &&& 31).toUInt32).toInt32) &&& (3 : Int32))), .val (.long v108s0), .second, .val (.ref b66), .val (.ref b195), .val (.ref b202), .val (.ref b209), .unset, .unset, .unset] [(.int (lcmpW v75s0 q1))]))
          refine Till.ifc (pc' := 185) X205.here hx (hb hby at_170) (by decide) (by decide) (fun q => ?_) (fun q => absurd (lEq.mp (hEq.2.2.2 q)) (hA : ¬ (v75s0 = q1)))
          show Till p e below s (Q0 Z q1 q2 q3 q4 q5 p6 h0 n0) room_1.cells room_1.slots (T203.setTop (mkF m 185 #[.val (.long q1), .second, .val (.long q2), .second, .val (.long q3), .second, .val (.long q4), .second, .val (.long q5), .second, .val (.int p6), .val (.ref b3), .val (.ref b32), .val (.int n1), .val (.int n2), .val (.long v75s0), .second, .val (.int (((p6.toUInt32 >>> ((5 : Int32) &&& 31).toUInt32).toInt32) &&& (3 : Int32))), .val (.long v108s0), .second, .val (.ref b66), .val (.ref b195), .val (.ref b202), .val (.ref b209), .unset, .unset, .unset] []))
          refine Till.pre (fun _ hr => XS.aload X205.here hx rfl (hb hby at_185) rfl rfl hr) ?_
          show Till p e below s (Q0 Z q1 q2 q3 q4 q5 p6 h0 n0) room_1.cells room_1.slots (T203.setTop (mkF m 187 #[.val (.long q1), .second, .val (.long q2), .second, .val (.long q3), .second, .val (.long q4), .second, .val (.long q5), .second, .val (.int p6), .val (.ref b3), .val (.ref b32), .val (.int n1), .val (.int n2), .val (.long v75s0), .second, .val (.int (((p6.toUInt32 >>> ((5 : Int32) &&& 31).toUInt32).toInt32) &&& (3 : Int32))), .val (.long v108s0), .second, .val (.ref b66), .val (.ref b195), .val (.ref b202), .val (.ref b209), .unset, .unset, .unset] [(.ref b195)]))
          refine Till.pre (fun _ hr => XS.aload X205.here hx rfl (hb hby at_187) rfl rfl hr) ?_
          show Till p e below s (Q0 Z q1 q2 q3 q4 q5 p6 h0 n0) room_1.cells room_1.slots (T203.setTop (mkF m 189 #[.val (.long q1), .second, .val (.long q2), .second, .val (.long q3), .second, .val (.long q4), .second, .val (.long q5), .second, .val (.int p6), .val (.ref b3), .val (.ref b32), .val (.int n1), .val (.int n2), .val (.long v75s0), .second, .val (.int (((p6.toUInt32 >>> ((5 : Int32) &&& 31).toUInt32).toInt32) &&& (3 : Int32))), .val (.long v108s0), .second, .val (.ref b66), .val (.ref b195), .val (.ref b202), .val (.ref b209), .unset, .unset, .unset] [(.ref b3), (.ref b195)]))
          refine Till.pre (fun _ hr => XS.iload X205.here hx rfl (hb hby at_189) rfl hr) ?_
          show Till p e below s (Q0 Z q1 q2 q3 q4 q5 p6 h0 n0) room_1.cells room_1.slots (T203.setTop (mkF m 191 #[.val (.long q1), .second, .val (.long q2), .second, .val (.long q3), .second, .val (.long q4), .second, .val (.long q5), .second, .val (.int p6), .val (.ref b3), .val (.ref b32), .val (.int n1), .val (.int n2), .val (.long v75s0), .second, .val (.int (((p6.toUInt32 >>> ((5 : Int32) &&& 31).toUInt32).toInt32) &&& (3 : Int32))), .val (.long v108s0), .second, .val (.ref b66), .val (.ref b195), .val (.ref b202), .val (.ref b209), .unset, .unset, .unset] [(.int n1), (.ref b3), (.ref b195)]))
          refine Till.callS (rm14 l Z a0 hw b195 b3 n1 n1 (fun i => u2 (((1 : Int32)).toNatClampNeg + i)) (oupd (oupd (oupd (fun _ => (0 : Int64)) 0 q4) 1 q5) 2 (q4 ^^^ (-1 : Int64))) T203.heap n0 R_b195 R_b3) X205 hx hZ hown (hw _ (List.mem_of_getElem? (i := 85) rfl)) (hw _ (List.mem_of_getElem? (i := 86) rfl)) (hw _ (List.mem_of_getElem? (i := 87) rfl)) (hw _ (List.mem_of_getElem? (i := 88) rfl)) (by decide) (by decide) (W := 0) (by decide) (by rw [hml]; rfl) (argsL := [(.ref b195), (.ref b3), (.int n1)]) (rest := []) (lenOf pd0_12 rfl) rfl rfl (Nat.le_of_eq rfl) (hb hby at_191) rfl (by decide) (by decide) ?_
          rintro _ T210 L211 X212 ⟨rfl, N213, e214⟩
          have N213 := Fr.app N206 N213
          show Till p e below s (Q0 Z q1 q2 q3 q4 q5 p6 h0 n0) room_1.cells room_1.slots (T210.setTop (mkF m 194 #[.val (.long q1), .second, .val (.long q2), .second, .val (.long q3), .second, .val (.long q4), .second, .val (.long q5), .second, .val (.int p6), .val (.ref b3), .val (.ref b32), .val (.int n1), .val (.int n2), .val (.long v75s0), .second, .val (.int (((p6.toUInt32 >>> ((5 : Int32) &&& 31).toUInt32).toInt32) &&& (3 : Int32))), .val (.long v108s0), .second, .val (.ref b66), .val (.ref b195), .val (.ref b202), .val (.ref b209), .unset, .unset, .unset] [(.int (fn14 n1 n1 (fun i => u2 (((1 : Int32)).toNatClampNeg + i)) (oupd (oupd (oupd (fun _ => (0 : Int64)) 0 q4) 1 q5) 2 (q4 ^^^ (-1 : Int64)))))]))
          refine Till.pre (fun _ hr => XS.istore X212.here hx rfl (hb hby at_194) rfl (l' := #[.val (.long q1), .second, .val (.long q2), .second, .val (.long q3), .second, .val (.long q4), .second, .val (.long q5), .second, .val (.int p6), .val (.ref b3), .val (.ref b32), .val (.int n1), .val (.int n2), .val (.long v75s0), .second, .val (.int (((p6.toUInt32 >>> ((5 : Int32) &&& 31).toUInt32).toInt32) &&& (3 : Int32))), .val (.long v108s0), .second, .val (.ref b66), .val (.ref b195), .val (.ref b202), .val (.ref b209), .val (.int (fn14 n1 n1 (fun i => u2 (((1 : Int32)).toNatClampNeg + i)) (oupd (oupd (oupd (fun _ => (0 : Int64)) 0 q4) 1 q5) 2 (q4 ^^^ (-1 : Int64))))), .unset, .unset]) rfl hr) ?_
          show Till p e below s (Q0 Z q1 q2 q3 q4 q5 p6 h0 n0) room_1.cells room_1.slots (T210.setTop (mkF m 196 #[.val (.long q1), .second, .val (.long q2), .second, .val (.long q3), .second, .val (.long q4), .second, .val (.long q5), .second, .val (.int p6), .val (.ref b3), .val (.ref b32), .val (.int n1), .val (.int n2), .val (.long v75s0), .second, .val (.int (((p6.toUInt32 >>> ((5 : Int32) &&& 31).toUInt32).toInt32) &&& (3 : Int32))), .val (.long v108s0), .second, .val (.ref b66), .val (.ref b195), .val (.ref b202), .val (.ref b209), .val (.int (fn14 n1 n1 (fun i => u2 (((1 : Int32)).toNatClampNeg + i)) (oupd (oupd (oupd (fun _ => (0 : Int64)) 0 q4) 1 q5) 2 (q4 ^^^ (-1 : Int64))))), .unset, .unset] []))
          refine Till.pre (fun _ hr => XS.aload X212.here hx rfl (hb hby at_196) rfl rfl hr) ?_
          show Till p e below s (Q0 Z q1 q2 q3 q4 q5 p6 h0 n0) room_1.cells room_1.slots (T210.setTop (mkF m 198 #[.val (.long q1), .second, .val (.long q2), .second, .val (.long q3), .second, .val (.long q4), .second, .val (.long q5), .second, .val (.int p6), .val (.ref b3), .val (.ref b32), .val (.int n1), .val (.int n2), .val (.long v75s0), .second, .val (.int (((p6.toUInt32 >>> ((5 : Int32) &&& 31).toUInt32).toInt32) &&& (3 : Int32))), .val (.long v108s0), .second, .val (.ref b66), .val (.ref b195), .val (.ref b202), .val (.ref b209), .val (.int (fn14 n1 n1 (fun i => u2 (((1 : Int32)).toNatClampNeg + i)) (oupd (oupd (oupd (fun _ => (0 : Int64)) 0 q4) 1 q5) 2 (q4 ^^^ (-1 : Int64))))), .unset, .unset] [(.ref b202)]))
          refine Till.pre (fun _ hr => XS.aload X212.here hx rfl (hb hby at_198) rfl rfl hr) ?_
          show Till p e below s (Q0 Z q1 q2 q3 q4 q5 p6 h0 n0) room_1.cells room_1.slots (T210.setTop (mkF m 200 #[.val (.long q1), .second, .val (.long q2), .second, .val (.long q3), .second, .val (.long q4), .second, .val (.long q5), .second, .val (.int p6), .val (.ref b3), .val (.ref b32), .val (.int n1), .val (.int n2), .val (.long v75s0), .second, .val (.int (((p6.toUInt32 >>> ((5 : Int32) &&& 31).toUInt32).toInt32) &&& (3 : Int32))), .val (.long v108s0), .second, .val (.ref b66), .val (.ref b195), .val (.ref b202), .val (.ref b209), .val (.int (fn14 n1 n1 (fun i => u2 (((1 : Int32)).toNatClampNeg + i)) (oupd (oupd (oupd (fun _ => (0 : Int64)) 0 q4) 1 q5) 2 (q4 ^^^ (-1 : Int64))))), .unset, .unset] [(.ref b32), (.ref b202)]))
          refine Till.pre (fun _ hr => XS.iload X212.here hx rfl (hb hby at_200) rfl hr) ?_
          show Till p e below s (Q0 Z q1 q2 q3 q4 q5 p6 h0 n0) room_1.cells room_1.slots (T210.setTop (mkF m 202 #[.val (.long q1), .second, .val (.long q2), .second, .val (.long q3), .second, .val (.long q4), .second, .val (.long q5), .second, .val (.int p6), .val (.ref b3), .val (.ref b32), .val (.int n1), .val (.int n2), .val (.long v75s0), .second, .val (.int (((p6.toUInt32 >>> ((5 : Int32) &&& 31).toUInt32).toInt32) &&& (3 : Int32))), .val (.long v108s0), .second, .val (.ref b66), .val (.ref b195), .val (.ref b202), .val (.ref b209), .val (.int (fn14 n1 n1 (fun i => u2 (((1 : Int32)).toNatClampNeg + i)) (oupd (oupd (oupd (fun _ => (0 : Int64)) 0 q4) 1 q5) 2 (q4 ^^^ (-1 : Int64))))), .unset, .unset] [(.int n2), (.ref b32), (.ref b202)]))
          refine Till.callS (rm14 l Z a0 hw b202 b32 n2 n2 (fun i => u2 (((us + (1 : Int32))).toNatClampNeg + i)) (oupd (oupd (oupd (fun _ => (0 : Int64)) 0 q5) 1 q4) 2 (q4 ^^^ q5)) T203.heap n0 R_b202 R_b32) X212 hx hZ hown (hw _ (List.mem_of_getElem? (i := 85) rfl)) (hw _ (List.mem_of_getElem? (i := 86) rfl)) (hw _ (List.mem_of_getElem? (i := 87) rfl)) (hw _ (List.mem_of_getElem? (i := 88) rfl)) (by decide) (by decide) (W := 0) (by decide) (by rw [hml]; rfl) (argsL := [(.ref b202), (.ref b32), (.int n2)]) (rest := []) (lenOf pd0_12 rfl) rfl rfl (Nat.le_of_eq rfl) (hb hby at_202) e214 (by decide) (by decide) ?_
          rintro _ T215 L216 X217 ⟨rfl, N218, e219⟩
          have N218 := Fr.app N213 N218
          show Till p e below s (Q0 Z q1 q2 q3 q4 q5 p6 h0 n0) room_1.cells room_1.slots (T215.setTop (mkF m 205 #[.val (.long q1), .second, .val (.long q2), .second, .val (.long q3), .second, .val (.long q4), .second, .val (.long q5), .second, .val (.int p6), .val (.ref b3), .val (.ref b32), .val (.int n1), .val (.int n2), .val (.long v75s0), .second, .val (.int (((p6.toUInt32 >>> ((5 : Int32) &&& 31).toUInt32).toInt32) &&& (3 : Int32))), .val (.long v108s0), .second, .val (.ref b66), .val (.ref b195), .val (.ref b202), .val (.ref b209), .val (.int (fn14 n1 n1 (fun i => u2 (((1 : Int32)).toNatClampNeg + i)) (oupd (oupd (oupd (fun _ => (0 : Int64)) 0 q4) 1 q5) 2 (q4 ^^^ (-1 : Int64))))), .unset, .unset] [(.int (fn14 n2 n2 (fun i => u2 (((us + (1 : Int32))).toNatClampNeg + i)) (oupd (oupd (oupd (fun _ => (0 : Int64)) 0 q5) 1 q4) 2 (q4 ^^^ q5))))]))
          refine Till.pre (fun _ hr => XS.istore X217.here hx rfl (hb hby at_205) rfl (l' := #[.val (.long q1), .second, .val (.long q2), .second, .val (.long q3), .second, .val (.long q4), .second, .val (.long q5), .second, .val (.int p6), .val (.ref b3), .val (.ref b32), .val (.int n1), .val (.int n2), .val (.long v75s0), .second, .val (.int (((p6.toUInt32 >>> ((5 : Int32) &&& 31).toUInt32).toInt32) &&& (3 : Int32))), .val (.long v108s0), .second, .val (.ref b66), .val (.ref b195), .val (.ref b202), .val (.ref b209), .val (.int (fn14 n1 n1 (fun i => u2 (((1 : Int32)).toNatClampNeg + i)) (oupd (oupd (oupd (fun _ => (0 : Int64)) 0 q4) 1 q5) 2 (q4 ^^^ (-1 : Int64))))), .val (.int (fn14 n2 n2 (fun i => u2 (((us + (1 : Int32))).toNatClampNeg + i)) (oupd (oupd (oupd (fun _ => (0 : Int64)) 0 q5) 1 q4) 2 (q4 ^^^ q5)))), .unset]) rfl hr) ?_
          show Till p e below s (Q0 Z q1 q2 q3 q4 q5 p6 h0 n0) room_1.cells room_1.slots (T215.setTop (mkF m 207 #[.val (.long q1), .second, .val (.long q2), .second, .val (.long q3), .second, .val (.long q4), .second, .val (.long q5), .second, .val (.int p6), .val (.ref b3), .val (.ref b32), .val (.int n1), .val (.int n2), .val (.long v75s0), .second, .val (.int (((p6.toUInt32 >>> ((5 : Int32) &&& 31).toUInt32).toInt32) &&& (3 : Int32))), .val (.long v108s0), .second, .val (.ref b66), .val (.ref b195), .val (.ref b202), .val (.ref b209), .val (.int (fn14 n1 n1 (fun i => u2 (((1 : Int32)).toNatClampNeg + i)) (oupd (oupd (oupd (fun _ => (0 : Int64)) 0 q4) 1 q5) 2 (q4 ^^^ (-1 : Int64))))), .val (.int (fn14 n2 n2 (fun i => u2 (((us + (1 : Int32))).toNatClampNeg + i)) (oupd (oupd (oupd (fun _ => (0 : Int64)) 0 q5) 1 q4) 2 (q4 ^^^ q5)))), .unset] []))
          refine Till.pre (fun _ hr => XS.lload X217.here hx rfl (hb hby at_207) rfl hr) ?_
          show Till p e below s (Q0 Z q1 q2 q3 q4 q5 p6 h0 n0) room_1.cells room_1.slots (T215.setTop (mkF m 209 #[.val (.long q1), .second, .val (.long q2), .second, .val (.long q3), .second, .val (.long q4), .second, .val (.long q5), .second, .val (.int p6), .val (.ref b3), .val (.ref b32), .val (.int n1), .val (.int n2), .val (.long v75s0), .second, .val (.int (((p6.toUInt32 >>> ((5 : Int32) &&& 31).toUInt32).toInt32) &&& (3 : Int32))), .val (.long v108s0), .second, .val (.ref b66), .val (.ref b195), .val (.ref b202), .val (.ref b209), .val (.int (fn14 n1 n1 (fun i => u2 (((1 : Int32)).toNatClampNeg + i)) (oupd (oupd (oupd (fun _ => (0 : Int64)) 0 q4) 1 q5) 2 (q4 ^^^ (-1 : Int64))))), .val (.int (fn14 n2 n2 (fun i => u2 (((us + (1 : Int32))).toNatClampNeg + i)) (oupd (oupd (oupd (fun _ => (0 : Int64)) 0 q5) 1 q4) 2 (q4 ^^^ q5)))), .unset] [(.long v108s0)]))
          refine Till.pre (fun _ hr => XS.lload X217.here hx rfl (hb hby at_209) rfl hr) ?_
          show Till p e below s (Q0 Z q1 q2 q3 q4 q5 p6 h0 n0) room_1.cells room_1.slots (T215.setTop (mkF m 211 #[.val (.long q1), .second, .val (.long q2), .second, .val (.long q3), .second, .val (.long q4), .second, .val (.long q5), .second, .val (.int p6), .val (.ref b3), .val (.ref b32), .val (.int n1), .val (.int n2), .val (.long v75s0), .second, .val (.int (((p6.toUInt32 >>> ((5 : Int32) &&& 31).toUInt32).toInt32) &&& (3 : Int32))), .val (.long v108s0), .second, .val (.ref b66), .val (.ref b195), .val (.ref b202), .val (.ref b209), .val (.int (fn14 n1 n1 (fun i => u2 (((1 : Int32)).toNatClampNeg + i)) (oupd (oupd (oupd (fun _ => (0 : Int64)) 0 q4) 1 q5) 2 (q4 ^^^ (-1 : Int64))))), .val (.int (fn14 n2 n2 (fun i => u2 (((us + (1 : Int32))).toNatClampNeg + i)) (oupd (oupd (oupd (fun _ => (0 : Int64)) 0 q5) 1 q4) 2 (q4 ^^^ q5)))), .unset] [(.long v75s0), (.long v108s0)]))
          refine Till.pre (fun _ hr => XS.lcmp X217.here hx rfl (hb hby at_211) rfl hr) ?_
          show Till p e below s (Q0 Z q1 q2 q3 q4 q5 p6 h0 n0) room_1.cells room_1.slots (T215.setTop (mkF m 212 #[.val (.long q1), .second, .val (.long q2), .second, .val (.long q3), .second, .val (.long q4), .second, .val (.long q5), .second, .val (.int p6), .val (.ref b3), .val (.ref b32), .val (.int n1), .val (.int n2), .val (.long v75s0), .second, .val (.int (((p6.toUInt32 >>> ((5 : Int32) &&& 31).toUInt32).toInt32) &&& (3 : Int32))), .val (.long v108s0), .second, .val (.ref b66), .val (.ref b195), .val (.ref b202), .val (.ref b209), .val (.int (fn14 n1 n1 (fun i => u2 (((1 : Int32)).toNatClampNeg + i)) (oupd (oupd (oupd (fun _ => (0 : Int64)) 0 q4) 1 q5) 2 (q4 ^^^ (-1 : Int64))))), .val (.int (fn14 n2 n2 (fun i => u2 (((us + (1 : Int32))).toNatClampNeg + i)) (oupd (oupd (oupd (fun _ => (0 : Int64)) 0 q5) 1 q4) 2 (q4 ^^^ q5)))), .unset] [(.int (lcmpW v108s0 v75s0))]))
          refine Till.ifc (pc' := 229) X217.here hx (hb hby at_212) (by decide) (by decide) (fun q => absurd (hB : (v108s0 = v75s0)) (mt lEq.mpr (hEq.2.2.1 q))) (fun q => ?_)
          show Till p e below s (Q0 Z q1 q2 q3 q4 q5 p6 h0 n0) room_1.cells room_1.slots (T215.setTop (mkF m 215 #[.val (.long q1), .second, .val (.long q2), .second, .val (.long q3), .second, .val (.long q4), .second, .val (.long q5), .second, .val (.int p6), .val (.ref b3), .val (.ref b32), .val (.int n1), .val (.int n2), .val (.long v75s0), .second, .val (.int (((p6.toUInt32 >>> ((5 : Int32) &&& 31).toUInt32).toInt32) &&& (3 : Int32))), .val (.long v108s0), .second, .val (.ref b66), .val (.ref b195), .val (.ref b202), .val (.ref b209), .val (.int (fn14 n1 n1 (fun i => u2 (((1 : Int32)).toNatClampNeg + i)) (oupd (oupd (oupd (fun _ => (0 : Int64)) 0 q4) 1 q5) 2 (q4 ^^^ (-1 : Int64))))), .val (.int (fn14 n2 n2 (fun i => u2 (((us + (1 : Int32))).toNatClampNeg + i)) (oupd (oupd (oupd (fun _ => (0 : Int64)) 0 q5) 1 q4) 2 (q4 ^^^ q5)))), .unset] []))
          refine Till.pre (fun _ hr => XS.aload X217.here hx rfl (hb hby at_215) rfl rfl hr) ?_
          show Till p e below s (Q0 Z q1 q2 q3 q4 q5 p6 h0 n0) room_1.cells room_1.slots (T215.setTop (mkF m 217 #[.val (.long q1), .second, .val (.long q2), .second, .val (.long q3), .second, .val (.long q4), .second, .val (.long q5), .second, .val (.int p6), .val (.ref b3), .val (.ref b32), .val (.int n1), .val (.int n2), .val (.long v75s0), .second, .val (.int (((p6.toUInt32 >>> ((5 : Int32) &&& 31).toUInt32).toInt32) &&& (3 : Int32))), .val (.long v108s0), .second, .val (.ref b66), .val (.ref b195), .val (.ref b202), .val (.ref b209), .val (.int (fn14 n1 n1 (fun i => u2 (((1 : Int32)).toNatClampNeg + i)) (oupd (oupd (oupd (fun _ => (0 : Int64)) 0 q4) 1 q5) 2 (q4 ^^^ (-1 : Int64))))), .val (.int (fn14 n2 n2 (fun i => u2 (((us + (1 : Int32))).toNatClampNeg + i)) (oupd (oupd (oupd (fun _ => (0 : Int64)) 0 q5) 1 q4) 2 (q4 ^^^ q5)))), .unset] [(.ref b209)]))
          refine Till.pre (fun _ hr => XS.aload X217.here hx rfl (hb hby at_217) rfl rfl hr) ?_
          show Till p e below s (Q0 Z q1 q2 q3 q4 q5 p6 h0 n0) room_1.cells room_1.slots (T215.setTop (mkF m 219 #[.val (.long q1), .second, .val (.long q2), .second, .val (.long q3), .second, .val (.long q4), .second, .val (.long q5), .second, .val (.int p6), .val (.ref b3), .val (.ref b32), .val (.int n1), .val (.int n2), .val (.long v75s0), .second, .val (.int (((p6.toUInt32 >>> ((5 : Int32) &&& 31).toUInt32).toInt32) &&& (3 : Int32))), .val (.long v108s0), .second, .val (.ref b66), .val (.ref b195), .val (.ref b202), .val (.ref b209), .val (.int (fn14 n1 n1 (fun i => u2 (((1 : Int32)).toNatClampNeg + i)) (oupd (oupd (oupd (fun _ => (0 : Int64)) 0 q4) 1 q5) 2 (q4 ^^^ (-1 : Int64))))), .val (.int (fn14 n2 n2 (fun i => u2 (((us + (1 : Int32))).toNatClampNeg + i)) (oupd (oupd (oupd (fun _ => (0 : Int64)) 0 q5) 1 q4) 2 (q4 ^^^ q5)))), .unset] [(.ref b32), (.ref b209)]))
          refine Till.pre (fun _ hr => XS.iload X217.here hx rfl (hb hby at_219) rfl hr) ?_
          show Till p e below s (Q0 Z q1 q2 q3 q4 q5 p6 h0 n0) room_1.cells room_1.slots (T215.setTop (mkF m 221 #[.val (.long q1), .second, .val (.long q2), .second, .val (.long q3), .second, .val (.long q4), .second, .val (.long q5), .second, .val (.int p6), .val (.ref b3), .val (.ref b32), .val (.int n1), .val (.int n2), .val (.long v75s0), .second, .val (.int (((p6.toUInt32 >>> ((5 : Int32) &&& 31).toUInt32).toInt32) &&& (3 : Int32))), .val (.long v108s0), .second, .val (.ref b66), .val (.ref b195), .val (.ref b202), .val (.ref b209), .val (.int (fn14 n1 n1 (fun i => u2 (((1 : Int32)).toNatClampNeg + i)) (oupd (oupd (oupd (fun _ => (0 : Int64)) 0 q4) 1 q5) 2 (q4 ^^^ (-1 : Int64))))), .val (.int (fn14 n2 n2 (fun i => u2 (((us + (1 : Int32))).toNatClampNeg + i)) (oupd (oupd (oupd (fun _ => (0 : Int64)) 0 q5) 1 q4) 2 (q4 ^^^ q5)))), .unset] [(.int n2), (.ref b32), (.ref b209)]))
          refine Till.callS (rm14 l Z a0 hw b209 b32 n2 n2 (fun i => u2 (((us + (1 : Int32))).toNatClampNeg + i)) (oupd (oupd (oupd (fun _ => (0 : Int64)) 0 q5) 1 q4) 2 (q4 ^^^ q5)) T203.heap n0 R_b209 R_b32) X217 hx hZ hown (hw _ (List.mem_of_getElem? (i := 85) rfl)) (hw _ (List.mem_of_getElem? (i := 86) rfl)) (hw _ (List.mem_of_getElem? (i := 87) rfl)) (hw _ (List.mem_of_getElem? (i := 88) rfl)) (by decide) (by decide) (W := 0) (by decide) (by rw [hml]; rfl) (argsL := [(.ref b209), (.ref b32), (.int n2)]) (rest := []) (lenOf pd0_12 rfl) rfl rfl (Nat.le_of_eq rfl) (hb hby at_221) e219 (by decide) (by decide) ?_
          rintro _ T220 L221 X222 ⟨rfl, N223, e224⟩
          have N223 := Fr.app N218 N223
          show Till p e below s (Q0 Z q1 q2 q3 q4 q5 p6 h0 n0) room_1.cells room_1.slots (T220.setTop (mkF m 224 #[.val (.long q1), .second, .val (.long q2), .second, .val (.long q3), .second, .val (.long q4), .second, .val (.long q5), .second, .val (.int p6), .val (.ref b3), .val (.ref b32), .val (.int n1), .val (.int n2), .val (.long v75s0), .second, .val (.int (((p6.toUInt32 >>> ((5 : Int32) &&& 31).toUInt32).toInt32) &&& (3 : Int32))), .val (.long v108s0), .second, .val (.ref b66), .val (.ref b195), .val (.ref b202), .val (.ref b209), .val (.int (fn14 n1 n1 (fun i => u2 (((1 : Int32)).toNatClampNeg + i)) (oupd (oupd (oupd (fun _ => (0 : Int64)) 0 q4) 1 q5) 2 (q4 ^^^ (-1 : Int64))))), .val (.int (fn14 n2 n2 (fun i => u2 (((us + (1 : Int32))).toNatClampNeg + i)) (oupd (oupd (oupd (fun _ => (0 : Int64)) 0 q5) 1 q4) 2 (q4 ^^^ q5)))), .unset] [(.int (fn14 n2 n2 (fun i => u2 (((us + (1 : Int32))).toNatClampNeg + i)) (oupd (oupd (oupd (fun _ => (0 : Int64)) 0 q5) 1 q4) 2 (q4 ^^^ q5))))]))
          refine Till.pre (fun _ hr => XS.istore X222.here hx rfl (hb hby at_224) rfl (l' := #[.val (.long q1), .second, .val (.long q2), .second, .val (.long q3), .second, .val (.long q4), .second, .val (.long q5), .second, .val (.int p6), .val (.ref b3), .val (.ref b32), .val (.int n1), .val (.int n2), .val (.long v75s0), .second, .val (.int (((p6.toUInt32 >>> ((5 : Int32) &&& 31).toUInt32).toInt32) &&& (3 : Int32))), .val (.long v108s0), .second, .val (.ref b66), .val (.ref b195), .val (.ref b202), .val (.ref b209), .val (.int (fn14 n1 n1 (fun i => u2 (((1 : Int32)).toNatClampNeg + i)) (oupd (oupd (oupd (fun _ => (0 : Int64)) 0 q4) 1 q5) 2 (q4 ^^^ (-1 : Int64))))), .val (.int (fn14 n2 n2 (fun i => u2 (((us + (1 : Int32))).toNatClampNeg + i)) (oupd (oupd (oupd (fun _ => (0 : Int64)) 0 q5) 1 q4) 2 (q4 ^^^ q5)))), .val (.int (fn14 n2 n2 (fun i => u2 (((us + (1 : Int32))).toNatClampNeg + i)) (oupd (oupd (oupd (fun _ => (0 : Int64)) 0 q5) 1 q4) 2 (q4 ^^^ q5))))]) rfl hr) ?_
          show Till p e below s (Q0 Z q1 q2 q3 q4 q5 p6 h0 n0) room_1.cells room_1.slots (T220.setTop (mkF m 226 #[.val (.long q1), .second, .val (.long q2), .second, .val (.long q3), .second, .val (.long q4), .second, .val (.long q5), .second, .val (.int p6), .val (.ref b3), .val (.ref b32), .val (.int n1), .val (.int n2), .val (.long v75s0), .second, .val (.int (((p6.toUInt32 >>> ((5 : Int32) &&& 31).toUInt32).toInt32) &&& (3 : Int32))), .val (.long v108s0), .second, .val (.ref b66), .val (.ref b195), .val (.ref b202), .val (.ref b209), .val (.int (fn14 n1 n1 (fun i => u2 (((1 : Int32)).toNatClampNeg + i)) (oupd (oupd (oupd (fun _ => (0 : Int64)) 0 q4) 1 q5) 2 (q4 ^^^ (-1 : Int64))))), .val (.int (fn14 n2 n2 (fun i => u2 (((us + (1 : Int32))).toNatClampNeg + i)) (oupd (oupd (oupd (fun _ => (0 : Int64)) 0 q5) 1 q4) 2 (q4 ^^^ q5)))), .val (.int (fn14 n2 n2 (fun i => u2 (((us + (1 : Int32))).toNatClampNeg + i)) (oupd (oupd (oupd (fun _ => (0 : Int64)) 0 q5) 1 q4) 2 (q4 ^^^ q5))))] []))
          refine Till.pre (fun _ hr => XS.goto X222.here hx rfl (pc0 := 226) (pc' := 262) rfl (hb hby at_226) (by decide) (by decide) hr) ?_
          show Till p e below s (Q0 Z q1 q2 q3 q4 q5 p6 h0 n0) room_1.cells room_1.slots (T220.setTop (mkF m 262 #[.val (.long q1), .second, .val (.long q2), .second, .val (.long q3), .second, .val (.long q4), .second, .val (.long q5), .second, .val (.int p6), .val (.ref b3), .val (.ref b32), .val (.int n1), .val (.int n2), .val (.long v75s0), .second, .val (.int (((p6.toUInt32 >>> ((5 : Int32) &&& 31).toUInt32).toInt32) &&& (3 : Int32))), .val (.long v108s0), .second, .val (.ref b66), .val (.ref b195), .val (.ref b202), .val (.ref b209), .val (.int (fn14 n1 n1 (fun i => u2 (((1 : Int32)).toNatClampNeg + i)) (oupd (oupd (oupd (fun _ => (0 : Int64)) 0 q4) 1 q5) 2 (q4 ^^^ (-1 : Int64))))), .val (.int (fn14 n2 n2 (fun i => u2 (((us + (1 : Int32))).toNatClampNeg + i)) (oupd (oupd (oupd (fun _ => (0 : Int64)) 0 q5) 1 q4) 2 (q4 ^^^ q5)))), .val (.int (fn14 n2 n2 (fun i => u2 (((us + (1 : Int32))).toNatClampNeg + i)) (oupd (oupd (oupd (fun _ => (0 : Int64)) 0 q5) 1 q4) 2 (q4 ^^^ q5))))] []))
          refine Till.pre (fun _ hr => XS.iload X222.here hx rfl (hb hby at_262) rfl hr) ?_
          show Till p e below s (Q0 Z q1 q2 q3 q4 q5 p6 h0 n0) room_1.cells room_1.slots (T220.setTop (mkF m 264 #[.val (.long q1), .second, .val (.long q2), .second, .val (.long q3), .second, .val (.long q4), .second, .val (.long q5), .second, .val (.int p6), .val (.ref b3), .val (.ref b32), .val (.int n1), .val (.int n2), .val (.long v75s0), .second, .val (.int (((p6.toUInt32 >>> ((5 : Int32) &&& 31).toUInt32).toInt32) &&& (3 : Int32))), .val (.long v108s0), .second, .val (.ref b66), .val (.ref b195), .val (.ref b202), .val (.ref b209), .val (.int (fn14 n1 n1 (fun i => u2 (((1 : Int32)).toNatClampNeg + i)) (oupd (oupd (oupd (fun _ => (0 : Int64)) 0 q4) 1 q5) 2 (q4 ^^^ (-1 : Int64))))), .val (.int (fn14 n2 n2 (fun i => u2 (((us + (1 : Int32))).toNatClampNeg + i)) (oupd (oupd (oupd (fun _ => (0 : Int64)) 0 q5) 1 q4) 2 (q4 ^^^ q5)))), .val (.int (fn14 n2 n2 (fun i => u2 (((us + (1 : Int32))).toNatClampNeg + i)) (oupd (oupd (oupd (fun _ => (0 : Int64)) 0 q5) 1 q4) 2 (q4 ^^^ q5))))] [(.int (fn14 n1 n1 (fun i => u2 (((1 : Int32)).toNatClampNeg + i)) (oupd (oupd (oupd (fun _ => (0 : Int64)) 0 q4) 1 q5) 2 (q4 ^^^ (-1 : Int64)))))]))
          have J282_227 : ∀ (v282s0x3 : Int32) (hv282s0x3 : v282s0x3 = (if ((fn14 n1 n1 (fun i => u2 (((1 : Int32)).toNatClampNeg + i)) (oupd (oupd (oupd (fun _ => (0 : Int64)) 0 q4) 1 q5) 2 (q4 ^^^ (-1 : Int64)))) = (0 : Int32)) then (0 : Int32) else (if ((fn14 n2 n2 (fun i => u2 (((us + (1 : Int32))).toNatClampNeg + i)) (oupd (oupd (oupd (fun _ => (0 : Int64)) 0 q5) 1 q4) 2 (q4 ^^^ q5))) = (0 : Int32)) then (0 : Int32) else (if ((fn14 n2 n2 (fun i => u2 (((us + (1 : Int32))).toNatClampNeg + i)) (oupd (oupd (oupd (fun _ => (0 : Int64)) 0 q5) 1 q4) 2 (q4 ^^^ q5))) = (0 : Int32)) then (0 : Int32) else (1 : Int32))))), Till p e below s (Q0 Z q1 q2 q3 q4 q5 p6 h0 n0) room_1.cells room_1.slots (T220.setTop (mkF m 282 #[.val (.long q1), .second, .val (.long q2), .second, .val (.long q3), .second, .val (.long q4), .second, .val (.long q5), .second, .val (.int p6), .val (.ref b3), .val (.ref b32), .val (.int n1), .val (.int n2), .val (.long v75s0), .second, .val (.int (((p6.toUInt32 >>> ((5 : Int32) &&& 31).toUInt32).toInt32) &&& (3 : Int32))), .val (.long v108s0), .second, .val (.ref b66), .val (.ref b195), .val (.ref b202), .val (.ref b209), .val (.int (fn14 n1 n1 (fun i => u2 (((1 : Int32)).toNatClampNeg + i)) (oupd (oupd (oupd (fun _ => (0 : Int64)) 0 q4) 1 q5) 2 (q4 ^^^ (-1 : Int64))))), .val (.int (fn14 n2 n2 (fun i => u2 (((us + (1 : Int32))).toNatClampNeg + i)) (oupd (oupd (oupd (fun _ => (0 : Int64)) 0 q5) 1 q4) 2 (q4 ^^^ q5)))), .val (.int (fn14 n2 n2 (fun i => u2 (((us + (1 : Int32))).toNatClampNeg + i)) (oupd (oupd (oupd (fun _ => (0 : Int64)) 0 q5) 1 q4) 2 (q4 ^^^ q5))))] [(.int v282s0x3)])) := by
            intro v282s0x3 hv282s0x3
            show Till p e below s (Q0 Z q1 q2 q3 q4 q5 p6 h0 n0) room_1.cells room_1.slots (T220.setTop (mkF m 282 #[.val (.long q1), .second, .val (.long q2), .second, .val (.long q3), .second, .val (.long q4), .second, .val (.long q5), .second, .val (.int p6), .val (.ref b3), .val (.ref b32), .val (.int n1), .val (.int n2), .val (.long v75s0), .second, .val (.int (((p6.toUInt32 >>> ((5 : Int32) &&& 31).toUInt32).toInt32) &&& (3 : Int32))), .val (.long v108s0), .second, .val (.ref b66), .val (.ref b195), .val (.ref b202), .val (.ref b209), .val (.int (fn14 n1 n1 (fun i => u2 (((1 : Int32)).toNatClampNeg + i)) (oupd (oupd (oupd (fun _ => (0 : Int64)) 0 q4) 1 q5) 2 (q4 ^^^ (-1 : Int64))))), .val (.int (fn14 n2 n2 (fun i => u2 (((us + (1 : Int32))).toNatClampNeg + i)) (oupd (oupd (oupd (fun _ => (0 : Int64)) 0 q5) 1 q4) 2 (q4 ^^^ q5)))), .val (.int (fn14 n2 n2 (fun i => u2 (((us + (1 : Int32))).toNatClampNeg + i)) (oupd (oupd (oupd (fun _ => (0 : Int64)) 0 q5) 1 q4) 2 (q4 ^^^ q5))))] [(.int v282s0x3)]))
            refine Till.retZ (w := (1 : Int32)) X222 hx hret hlk (hb hby at_282) (by decide) (by decide) (by rw [hv282s0x3, own_s1 hu_us (own_n4 hu_n1) hu_u1 hu_u2, own_s2 hu_us (own_n4 hu_n1) (own_n4 hu_n2) hu_u2]; decide) ?_
            exact ⟨rfl, N223⟩
          refine Till.ifc (pc' := 281) X222.here hx (hb hby at_264) (by decide) (by decide) (fun q => ?_) (fun q => ?_)
          · have hc225 := (hEq.1 q)
            show Till p e below s (Q0 Z q1 q2 q3 q4 q5 p6 h0 n0) room_1.cells room_1.slots (T220.setTop (mkF m 281 #[.val (.long q1), .second, .val (.long q2), .second, .val (.long q3), .second, .val (.long q4), .second, .val (.long q5), .second, .val (.int p6), .val (.ref b3), .val (.ref b32), .val (.int n1), .val (.int n2), .val (.long v75s0), .second, .val (.int (((p6.toUInt32 >>> ((5 : Int32) &&& 31).toUInt32).toInt32) &&& (3 : Int32))), .val (.long v108s0), .second, .val (.ref b66), .val (.ref b195), .val (.ref b202), .val (.ref b209), .val (.int (fn14 n1 n1 (fun i => u2 (((1 : Int32)).toNatClampNeg + i)) (oupd (oupd (oupd (fun _ => (0 : Int64)) 0 q4) 1 q5) 2 (q4 ^^^ (-1 : Int64))))), .val (.int (fn14 n2 n2 (fun i => u2 (((us + (1 : Int32))).toNatClampNeg + i)) (oupd (oupd (oupd (fun _ => (0 : Int64)) 0 q5) 1 q4) 2 (q4 ^^^ q5)))), .val (.int (fn14 n2 n2 (fun i => u2 (((us + (1 : Int32))).toNatClampNeg + i)) (oupd (oupd (oupd (fun _ => (0 : Int64)) 0 q5) 1 q4) 2 (q4 ^^^ q5))))] []))
            refine Till.pre (fun _ hr => XS.iconst X222.here hx rfl (hb hby at_281) hr) ?_
            show Till p e below s (Q0 Z q1 q2 q3 q4 q5 p6 h0 n0) room_1.cells room_1.slots (T220.setTop (mkF m 282 #[.val (.long q1), .second, .val (.long q2), .second, .val (.long q3), .second, .val (.long q4), .second, .val (.long q5), .second, .val (.int p6), .val (.ref b3), .val (.ref b32), .val (.int n1), .val (.int n2), .val (.long v75s0), .second, .val (.int (((p6.toUInt32 >>> ((5 : Int32) &&& 31).toUInt32).toInt32) &&& (3 : Int32))), .val (.long v108s0), .second, .val (.ref b66), .val (.ref b195), .val (.ref b202), .val (.ref b209), .val (.int (fn14 n1 n1 (fun i => u2 (((1 : Int32)).toNatClampNeg + i)) (oupd (oupd (oupd (fun _ => (0 : Int64)) 0 q4) 1 q5) 2 (q4 ^^^ (-1 : Int64))))), .val (.int (fn14 n2 n2 (fun i => u2 (((us + (1 : Int32))).toNatClampNeg + i)) (oupd (oupd (oupd (fun _ => (0 : Int64)) 0 q5) 1 q4) 2 (q4 ^^^ q5)))), .val (.int (fn14 n2 n2 (fun i => u2 (((us + (1 : Int32))).toNatClampNeg + i)) (oupd (oupd (oupd (fun _ => (0 : Int64)) 0 q5) 1 q4) 2 (q4 ^^^ q5))))] [(.int (0 : Int32))]))
            exact J282_227 _ (Eq.symm (if_pos hc225))
          · have hc225 := (hEq.2.1 q)
            show Till p e below s (Q0 Z q1 q2 q3 q4 q5 p6 h0 n0) room_1.cells room_1.slots (T220.setTop (mkF m 267 #[.val (.long q1), .second, .val (.long q2), .second, .val (.long q3), .second, .val (.long q4), .second, .val (.long q5), .second, .val (.int p6), .val (.ref b3), .val (.ref b32), .val (.int n1), .val (.int n2), .val (.long v75s0), .second, .val (.int (((p6.toUInt32 >>> ((5 : Int32) &&& 31).toUInt32).toInt32) &&& (3 : Int32))), .val (.long v108s0), .second, .val (.ref b66), .val (.ref b195), .val (.ref b202), .val (.ref b209), .val (.int (fn14 n1 n1 (fun i => u2 (((1 : Int32)).toNatClampNeg + i)) (oupd (oupd (oupd (fun _ => (0 : Int64)) 0 q4) 1 q5) 2 (q4 ^^^ (-1 : Int64))))), .val (.int (fn14 n2 n2 (fun i => u2 (((us + (1 : Int32))).toNatClampNeg + i)) (oupd (oupd (oupd (fun _ => (0 : Int64)) 0 q5) 1 q4) 2 (q4 ^^^ q5)))), .val (.int (fn14 n2 n2 (fun i => u2 (((us + (1 : Int32))).toNatClampNeg + i)) (oupd (oupd (oupd (fun _ => (0 : Int64)) 0 q5) 1 q4) 2 (q4 ^^^ q5))))] []))
            refine Till.pre (fun _ hr => XS.iload X222.here hx rfl (hb hby at_267) rfl hr) ?_
            show Till p e below s (Q0 Z q1 q2 q3 q4 q5 p6 h0 n0) room_1.cells room_1.slots (T220.setTop (mkF m 269 #[.val (.long q1), .second, .val (.long q2), .second, .val (.long q3), .second, .val (.long q4), .second, .val (.long q5), .second, .val (.int p6), .val (.ref b3), .val (.ref b32), .val (.int n1), .val (.int n2), .val (.long v75s0), .second, .val (.int (((p6.toUInt32 >>> ((5 : Int32) &&& 31).toUInt32).toInt32) &&& (3 : Int32))), .val (.long v108s0), .second, .val (.ref b66), .val (.ref b195), .val (.ref b202), .val (.ref b209), .val (.int (fn14 n1 n1 (fun i => u2 (((1 : Int32)).toNatClampNeg + i)) (oupd (oupd (oupd (fun _ => (0 : Int64)) 0 q4) 1 q5) 2 (q4 ^^^ (-1 : Int64))))), .val (.int (fn14 n2 n2 (fun i => u2 (((us + (1 : Int32))).toNatClampNeg + i)) (oupd (oupd (oupd (fun _ => (0 : Int64)) 0 q5) 1 q4) 2 (q4 ^^^ q5)))), .val (.int (fn14 n2 n2 (fun i => u2 (((us + (1 : Int32))).toNatClampNeg + i)) (oupd (oupd (oupd (fun _ => (0 : Int64)) 0 q5) 1 q4) 2 (q4 ^^^ q5))))] [(.int (fn14 n2 n2 (fun i => u2 (((us + (1 : Int32))).toNatClampNeg + i)) (oupd (oupd (oupd (fun _ => (0 : Int64)) 0 q5) 1 q4) 2 (q4 ^^^ q5))))]))
            refine Till.ifc (pc' := 281) X222.here hx (hb hby at_269) (by decide) (by decide) (fun q => ?_) (fun q => ?_)
            · have hc226 := (hEq.1 q)
              show Till p e below s (Q0 Z q1 q2 q3 q4 q5 p6 h0 n0) room_1.cells room_1.slots (T220.setTop (mkF m 281 #[.val (.long q1), .second, .val (.long q2), .second, .val (.long q3), .second, .val (.long q4), .second, .val (.long q5), .second, .val (.int p6), .val (.ref b3), .val (.ref b32), .val (.int n1), .val (.int n2), .val (.long v75s0), .second, .val (.int (((p6.toUInt32 >>> ((5 : Int32) &&& 31).toUInt32).toInt32) &&& (3 : Int32))), .val (.long v108s0), .second, .val (.ref b66), .val (.ref b195), .val (.ref b202), .val (.ref b209), .val (.int (fn14 n1 n1 (fun i => u2 (((1 : Int32)).toNatClampNeg + i)) (oupd (oupd (oupd (fun _ => (0 : Int64)) 0 q4) 1 q5) 2 (q4 ^^^ (-1 : Int64))))), .val (.int (fn14 n2 n2 (fun i => u2 (((us + (1 : Int32))).toNatClampNeg + i)) (oupd (oupd (oupd (fun _ => (0 : Int64)) 0 q5) 1 q4) 2 (q4 ^^^ q5)))), .val (.int (fn14 n2 n2 (fun i => u2 (((us + (1 : Int32))).toNatClampNeg + i)) (oupd (oupd (oupd (fun _ => (0 : Int64)) 0 q5) 1 q4) 2 (q4 ^^^ q5))))] []))
              refine Till.pre (fun _ hr => XS.iconst X222.here hx rfl (hb hby at_281) hr) ?_
              show Till p e below s (Q0 Z q1 q2 q3 q4 q5 p6 h0 n0) room_1.cells room_1.slots (T220.setTop (mkF m 282 #[.val (.long q1), .second, .val (.long q2), .second, .val (.long q3), .second, .val (.long q4), .second, .val (.long q5), .second, .val (.int p6), .val (.ref b3), .val (.ref b32), .val (.int n1), .val (.int n2), .val (.long v75s0), .second, .val (.int (((p6.toUInt32 >>> ((5 : Int32) &&& 31).toUInt32).toInt32) &&& (3 : Int32))), .val (.long v108s0), .second, .val (.ref b66), .val (.ref b195), .val (.ref b202), .val (.ref b209), .val (.int (fn14 n1 n1 (fun i => u2 (((1 : Int32)).toNatClampNeg + i)) (oupd (oupd (oupd (fun _ => (0 : Int64)) 0 q4) 1 q5) 2 (q4 ^^^ (-1 : Int64))))), .val (.int (fn14 n2 n2 (fun i => u2 (((us + (1 : Int32))).toNatClampNeg + i)) (oupd (oupd (oupd (fun _ => (0 : Int64)) 0 q5) 1 q4) 2 (q4 ^^^ q5)))), .val (.int (fn14 n2 n2 (fun i => u2 (((us + (1 : Int32))).toNatClampNeg + i)) (oupd (oupd (oupd (fun _ => (0 : Int64)) 0 q5) 1 q4) 2 (q4 ^^^ q5))))] [(.int (0 : Int32))]))
              exact J282_227 _ (Eq.symm ((if_neg hc225).trans (if_pos hc226)))
            · have hc226 := (hEq.2.1 q)
              show Till p e below s (Q0 Z q1 q2 q3 q4 q5 p6 h0 n0) room_1.cells room_1.slots (T220.setTop (mkF m 272 #[.val (.long q1), .second, .val (.long q2), .second, .val (.long q3), .second, .val (.long q4), .second, .val (.long q5), .second, .val (.int p6), .val (.ref b3), .val (.ref b32), .val (.int n1), .val (.int n2), .val (.long v75s0), .second, .val (.int (((p6.toUInt32 >>> ((5 : Int32) &&& 31).toUInt32).toInt32) &&& (3 : Int32))), .val (.long v108s0), .second, .val (.ref b66), .val (.ref b195), .val (.ref b202), .val (.ref b209), .val (.int (fn14 n1 n1 (fun i => u2 (((1 : Int32)).toNatClampNeg + i)) (oupd (oupd (oupd (fun _ => (0 : Int64)) 0 q4) 1 q5) 2 (q4 ^^^ (-1 : Int64))))), .val (.int (fn14 n2 n2 (fun i => u2 (((us + (1 : Int32))).toNatClampNeg + i)) (oupd (oupd (oupd (fun _ => (0 : Int64)) 0 q5) 1 q4) 2 (q4 ^^^ q5)))), .val (.int (fn14 n2 n2 (fun i => u2 (((us + (1 : Int32))).toNatClampNeg + i)) (oupd (oupd (oupd (fun _ => (0 : Int64)) 0 q5) 1 q4) 2 (q4 ^^^ q5))))] []))
              refine Till.pre (fun _ hr => XS.iload X222.here hx rfl (hb hby at_272) rfl hr) ?_
              show Till p e below s (Q0 Z q1 q2 q3 q4 q5 p6 h0 n0) room_1.cells room_1.slots (T220.setTop (mkF m 274 #[.val (.long q1), .second, .val (.long q2), .second, .val (.long q3), .second, .val (.long q4), .second, .val (.long q5), .second, .val (.int p6), .val (.ref b3), .val (.ref b32), .val (.int n1), .val (.int n2), .val (.long v75s0), .second, .val (.int (((p6.toUInt32 >>> ((5 : Int32) &&& 31).toUInt32).toInt32) &&& (3 : Int32))), .val (.long v108s0), .second, .val (.ref b66), .val (.ref b195), .val (.ref b202), .val (.ref b209), .val (.int (fn14 n1 n1 (fun i => u2 (((1 : Int32)).toNatClampNeg + i)) (oupd (oupd (oupd (fun _ => (0 : Int64)) 0 q4) 1 q5) 2 (q4 ^^^ (-1 : Int64))))), .val (.int (fn14 n2 n2 (fun i => u2 (((us + (1 : Int32))).toNatClampNeg + i)) (oupd (oupd (oupd (fun _ => (0 : Int64)) 0 q5) 1 q4) 2 (q4 ^^^ q5)))), .val (.int (fn14 n2 n2 (fun i => u2 (((us + (1 : Int32))).toNatClampNeg + i)) (oupd (oupd (oupd (fun _ => (0 : Int64)) 0 q5) 1 q4) 2 (q4 ^^^ q5))))] [(.int (fn14 n2 n2 (fun i => u2 (((us + (1 : Int32))).toNatClampNeg + i)) (oupd (oupd (oupd (fun _ => (0 : Int64)) 0 q5) 1 q4) 2 (q4 ^^^ q5))))]))
              refine Till.ifc (pc' := 281) X222.here hx (hb hby at_274) (by decide) (by decide) (fun q => ?_) (fun q => ?_)
              · have hc227 := (hEq.1 q)
                show Till p e below s (Q0 Z q1 q2 q3 q4 q5 p6 h0 n0) room_1.cells room_1.slots (T220.setTop (mkF m 281 #[.val (.long q1), .second, .val (.long q2), .second, .val (.long q3), .second, .val (.long q4), .second, .val (.long q5), .second, .val (.int p6), .val (.ref b3), .val (.ref b32), .val (.int n1), .val (.int n2), .val (.long v75s0), .second, .val (.int (((p6.toUInt32 >>> ((5 : Int32) &&& 31).toUInt32).toInt32) &&& (3 : Int32))), .val (.long v108s0), .second, .val (.ref b66), .val (.ref b195), .val (.ref b202), .val (.ref b209), .val (.int (fn14 n1 n1 (fun i => u2 (((1 : Int32)).toNatClampNeg + i)) (oupd (oupd (oupd (fun _ => (0 : Int64)) 0 q4) 1 q5) 2 (q4 ^^^ (-1 : Int64))))), .val (.int (fn14 n2 n2 (fun i => u2 (((us + (1 : Int32))).toNatClampNeg + i)) (oupd (oupd (oupd (fun _ => (0 : Int64)) 0 q5) 1 q4) 2 (q4 ^^^ q5)))), .val (.int (fn14 n2 n2 (fun i => u2 (((us + (1 : Int32))).toNatClampNeg + i)) (oupd (oupd (oupd (fun _ => (0 : Int64)) 0 q5) 1 q4) 2 (q4 ^^^ q5))))] []))
                refine Till.pre (fun _ hr => XS.iconst X222.here hx rfl (hb hby at_281) hr) ?_
                show Till p e below s (Q0 Z q1 q2 q3 q4 q5 p6 h0 n0) room_1.cells room_1.slots (T220.setTop (mkF m 282 #[.val (.long q1), .second, .val (.long q2), .second, .val (.long q3), .second, .val (.long q4), .second, .val (.long q5), .second, .val (.int p6), .val (.ref b3), .val (.ref b32), .val (.int n1), .val (.int n2), .val (.long v75s0), .second, .val (.int (((p6.toUInt32 >>> ((5 : Int32) &&& 31).toUInt32).toInt32) &&& (3 : Int32))), .val (.long v108s0), .second, .val (.ref b66), .val (.ref b195), .val (.ref b202), .val (.ref b209), .val (.int (fn14 n1 n1 (fun i => u2 (((1 : Int32)).toNatClampNeg + i)) (oupd (oupd (oupd (fun _ => (0 : Int64)) 0 q4) 1 q5) 2 (q4 ^^^ (-1 : Int64))))), .val (.int (fn14 n2 n2 (fun i => u2 (((us + (1 : Int32))).toNatClampNeg + i)) (oupd (oupd (oupd (fun _ => (0 : Int64)) 0 q5) 1 q4) 2 (q4 ^^^ q5)))), .val (.int (fn14 n2 n2 (fun i => u2 (((us + (1 : Int32))).toNatClampNeg + i)) (oupd (oupd (oupd (fun _ => (0 : Int64)) 0 q5) 1 q4) 2 (q4 ^^^ q5))))] [(.int (0 : Int32))]))
                exact J282_227 _ (Eq.symm ((if_neg hc225).trans ((if_neg hc226).trans (if_pos hc227))))
              · have hc227 := (hEq.2.1 q)
                show Till p e below s (Q0 Z q1 q2 q3 q4 q5 p6 h0 n0) room_1.cells room_1.slots (T220.setTop (mkF m 277 #[.val (.long q1), .second, .val (.long q2), .second, .val (.long q3), .second, .val (.long q4), .second, .val (.long q5), .second, .val (.int p6), .val (.ref b3), .val (.ref b32), .val (.int n1), .val (.int n2), .val (.long v75s0), .second, .val (.int (((p6.toUInt32 >>> ((5 : Int32) &&& 31).toUInt32).toInt32) &&& (3 : Int32))), .val (.long v108s0), .second, .val (.ref b66), .val (.ref b195), .val (.ref b202), .val (.ref b209), .val (.int (fn14 n1 n1 (fun i => u2 (((1 : Int32)).toNatClampNeg + i)) (oupd (oupd (oupd (fun _ => (0 : Int64)) 0 q4) 1 q5) 2 (q4 ^^^ (-1 : Int64))))), .val (.int (fn14 n2 n2 (fun i => u2 (((us + (1 : Int32))).toNatClampNeg + i)) (oupd (oupd (oupd (fun _ => (0 : Int64)) 0 q5) 1 q4) 2 (q4 ^^^ q5)))), .val (.int (fn14 n2 n2 (fun i => u2 (((us + (1 : Int32))).toNatClampNeg + i)) (oupd (oupd (oupd (fun _ => (0 : Int64)) 0 q5) 1 q4) 2 (q4 ^^^ q5))))] []))
                refine Till.pre (fun _ hr => XS.iconst X222.here hx rfl (hb hby at_277) hr) ?_
                show Till p e below s (Q0 Z q1 q2 q3 q4 q5 p6 h0 n0) room_1.cells room_1.slots (T220.setTop (mkF m 278 #[.val (.long q1), .second, .val (.long q2), .second, .val (.long q3), .second, .val (.long q4), .second, .val (.long q5), .second, .val (.int p6), .val (.ref b3), .val (.ref b32), .val (.int n1), .val (.int n2), .val (.long v75s0), .second, .val (.int (((p6.toUInt32 >>> ((5 : Int32) &&& 31).toUInt32).toInt32) &&& (3 : Int32))), .val (.long v108s0), .second, .val (.ref b66), .val (.ref b195), .val (.ref b202), .val (.ref b209), .val (.int (fn14 n1 n1 (fun i => u2 (((1 : Int32)).toNatClampNeg + i)) (oupd (oupd (oupd (fun _ => (0 : Int64)) 0 q4) 1 q5) 2 (q4 ^^^ (-1 : Int64))))), .val (.int (fn14 n2 n2 (fun i => u2 (((us + (1 : Int32))).toNatClampNeg + i)) (oupd (oupd (oupd (fun _ => (0 : Int64)) 0 q5) 1 q4) 2 (q4 ^^^ q5)))), .val (.int (fn14 n2 n2 (fun i => u2 (((us + (1 : Int32))).toNatClampNeg + i)) (oupd (oupd (oupd (fun _ => (0 : Int64)) 0 q5) 1 q4) 2 (q4 ^^^ q5))))] [(.int (1 : Int32))]))
                refine Till.pre (fun _ hr => XS.goto X222.here hx rfl (pc0 := 278) (pc' := 282) rfl (hb hby at_278) (by decide) (by decide) hr) ?_
                show Till p e below s (Q0 Z q1 q2 q3 q4 q5 p6 h0 n0) room_1.cells room_1.slots (T220.setTop (mkF m 282 #[.val (.long q1), .second, .val (.long q2), .second, .val (.long q3), .second, .val (.long q4), .second, .val (.long q5), .second, .val (.int p6), .val (.ref b3), .val (.ref b32), .val (.int n1), .val (.int n2), .val (.long v75s0), .second, .val (.int (((p6.toUInt32 >>> ((5 : Int32) &&& 31).toUInt32).toInt32) &&& (3 : Int32))), .val (.long v108s0), .second, .val (.ref b66), .val (.ref b195), .val (.ref b202), .val (.ref b209), .val (.int (fn14 n1 n1 (fun i => u2 (((1 : Int32)).toNatClampNeg + i)) (oupd (oupd (oupd (fun _ => (0 : Int64)) 0 q4) 1 q5) 2 (q4 ^^^ (-1 : Int64))))), .val (.int (fn14 n2 n2 (fun i => u2 (((us + (1 : Int32))).toNatClampNeg + i)) (oupd (oupd (oupd (fun _ => (0 : Int64)) 0 q5) 1 q4) 2 (q4 ^^^ q5)))), .val (.int (fn14 n2 n2 (fun i => u2 (((us + (1 : Int32))).toNatClampNeg + i)) (oupd (oupd (oupd (fun _ => (0 : Int64)) 0 q5) 1 q4) 2 (q4 ^^^ q5))))] [(.int (1 : Int32))]))
                exact J282_227 _ (Eq.symm ((if_neg hc225).trans ((if_neg hc226).trans (if_neg hc227))))
        · by_cases hC : v108s0 = q1
          · skip
            show Till p e below s (Q0 Z q1 q2 q3 q4 q5 p6 h0 n0) room_1.cells room_1.slots (T102.setTop (mkF m 140 #[.val (.long q1), .second, .val (.long q2), .second, .val (.long q3), .second, .val (.long q4), .second, .val (.long q5), .second, .val (.int p6), .val (.ref b3), .val (.ref b32), .val (.int n1), .val (.int n2), .val (.long v75s0), .second, .val (.int (((p6.toUInt32 >>> ((5 : Int32) &&& 31).toUInt32).toInt32) &&& (3 : Int32))), .val (.long v108s0), .second, .val (.ref b66), .unset, .unset, .unset, .unset, .unset, .unset] []))
            refine Till.pre (fun _ hr => XS.aload X104.here hx rfl (hb hby at_140) rfl rfl hr) ?_
            show Till p e below s (Q0 Z q1 q2 q3 q4 q5 p6 h0 n0) room_1.cells room_1.slots (T102.setTop (mkF m 142 #[.val (.long q1), .second, .val (.long q2), .second, .val (.long q3), .second, .val (.long q4), .second, .val (.long q5), .second, .val (.int p6), .val (.ref b3), .val (.ref b32), .val (.int n1), .val (.int n2), .val (.long v75s0), .second, .val (.int (((p6.toUInt32 >>> ((5 : Int32) &&& 31).toUInt32).toInt32) &&& (3 : Int32))), .val (.long v108s0), .second, .val (.ref b66), .unset, .unset, .unset, .unset, .unset, .unset] [(.ref b66)]))
            refine Till.pre (fun _ hr => XS.lloadN X104.here hx rfl (hb hby at_142) rfl hr) ?_
            show Till p e below s (Q0 Z q1 q2 q3 q4 q5 p6 h0 n0) room_1.cells room_1.slots (T102.setTop (mkF m 143 #[.val (.long q1), .second, .val (.long q2), .second, .val (.long q3), .second, .val (.long q4), .second, .val (.long q5), .second, .val (.int p6), .val (.ref b3), .val (.ref b32), .val (.int n1), .val (.int n2), .val (.long v75s0), .second, .val (.int (((p6.toUInt32 >>> ((5 : Int32) &&& 31).toUInt32).toInt32) &&& (3 : Int32))), .val (.long v108s0), .second, .val (.ref b66), .unset, .unset, .unset, .unset, .unset, .unset] [(.long q1), (.ref b66)]))
            refine Till.callV (rm8_s l Z a0 hw b66 q1 b83 b85 b86 b84 (us + ((1 : Int32) + n2)) w108 f106 g107 u2 2 (own_um (own_um (fun _ => own_ABS) q1 (0 : Int32).toInt64) v75s0 us.toInt64) (0 : Int32) n1 T102.heap n0 Zs R_b66 R_b83 R_b85 R_b86 R_b84 ne_b66_b83 ne_b66_b85 ne_b66_b86 ne_b66_b84 ne_b83_b85 ne_b83_b86 ne_b83_b84 ne_b85_b86 (Ne.symm ne_b84_b85) (Ne.symm ne_b84_b86) (tb109) (by decide) (own_mB hA) (by decide) (own_c1 hu_us (own_n4 hu_n1) hu_u1 hu_u2) (own_n4 hu_n1)) R_b66.1 X104 hx hZ hown (hw _ (List.mem_of_getElem? (i := 60) rfl)) (hw _ (List.mem_of_getElem? (i := 61) rfl)) (hw _ (List.mem_of_getElem? (i := 63) rfl)) (hw _ (List.mem_of_getElem? (i := 62) rfl)) (hw _ (List.mem_of_getElem? (i := 4) rfl)) (hw _ (List.mem_of_getElem? (i := 64) rfl)) (by decide) (by decide) (W := 0) (by decide) (by rw [hml]; rfl) (a := b66) (argsL := [(.long q1)]) (rest := []) (lenOf pd0_6 rfl) rfl rfl (Nat.le_of_eq rfl) (hb hby at_143) rfl (by decide) (by decide) ?_
            rintro _ T229 L230 X231 ⟨b235, rfl, N232, K233, szq_b235, q234⟩
            have N232 := Fr.app N105 N232
            have ne_b3_b235 : b3 ≠ b235 := Nat.ne_of_lt (Nat.lt_of_lt_of_le R_b3.lt szq_b235)
            have ne_b32_b235 : b32 ≠ b235 := Nat.ne_of_lt (Nat.lt_of_lt_of_le R_b32.lt szq_b235)
            have ne_b66_b235 : b66 ≠ b235 := Nat.ne_of_lt (Nat.lt_of_lt_of_le R_b66.lt szq_b235)
            have ne_b83_b235 : b83 ≠ b235 := Nat.ne_of_lt (Nat.lt_of_lt_of_le R_b83.lt szq_b235)
            have ne_b84_b235 : b84 ≠ b235 := Nat.ne_of_lt (Nat.lt_of_lt_of_le R_b84.lt szq_b235)
            have ne_b85_b235 : b85 ≠ b235 := Nat.ne_of_lt (Nat.lt_of_lt_of_le R_b85.lt szq_b235)
            have ne_b86_b235 : b86 ≠ b235 := Nat.ne_of_lt (Nat.lt_of_lt_of_le R_b86.lt szq_b235)
            have g_b235 : n0 ≤ b235 := Nat.le_trans Zs szq_b235
            have R_b3 := R_b3.keep K233 nin0
            have R_b32 := R_b32.keep K233 nin0
            have R_b66 := R_b66.keep K233 nin0
            have R_b83 := R_b83.keep K233 nin0
            have R_b84 := R_b84.keep K233 nin0
            have R_b85 := R_b85.keep K233 nin0
            have R_b86 := R_b86.keep K233 nin0
            have Zs := Nat.le_trans Zs K233.1
            have R_b235 : LA Z T229.heap b235 n1 (fun i => u2 (((1 : Int32)).toNatClampNeg + i)) := q234
            show Till p e below s (Q0 Z q1 q2 q3 q4 q5 p6 h0 n0) room_1.cells room_1.slots (T229.setTop (mkF m 146 #[.val (.long q1), .second, .val (.long q2), .second, .val (.long q3), .second, .val (.long q4), .second, .val (.long q5), .second, .val (.int p6), .val (.ref b3), .val (.ref b32), .val (.int n1), .val (.int n2), .val (.long v75s0), .second, .val (.int (((p6.toUInt32 >>> ((5 : Int32) &&& 31).toUInt32).toInt32) &&& (3 : Int32))), .val (.long v108s0), .second, .val (.ref b66), .unset, .unset, .unset, .unset, .unset, .unset] [(.ref b235)]))
            refine Till.pre (fun _ hr => XS.astore X231.here hx rfl (hb hby at_146) rfl rfl (l' := #[.val (.long q1), .second, .val (.long q2), .second, .val (.long q3), .second, .val (.long q4), .second, .val (.long q5), .second, .val (.int p6), .val (.ref b3), .val (.ref b32), .val (.int n1), .val (.int n2), .val (.long v75s0), .second, .val (.int (((p6.toUInt32 >>> ((5 : Int32) &&& 31).toUInt32).toInt32) &&& (3 : Int32))), .val (.long v108s0), .second, .val (.ref b66), .val (.ref b235), .unset, .unset, .unset, .unset, .unset]) rfl hr) ?_
            show Till p e below s (Q0 Z q1 q2 q3 q4 q5 p6 h0 n0) room_1.cells room_1.slots (T229.setTop (mkF m 148 #[.val (.long q1), .second, .val (.long q2), .second, .val (.long q3), .second, .val (.long q4), .second, .val (.long q5), .second, .val (.int p6), .val (.ref b3), .val (.ref b32), .val (.int n1), .val (.int n2), .val (.long v75s0), .second, .val (.int (((p6.toUInt32 >>> ((5 : Int32) &&& 31).toUInt32).toInt32) &&& (3 : Int32))), .val (.long v108s0), .second, .val (.ref b66), .val (.ref b235), .unset, .unset, .unset, .unset, .unset] []))
            refine Till.pre (fun _ hr => XS.aload X231.here hx rfl (hb hby at_148) rfl rfl hr) ?_
            show Till p e below s (Q0 Z q1 q2 q3 q4 q5 p6 h0 n0) room_1.cells room_1.slots (T229.setTop (mkF m 150 #[.val (.long q1), .second, .val (.long q2), .second, .val (.long q3), .second, .val (.long q4), .second, .val (.long q5), .second, .val (.int p6), .val (.ref b3), .val (.ref b32), .val (.int n1), .val (.int n2), .val (.long v75s0), .second, .val (.int (((p6.toUInt32 >>> ((5 : Int32) &&& 31).toUInt32).toInt32) &&& (3 : Int32))), .val (.long v108s0), .second, .val (.ref b66), .val (.ref b235), .unset, .unset, .unset, .unset, .unset] [(.ref b66)]))
            refine Till.pre (fun _ hr => XS.lload X231.here hx rfl (hb hby at_150) rfl hr) ?_
            show Till p e below s (Q0 Z q1 q2 q3 q4 q5 p6 h0 n0) room_1.cells room_1.slots (T229.setTop (mkF m 152 #[.val (.long q1), .second, .val (.long q2), .second, .val (.long q3), .second, .val (.long q4), .second, .val (.long q5), .second, .val (.int p6), .val (.ref b3), .val (.ref b32), .val (.int n1), .val (.int n2), .val (.long v75s0), .second, .val (.int (((p6.toUInt32 >>> ((5 : Int32) &&& 31).toUInt32).toInt32) &&& (3 : Int32))), .val (.long v108s0), .second, .val (.ref b66), .val (.ref b235), .unset, .unset, .unset, .unset, .unset] [(.long v75s0), (.ref b66)]))
            refine Till.callV (rm8_s l Z a0 hw b66 v75s0 b83 b85 b86 b84 (us + ((1 : Int32) + n2)) w108 f106 g107 u2 2 (own_um (own_um (fun _ => own_ABS) q1 (0 : Int32).toInt64) v75s0 us.toInt64) us n2 T229.heap n0 Zs R_b66 R_b83 R_b85 R_b86 R_b84 ne_b66_b83 ne_b66_b85 ne_b66_b86 ne_b66_b84 ne_b83_b85 ne_b83_b86 ne_b83_b84 ne_b85_b86 (Ne.symm ne_b84_b85) (Ne.symm ne_b84_b86) (tb109) (by decide) (own_m2) (own_us hu_us (own_n4 hu_n1)) (own_c2 hu_us (own_n4 hu_n1) hu_u2) (own_n4 hu_n2)) R_b66.1 X231 hx hZ hown (hw _ (List.mem_of_getElem? (i := 60) rfl)) (hw _ (List.mem_of_getElem? (i := 61) rfl)) (hw _ (List.mem_of_getElem? (i := 63) rfl)) (hw _ (List.mem_of_getElem? (i := 62) rfl)) (hw _ (List.mem_of_getElem? (i := 4) rfl)) (hw _ (List.mem_of_getElem? (i := 64) rfl)) (by decide) (by decide) (W := 0) (by decide) (by rw [hml]; rfl) (a := b66) (argsL := [(.long v75s0)]) (rest := []) (lenOf pd0_6 rfl) rfl rfl (Nat.le_of_eq rfl) (hb hby at_152) rfl (by decide) (by decide) ?_
            rintro _ T236 L237 X238 ⟨b242, rfl, N239, K240, szq_b242, q241⟩
            have N239 := Fr.app N232 N239
            have ne_b3_b242 : b3 ≠ b242 := Nat.ne_of_lt (Nat.lt_of_lt_of_le R_b3.lt szq_b242)
            have ne_b32_b242 : b32 ≠ b242 := Nat.ne_of_lt (Nat.lt_of_lt_of_le R_b32.lt szq_b242)
            have ne_b66_b242 : b66 ≠ b242 := Nat.ne_of_lt (Nat.lt_of_lt_of_le R_b66.lt szq_b242)
            have ne_b83_b242 : b83 ≠ b242 := Nat.ne_of_lt (Nat.lt_of_lt_of_le R_b83.lt szq_b242)
            have ne_b84_b242 : b84 ≠ b242 := Nat.ne_of_lt (Nat.lt_of_lt_of_le R_b84.lt szq_b242)
            have ne_b85_b242 : b85 ≠ b242 := Nat.ne_of_lt (Nat.lt_of_lt_of_le R_b85.lt szq_b242)
            have ne_b86_b242 : b86 ≠ b242 := Nat.ne_of_lt (Nat.lt_of_lt_of_le R_b86.lt szq_b242)
            have ne_b235_b242 : b235 ≠ b242 := Nat.ne_of_lt (Nat.lt_of_lt_of_le R_b235.lt szq_b242)
            have g_b242 : n0 ≤ b242 := Nat.le_trans Zs szq_b242
            have R_b3 := R_b3.keep K240 nin0
            have R_b32 := R_b32.keep K240 nin0
            have R_b66 := R_b66.keep K240 nin0
            have R_b83 := R_b83.keep K240 nin0
            have R_b84 := R_b84.keep K240 nin0
            have R_b85 := R_b85.keep K240 nin0
            have R_b86 := R_b86.keep K240 nin0
            have R_b235 := R_b235.keep K240 nin0
            have Zs := Nat.le_trans Zs K240.1
            have R_b242 : LA Z T236.heap b242 n2 (fun i => u2 (((us + (1 : Int32))).toNatClampNeg + i)) := q241
            show Till p e below s (Q0 Z q1 q2 q3 q4 q5 p6 h0 n0) room_1.cells room_1.slots (T236.setTop (mkF m 155 #[.val (.long q1), .second, .val (.long q2), .second, .val (.long q3), .second, .val (.long q4), .second, .val (.long q5), .second, .val (.int p6), .val (.ref b3), .val (.ref b32), .val (.int n1), .val (.int n2), .val (.long v75s0), .second, .val (.int (((p6.toUInt32 >>> ((5 : Int32) &&& 31).toUInt32).toInt32) &&& (3 : Int32))), .val (.long v108s0), .second, .val (.ref b66), .val (.ref b235), .unset, .unset, .unset, .unset, .unset] [(.ref b242)]))
            refine Till.pre (fun _ hr => XS.astore X238.here hx rfl (hb hby at_155) rfl rfl (l' := #[.val (.long q1), .second, .val (.long q2), .second, .val (.long q3), .second, .val (.long q4), .second, .val (.long q5), .second, .val (.int p6), .val (.ref b3), .val (.ref b32), .val (.int n1), .val (.int n2), .val (.long v75s0), .second, .val (.int (((p6.toUInt32 >>> ((5 : Int32) &&& 31).toUInt32).toInt32) &&& (3 : Int32))), .val (.long v108s0), .second, .val (.ref b66), .val (.ref b235), .val (.ref b242), .unset, .unset, .unset, .unset]) rfl hr) ?_
            show Till p e below s (Q0 Z q1 q2 q3 q4 q5 p6 h0 n0) room_1.cells room_1.slots (T236.setTop (mkF m 157 #[.val (.long q1), .second, .val (.long q2), .second, .val (.long q3), .second, .val (.long q4), .second, .val (.long q5), .second, .val (.int p6), .val (.ref b3), .val (.ref b32), .val (.int n1), .val (.int n2), .val (.long v75s0), .second, .val (.int (((p6.toUInt32 >>> ((5 : Int32) &&& 31).toUInt32).toInt32) &&& (3 : Int32))), .val (.long v108s0), .second, .val (.ref b66), .val (.ref b235), .val (.ref b242), .unset, .unset, .unset, .unset] []))
            refine Till.pre (fun _ hr => XS.aload X238.here hx rfl (hb hby at_157) rfl rfl hr) ?_
            show Till p e below s (Q0 Z q1 q2 q3 q4 q5 p6 h0 n0) room_1.cells room_1.slots (T236.setTop (mkF m 159 #[.val (.long q1), .second, .val (.long q2), .second, .val (.long q3), .second, .val (.long q4), .second, .val (.long q5), .second, .val (.int p6), .val (.ref b3), .val (.ref b32), .val (.int n1), .val (.int n2), .val (.long v75s0), .second, .val (.int (((p6.toUInt32 >>> ((5 : Int32) &&& 31).toUInt32).toInt32) &&& (3 : Int32))), .val (.long v108s0), .second, .val (.ref b66), .val (.ref b235), .val (.ref b242), .unset, .unset, .unset, .unset] [(.ref b66)]))
            refine Till.pre (fun _ hr => XS.lload X238.here hx rfl (hb hby at_159) rfl hr) ?_
            show Till p e below s (Q0 Z q1 q2 q3 q4 q5 p6 h0 n0) room_1.cells room_1.slots (T236.setTop (mkF m 161 #[.val (.long q1), .second, .val (.long q2), .second, .val (.long q3), .second, .val (.long q4), .second, .val (.long q5), .second, .val (.int p6), .val (.ref b3), .val (.ref b32), .val (.int n1), .val (.int n2), .val (.long v75s0), .second, .val (.int (((p6.toUInt32 >>> ((5 : Int32) &&& 31).toUInt32).toInt32) &&& (3 : Int32))), .val (.long v108s0), .second, .val (.ref b66), .val (.ref b235), .val (.ref b242), .unset, .unset, .unset, .unset] [(.long v108s0), (.ref b66)]))
            refine Till.callV (rm8_s l Z a0 hw b66 v108s0 b83 b85 b86 b84 (us + ((1 : Int32) + n2)) w108 f106 g107 u2 2 (own_um (own_um (fun _ => own_ABS) q1 (0 : Int32).toInt64) v75s0 us.toInt64) (0 : Int32) n1 T236.heap n0 Zs R_b66 R_b83 R_b85 R_b86 R_b84 ne_b66_b83 ne_b66_b85 ne_b66_b86 ne_b66_b84 ne_b83_b85 ne_b83_b86 ne_b83_b84 ne_b85_b86 (Ne.symm ne_b84_b85) (Ne.symm ne_b84_b86) (tb109) (by decide) (own_m3C hB hC) (by decide) (own_c1 hu_us (own_n4 hu_n1) hu_u1 hu_u2) (own_n4 hu_n1)) R_b66.1 X238 hx hZ hown (hw _ (List.mem_of_getElem? (i := 60) rfl)) (hw _ (List.mem_of_getElem? (i := 61) rfl)) (hw _ (List.mem_of_getElem? (i := 63) rfl)) (hw _ (List.mem_of_getElem? (i := 62) rfl)) (hw _ (List.mem_of_getElem? (i := 4) rfl)) (hw _ (List.mem_of_getElem? (i := 64) rfl)) (by decide) (by decide) (W := 0) (by decide) (by rw [hml]; rfl) (a := b66) (argsL := [(.long v108s0)]) (rest := []) (lenOf pd0_6 rfl) rfl rfl (Nat.le_of_eq rfl) (hb hby at_161) rfl (by decide) (by decide) ?_
            rintro _ T243 L244 X245 ⟨b249, rfl, N246, K247, szq_b249, q248⟩
            have N246 := Fr.app N239 N246
            have ne_b3_b249 : b3 ≠ b249 := Nat.ne_of_lt (Nat.lt_of_lt_of_le R_b3.lt szq_b249)
            have ne_b32_b249 : b32 ≠ b249 := Nat.ne_of_lt (Nat.lt_of_lt_of_le R_b32.lt szq_b249)
            have ne_b66_b249 : b66 ≠ b249 := Nat.ne_of_lt (Nat.lt_of_lt_of_le R_b66.lt szq_b249)
            have ne_b83_b249 : b83 ≠ b249 := Nat.ne_of_lt (Nat.lt_of_lt_of_le R_b83.lt szq_b249)
            have ne_b84_b249 : b84 ≠ b249 := Nat.ne_of_lt (Nat.lt_of_lt_of_le R_b84.lt szq_b249)
            have ne_b85_b249 : b85 ≠ b249 := Nat.ne_of_lt (Nat.lt_of_lt_of_le R_b85.lt szq_b249)
            have ne_b86_b249 : b86 ≠ b249 := Nat.ne_of_lt (Nat.lt_of_lt_of_le R_b86.lt szq_b249)
            have ne_b235_b249 : b235 ≠ b249 := Nat.ne_of_lt (Nat.lt_of_lt_of_le R_b235.lt szq_b249)
            have ne_b242_b249 : b242 ≠ b249 := Nat.ne_of_lt (Nat.lt_of_lt_of_le R_b242.lt szq_b249)
            have g_b249 : n0 ≤ b249 := Nat.le_trans Zs szq_b249
            have R_b3 := R_b3.keep K247 nin0
            have R_b32 := R_b32.keep K247 nin0
            have R_b66 := R_b66.keep K247 nin0
            have R_b83 := R_b83.keep K247 nin0
            have R_b84 := R_b84.keep K247 nin0
            have R_b85 := R_b85.keep K247 nin0
            have R_b86 := R_b86.keep K247 nin0
            have R_b235 := R_b235.keep K247 nin0
            have R_b242 := R_b242.keep K247 nin0
            have Zs := Nat.le_trans Zs K247.1
            have R_b249 : LA Z T243.heap b249 n1 (fun i => u2 (((1 : Int32)).toNatClampNeg + i)) := q248
            show Till p e below s (Q0 Z q1 q2 q3 q4 q5 p6 h0 n0) room_1.cells room_1.slots (T243.setTop (mkF m 164 #[.val (.long q1), .second, .val (.long q2), .second, .val (.long q3), .second, .val (.long q4), .second, .val (.long q5), .second, .val (.int p6), .val (.ref b3), .val (.ref b32), .val (.int n1), .val (.int n2), .val (.long v75s0), .second, .val (.int (((p6.toUInt32 >>> ((5 : Int32) &&& 31).toUInt32).toInt32) &&& (3 : Int32))), .val (.long v108s0), .second, .val (.ref b66), .val (.ref b235), .val (.ref b242), .unset, .unset, .unset, .unset] [(.ref b249)]))
            refine Till.pre (fun _ hr => XS.astore X245.here hx rfl (hb hby at_164) rfl rfl (l' := #[.val (.long q1), .second, .val (.long q2), .second, .val (.long q3), .second, .val (.long q4), .second, .val (.long q5), .second, .val (.int p6), .val (.ref b3), .val (.ref b32), .val (.int n1), .val (.int n2), .val (.long v75s0), .second, .val (.int (((p6.toUInt32 >>> ((5 : Int32) &&& 31).toUInt32).toInt32) &&& (3 : Int32))), .val (.long v108s0), .second, .val (.ref b66), .val (.ref b235), .val (.ref b242), .val (.ref b249), .unset, .unset, .unset]) rfl hr) ?_
            show Till p e below s (Q0 Z q1 q2 q3 q4 q5 p6 h0 n0) room_1.cells room_1.slots (T243.setTop (mkF m 166 #[.val (.long q1), .second, .val (.long q2), .second, .val (.long q3), .second, .val (.long q4), .second, .val (.long q5), .second, .val (.int p6), .val (.ref b3), .val (.ref b32), .val (.int n1), .val (.int n2), .val (.long v75s0), .second, .val (.int (((p6.toUInt32 >>> ((5 : Int32) &&& 31).toUInt32).toInt32) &&& (3 : Int32))), .val (.long v108s0), .second, .val (.ref b66), .val (.ref b235), .val (.ref b242), .val (.ref b249), .unset, .unset, .unset] []))
            refine Till.pre (fun _ hr => XS.lload X245.here hx rfl (hb hby at_166) rfl hr) ?_
            show Till p e below s (Q0 Z q1 q2 q3 q4 q5 p6 h0 n0) room_1.cells room_1.slots (T243.setTop (mkF m 168 #[.val (.long q1), .second, .val (.long q2), .second, .val (.long q3), .second, .val (.long q4), .second, .val (.long q5), .second, .val (.int p6), .val (.ref b3), .val (.ref b32), .val (.int n1), .val (.int n2), .val (.long v75s0), .second, .val (.int (((p6.toUInt32 >>> ((5 : Int32) &&& 31).toUInt32).toInt32) &&& (3 : Int32))), .val (.long v108s0), .second, .val (.ref b66), .val (.ref b235), .val (.ref b242), .val (.ref b249), .unset, .unset, .unset] [(.long v75s0)]))
            refine Till.pre (fun _ hr => XS.lloadN X245.here hx rfl (hb hby at_168) rfl hr) ?_
            show Till p e below s (Q0 Z q1 q2 q3 q4 q5 p6 h0 n0) room_1.cells room_1.slots (T243.setTop (mkF m 169 #[.val (.long q1), .second, .val (.long q2), .second, .val (.long q3), .second, .val (.long q4), .second, .val (.long q5), .second, .val (.int p6), .val (.ref b3), .val (.ref b32), .val (.int n1), .val (.int n2), .val (.long v75s0), .second, .val (.int (((p6.toUInt32 >>> ((5 : Int32) &&& 31).toUInt32).toInt32) &&& (3 : Int32))), .val (.long v108s0), .second, .val (.ref b66), .val (.ref b235), .val (.ref b242), .val (.ref b249), .unset, .unset, .unset] [(.long q1), (.long v75s0)]))
            refine Till.pre (fun _ hr => XS.lcmp X245.here hx rfl (hb hby at_169) rfl hr) ?_
            show Till p e below s (Q0 Z q1 q2 q3 q4 q5 p6 h0 n0) room_1.cells room_1.slots (T243.setTop (mkF m 170 #[.val (.long q1), .second, .val (.long q2), .second, .val (.long q3), .second, .val (.long q4), .second, .val (.long q5), .second, .val (.int p6), .val (.ref b3), .val (.ref b32), .val (.int n1), .val (.int n2), .val (.long v75s0), .second, .val (.int (((p6.toUInt32 >>> ((5 : Int32) &&& 31).toUInt32).toInt32) &&& (3 : Int32))), .val (.long v108s0), .second, .val (.ref b66), .val (.ref b235), .val (.ref b242), .val (.ref b249), .unset, .unset, .unset] [(.int (lcmpW v75s0 q1))]))
            refine Till.ifc (pc' := 185) X245.here hx (hb hby at_170) (by decide) (by decide) (fun q => ?_) (fun q => absurd (lEq.mp (hEq.2.2.2 q)) (hA : ¬ (v75s0 = q1)))
            show Till p e below s (Q0 Z q1 q2 q3 q4 q5 p6 h0 n0) room_1.cells room_1.slots (T243.setTop (mkF m 185 #[.val (.long q1), .second, .val (.long q2), .second, .val (.long q3), .second, .val (.long q4), .second, .val (.long q5), .second, .val (.int p6), .val (.ref b3), .val (.ref b32), .val (.int n1), .val (.int n2), .val (.long v75s0), .second, .val (.int (((p6.toUInt32 >>> ((5 : Int32) &&& 31).toUInt32).toInt32) &&& (3 : Int32))), .val (.long v108s0), .second, .val (.ref b66), .val (.ref b235), .val (.ref b242), .val (.ref b249), .unset, .unset, .unset] []))
            refine Till.pre (fun _ hr => XS.aload X245.here hx rfl (hb hby at_185) rfl rfl hr) ?_
            show Till p e below s (Q0 Z q1 q2 q3 q4 q5 p6 h0 n0) room_1.cells room_1.slots (T243.setTop (mkF m 187 #[.val (.long q1), .second, .val (.long q2), .second, .val (.long q3), .second, .val (.long q4), .second, .val (.long q5), .second, .val (.int p6), .val (.ref b3), .val (.ref b32), .val (.int n1), .val (.int n2), .val (.long v75s0), .second, .val (.int (((p6.toUInt32 >>> ((5 : Int32) &&& 31).toUInt32).toInt32) &&& (3 : Int32))), .val (.long v108s0), .second, .val (.ref b66), .val (.ref b235), .val (.ref b242), .val (.ref b249), .unset, .unset, .unset] [(.ref b235)]))
            refine Till.pre (fun _ hr => XS.aload X245.here hx rfl (hb hby at_187) rfl rfl hr) ?_
            show Till p e below s (Q0 Z q1 q2 q3 q4 q5 p6 h0 n0) room_1.cells room_1.slots (T243.setTop (mkF m 189 #[.val (.long q1), .second, .val (.long q2), .second, .val (.long q3), .second, .val (.long q4), .second, .val (.long q5), .second, .val (.int p6), .val (.ref b3), .val (.ref b32), .val (.int n1), .val (.int n2), .val (.long v75s0), .second, .val (.int (((p6.toUInt32 >>> ((5 : Int32) &&& 31).toUInt32).toInt32) &&& (3 : Int32))), .val (.long v108s0), .second, .val (.ref b66), .val (.ref b235), .val (.ref b242), .val (.ref b249), .unset, .unset, .unset] [(.ref b3), (.ref b235)]))
            refine Till.pre (fun _ hr => XS.iload X245.here hx rfl (hb hby at_189) rfl hr) ?_
            show Till p e below s (Q0 Z q1 q2 q3 q4 q5 p6 h0 n0) room_1.cells room_1.slots (T243.setTop (mkF m 191 #[.val (.long q1), .second, .val (.long q2), .second, .val (.long q3), .second, .val (.long q4), .second, .val (.long q5), .second, .val (.int p6), .val (.ref b3), .val (.ref b32), .val (.int n1), .val (.int n2), .val (.long v75s0), .second, .val (.int (((p6.toUInt32 >>> ((5 : Int32) &&& 31).toUInt32).toInt32) &&& (3 : Int32))), .val (.long v108s0), .second, .val (.ref b66), .val (.ref b235), .val (.ref b242), .val (.ref b249), .unset, .unset, .unset] [(.int n1), (.ref b3), (.ref b235)]))
            refine Till.callS (rm14 l Z a0 hw b235 b3 n1 n1 (fun i => u2 (((1 : Int32)).toNatClampNeg + i)) (oupd (oupd (oupd (fun _ => (0 : Int64)) 0 q4) 1 q5) 2 (q4 ^^^ (-1 : Int64))) T243.heap n0 R_b235 R_b3) X245 hx hZ hown (hw _ (List.mem_of_getElem? (i := 85) rfl)) (hw _ (List.mem_of_getElem? (i := 86) rfl)) (hw _ (List.mem_of_getElem? (i := 87) rfl)) (hw _ (List.mem_of_getElem? (i := 88) rfl)) (by decide) (by decide) (W := 0) (by decide) (by rw [hml]; rfl) (argsL := [(.ref b235), (.ref b3), (.int n1)]) (rest := []) (lenOf pd0_12 rfl) rfl rfl (Nat.le_of_eq rfl) (hb hby at_191) rfl (by decide) (by decide) ?_
            rintro _ T250 L251 X252 ⟨rfl, N253, e254⟩
            have N253 := Fr.app N246 N253
            show Till p e below s (Q0 Z q1 q2 q3 q4 q5 p6 h0 n0) room_1.cells room_1.slots (T250.setTop (mkF m 194 #[.val (.long q1), .second, .val (.long q2), .second, .val (.long q3), .second, .val (.long q4), .second, .val (.long q5), .second, .val (.int p6), .val (.ref b3), .val (.ref b32), .val (.int n1), .val (.int n2), .val (.long v75s0), .second, .val (.int (((p6.toUInt32 >>> ((5 : Int32) &&& 31).toUInt32).toInt32) &&& (3 : Int32))), .val (.long v108s0), .second, .val (.ref b66), .val (.ref b235), .val (.ref b242), .val (.ref b249), .unset, .unset, .unset] [(.int (fn14 n1 n1 (fun i => u2 (((1 : Int32)).toNatClampNeg + i)) (oupd (oupd (oupd (fun _ => (0 : Int64)) 0 q4) 1 q5) 2 (q4 ^^^ (-1 : Int64)))))]))
            refine Till.pre (fun _ hr => XS.istore X252.here hx rfl (hb hby at_194) rfl (l' := #[.val (.long q1), .second, .val (.long q2), .second, .val (.long q3), .second, .val (.long q4), .second, .val (.long q5), .second, .val (.int p6), .val (.ref b3), .val (.ref b32), .val (.int n1), .val (.int n2), .val (.long v75s0), .second, .val (.int (((p6.toUInt32 >>> ((5 : Int32) &&& 31).toUInt32).toInt32) &&& (3 : Int32))), .val (.long v108s0), .second, .val (.ref b66), .val (.ref b235), .val (.ref b242), .val (.ref b249), .val (.int (fn14 n1 n1 (fun i => u2 (((1 : Int32)).toNatClampNeg + i)) (oupd (oupd (oupd (fun _ => (0 : Int64)) 0 q4) 1 q5) 2 (q4 ^^^ (-1 : Int64))))), .unset, .unset]) rfl hr) ?_
            show Till p e below s (Q0 Z q1 q2 q3 q4 q5 p6 h0 n0) room_1.cells room_1.slots (T250.setTop (mkF m 196 #[.val (.long q1), .second, .val (.long q2), .second, .val (.long q3), .second, .val (.long q4), .second, .val (.long q5), .second, .val (.int p6), .val (.ref b3), .val (.ref b32), .val (.int n1), .val (.int n2), .val (.long v75s0), .second, .val (.int (((p6.toUInt32 >>> ((5 : Int32) &&& 31).toUInt32).toInt32) &&& (3 : Int32))), .val (.long v108s0), .second, .val (.ref b66), .val (.ref b235), .val (.ref b242), .val (.ref b249), .val (.int (fn14 n1 n1 (fun i => u2 (((1 : Int32)).toNatClampNeg + i)) (oupd (oupd (oupd (fun _ => (0 : Int64)) 0 q4) 1 q5) 2 (q4 ^^^ (-1 : Int64))))), .unset, .unset] []))
            refine Till.pre (fun _ hr => XS.aload X252.here hx rfl (hb hby at_196) rfl rfl hr) ?_
            show Till p e below s (Q0 Z q1 q2 q3 q4 q5 p6 h0 n0) room_1.cells room_1.slots (T250.setTop (mkF m 198 #[.val (.long q1), .second, .val (.long q2), .second, .val (.long q3), .second, .val (.long q4), .second, .val (.long q5), .second, .val (.int p6), .val (.ref b3), .val (.ref b32), .val (.int n1), .val (.int n2), .val (.long v75s0), .second, .val (.int (((p6.toUInt32 >>> ((5 : Int32) &&& 31).toUInt32).toInt32) &&& (3 : Int32))), .val (.long v108s0), .second, .val (.ref b66), .val (.ref b235), .val (.ref b242), .val (.ref b249), .val (.int (fn14 n1 n1 (fun i => u2 (((1 : Int32)).toNatClampNeg + i)) (oupd (oupd (oupd (fun _ => (0 : Int64)) 0 q4) 1 q5) 2 (q4 ^^^ (-1 : Int64))))), .unset, .unset] [(.ref b242)]))
            refine Till.pre (fun _ hr => XS.aload X252.here hx rfl (hb hby at_198) rfl rfl hr) ?_
            show Till p e below s (Q0 Z q1 q2 q3 q4 q5 p6 h0 n0) room_1.cells room_1.slots (T250.setTop (mkF m 200 #[.val (.long q1), .second, .val (.long q2), .second, .val (.long q3), .second, .val (.long q4), .second, .val (.long q5), .second, .val (.int p6), .val (.ref b3), .val (.ref b32), .val (.int n1), .val (.int n2), .val (.long v75s0), .second, .val (.int (((p6.toUInt32 >>> ((5 : Int32) &&& 31).toUInt32).toInt32) &&& (3 : Int32))), .val (.long v108s0), .second, .val (.ref b66), .val (.ref b235), .val (.ref b242), .val (.ref b249), .val (.int (fn14 n1 n1 (fun i => u2 (((1 : Int32)).toNatClampNeg + i)) (oupd (oupd (oupd (fun _ => (0 : Int64)) 0 q4) 1 q5) 2 (q4 ^^^ (-1 : Int64))))), .unset, .unset] [(.ref b32), (.ref b242)]))
            refine Till.pre (fun _ hr => XS.iload X252.here hx rfl (hb hby at_200) rfl hr) ?_
            show Till p e below s (Q0 Z q1 q2 q3 q4 q5 p6 h0 n0) room_1.cells room_1.slots (T250.setTop (mkF m 202 #[.val (.long q1), .second, .val (.long q2), .second, .val (.long q3), .second, .val (.long q4), .second, .val (.long q5), .second, .val (.int p6), .val (.ref b3), .val (.ref b32), .val (.int n1), .val (.int n2), .val (.long v75s0), .second, .val (.int (((p6.toUInt32 >>> ((5 : Int32) &&& 31).toUInt32).toInt32) &&& (3 : Int32))), .val (.long v108s0), .second, .val (.ref b66), .val (.ref b235), .val (.ref b242), .val (.ref b249), .val (.int (fn14 n1 n1 (fun i => u2 (((1 : Int32)).toNatClampNeg + i)) (oupd (oupd (oupd (fun _ => (0 : Int64)) 0 q4) 1 q5) 2 (q4 ^^^ (-1 : Int64))))), .unset, .unset] [(.int n2), (.ref b32), (.ref b242)]))
            refine Till.callS (rm14 l Z a0 hw b242 b32 n2 n2 (fun i => u2 (((us + (1 : Int32))).toNatClampNeg + i)) (oupd (oupd (oupd (fun _ => (0 : Int64)) 0 q5) 1 q4) 2 (q4 ^^^ q5)) T243.heap n0 R_b242 R_b32) X252 hx hZ hown (hw _ (List.mem_of_getElem? (i := 85) rfl)) (hw _ (List.mem_of_getElem? (i := 86) rfl)) (hw _ (List.mem_of_getElem? (i := 87) rfl)) (hw _ (List.mem_of_getElem? (i := 88) rfl)) (by decide) (by decide) (W := 0) (by decide) (by rw [hml]; rfl) (argsL := [(.ref b242), (.ref b32), (.int n2)]) (rest := []) (lenOf pd0_12 rfl) rfl rfl (Nat.le_of_eq rfl) (hb hby at_202) e254 (by decide) (by decide) ?_
            rintro _ T255 L256 X257 ⟨rfl, N258, e259⟩
            have N258 := Fr.app N253 N258
            show Till p e below s (Q0 Z q1 q2 q3 q4 q5 p6 h0 n0) room_1.cells room_1.slots (T255.setTop (mkF m 205 #[.val (.long q1), .second, .val (.long q2), .second, .val (.long q3), .second, .val (.long q4), .second, .val (.long q5), .second, .val (.int p6), .val (.ref b3), .val (.ref b32), .val (.int n1), .val (.int n2), .val (.long v75s0), .second, .val (.int (((p6.toUInt32 >>> ((5 : Int32) &&& 31).toUInt32).toInt32) &&& (3 : Int32))), .val (.long v108s0), .second, .val (.ref b66), .val (.ref b235), .val (.ref b242), .val (.ref b249), .val (.int (fn14 n1 n1 (fun i => u2 (((1 : Int32)).toNatClampNeg + i)) (oupd (oupd (oupd (fun _ => (0 : Int64)) 0 q4) 1 q5) 2 (q4 ^^^ (-1 : Int64))))), .unset, .unset] [(.int (fn14 n2 n2 (fun i => u2 (((us + (1 : Int32))).toNatClampNeg + i)) (oupd (oupd (oupd (fun _ => (0 : Int64)) 0 q5) 1 q4) 2 (q4 ^^^ q5))))]))
            refine Till.pre (fun _ hr => XS.istore X257.here hx rfl (hb hby at_205) rfl (l' := #[.val (.long q1), .second, .val (.long q2), .second, .val (.long q3), .second, .val (.long q4), .second, .val (.long q5), .second, .val (.int p6), .val (.ref b3), .val (.ref b32), .val (.int n1), .val (.int n2), .val (.long v75s0), .second, .val (.int (((p6.toUInt32 >>> ((5 : Int32) &&& 31).toUInt32).toInt32) &&& (3 : Int32))), .val (.long v108s0), .second, .val (.ref b66), .val (.ref b235), .val (.ref b242), .val (.ref b249), .val (.int (fn14 n1 n1 (fun i => u2 (((1 : Int32)).toNatClampNeg + i)) (oupd (oupd (oupd (fun _ => (0 : Int64)) 0 q4) 1 q5) 2 (q4 ^^^ (-1 : Int64))))), .val (.int (fn14 n2 n2 (fun i => u2 (((us + (1 : Int32))).toNatClampNeg + i)) (oupd (oupd (oupd (fun _ => (0 : Int64)) 0 q5) 1 q4) 2 (q4 ^^^ q5)))), .unset]) rfl hr) ?_
            show Till p e below s (Q0 Z q1 q2 q3 q4 q5 p6 h0 n0) room_1.cells room_1.slots (T255.setTop (mkF m 207 #[.val (.long q1), .second, .val (.long q2), .second, .val (.long q3), .second, .val (.long q4), .second, .val (.long q5), .second, .val (.int p6), .val (.ref b3), .val (.ref b32), .val (.int n1), .val (.int n2), .val (.long v75s0), .second, .val (.int (((p6.toUInt32 >>> ((5 : Int32) &&& 31).toUInt32).toInt32) &&& (3 : Int32))), .val (.long v108s0), .second, .val (.ref b66), .val (.ref b235), .val (.ref b242), .val (.ref b249), .val (.int (fn14 n1 n1 (fun i => u2 (((1 : Int32)).toNatClampNeg + i)) (oupd (oupd (oupd (fun _ => (0 : Int64)) 0 q4) 1 q5) 2 (q4 ^^^ (-1 : Int64))))), .val (.int (fn14 n2 n2 (fun i => u2 (((us + (1 : Int32))).toNatClampNeg + i)) (oupd (oupd (oupd (fun _ => (0 : Int64)) 0 q5) 1 q4) 2 (q4 ^^^ q5)))), .unset] []))
            refine Till.pre (fun _ hr => XS.lload X257.here hx rfl (hb hby at_207) rfl hr) ?_
            show Till p e below s (Q0 Z q1 q2 q3 q4 q5 p6 h0 n0) room_1.cells room_1.slots (T255.setTop (mkF m 209 #[.val (.long q1), .second, .val (.long q2), .second, .val (.long q3), .second, .val (.long q4), .second, .val (.long q5), .second, .val (.int p6), .val (.ref b3), .val (.ref b32), .val (.int n1), .val (.int n2), .val (.long v75s0), .second, .val (.int (((p6.toUInt32 >>> ((5 : Int32) &&& 31).toUInt32).toInt32) &&& (3 : Int32))), .val (.long v108s0), .second, .val (.ref b66), .val (.ref b235), .val (.ref b242), .val (.ref b249), .val (.int (fn14 n1 n1 (fun i => u2 (((1 : Int32)).toNatClampNeg + i)) (oupd (oupd (oupd (fun _ => (0 : Int64)) 0 q4) 1 q5) 2 (q4 ^^^ (-1 : Int64))))), .val (.int (fn14 n2 n2 (fun i => u2 (((us + (1 : Int32))).toNatClampNeg + i)) (oupd (oupd (oupd (fun _ => (0 : Int64)) 0 q5) 1 q4) 2 (q4 ^^^ q5)))), .unset] [(.long v108s0)]))
            refine Till.pre (fun _ hr => XS.lload X257.here hx rfl (hb hby at_209) rfl hr) ?_
            show Till p e below s (Q0 Z q1 q2 q3 q4 q5 p6 h0 n0) room_1.cells room_1.slots (T255.setTop (mkF m 211 #[.val (.long q1), .second, .val (.long q2), .second, .val (.long q3), .second, .val (.long q4), .second, .val (.long q5), .second, .val (.int p6), .val (.ref b3), .val (.ref b32), .val (.int n1), .val (.int n2), .val (.long v75s0), .second, .val (.int (((p6.toUInt32 >>> ((5 : Int32) &&& 31).toUInt32).toInt32) &&& (3 : Int32))), .val (.long v108s0), .second, .val (.ref b66), .val (.ref b235), .val (.ref b242), .val (.ref b249), .val (.int (fn14 n1 n1 (fun i => u2 (((1 : Int32)).toNatClampNeg + i)) (oupd (oupd (oupd (fun _ => (0 : Int64)) 0 q4) 1 q5) 2 (q4 ^^^ (-1 : Int64))))), .val (.int (fn14 n2 n2 (fun i => u2 (((us + (1 : Int32))).toNatClampNeg + i)) (oupd (oupd (oupd (fun _ => (0 : Int64)) 0 q5) 1 q4) 2 (q4 ^^^ q5)))), .unset] [(.long v75s0), (.long v108s0)]))
            refine Till.pre (fun _ hr => XS.lcmp X257.here hx rfl (hb hby at_211) rfl hr) ?_
            show Till p e below s (Q0 Z q1 q2 q3 q4 q5 p6 h0 n0) room_1.cells room_1.slots (T255.setTop (mkF m 212 #[.val (.long q1), .second, .val (.long q2), .second, .val (.long q3), .second, .val (.long q4), .second, .val (.long q5), .second, .val (.int p6), .val (.ref b3), .val (.ref b32), .val (.int n1), .val (.int n2), .val (.long v75s0), .second, .val (.int (((p6.toUInt32 >>> ((5 : Int32) &&& 31).toUInt32).toInt32) &&& (3 : Int32))), .val (.long v108s0), .second, .val (.ref b66), .val (.ref b235), .val (.ref b242), .val (.ref b249), .val (.int (fn14 n1 n1 (fun i => u2 (((1 : Int32)).toNatClampNeg + i)) (oupd (oupd (oupd (fun _ => (0 : Int64)) 0 q4) 1 q5) 2 (q4 ^^^ (-1 : Int64))))), .val (.int (fn14 n2 n2 (fun i => u2 (((us + (1 : Int32))).toNatClampNeg + i)) (oupd (oupd (oupd (fun _ => (0 : Int64)) 0 q5) 1 q4) 2 (q4 ^^^ q5)))), .unset] [(.int (lcmpW v108s0 v75s0))]))
            refine Till.ifc (pc' := 229) X257.here hx (hb hby at_212) (by decide) (by decide) (fun q => ?_) (fun q => absurd (lEq.mp (hEq.2.2.2 q)) (hB : ¬ (v108s0 = v75s0)))
            show Till p e below s (Q0 Z q1 q2 q3 q4 q5 p6 h0 n0) room_1.cells room_1.slots (T255.setTop (mkF m 229 #[.val (.long q1), .second, .val (.long q2), .second, .val (.long q3), .second, .val (.long q4), .second, .val (.long q5), .second, .val (.int p6), .val (.ref b3), .val (.ref b32), .val (.int n1), .val (.int n2), .val (.long v75s0), .second, .val (.int (((p6.toUInt32 >>> ((5 : Int32) &&& 31).toUInt32).toInt32) &&& (3 : Int32))), .val (.long v108s0), .second, .val (.ref b66), .val (.ref b235), .val (.ref b242), .val (.ref b249), .val (.int (fn14 n1 n1 (fun i => u2 (((1 : Int32)).toNatClampNeg + i)) (oupd (oupd (oupd (fun _ => (0 : Int64)) 0 q4) 1 q5) 2 (q4 ^^^ (-1 : Int64))))), .val (.int (fn14 n2 n2 (fun i => u2 (((us + (1 : Int32))).toNatClampNeg + i)) (oupd (oupd (oupd (fun _ => (0 : Int64)) 0 q5) 1 q4) 2 (q4 ^^^ q5)))), .unset] []))
            refine Till.pre (fun _ hr => XS.lload X257.here hx rfl (hb hby at_229) rfl hr) ?_
            show Till p e below s (Q0 Z q1 q2 q3 q4 q5 p6 h0 n0) room_1.cells room_1.slots (T255.setTop (mkF m 231 #[.val (.long q1), .second, .val (.long q2), .second, .val (.long q3), .second, .val (.long q4), .second, .val (.long q5), .second, .val (.int p6), .val (.ref b3), .val (.ref b32), .val (.int n1), .val (.int n2), .val (.long v75s0), .second, .val (.int (((p6.toUInt32 >>> ((5 : Int32) &&& 31).toUInt32).toInt32) &&& (3 : Int32))), .val (.long v108s0), .second, .val (.ref b66), .val (.ref b235), .val (.ref b242), .val (.ref b249), .val (.int (fn14 n1 n1 (fun i => u2 (((1 : Int32)).toNatClampNeg + i)) (oupd (oupd (oupd (fun _ => (0 : Int64)) 0 q4) 1 q5) 2 (q4 ^^^ (-1 : Int64))))), .val (.int (fn14 n2 n2 (fun i => u2 (((us + (1 : Int32))).toNatClampNeg + i)) (oupd (oupd (oupd (fun _ => (0 : Int64)) 0 q5) 1 q4) 2 (q4 ^^^ q5)))), .unset] [(.long v108s0)]))
            refine Till.pre (fun _ hr => XS.lloadN X257.here hx rfl (hb hby at_231) rfl hr) ?_
            show Till p e below s (Q0 Z q1 q2 q3 q4 q5 p6 h0 n0) room_1.cells room_1.slots (T255.setTop (mkF m 232 #[.val (.long q1), .second, .val (.long q2), .second, .val (.long q3), .second, .val (.long q4), .second, .val (.long q5), .second, .val (.int p6), .val (.ref b3), .val (.ref b32), .val (.int n1), .val (.int n2), .val (.long v75s0), .second, .val (.int (((p6.toUInt32 >>> ((5 : Int32) &&& 31).toUInt32).toInt32) &&& (3 : Int32))), .val (.long v108s0), .second, .val (.ref b66), .val (.ref b235), .val (.ref b242), .val (.ref b249), .val (.int (fn14 n1 n1 (fun i => u2 (((1 : Int32)).toNatClampNeg + i)) (oupd (oupd (oupd (fun _ => (0 : Int64)) 0 q4) 1 q5) 2 (q4 ^^^ (-1 : Int64))))), .val (.int (fn14 n2 n2 (fun i => u2 (((us + (1 : Int32))).toNatClampNeg + i)) (oupd (oupd (oupd (fun _ => (0 : Int64)) 0 q5) 1 q4) 2 (q4 ^^^ q5)))), .unset] [(.long q1), (.long v108s0)]))
            refine Till.pre (fun _ hr => XS.lcmp X257.here hx rfl (hb hby at_232) rfl hr) ?_
            show Till p e below s (Q0 Z q1 q2 q3 q4 q5 p6 h0 n0) room_1.cells room_1.slots (T255.setTop (mkF m 233 #[.val (.long q1), .second, .val (.long q2), .second, .val (.long q3), .second, .val (.long q4), .second, .val (.long q5), .second, .val (.int p6), .val (.ref b3), .val (.ref b32), .val (.int n1), .val (.int n2), .val (.long v75s0), .second, .val (.int (((p6.toUInt32 >>> ((5 : Int32) &&& 31).toUInt32).toInt32) &&& (3 : Int32))), .val (.long v108s0), .second, .val (.ref b66), .val (.ref b235), .val (.ref b242), .val (.ref b249), .val (.int (fn14 n1 n1 (fun i => u2 (((1 : Int32)).toNatClampNeg + i)) (oupd (oupd (oupd (fun _ => (0 : Int64)) 0 q4) 1 q5) 2 (q4 ^^^ (-1 : Int64))))), .val (.int (fn14 n2 n2 (fun i => u2 (((us + (1 : Int32))).toNatClampNeg + i)) (oupd (oupd (oupd (fun _ => (0 : Int64)) 0 q5) 1 q4) 2 (q4 ^^^ q5)))), .unset] [(.int (lcmpW v108s0 q1))]))
            refine Till.ifc (pc' := 250) X257.here hx (hb hby at_233) (by decide) (by decide) (fun q => absurd (hC : (v108s0 = q1)) (mt lEq.mpr (hEq.2.2.1 q))) (fun q => ?_)
            show Till p e below s (Q0 Z q1 q2 q3 q4 q5 p6 h0 n0) room_1.cells room_1.slots (T255.setTop (mkF m 236 #[.val (.long q1), .second, .val (.long q2), .second, .val (.long q3), .second, .val (.long q4), .second, .val (.long q5), .second, .val (.int p6), .val (.ref b3), .val (.ref b32), .val (.int n1), .val (.int n2), .val (.long v75s0), .second, .val (.int (((p6.toUInt32 >>> ((5 : Int32) &&& 31).toUInt32).toInt32) &&& (3 : Int32))), .val (.long v108s0), .second, .val (.ref b66), .val (.ref b235), .val (.ref b242), .val (.ref b249), .val (.int (fn14 n1 n1 (fun i => u2 (((1 : Int32)).toNatClampNeg + i)) (oupd (oupd (oupd (fun _ => (0 : Int64)) 0 q4) 1 q5) 2 (q4 ^^^ (-1 : Int64))))), .val (.int (fn14 n2 n2 (fun i => u2 (((us + (1 : Int32))).toNatClampNeg + i)) (oupd (oupd (oupd (fun _ => (0 : Int64)) 0 q5) 1 q4) 2 (q4 ^^^ q5)))), .unset] []))
            refine Till.pre (fun _ hr => XS.aload X257.here hx rfl (hb hby at_236) rfl rfl hr) ?_
            show Till p e below s (Q0 Z q1 q2 q3 q4 q5 p6 h0 n0) room_1.cells room_1.slots (T255.setTop (mkF m 238 #[.val (.long q1), .second, .val (.long q2), .second, .val (.long q3), .second, .val (.long q4), .second, .val (.long q5), .second, .val (.int p6), .val (.ref b3), .val (.ref b32), .val (.int n1), .val (.int n2), .val (.long v75s0), .second, .val (.int (((p6.toUInt32 >>> ((5 : Int32) &&& 31).toUInt32).toInt32) &&& (3 : Int32))), .val (.long v108s0), .second, .val (.ref b66), .val (.ref b235), .val (.ref b242), .val (.ref b249), .val (.int (fn14 n1 n1 (fun i => u2 (((1 : Int32)).toNatClampNeg + i)) (oupd (oupd (oupd (fun _ => (0 : Int64)) 0 q4) 1 q5) 2 (q4 ^^^ (-1 : Int64))))), .val (.int (fn14 n2 n2 (fun i => u2 (((us + (1 : Int32))).toNatClampNeg + i)) (oupd (oupd (oupd (fun _ => (0 : Int64)) 0 q5) 1 q4) 2 (q4 ^^^ q5)))), .unset] [(.ref b249)]))
            refine Till.pre (fun _ hr => XS.aload X257.here hx rfl (hb hby at_238) rfl rfl hr) ?_
            show Till p e below s (Q0 Z q1 q2 q3 q4 q5 p6 h0 n0) room_1.cells room_1.slots (T255.setTop (mkF m 240 #[.val (.long q1), .second, .val (.long q2), .second, .val (.long q3), .second, .val (.long q4), .second, .val (.long q5), .second, .val (.int p6), .val (.ref b3), .val (.ref b32), .val (.int n1), .val (.int n2), .val (.long v75s0), .second, .val (.int (((p6.toUInt32 >>> ((5 : Int32) &&& 31).toUInt32).toInt32) &&& (3 : Int32))), .val (.long v108s0), .second, .val (.ref b66), .val (.ref b235), .val (.ref b242), .val (.ref b249), .val (.int (fn14 n1 n1 (fun i => u2 (((1 : Int32)).toNatClampNeg + i)) (oupd (oupd (oupd (fun _ => (0 : Int64)) 0 q4) 1 q5) 2 (q4 ^^^ (-1 : Int64))))), .val (.int (fn14 n2 n2 (fun i => u2 (((us + (1 : Int32))).toNatClampNeg + i)) (oupd (oupd (oupd (fun _ => (0 : Int64)) 0 q5) 1 q4) 2 (q4 ^^^ q5)))), .unset] [(.ref b3), (.ref b249)]))
            refine Till.pre (fun _ hr => XS.iload X257.here hx rfl (hb hby at_240) rfl hr) ?_
            show Till p e below s (Q0 Z q1 q2 q3 q4 q5 p6 h0 n0) room_1.cells room_1.slots (T255.setTop (mkF m 242 #[.val (.long q1), .second, .val (.long q2), .second, .val (.long q3), .second, .val (.long q4), .second, .val (.long q5), .second, .val (.int p6), .val (.ref b3), .val (.ref b32), .val (.int n1), .val (.int n2), .val (.long v75s0), .second, .val (.int (((p6.toUInt32 >>> ((5 : Int32) &&& 31).toUInt32).toInt32) &&& (3 : Int32))), .val (.long v108s0), .second, .val (.ref b66), .val (.ref b235), .val (.ref b242), .val (.ref b249), .val (.int (fn14 n1 n1 (fun i => u2 (((1 : Int32)).toNatClampNeg + i)) (oupd (oupd (oupd (fun _ => (0 : Int64)) 0 q4) 1 q5) 2 (q4 ^^^ (-1 : Int64))))), .val (.int (fn14 n2 n2 (fun i => u2 (((us + (1 : Int32))).toNatClampNeg + i)) (oupd (oupd (oupd (fun _ => (0 : Int64)) 0 q5) 1 q4) 2 (q4 ^^^ q5)))), .unset] [(.int n1), (.ref b3), (.ref b249)]))
            refine Till.callS (rm14 l Z a0 hw b249 b3 n1 n1 (fun i => u2 (((1 : Int32)).toNatClampNeg + i)) (oupd (oupd (oupd (fun _ => (0 : Int64)) 0 q4) 1 q5) 2 (q4 ^^^ (-1 : Int64))) T243.heap n0 R_b249 R_b3) X257 hx hZ hown (hw _ (List.mem_of_getElem? (i := 85) rfl)) (hw _ (List.mem_of_getElem? (i := 86) rfl)) (hw _ (List.mem_of_getElem? (i := 87) rfl)) (hw _ (List.mem_of_getElem? (i := 88) rfl)) (by decide) (by decide) (W := 0) (by decide) (by rw [hml]; rfl) (argsL := [(.ref b249), (.ref b3), (.int n1)]) (rest := []) (lenOf pd0_12 rfl) rfl rfl (Nat.le_of_eq rfl) (hb hby at_242) e259 (by decide) (by decide) ?_
            rintro _ T260 L261 X262 ⟨rfl, N263, e264⟩
            have N263 := Fr.app N258 N263
            show Till p e below s (Q0 Z q1 q2 q3 q4 q5 p6 h0 n0) room_1.cells room_1.slots (T260.setTop (mkF m 245 #[.val (.long q1), .second, .val (.long q2), .second, .val (.long q3), .second, .val (.long q4), .second, .val (.long q5), .second, .val (.int p6), .val (.ref b3), .val (.ref b32), .val (.int n1), .val (.int n2), .val (.long v75s0), .second, .val (.int (((p6.toUInt32 >>> ((5 : Int32) &&& 31).toUInt32).toInt32) &&& (3 : Int32))), .val (.long v108s0), .second, .val (.ref b66), .val (.ref b235), .val (.ref b242), .val (.ref b249), .val (.int (fn14 n1 n1 (fun i => u2 (((1 : Int32)).toNatClampNeg + i)) (oupd (oupd (oupd (fun _ => (0 : Int64)) 0 q4) 1 q5) 2 (q4 ^^^ (-1 : Int64))))), .val (.int (fn14 n2 n2 (fun i => u2 (((us + (1 : Int32))).toNatClampNeg + i)) (oupd (oupd (oupd (fun _ => (0 : Int64)) 0 q5) 1 q4) 2 (q4 ^^^ q5)))), .unset] [(.int (fn14 n1 n1 (fun i => u2 (((1 : Int32)).toNatClampNeg + i)) (oupd (oupd (oupd (fun _ => (0 : Int64)) 0 q4) 1 q5) 2 (q4 ^^^ (-1 : Int64)))))]))
            refine Till.pre (fun _ hr => XS.istore X262.here hx rfl (hb hby at_245) rfl (l' := #[.val (.long q1), .second, .val (.long q2), .second, .val (.long q3), .second, .val (.long q4), .second, .val (.long q5), .second, .val (.int p6), .val (.ref b3), .val (.ref b32), .val (.int n1), .val (.int n2), .val (.long v75s0), .second, .val (.int (((p6.toUInt32 >>> ((5 : Int32) &&& 31).toUInt32).toInt32) &&& (3 : Int32))), .val (.long v108s0), .second, .val (.ref b66), .val (.ref b235), .val (.ref b242), .val (.ref b249), .val (.int (fn14 n1 n1 (fun i => u2 (((1 : Int32)).toNatClampNeg + i)) (oupd (oupd (oupd (fun _ => (0 : Int64)) 0 q4) 1 q5) 2 (q4 ^^^ (-1 : Int64))))), .val (.int (fn14 n2 n2 (fun i => u2 (((us + (1 : Int32))).toNatClampNeg + i)) (oupd (oupd (oupd (fun _ => (0 : Int64)) 0 q5) 1 q4) 2 (q4 ^^^ q5)))), .val (.int (fn14 n1 n1 (fun i => u2 (((1 : Int32)).toNatClampNeg + i)) (oupd (oupd (oupd (fun _ => (0 : Int64)) 0 q4) 1 q5) 2 (q4 ^^^ (-1 : Int64)))))]) rfl hr) ?_
            show Till p e below s (Q0 Z q1 q2 q3 q4 q5 p6 h0 n0) room_1.cells room_1.slots (T260.setTop (mkF m 247 #[.val (.long q1), .second, .val (.long q2), .second, .val (.long q3), .second, .val (.long q4), .second, .val (.long q5), .second, .val (.int p6), .val (.ref b3), .val (.ref b32), .val (.int n1), .val (.int n2), .val (.long v75s0), .second, .val (.int (((p6.toUInt32 >>> ((5 : Int32) &&& 31).toUInt32).toInt32) &&& (3 : Int32))), .val (.long v108s0), .second, .val (.ref b66), .val (.ref b235), .val (.ref b242), .val (.ref b249), .val (.int (fn14 n1 n1 (fun i => u2 (((1 : Int32)).toNatClampNeg + i)) (oupd (oupd (oupd (fun _ => (0 : Int64)) 0 q4) 1 q5) 2 (q4 ^^^ (-1 : Int64))))), .val (.int (fn14 n2 n2 (fun i => u2 (((us + (1 : Int32))).toNatClampNeg + i)) (oupd (oupd (oupd (fun _ => (0 : Int64)) 0 q5) 1 q4) 2 (q4 ^^^ q5)))), .val (.int (fn14 n1 n1 (fun i => u2 (((1 : Int32)).toNatClampNeg + i)) (oupd (oupd (oupd (fun _ => (0 : Int64)) 0 q4) 1 q5) 2 (q4 ^^^ (-1 : Int64)))))] []))
            refine Till.pre (fun _ hr => XS.goto X262.here hx rfl (pc0 := 247) (pc' := 262) rfl (hb hby at_247) (by decide) (by decide) hr) ?_
            show Till p e below s (Q0 Z q1 q2 q3 q4 q5 p6 h0 n0) room_1.cells room_1.slots (T260.setTop (mkF m 262 #[.val (.long q1), .second, .val (.long q2), .second, .val (.long q3), .second, .val (.long q4), .second, .val (.long q5), .second, .val (.int p6), .val (.ref b3), .val (.ref b32), .val (.int n1), .val (.int n2), .val (.long v75s0), .second, .val (.int (((p6.toUInt32 >>> ((5 : Int32) &&& 31).toUInt32).toInt32) &&& (3 : Int32))), .val (.long v108s0), .second, .val (.ref b66), .val (.ref b235), .val (.ref b242), .val (.ref b249), .val (.int (fn14 n1 n1 (fun i => u2 (((1 : Int32)).toNatClampNeg + i)) (oupd (oupd (oupd (fun _ => (0 : Int64)) 0 q4) 1 q5) 2 (q4 ^^^ (-1 : Int64))))), .val (.int (fn14 n2 n2 (fun i => u2 (((us + (1 : Int32))).toNatClampNeg + i)) (oupd (oupd (oupd (fun _ => (0 : Int64)) 0 q5) 1 q4) 2 (q4 ^^^ q5)))), .val (.int (fn14 n1 n1 (fun i => u2 (((1 : Int32)).toNatClampNeg + i)) (oupd (oupd (oupd (fun _ => (0 : Int64)) 0 q4) 1 q5) 2 (q4 ^^^ (-1 : Int64)))))] []))
            refine Till.pre (fun _ hr => XS.iload X262.here hx rfl (hb hby at_262) rfl hr) ?_
            show Till p e below s (Q0 Z q1 q2 q3 q4 q5 p6 h0 n0) room_1.cells room_1.slots (T260.setTop (mkF m 264 #[.val (.long q1), .second, .val (.long q2), .second, .val (.long q3), .second, .val (.long q4), .second, .val (.long q5), .second, .val (.int p6), .val (.ref b3), .val (.ref b32), .val (.int n1), .val (.int n2), .val (.long v75s0), .second, .val (.int (((p6.toUInt32 >>> ((5 : Int32) &&& 31).toUInt32).toInt32) &&& (3 : Int32))), .val (.long v108s0), .second, .val (.ref b66), .val (.ref b235), .val (.ref b242), .val (.ref b249), .val (.int (fn14 n1 n1 (fun i => u2 (((1 : Int32)).toNatClampNeg + i)) (oupd (oupd (oupd (fun _ => (0 : Int64)) 0 q4) 1 q5) 2 (q4 ^^^ (-1 : Int64))))), .val (.int (fn14 n2 n2 (fun i => u2 (((us + (1 : Int32))).toNatClampNeg + i)) (oupd (oupd (oupd (fun _ => (0 : Int64)) 0 q5) 1 q4) 2 (q4 ^^^ q5)))), .val (.int (fn14 n1 n1 (fun i => u2 (((1 : Int32)).toNatClampNeg + i)) (oupd (oupd (oupd (fun _ => (0 : Int64)) 0 q4) 1 q5) 2 (q4 ^^^ (-1 : Int64)))))] [(.int (fn14 n1 n1 (fun i => u2 (((1 : Int32)).toNatClampNeg + i)) (oupd (oupd (oupd (fun _ => (0 : Int64)) 0 q4) 1 q5) 2 (q4 ^^^ (-1 : Int64)))))]))
            have J282_267 : ∀ (v282s0x4 : Int32) (hv282s0x4 : v282s0x4 = (if ((fn14 n1 n1 (fun i => u2 (((1 : Int32)).toNatClampNeg + i)) (oupd (oupd (oupd (fun _ => (0 : Int64)) 0 q4) 1 q5) 2 (q4 ^^^ (-1 : Int64)))) = (0 : Int32)) then (0 : Int32) else (if ((fn14 n2 n2 (fun i => u2 (((us + (1 : Int32))).toNatClampNeg + i)) (oupd (oupd (oupd (fun _ => (0 : Int64)) 0 q5) 1 q4) 2 (q4 ^^^ q5))) = (0 : Int32)) then (0 : Int32) else (if ((fn14 n1 n1 (fun i => u2 (((1 : Int32)).toNatClampNeg + i)) (oupd (oupd (oupd (fun _ => (0 : Int64)) 0 q4) 1 q5) 2 (q4 ^^^ (-1 : Int64)))) = (0 : Int32)) then (0 : Int32) else (1 : Int32))))), Till p e below s (Q0 Z q1 q2 q3 q4 q5 p6 h0 n0) room_1.cells room_1.slots (T260.setTop (mkF m 282 #[.val (.long q1), .second, .val (.long q2), .second, .val (.long q3), .second, .val (.long q4), .second, .val (.long q5), .second, .val (.int p6), .val (.ref b3), .val (.ref b32), .val (.int n1), .val (.int n2), .val (.long v75s0), .second, .val (.int (((p6.toUInt32 >>> ((5 : Int32) &&& 31).toUInt32).toInt32) &&& (3 : Int32))), .val (.long v108s0), .second, .val (.ref b66), .val (.ref b235), .val (.ref b242), .val (.ref b249), .val (.int (fn14 n1 n1 (fun i => u2 (((1 : Int32)).toNatClampNeg + i)) (oupd (oupd (oupd (fun _ => (0 : Int64)) 0 q4) 1 q5) 2 (q4 ^^^ (-1 : Int64))))), .val (.int (fn14 n2 n2 (fun i => u2 (((us + (1 : Int32))).toNatClampNeg + i)) (oupd (oupd (oupd (fun _ => (0 : Int64)) 0 q5) 1 q4) 2 (q4 ^^^ q5)))), .val (.int (fn14 n1 n1 (fun i => u2 (((1 : Int32)).toNatClampNeg + i)) (oupd (oupd (oupd (fun _ => (0 : Int64)) 0 q4) 1 q5) 2 (q4 ^^^ (-1 : Int64)))))] [(.int v282s0x4)])) := by
              intro v282s0x4 hv282s0x4
              show Till p e below s (Q0 Z q1 q2 q3 q4 q5 p6 h0 n0) room_1.cells room_1.slots (T260.setTop (mkF m 282 #[.val (.long q1), .second, .val (.long q2), .second, .val (.long q3), .second, .val (.long q4), .second, .val (.long q5), .second, .val (.int p6), .val (.ref b3), .val (.ref b32), .val (.int n1), .val (.int n2), .val (.long v75s0), .second, .val (.int (((p6.toUInt32 >>> ((5 : Int32) &&& 31).toUInt32).toInt32) &&& (3 : Int32))), .val (.long v108s0), .second, .val (.ref b66), .val (.ref b235), .val (.ref b242), .val (.ref b249), .val (.int (fn14 n1 n1 (fun i => u2 (((1 : Int32)).toNatClampNeg + i)) (oupd (oupd (oupd (fun _ => (0 : Int64)) 0 q4) 1 q5) 2 (q4 ^^^ (-1 : Int64))))), .val (.int (fn14 n2 n2 (fun i => u2 (((us + (1 : Int32))).toNatClampNeg + i)) (oupd (oupd (oupd (fun _ => (0 : Int64)) 0 q5) 1 q4) 2 (q4 ^^^ q5)))), .val (.int (fn14 n1 n1 (fun i => u2 (((1 : Int32)).toNatClampNeg + i)) (oupd (oupd (oupd (fun _ => (0 : Int64)) 0 q4) 1 q5) 2 (q4 ^^^ (-1 : Int64)))))] [(.int v282s0x4)]))
              refine Till.retZ (w := (1 : Int32)) X262 hx hret hlk (hb hby at_282) (by decide) (by decide) (by rw [hv282s0x4, own_s1 hu_us (own_n4 hu_n1) hu_u1 hu_u2, own_s2 hu_us (own_n4 hu_n1) (own_n4 hu_n2) hu_u2]; decide) ?_
              exact ⟨rfl, N263⟩
            refine Till.ifc (pc' := 281) X262.here hx (hb hby at_264) (by decide) (by decide) (fun q => ?_) (fun q => ?_)
            · have hc265 := (hEq.1 q)
              show Till p e below s (Q0 Z q1 q2 q3 q4 q5 p6 h0 n0) room_1.cells room_1.slots (T260.setTop (mkF m 281 #[.val (.long q1), .second, .val (.long q2), .second, .val (.long q3), .second, .val (.long q4), .second, .val (.long q5), .second, .val (.int p6), .val (.ref b3), .val (.ref b32), .val (.int n1), .val (.int n2), .val (.long v75s0), .second, .val (.int (((p6.toUInt32 >>> ((5 : Int32) &&& 31).toUInt32).toInt32) &&& (3 : Int32))), .val (.long v108s0), .second, .val (.ref b66), .val (.ref b235), .val (.ref b242), .val (.ref b249), .val (.int (fn14 n1 n1 (fun i => u2 (((1 : Int32)).toNatClampNeg + i)) (oupd (oupd (oupd (fun _ => (0 : Int64)) 0 q4) 1 q5) 2 (q4 ^^^ (-1 : Int64))))), .val (.int (fn14 n2 n2 (fun i => u2 (((us + (1 : Int32))).toNatClampNeg + i)) (oupd (oupd (oupd (fun _ => (0 : Int64)) 0 q5) 1 q4) 2 (q4 ^^^ q5)))), .val (.int (fn14 n1 n1 (fun i => u2 (((1 : Int32)).toNatClampNeg + i)) (oupd (oupd (oupd (fun _ => (0 : Int64)) 0 q4) 1 q5) 2 (q4 ^^^ (-1 : Int64)))))] []))
              refine Till.pre (fun _ hr => XS.iconst X262.here hx rfl (hb hby at_281) hr) ?_
              show Till p e below s (Q0 Z q1 q2 q3 q4 q5 p6 h0 n0) room_1.cells room_1.slots (T260.setTop (mkF m 282 #[.val (.long q1), .second, .val (.long q2), .second, .val (.long q3), .second, .val (.long q4), .second, .val (.long q5), .second, .val (.int p6), .val (.ref b3), .val (.ref b32), .val (.int n1), .val (.int n2), .val (.long v75s0), .second, .val (.int (((p6.toUInt32 >>> ((5 : Int32) &&& 31).toUInt32).toInt32) &&& (3 : Int32))), .val (.long v108s0), .second, .val (.ref b66), .val (.ref b235), .val (.ref b242), .val (.ref b249), .val (.int (fn14 n1 n1 (fun i => u2 (((1 : Int32)).toNatClampNeg + i)) (oupd (oupd (oupd (fun _ => (0 : Int64)) 0 q4) 1 q5) 2 (q4 ^^^ (-1 : Int64))))), .val (.int (fn14 n2 n2 (fun i => u2 (((us + (1 : Int32))).toNatClampNeg + i)) (oupd (oupd (oupd (fun _ => (0 : Int64)) 0 q5) 1 q4) 2 (q4 ^^^ q5)))), .val (.int (fn14 n1 n1 (fun i => u2 (((1 : Int32)).toNatClampNeg + i)) (oupd (oupd (oupd (fun _ => (0 : Int64)) 0 q4) 1 q5) 2 (q4 ^^^ (-1 : Int64)))))] [(.int (0 : Int32))]))
              exact J282_267 _ (Eq.symm (if_pos hc265))
            · have hc265 := (hEq.2.1 q)
              show Till p e below s (Q0 Z q1 q2 q3 q4 q5 p6 h0 n0) room_1.cells room_1.slots (T260.setTop (mkF m 267 #[.val (.long q1), .second, .val (.long q2), .second, .val (.long q3), .second, .val (.long q4), .second, .val (.long q5), .second, .val (.int p6), .val (.ref b3), .val (.ref b32), .val (.int n1), .val (.int n2), .val (.long v75s0), .second, .val (.int (((p6.toUInt32 >>> ((5 : Int32) &&& 31).toUInt32).toInt32) &&& (3 : Int32))), .val (.long v108s0), .second, .val (.ref b66), .val (.ref b235), .val (.ref b242), .val (.ref b249), .val (.int (fn14 n1 n1 (fun i => u2 (((1 : Int32)).toNatClampNeg + i)) (oupd (oupd (oupd (fun _ => (0 : Int64)) 0 q4) 1 q5) 2 (q4 ^^^ (-1 : Int64))))), .val (.int (fn14 n2 n2 (fun i => u2 (((us + (1 : Int32))).toNatClampNeg + i)) (oupd (oupd (oupd (fun _ => (0 : Int64)) 0 q5) 1 q4) 2 (q4 ^^^ q5)))), .val (.int (fn14 n1 n1 (fun i => u2 (((1 : Int32)).toNatClampNeg + i)) (oupd (oupd (oupd (fun _ => (0 : Int64)) 0 q4) 1 q5) 2 (q4 ^^^ (-1 : Int64)))))] []))
              refine Till.pre (fun _ hr => XS.iload X262.here hx rfl (hb hby at_267) rfl hr) ?_
              show Till p e below s (Q0 Z q1 q2 q3 q4 q5 p6 h0 n0) room_1.cells room_1.slots (T260.setTop (mkF m 269 #[.val (.long q1), .second, .val (.long q2), .second, .val (.long q3), .second, .val (.long q4), .second, .val (.long q5), .second, .val (.int p6), .val (.ref b3), .val (.ref b32), .val (.int n1), .val (.int n2), .val (.long v75s0), .second, .val (.int (((p6.toUInt32 >>> ((5 : Int32) &&& 31).toUInt32).toInt32) &&& (3 : Int32))), .val (.long v108s0), .second, .val (.ref b66), .val (.ref b235), .val (.ref b242), .val (.ref b249), .val (.int (fn14 n1 n1 (fun i => u2 (((1 : Int32)).toNatClampNeg + i)) (oupd (oupd (oupd (fun _ => (0 : Int64)) 0 q4) 1 q5) 2 (q4 ^^^ (-1 : Int64))))), .val (.int (fn14 n2 n2 (fun i => u2 (((us + (1 : Int32))).toNatClampNeg + i)) (oupd (oupd (oupd (fun _ => (0 : Int64)) 0 q5) 1 q4) 2 (q4 ^^^ q5)))), .val (.int (fn14 n1 n1 (fun i => u2 (((1 : Int32)).toNatClampNeg + i)) (oupd (oupd (oupd (fun _ => (0 : Int64)) 0 q4) 1 q5) 2 (q4 ^^^ (-1 : Int64)))))] [(.int (fn14 n2 n2 (fun i => u2 (((us + (1 : Int32))).toNatClampNeg + i)) (oupd (oupd (oupd (fun _ => (0 : Int64)) 0 q5) 1 q4) 2 (q4 ^^^ q5))))]))
              refine Till.ifc (pc' := 281) X262.here hx (hb hby at_269) (by decide) (by decide) (fun q => ?_) (fun q => ?_)
              · have hc266 := (hEq.1 q)
                show Till p e below s (Q0 Z q1 q2 q3 q4 q5 p6 h0 n0) room_1.cells room_1.slots (T260.setTop (mkF m 281 #[.val (.long q1), .second, .val (.long q2), .second, .val (.long q3), .second, .val (.long q4), .second, .val (.long q5), .second, .val (.int p6), .val (.ref b3), .val (.ref b32), .val (.int n1), .val (.int n2), .val (.long v75s0), .second, .val (.int (((p6.toUInt32 >>> ((5 : Int32) &&& 31).toUInt32).toInt32) &&& (3 : Int32))), .val (.long v108s0), .second, .val (.ref b66), .val (.ref b235), .val (.ref b242), .val (.ref b249), .val (.int (fn14 n1 n1 (fun i => u2 (((1 : Int32)).toNatClampNeg + i)) (oupd (oupd (oupd (fun _ => (0 : Int64)) 0 q4) 1 q5) 2 (q4 ^^^ (-1 : Int64))))), .val (.int (fn14 n2 n2 (fun i => u2 (((us + (1 : Int32))).toNatClampNeg + i)) (oupd (oupd (oupd (fun _ => (0 : Int64)) 0 q5) 1 q4) 2 (q4 ^^^ q5)))), .val (.int (fn14 n1 n1 (fun i => u2 (((1 : Int32)).toNatClampNeg + i)) (oupd (oupd (oupd (fun _ => (0 : Int64)) 0 q4) 1 q5) 2 (q4 ^^^ (-1 : Int64)))))] []))
                refine Till.pre (fun _ hr => XS.iconst X262.here hx rfl (hb hby at_281) hr) ?_
                show Till p e below s (Q0 Z q1 q2 q3 q4 q5 p6 h0 n0) room_1.cells room_1.slots (T260.setTop (mkF m 282 #[.val (.long q1), .second, .val (.long q2), .second, .val (.long q3), .second, .val (.long q4), .second, .val (.long q5), .second, .val (.int p6), .val (.ref b3), .val (.ref b32), .val (.int n1), .val (.int n2), .val (.long v75s0), .second, .val (.int (((p6.toUInt32 >>> ((5 : Int32) &&& 31).toUInt32).toInt32) &&& (3 : Int32))), .val (.long v108s0), .second, .val (.ref b66), .val (.ref b235), .val (.ref b242), .val (.ref b249), .val (.int (fn14 n1 n1 (fun i => u2 (((1 : Int32)).toNatClampNeg + i)) (oupd (oupd (oupd (fun _ => (0 : Int64)) 0 q4) 1 q5) 2 (q4 ^^^ (-1 : Int64))))), .val (.int (fn14 n2 n2 (fun i => u2 (((us + (1 : Int32))).toNatClampNeg + i)) (oupd (oupd (oupd (fun _ => (0 : Int64)) 0 q5) 1 q4) 2 (q4 ^^^ q5)))), .val (.int (fn14 n1 n1 (fun i => u2 (((1 : Int32)).toNatClampNeg + i)) (oupd (oupd (oupd (fun _ => (0 : Int64)) 0 q4) 1 q5) 2 (q4 ^^^ (-1 : Int64)))))] [(.int (0 : Int32))]))
                exact J282_267 _ (Eq.symm ((if_neg hc265).trans (if_pos hc266)))
              · have hc266 := (hEq.2.1 q)
                show Till p e below s (Q0 Z q1 q2 q3 q4 q5 p6 h0 n0) room_1.cells room_1.slots (T260.setTop (mkF m 272 #[.val (.long q1), .second, .val (.long q2), .second, .val (.long q3), .second, .val (.long q4), .second, .val (.long q5), .second, .val (.int p6), .val (.ref b3), .val (.ref b32), .val (.int n1), .val (.int n2), .val (.long v75s0), .second, .val (.int (((p6.toUInt32 >>> ((5 : Int32) &&& 31).toUInt32).toInt32) &&& (3 : Int32))), .val (.long v108s0), .second, .val (.ref b66), .val (.ref b235), .val (.ref b242), .val (.ref b249), .val (.int (fn14 n1 n1 (fun i => u2 (((1 : Int32)).toNatClampNeg + i)) (oupd (oupd (oupd (fun _ => (0 : Int64)) 0 q4) 1 q5) 2 (q4 ^^^ (-1 : Int64))))), .val (.int (fn14 n2 n2 (fun i => u2 (((us + (1 : Int32))).toNatClampNeg + i)) (oupd (oupd (oupd (fun _ => (0 : Int64)) 0 q5) 1 q4) 2 (q4 ^^^ q5)))), .val (.int (fn14 n1 n1 (fun i => u2 (((1 : Int32)).toNatClampNeg + i)) (oupd (oupd (oupd (fun _ => (0 : Int64)) 0 q4) 1 q5) 2 (q4 ^^^ (-1 : Int64)))))] []))
                refine Till.pre (fun _ hr => XS.iload X262.here hx rfl (hb hby at_272) rfl hr) ?_
                show Till p e below s (Q0 Z q1 q2 q3 q4 q5 p6 h0 n0) room_1.cells room_1.slots (T260.setTop (mkF m 274 #[.val (.long q1), .second, .val (.long q2), .second, .val (.long q3), .second, .val (.long q4), .second, .val (.long q5), .second, .val (.int p6), .val (.ref b3), .val (.ref b32), .val (.int n1), .val (.int n2), .val (.long v75s0), .second, .val (.int (((p6.toUInt32 >>> ((5 : Int32) &&& 31).toUInt32).toInt32) &&& (3 : Int32))), .val (.long v108s0), .second, .val (.ref b66), .val (.ref b235), .val (.ref b242), .val (.ref b249), .val (.int (fn14 n1 n1 (fun i => u2 (((1 : Int32)).toNatClampNeg + i)) (oupd (oupd (oupd (fun _ => (0 : Int64)) 0 q4) 1 q5) 2 (q4 ^^^ (-1 : Int64))))), .val (.int (fn14 n2 n2 (fun i => u2 (((us + (1 : Int32))).toNatClampNeg + i)) (oupd (oupd (oupd (fun _ => (0 : Int64)) 0 q5) 1 q4) 2 (q4 ^^^ q5)))), .val (.int (fn14 n1 n1 (fun i => u2 (((1 : Int32)).toNatClampNeg + i)) (oupd (oupd (oupd (fun _ => (0 : Int64)) 0 q4) 1 q5) 2 (q4 ^^^ (-1 : Int64)))))] [(.int (fn14 n1 n1 (fun i => u2 (((1 : Int32)).toNatClampNeg + i)) (oupd (oupd (oupd (fun _ => (0 : Int64)) 0 q4) 1 q5) 2 (q4 ^^^ (-1 : Int64)))))]))
                refine Till.ifc (pc' := 281) X262.here hx (hb hby at_274) (by decide) (by decide) (fun q => ?_) (fun q => ?_)
                · have hc267 := (hEq.1 q)
                  show Till p e below s (Q0 Z q1 q2 q3 q4 q5 p6 h0 n0) room_1.cells room_1.slots (T260.setTop (mkF m 281 #[.val (.long q1), .second, .val (.long q2), .second, .val (.long q3), .second, .val (.long q4), .second, .val (.long q5), .second, .val (.int p6), .val (.ref b3), .val (.ref b32), .val (.int n1), .val (.int n2), .val (.long v75s0), .second, .val (.int (((p6.toUInt32 >>> ((5 : Int32) &&& 31).toUInt32).toInt32) &&& (3 : Int32))), .val (.long v108s0), .second, .val (.ref b66), .val (.ref b235), .val (.ref b242), .val (.ref b249), .val (.int (fn14 n1 n1 (fun i => u2 (((1 : Int32)).toNatClampNeg + i)) (oupd (oupd (oupd (fun _ => (0 : Int64)) 0 q4) 1 q5) 2 (q4 ^^^ (-1 : Int64))))), .val (.int (fn14 n2 n2 (fun i => u2 (((us + (1 : Int32))).toNatClampNeg + i)) (oupd (oupd (oupd (fun _ => (0 : Int64)) 0 q5) 1 q4) 2 (q4 ^^^ q5)))), .val (.int (fn14 n1 n1 (fun i => u2 (((1 : Int32)).toNatClampNeg + i)) (oupd (oupd (oupd (fun _ => (0 : Int64)) 0 q4) 1 q5) 2 (q4 ^^^ (-1 : Int64)))))] []))
                  refine Till.pre (fun _ hr => XS.iconst X262.here hx rfl (hb hby at_281) hr) ?_
                  show Till p e below s (Q0 Z q1 q2 q3 q4 q5 p6 h0 n0) room_1.cells room_1.slots (T260.setTop (mkF m 282 #[.val (.long q1), .second, .val (.long q2), .second, .val (.long q3), .second, .val (.long q4), .second, .val (.long q5), .second, .val (.int p6), .val (.ref b3), .val (.ref b32), .val (.int n1), .val (.int n2), .val (.long v75s0), .second, .val (.int (((p6.toUInt32 >>> ((5 : Int32) &&& 31).toUInt32).toInt32) &&& (3 : Int32))), .val (.long v108s0), .second, .val (.ref b66), .val (.ref b235), .val (.ref b242), .val (.ref b249), .val (.int (fn14 n1 n1 (fun i => u2 (((1 : Int32)).toNatClampNeg + i)) (oupd (oupd (oupd (fun _ => (0 : Int64)) 0 q4) 1 q5) 2 (q4 ^^^ (-1 : Int64))))), .val (.int (fn14 n2 n2 (fun i => u2 (((us + (1 : Int32))).toNatClampNeg + i)) (oupd (oupd (oupd (fun _ => (0 : Int64)) 0 q5) 1 q4) 2 (q4 ^^^ q5)))), .val (.int (fn14 n1 n1 (fun i => u2 (((1 : Int32)).toNatClampNeg + i)) (oupd (oupd (oupd (fun _ => (0 : Int64)) 0 q4) 1 q5) 2 (q4 ^^^ (-1 : Int64)))))] [(.int (0 : Int32))]))
                  exact J282_267 _ (Eq.symm ((if_neg hc265).trans ((if_neg hc266).trans (if_pos hc267))))
                · have hc267 := (hEq.2.1 q)
                  show Till p e below s (Q0 Z q1 q2 q3 q4 q5 p6 h0 n0) room_1.cells room_1.slots (T260.setTop (mkF m 277 #[.val (.long q1), .second, .val (.long q2), .second, .val (.long q3), .second, .val (.long q4), .second, .val (.long q5), .second, .val (.int p6), .val (.ref b3), .val (.ref b32), .val (.int n1), .val (.int n2), .val (.long v75s0), .second, .val (.int (((p6.toUInt32 >>> ((5 : Int32) &&& 31).toUInt32).toInt32) &&& (3 : Int32))), .val (.long v108s0), .second, .val (.ref b66), .val (.ref b235), .val (.ref b242), .val (.ref b249), .val (.int (fn14 n1 n1 (fun i => u2 (((1 : Int32)).toNatClampNeg + i)) (oupd (oupd (oupd (fun _ => (0 : Int64)) 0 q4) 1 q5) 2 (q4 ^^^ (-1 : Int64))))), .val (.int (fn14 n2 n2 (fun i => u2 (((us + (1 : Int32))).toNatClampNeg + i)) (oupd (oupd (oupd (fun _ => (0 : Int64)) 0 q5) 1 q4) 2 (q4 ^^^ q5)))), .val (.int (fn14 n1 n1 (fun i => u2 (((1 : Int32)).toNatClampNeg + i)) (oupd (oupd (oupd (fun _ => (0 : Int64)) 0 q4) 1 q5) 2 (q4 ^^^ (-1 : Int64)))))] []))
                  refine Till.pre (fun _ hr => XS.iconst X262.here hx rfl (hb hby at_277) hr) ?_
                  show Till p e below s (Q0 Z q1 q2 q3 q4 q5 p6 h0 n0) room_1.cells room_1.slots (T260.setTop (mkF m 278 #[.val (.long q1), .second, .val (.long q2), .second, .val (.long q3), .second, .val (.long q4), .second, .val (.long q5), .second, .val (.int p6), .val (.ref b3), .val (.ref b32), .val (.int n1), .val (.int n2), .val (.long v75s0), .second, .val (.int (((p6.toUInt32 >>> ((5 : Int32) &&& 31).toUInt32).toInt32) &&& (3 : Int32))), .val (.long v108s0), .second, .val (.ref b66), .val (.ref b235), .val (.ref b242), .val (.ref b249), .val (.int (fn14 n1 n1 (fun i => u2 (((1 : Int32)).toNatClampNeg + i)) (oupd (oupd (oupd (fun _ => (0 : Int64)) 0 q4) 1 q5) 2 (q4 ^^^ (-1 : Int64))))), .val (.int (fn14 n2 n2 (fun i => u2 (((us + (1 : Int32))).toNatClampNeg + i)) (oupd (oupd (oupd (fun _ => (0 : Int64)) 0 q5) 1 q4) 2 (q4 ^^^ q5)))), .val (.int (fn14 n1 n1 (fun i => u2 (((1 : Int32)).toNatClampNeg + i)) (oupd (oupd (oupd (fun _ => (0 : Int64)) 0 q4) 1 q5) 2 (q4 ^^^ (-1 : Int64)))))] [(.int (1 : Int32))]))
                  refine Till.pre (fun _ hr => XS.goto X262.here hx rfl (pc0 := 278) (pc' := 282) rfl (hb hby at_278) (by decide) (by decide) hr) ?_
                  show Till p e below s (Q0 Z q1 q2 q3 q4 q5 p6 h0 n0) room_1.cells room_1.slots (T260.setTop (mkF m 282 #[.val (.long q1), .second, .val (.long q2), .second, .val (.long q3), .second, .val (.long q4), .second, .val (.long q5), .second, .val (.int p6), .val (.ref b3), .val (.ref b32), .val (.int n1), .val (.int n2), .val (.long v75s0), .second, .val (.int (((p6.toUInt32 >>> ((5 : Int32) &&& 31).toUInt32).toInt32) &&& (3 : Int32))), .val (.long v108s0), .second, .val (.ref b66), .val (.ref b235), .val (.ref b242), .val (.ref b249), .val (.int (fn14 n1 n1 (fun i => u2 (((1 : Int32)).toNatClampNeg + i)) (oupd (oupd (oupd (fun _ => (0 : Int64)) 0 q4) 1 q5) 2 (q4 ^^^ (-1 : Int64))))), .val (.int (fn14 n2 n2 (fun i => u2 (((us + (1 : Int32))).toNatClampNeg + i)) (oupd (oupd (oupd (fun _ => (0 : Int64)) 0 q5) 1 q4) 2 (q4 ^^^ q5)))), .val (.int (fn14 n1 n1 (fun i => u2 (((1 : Int32)).toNatClampNeg + i)) (oupd (oupd (oupd (fun _ => (0 : Int64)) 0 q4) 1 q5) 2 (q4 ^^^ (-1 : Int64)))))] [(.int (1 : Int32))]))
                  exact J282_267 _ (Eq.symm ((if_neg hc265).trans ((if_neg hc266).trans (if_neg hc267))))
          · skip
            show Till p e below s (Q0 Z q1 q2 q3 q4 q5 p6 h0 n0) room_1.cells room_1.slots (T102.setTop (mkF m 140 #[.val (.long q1), .second, .val (.long q2), .second, .val (.long q3), .second, .val (.long q4), .second, .val (.long q5), .second, .val (.int p6), .val (.ref b3), .val (.ref b32), .val (.int n1), .val (.int n2), .val (.long v75s0), .second, .val (.int (((p6.toUInt32 >>> ((5 : Int32) &&& 31).toUInt32).toInt32) &&& (3 : Int32))), .val (.long v108s0), .second, .val (.ref b66), .unset, .unset, .unset, .unset, .unset, .unset] []))
            refine Till.pre (fun _ hr => XS.aload X104.here hx rfl (hb hby at_140) rfl rfl hr) ?_
            show Till p e below s (Q0 Z q1 q2 q3 q4 q5 p6 h0 n0) room_1.cells room_1.slots (T102.setTop (mkF m 142 #[.val (.long q1), .second, .val (.long q2), .second, .val (.long q3), .second, .val (.long q4), .second, .val (.long q5), .second, .val (.int p6), .val (.ref b3), .val (.ref b32), .val (.int n1), .val (.int n2), .val (.long v75s0), .second, .val (.int (((p6.toUInt32 >>> ((5 : Int32) &&& 31).toUInt32).toInt32) &&& (3 : Int32))), .val (.long v108s0), .second, .val (.ref b66), .unset, .unset, .unset, .unset, .unset, .unset] [(.ref b66)]))
            refine Till.pre (fun _ hr => XS.lloadN X104.here hx rfl (hb hby at_142) rfl hr) ?_
            show Till p e below s (Q0 Z q1 q2 q3 q4 q5 p6 h0 n0) room_1.cells room_1.slots (T102.setTop (mkF m 143 #[.val (.long q1), .second, .val (.long q2), .second, .val (.long q3), .second, .val (.long q4), .second, .val (.long q5), .second, .val (.int p6), .val (.ref b3), .val (.ref b32), .val (.int n1), .val (.int n2), .val (.long v75s0), .second, .val (.int (((p6.toUInt32 >>> ((5 : Int32) &&& 31).toUInt32).toInt32) &&& (3 : Int32))), .val (.long v108s0), .second, .val (.ref b66), .unset, .unset, .unset, .unset, .unset, .unset] [(.long q1), (.ref b66)]))
            refine Till.callV (rm8_s l Z a0 hw b66 q1 b83 b85 b86 b84 (us + ((1 : Int32) + n2)) w108 f106 g107 u2 2 (own_um (own_um (fun _ => own_ABS) q1 (0 : Int32).toInt64) v75s0 us.toInt64) (0 : Int32) n1 T102.heap n0 Zs R_b66 R_b83 R_b85 R_b86 R_b84 ne_b66_b83 ne_b66_b85 ne_b66_b86 ne_b66_b84 ne_b83_b85 ne_b83_b86 ne_b83_b84 ne_b85_b86 (Ne.symm ne_b84_b85) (Ne.symm ne_b84_b86) (tb109) (by decide) (own_mB hA) (by decide) (own_c1 hu_us (own_n4 hu_n1) hu_u1 hu_u2) (own_n4 hu_n1)) R_b66.1 X104 hx hZ hown (hw _ (List.mem_of_getElem? (i := 60) rfl)) (hw _ (List.mem_of_getElem? (i := 61) rfl)) (hw _ (List.mem_of_getElem? (i := 63) rfl)) (hw _ (List.mem_of_getElem? (i := 62) rfl)) (hw _ (List.mem_of_getElem? (i := 4) rfl)) (hw _ (List.mem_of_getElem? (i := 64) rfl)) (by decide) (by decide) (W := 0) (by decide) (by rw [hml]; rfl) (a := b66) (argsL := [(.long q1)]) (rest := []) (lenOf pd0_6 rfl) rfl rfl (Nat.le_of_eq rfl) (hb hby at_143) rfl (by decide) (by decide) ?_
            rintro _ T269 L270 X271 ⟨b275, rfl, N272, K273, szq_b275, q274⟩
            have N272 := Fr.app N105 N272
            have ne_b3_b275 : b3 ≠ b275 := Nat.ne_of_lt (Nat.lt_of_lt_of_le R_b3.lt szq_b275)
            have ne_b32_b275 : b32 ≠ b275 := Nat.ne_of_lt (Nat.lt_of_lt_of_le R_b32.lt szq_b275)
            have ne_b66_b275 : b66 ≠ b275 := Nat.ne_of_lt (Nat.lt_of_lt_of_le R_b66.lt szq_b275)
            have ne_b83_b275 : b83 ≠ b275 := Nat.ne_of_lt (Nat.lt_of_lt_of_le R_b83.lt szq_b275)
            have ne_b84_b275 : b84 ≠ b275 := Nat.ne_of_lt (Nat.lt_of_lt_of_le R_b84.lt szq_b275)
            have ne_b85_b275 : b85 ≠ b275 := Nat.ne_of_lt (Nat.lt_of_lt_of_le R_b85.lt szq_b275)
            have ne_b86_b275 : b86 ≠ b275 := Nat.ne_of_lt (Nat.lt_of_lt_of_le R_b86.lt szq_b275)
            have g_b275 : n0 ≤ b275 := Nat.le_trans Zs szq_b275
            have R_b3 := R_b3.keep K273 nin0
            have R_b32 := R_b32.keep K273 nin0
            have R_b66 := R_b66.keep K273 nin0
            have R_b83 := R_b83.keep K273 nin0
            have R_b84 := R_b84.keep K273 nin0
            have R_b85 := R_b85.keep K273 nin0
            have R_b86 := R_b86.keep K273 nin0
            have Zs := Nat.le_trans Zs K273.1
            have R_b275 : LA Z T269.heap b275 n1 (fun i => u2 (((1 : Int32)).toNatClampNeg + i)) := q274
            show Till p e below s (Q0 Z q1 q2 q3 q4 q5 p6 h0 n0) room_1.cells room_1.slots (T269.setTop (mkF m 146 #[.val (.long q1), .second, .val (.long q2), .second, .val (.long q3), .second, .val (.long q4), .second, .val (.long q5), .second, .val (.int p6), .val (.ref b3), .val (.ref b32), .val (.int n1), .val (.int n2), .val (.long v75s0), .second, .val (.int (((p6.toUInt32 >>> ((5 : Int32) &&& 31).toUInt32).toInt32) &&& (3 : Int32))), .val (.long v108s0), .second, .val (.ref b66), .unset, .unset, .unset, .unset, .unset, .unset] [(.ref b275)]))
            refine Till.pre (fun _ hr => XS.astore X271.here hx rfl (hb hby at_146) rfl rfl (l' := #[.val (.long q1), .second, .val (.long q2), .second, .val (.long q3), .second, .val (.long q4), .second, .val (.long q5), .second, .val (.int p6), .val (.ref b3), .val (.ref b32), .val (.int n1), .val (.int n2), .val (.long v75s0), .second, .val (.int (((p6.toUInt32 >>> ((5 : Int32) &&& 31).toUInt32).toInt32) &&& (3 : Int32))), .val (.long v108s0), .second, .val (.ref b66), .val (.ref b275), .unset, .unset, .unset, .unset, .unset]) rfl hr) ?_
            show Till p e below s (Q0 Z q1 q2 q3 q4 q5 p6 h0 n0) room_1.cells room_1.slots (T269.setTop (mkF m 148 #[.val (.long q1), .second, .val (.long q2), .second, .val (.long q3), .second, .val (.long q4), .second, .val (.long q5), .second, .val (.int p6), .val (.ref b3), .val (.ref b32), .val (.int n1), .val (.int n2), .val (.long v75s0), .second, .val (.int (((p6.toUInt32 >>> ((5 : Int32) &&& 31).toUInt32).toInt32) &&& (3 : Int32))), .val (.long v108s0), .second, .val (.ref b66), .val (.ref b275), .unset, .unset, .unset, .unset, .unset] []))
            refine Till.pre (fun _ hr => XS.aload X271.here hx rfl (hb hby at_148) rfl rfl hr) ?_
            show Till p e below s (Q0 Z q1 q2 q3 q4 q5 p6 h0 n0) room_1.cells room_1.slots (T269.setTop (mkF m 150 #[.val (.long q1), .second, .val (.long q2), .second, .val (.long q3), .second, .val (.long q4), .second, .val (.long q5), .second, .val (.int p6), .val (.ref b3), .val (.ref b32), .val (.int n1), .val (.int n2), .val (.long v75s0), .second, .val (.int (((p6.toUInt32 >>> ((5 : Int32) &&& 31).toUInt32).toInt32) &&& (3 : Int32))), .val (.long v108s0), .second, .val (.ref b66), .val (.ref b275), .unset, .unset, .unset, .unset, .unset] [(.ref b66)]))
            refine Till.pre (fun _ hr => XS.lload X271.here hx rfl (hb hby at_150) rfl hr) ?_
            show Till p e below s (Q0 Z q1 q2 q3 q4 q5 p6 h0 n0) room_1.cells room_1.slots (T269.setTop (mkF m 152 #[.val (.long q1), .second, .val (.long q2), .second, .val (.long q3), .second, .val (.long q4), .second, .val (.long q5), .second, .val (.int p6), .val (.ref b3), .val (.ref b32), .val (.int n1), .val (.int n2), .val (.long v75s0), .second, .val (.int (((p6.toUInt32 >>> ((5 : Int32) &&& 31).toUInt32).toInt32) &&& (3 : Int32))), .val (.long v108s0), .second, .val (.ref b66), .val (.ref b275), .unset, .unset, .unset, .unset, .unset] [(.long v75s0), (.ref b66)]))
            refine Till.callV (rm8_s l Z a0 hw b66 v75s0 b83 b85 b86 b84 (us + ((1 : Int32) + n2)) w108 f106 g107 u2 2 (own_um (own_um (fun _ => own_ABS) q1 (0 : Int32).toInt64) v75s0 us.toInt64) us n2 T269.heap n0 Zs R_b66 R_b83 R_b85 R_b86 R_b84 ne_b66_b83 ne_b66_b85 ne_b66_b86 ne_b66_b84 ne_b83_b85 ne_b83_b86 ne_b83_b84 ne_b85_b86 (Ne.symm ne_b84_b85) (Ne.symm ne_b84_b86) (tb109) (by decide) (own_m2) (own_us hu_us (own_n4 hu_n1)) (own_c2 hu_us (own_n4 hu_n1) hu_u2) (own_n4 hu_n2)) R_b66.1 X271 hx hZ hown (hw _ (List.mem_of_getElem? (i := 60) rfl)) (hw _ (List.mem_of_getElem? (i := 61) rfl)) (hw _ (List.mem_of_getElem? (i := 63) rfl)) (hw _ (List.mem_of_getElem? (i := 62) rfl)) (hw _ (List.mem_of_getElem? (i := 4) rfl)) (hw _ (List.mem_of_getElem? (i := 64) rfl)) (by decide) (by decide) (W := 0) (by decide) (by rw [hml]; rfl) (a := b66) (argsL := [(.long v75s0)]) (rest := []) (lenOf pd0_6 rfl) rfl rfl (Nat.le_of_eq rfl) (hb hby at_152) rfl (by decide) (by decide) ?_
            rintro _ T276 L277 X278 ⟨b282, rfl, N279, K280, szq_b282, q281⟩
            have N279 := Fr.app N272 N279
            have ne_b3_b282 : b3 ≠ b282 := Nat.ne_of_lt (Nat.lt_of_lt_of_le R_b3.lt szq_b282)
            have ne_b32_b282 : b32 ≠ b282 := Nat.ne_of_lt (Nat.lt_of_lt_of_le R_b32.lt szq_b282)
            have ne_b66_b282 : b66 ≠ b282 := Nat.ne_of_lt (Nat.lt_of_lt_of_le R_b66.lt szq_b282)
            have ne_b83_b282 : b83 ≠ b282 := Nat.ne_of_lt (Nat.lt_of_lt_of_le R_b83.lt szq_b282)
            have ne_b84_b282 : b84 ≠ b282 := Nat.ne_of_lt (Nat.lt_of_lt_of_le R_b84.lt szq_b282)
            have ne_b85_b282 : b85 ≠ b282 := Nat.ne_of_lt (Nat.lt_of_lt_of_le R_b85.lt szq_b282)
            have ne_b86_b282 : b86 ≠ b282 := Nat.ne_of_lt (Nat.lt_of_lt_of_le R_b86.lt szq_b282)
            have ne_b275_b282 : b275 ≠ b282 := Nat.ne_of_lt (Nat.lt_of_lt_of_le R_b275.lt szq_b282)
            have g_b282 : n0 ≤ b282 := Nat.le_trans Zs szq_b282
            have R_b3 := R_b3.keep K280 nin0
            have R_b32 := R_b32.keep K280 nin0
            have R_b66 := R_b66.keep K280 nin0
            have R_b83 := R_b83.keep K280 nin0
            have R_b84 := R_b84.keep K280 nin0
            have R_b85 := R_b85.keep K280 nin0
            have R_b86 := R_b86.keep K280 nin0
            have R_b275 := R_b275.keep K280 nin0
            have Zs := Nat.le_trans Zs K280.1
            have R_b282 : LA Z T276.heap b282 n2 (fun i => u2 (((us + (1 : Int32))).toNatClampNeg + i)) := q281
            show Till p e below s (Q0 Z q1 q2 q3 q4 q5 p6 h0 n0) room_1.cells room_1.slots (T276.setTop (mkF m 155 #[.val (.long q1), .second, .val (.long q2), .second, .val (.long q3), .second, .val (.long q4), .second, .val (.long q5), .second, .val (.int p6), .val (.ref b3), .val (.ref b32), .val (.int n1), .val (.int n2), .val (.long v75s0), .second, .val (.int (((p6.toUInt32 >>> ((5 : Int32) &&& 31).toUInt32).toInt32) &&& (3 : Int32))), .val (.long v108s0), .second, .val (.ref b66), .val (.ref b275), .unset, .unset, .unset, .unset, .unset] [(.ref b282)]))
            refine Till.pre (fun _ hr => XS.astore X278.here hx rfl (hb hby at_155) rfl rfl (l' := #[.val (.long q1), .second, .val (.long q2), .second, .val (.long q3), .second, .val (.long q4), .second, .val (.long q5), .second, .val (.int p6), .val (.ref b3), .val (.ref b32), .val (.int n1), .val (.int n2), .val (.long v75s0), .second, .val (.int (((p6.toUInt32 >>> ((5 : Int32) &&& 31).toUInt32).toInt32) &&& (3 : Int32))), .val (.long v108s0), .second, .val (.ref b66), .val (.ref b275), .val (.ref b282), .unset, .unset, .unset, .unset]) rfl hr) ?_
            show Till p e below s (Q0 Z q1 q2 q3 q4 q5 p6 h0 n0) room_1.cells room_1.slots (T276.setTop (mkF m 157 #[.val (.long q1), .second, .val (.long q2), .second, .val (.long q3), .second, .val (.long q4), .second, .val (.long q5), .second, .val (.int p6), .val (.ref b3), .val (.ref b32), .val (.int n1), .val (.int n2), .val (.long v75s0), .second, .val (.int (((p6.toUInt32 >>> ((5 : Int32) &&& 31).toUInt32).toInt32) &&& (3 : Int32))), .val (.long v108s0), .second, .val (.ref b66), .val (.ref b275), .val (.ref b282), .unset, .unset, .unset, .unset] []))
            refine Till.pre (fun _ hr => XS.aload X278.here hx rfl (hb hby at_157) rfl rfl hr) ?_
            show Till p e below s (Q0 Z q1 q2 q3 q4 q5 p6 h0 n0) room_1.cells room_1.slots (T276.setTop (mkF m 159 #[.val (.long q1), .second, .val (.long q2), .second, .val (.long q3), .second, .val (.long q4), .second, .val (.long q5), .second, .val (.int p6), .val (.ref b3), .val (.ref b32), .val (.int n1), .val (.int n2), .val (.long v75s0), .second, .val (.int (((p6.toUInt32 >>> ((5 : Int32) &&& 31).toUInt32).toInt32) &&& (3 : Int32))), .val (.long v108s0), .second, .val (.ref b66), .val (.ref b275), .val (.ref b282), .unset, .unset, .unset, .unset] [(.ref b66)]))
            refine Till.pre (fun _ hr => XS.lload X278.here hx rfl (hb hby at_159) rfl hr) ?_
            show Till p e below s (Q0 Z q1 q2 q3 q4 q5 p6 h0 n0) room_1.cells room_1.slots (T276.setTop (mkF m 161 #[.val (.long q1), .second, .val (.long q2), .second, .val (.long q3), .second, .val (.long q4), .second, .val (.long q5), .second, .val (.int p6), .val (.ref b3), .val (.ref b32), .val (.int n1), .val (.int n2), .val (.long v75s0), .second, .val (.int (((p6.toUInt32 >>> ((5 : Int32) &&& 31).toUInt32).toInt32) &&& (3 : Int32))), .val (.long v108s0), .second, .val (.ref b66), .val (.ref b275), .val (.ref b282), .unset, .unset, .unset, .unset] [(.long v108s0), (.ref b66)]))
            refine Till.callV (rm8_n l Z a0 hw b66 v108s0 b83 b85 b86 b84 (us + ((1 : Int32) + n2)) w108 f106 g107 u2 2 (own_um (own_um (fun _ => own_ABS) q1 (0 : Int32).toInt64) v75s0 us.toInt64) T276.heap n0 R_b66 R_b83 R_b85 R_b86 R_b84 (tb109) (by decide) (own_m3n hB hC)) R_b66.1 X278 hx hZ hown (hw _ (List.mem_of_getElem? (i := 60) rfl)) (hw _ (List.mem_of_getElem? (i := 61) rfl)) (hw _ (List.mem_of_getElem? (i := 63) rfl)) (hw _ (List.mem_of_getElem? (i := 62) rfl)) (hw _ (List.mem_of_getElem? (i := 4) rfl)) (hw _ (List.mem_of_getElem? (i := 64) rfl)) (by decide) (by decide) (W := 0) (by decide) (by rw [hml]; rfl) (a := b66) (argsL := [(.long v108s0)]) (rest := []) (lenOf pd0_6 rfl) rfl rfl (Nat.le_of_eq rfl) (hb hby at_161) rfl (by decide) (by decide) ?_
            rintro _ T283 L284 X285 ⟨rfl, N286, e287⟩
            have N286 := Fr.app N279 N286
            show Till p e below s (Q0 Z q1 q2 q3 q4 q5 p6 h0 n0) room_1.cells room_1.slots (T283.setTop (mkF m 164 #[.val (.long q1), .second, .val (.long q2), .second, .val (.long q3), .second, .val (.long q4), .second, .val (.long q5), .second, .val (.int p6), .val (.ref b3), .val (.ref b32), .val (.int n1), .val (.int n2), .val (.long v75s0), .second, .val (.int (((p6.toUInt32 >>> ((5 : Int32) &&& 31).toUInt32).toInt32) &&& (3 : Int32))), .val (.long v108s0), .second, .val (.ref b66), .val (.ref b275), .val (.ref b282), .unset, .unset, .unset, .unset] [.null]))
            refine Till.pre (fun _ hr => XS.astore X285.here hx rfl (hb hby at_164) rfl rfl (l' := #[.val (.long q1), .second, .val (.long q2), .second, .val (.long q3), .second, .val (.long q4), .second, .val (.long q5), .second, .val (.int p6), .val (.ref b3), .val (.ref b32), .val (.int n1), .val (.int n2), .val (.long v75s0), .second, .val (.int (((p6.toUInt32 >>> ((5 : Int32) &&& 31).toUInt32).toInt32) &&& (3 : Int32))), .val (.long v108s0), .second, .val (.ref b66), .val (.ref b275), .val (.ref b282), .val .null, .unset, .unset, .unset]) rfl hr) ?_
            show Till p e below s (Q0 Z q1 q2 q3 q4 q5 p6 h0 n0) room_1.cells room_1.slots (T283.setTop (mkF m 166 #[.val (.long q1), .second, .val (.long q2), .second, .val (.long q3), .second, .val (.long q4), .second, .val (.long q5), .second, .val (.int p6), .val (.ref b3), .val (.ref b32), .val (.int n1), .val (.int n2), .val (.long v75s0), .second, .val (.int (((p6.toUInt32 >>> ((5 : Int32) &&& 31).toUInt32).toInt32) &&& (3 : Int32))), .val (.long v108s0), .second, .val (.ref b66), .val (.ref b275), .val (.ref b282), .val .null, .unset, .unset, .unset] []))
            refine Till.pre (fun _ hr => XS.lload X285.here hx rfl (hb hby at_166) rfl hr) ?_
            show Till p e below s (Q0 Z q1 q2 q3 q4 q5 p6 h0 n0) room_1.cells room_1.slots (T283.setTop (mkF m 168 #[.val (.long q1), .second, .val (.long q2), .second, .val (.long q3), .second, .val (.long q4), .second, .val (.long q5), .second, .val (.int p6), .val (.ref b3), .val (.ref b32), .val (.int n1), .val (.int n2), .val (.long v75s0), .second, .val (.int (((p6.toUInt32 >>> ((5 : Int32) &&& 31).toUInt32).toInt32) &&& (3 : Int32))), .val (.long v108s0), .second, .val (.ref b66), .val (.ref b275), .val (.ref b282), .val .null, .unset, .unset, .unset] [(.long v75s0)]))
            refine Till.pre (fun _ hr => XS.lloadN X285.here hx rfl (hb hby at_168) rfl hr) ?_
            show Till p e below s (Q0 Z q1 q2 q3 q4 q5 p6 h0 n0) room_1.cells room_1.slots (T283.setTop (mkF m 169 #[.val (.long q1), .second, .val (.long q2), .second, .val (.long q3), .second, .val (.long q4), .second, .val (.long q5), .second, .val (.int p6), .val (.ref b3), .val (.ref b32), .val (.int n1), .val (.int n2), .val (.long v75s0), .second, .val (.int (((p6.toUInt32 >>> ((5 : Int32) &&& 31).toUInt32).toInt32) &&& (3 : Int32))), .val (.long v108s0), .second, .val (.ref b66), .val (.ref b275), .val (.ref b282), .val .null, .unset, .unset, .unset] [(.long q1), (.long v75s0)]))
            refine Till.pre (fun _ hr => XS.lcmp X285.here hx rfl (hb hby at_169) rfl hr) ?_
            show Till p e below s (Q0 Z q1 q2 q3 q4 q5 p6 h0 n0) room_1.cells room_1.slots (T283.setTop (mkF m 170 #[.val (.long q1), .second, .val (.long q2), .second, .val (.long q3), .second, .val (.long q4), .second, .val (.long q5), .second, .val (.int p6), .val (.ref b3), .val (.ref b32), .val (.int n1), .val (.int n2), .val (.long v75s0), .second, .val (.int (((p6.toUInt32 >>> ((5 : Int32) &&& 31).toUInt32).toInt32) &&& (3 : Int32))), .val (.long v108s0), .second, .val (.ref b66), .val (.ref b275), .val (.ref b282), .val .null, .unset, .unset, .unset] [(.int (lcmpW v75s0 q1))]))
            refine Till.ifc (pc' := 185) X285.here hx (hb hby at_170) (by decide) (by decide) (fun q => ?_) (fun q => absurd (lEq.mp (hEq.2.2.2 q)) (hA : ¬ (v75s0 = q1)))
            show Till p e below s (Q0 Z q1 q2 q3 q4 q5 p6 h0 n0) room_1.cells room_1.slots (T283.setTop (mkF m 185 #[.val (.long q1), .second, .val (.long q2), .second, .val (.long q3), .second, .val (.long q4), .second, .val (.long q5), .second, .val (.int p6), .val (.ref b3), .val (.ref b32), .val (.int n1), .val (.int n2), .val (.long v75s0), .second, .val (.int (((p6.toUInt32 >>> ((5 : Int32) &&& 31).toUInt32).toInt32) &&& (3 : Int32))), .val (.long v108s0), .second, .val (.ref b66), .val (.ref b275), .val (.ref b282), .val .null, .unset, .unset, .unset] []))
            refine Till.pre (fun _ hr => XS.aload X285.here hx rfl (hb hby at_185) rfl rfl hr) ?_
            show Till p e below s (Q0 Z q1 q2 q3 q4 q5 p6 h0 n0) room_1.cells room_1.slots (T283.setTop (mkF m 187 #[.val (.long q1), .second, .val (.long q2), .second, .val (.long q3), .second, .val (.long q4), .second, .val (.long q5), .second, .val (.int p6), .val (.ref b3), .val (.ref b32), .val (.int n1), .val (.int n2), .val (.long v75s0), .second, .val (.int (((p6.toUInt32 >>> ((5 : Int32) &&& 31).toUInt32).toInt32) &&& (3 : Int32))), .val (.long v108s0), .second, .val (.ref b66), .val (.ref b275), .val (.ref b282), .val .null, .unset, .unset, .unset] [(.ref b275)]))
            refine Till.pre (fun _ hr => XS.aload X285.here hx rfl (hb hby at_187) rfl rfl hr) ?_
            show Till p e below s (Q0 Z q1 q2 q3 q4 q5 p6 h0 n0) room_1.cells room_1.slots (T283.setTop (mkF m 189 #[.val (.long q1), .second, .val (.long q2), .second, .val (.long q3), .second, .val (.long q4), .second, .val (.long q5), .second, .val (.int p6), .val (.ref b3), .val (.ref b32), .val (.int n1), .val (.int n2), .val (.long v75s0), .second, .val (.int (((p6.toUInt32 >>> ((5 : Int32) &&& 31).toUInt32).toInt32) &&& (3 : Int32))), .val (.long v108s0), .second, .val (.ref b66), .val (.ref b275), .val (.ref b282), .val .null, .unset, .unset, .unset] [(.ref b3), (.ref b275)]))
            refine Till.pre (fun _ hr => XS.iload X285.here hx rfl (hb hby at_189) rfl hr) ?_
            show Till p e below s (Q0 Z q1 q2 q3 q4 q5 p6 h0 n0) room_1.cells room_1.slots (T283.setTop (mkF m 191 #[.val (.long q1), .second, .val (.long q2), .second, .val (.long q3), .second, .val (.long q4), .second, .val (.long q5), .second, .val (.int p6), .val (.ref b3), .val (.ref b32), .val (.int n1), .val (.int n2), .val (.long v75s0), .second, .val (.int (((p6.toUInt32 >>> ((5 : Int32) &&& 31).toUInt32).toInt32) &&& (3 : Int32))), .val (.long v108s0), .second, .val (.ref b66), .val (.ref b275), .val (.ref b282), .val .null, .unset, .unset, .unset] [(.int n1), (.ref b3), (.ref b275)]))
            refine Till.callS (rm14 l Z a0 hw b275 b3 n1 n1 (fun i => u2 (((1 : Int32)).toNatClampNeg + i)) (oupd (oupd (oupd (fun _ => (0 : Int64)) 0 q4) 1 q5) 2 (q4 ^^^ (-1 : Int64))) T276.heap n0 R_b275 R_b3) X285 hx hZ hown (hw _ (List.mem_of_getElem? (i := 85) rfl)) (hw _ (List.mem_of_getElem? (i := 86) rfl)) (hw _ (List.mem_of_getElem? (i := 87) rfl)) (hw _ (List.mem_of_getElem? (i := 88) rfl)) (by decide) (by decide) (W := 0) (by decide) (by rw [hml]; rfl) (argsL := [(.ref b275), (.ref b3), (.int n1)]) (rest := []) (lenOf pd0_12 rfl) rfl rfl (Nat.le_of_eq rfl) (hb hby at_191) e287 (by decide) (by decide) ?_
            rintro _ T288 L289 X290 ⟨rfl, N291, e292⟩
            have N291 := Fr.app N286 N291
            show Till p e below s (Q0 Z q1 q2 q3 q4 q5 p6 h0 n0) room_1.cells room_1.slots (T288.setTop (mkF m 194 #[.val (.long q1), .second, .val (.long q2), .second, .val (.long q3), .second, .val (.long q4), .second, .val (.long q5), .second, .val (.int p6), .val (.ref b3), .val (.ref b32), .val (.int n1), .val (.int n2), .val (.long v75s0), .second, .val (.int (((p6.toUInt32 >>> ((5 : Int32) &&& 31).toUInt32).toInt32) &&& (3 : Int32))), .val (.long v108s0), .second, .val (.ref b66), .val (.ref b275), .val (.ref b282), .val .null, .unset, .unset, .unset] [(.int (fn14 n1 n1 (fun i => u2 (((1 : Int32)).toNatClampNeg + i)) (oupd (oupd (oupd (fun _ => (0 : Int64)) 0 q4) 1 q5) 2 (q4 ^^^ (-1 : Int64)))))]))
            refine Till.pre (fun _ hr => XS.istore X290.here hx rfl (hb hby at_194) rfl (l' := #[.val (.long q1), .second, .val (.long q2), .second, .val (.long q3), .second, .val (.long q4), .second, .val (.long q5), .second, .val (.int p6), .val (.ref b3), .val (.ref b32), .val (.int n1), .val (.int n2), .val (.long v75s0), .second, .val (.int (((p6.toUInt32 >>> ((5 : Int32) &&& 31).toUInt32).toInt32) &&& (3 : Int32))), .val (.long v108s0), .second, .val (.ref b66), .val (.ref b275), .val (.ref b282), .val .null, .val (.int (fn14 n1 n1 (fun i => u2 (((1 : Int32)).toNatClampNeg + i)) (oupd (oupd (oupd (fun _ => (0 : Int64)) 0 q4) 1 q5) 2 (q4 ^^^ (-1 : Int64))))), .unset, .unset]) rfl hr) ?_
            show Till p e below s (Q0 Z q1 q2 q3 q4 q5 p6 h0 n0) room_1.cells room_1.slots (T288.setTop (mkF m 196 #[.val (.long q1), .second, .val (.long q2), .second, .val (.long q3), .second, .val (.long q4), .second, .val (.long q5), .second, .val (.int p6), .val (.ref b3), .val (.ref b32), .val (.int n1), .val (.int n2), .val (.long v75s0), .second, .val (.int (((p6.toUInt32 >>> ((5 : Int32) &&& 31).toUInt32).toInt32) &&& (3 : Int32))), .val (.long v108s0), .second, .val (.ref b66), .val (.ref b275), .val (.ref b282), .val .null, .val (.int (fn14 n1 n1 (fun i => u2 (((1 : Int32)).toNatClampNeg + i)) (oupd (oupd (oupd (fun _ => (0 : Int64)) 0 q4) 1 q5) 2 (q4 ^^^ (-1 : Int64))))), .unset, .unset] []))
            refine Till.pre (fun _ hr => XS.aload X290.here hx rfl (hb hby at_196) rfl rfl hr) ?_
            show Till p e below s (Q0 Z q1 q2 q3 q4 q5 p6 h0 n0) room_1.cells room_1.slots (T288.setTop (mkF m 198 #[.val (.long q1), .second, .val (.long q2), .second, .val (.long q3), .second, .val (.long q4), .second, .val (.long q5), .second, .val (.int p6), .val (.ref b3), .val (.ref b32), .val (.int n1), .val (.int n2), .val (.long v75s0), .second, .val (.int (((p6.toUInt32 >>> ((5 : Int32) &&& 31).toUInt32).toInt32) &&& (3 : Int32))), .val (.long v108s0), .second, .val (.ref b66), .val (.ref b275), .val (.ref b282), .val .null, .val (.int (fn14 n1 n1 (fun i => u2 (((1 : Int32)).toNatClampNeg + i)) (oupd (oupd (oupd (fun _ => (0 : Int64)) 0 q4) 1 q5) 2 (q4 ^^^ (-1 : Int64))))), .unset, .unset] [(.ref b282)]))
            refine Till.pre (fun _ hr => XS.aload X290.here hx rfl (hb hby at_198) rfl rfl hr) ?_
            show Till p e below s (Q0 Z q1 q2 q3 q4 q5 p6 h0 n0) room_1.cells room_1.slots (T288.setTop (mkF m 200 #[.val (.long q1), .second, .val (.long q2), .second, .val (.long q3), .second, .val (.long q4), .second, .val (.long q5), .second, .val (.int p6), .val (.ref b3), .val (.ref b32), .val (.int n1), .val (.int n2), .val (.long v75s0), .second, .val (.int (((p6.toUInt32 >>> ((5 : Int32) &&& 31).toUInt32).toInt32) &&& (3 : Int32))), .val (.long v108s0), .second, .val (.ref b66), .val (.ref b275), .val (.ref b282), .val .null, .val (.int (fn14 n1 n1 (fun i => u2 (((1 : Int32)).toNatClampNeg + i)) (oupd (oupd (oupd (fun _ => (0 : Int64)) 0 q4) 1 q5) 2 (q4 ^^^ (-1 : Int64))))), .unset, .unset] [(.ref b32), (.ref b282)]))
            refine Till.pre (fun _ hr => XS.iload X290.here hx rfl (hb hby at_200) rfl hr) ?_
            show Till p e below s (Q0 Z q1 q2 q3 q4 q5 p6 h0 n0) room_1.cells room_1.slots (T288.setTop (mkF m 202 #[.val (.long q1), .second, .val (.long q2), .second, .val (.long q3), .second, .val (.long q4), .second, .val (.long q5), .second, .val (.int p6), .val (.ref b3), .val (.ref b32), .val (.int n1), .val (.int n2), .val (.long v75s0), .second, .val (.int (((p6.toUInt32 >>> ((5 : Int32) &&& 31).toUInt32).toInt32) &&& (3 : Int32))), .val (.long v108s0), .second, .val (.ref b66), .val (.ref b275), .val (.ref b282), .val .null, .val (.int (fn14 n1 n1 (fun i => u2 (((1 : Int32)).toNatClampNeg + i)) (oupd (oupd (oupd (fun _ => (0 : Int64)) 0 q4) 1 q5) 2 (q4 ^^^ (-1 : Int64))))), .unset, .unset] [(.int n2), (.ref b32), (.ref b282)]))
            refine Till.callS (rm14 l Z a0 hw b282 b32 n2 n2 (fun i => u2 (((us + (1 : Int32))).toNatClampNeg + i)) (oupd (oupd (oupd (fun _ => (0 : Int64)) 0 q5) 1 q4) 2 (q4 ^^^ q5)) T276.heap n0 R_b282 R_b32) X290 hx hZ hown (hw _ (List.mem_of_getElem? (i := 85) rfl)) (hw _ (List.mem_of_getElem? (i := 86) rfl)) (hw _ (List.mem_of_getElem? (i := 87) rfl)) (hw _ (List.mem_of_getElem? (i := 88) rfl)) (by decide) (by decide) (W := 0) (by decide) (by rw [hml]; rfl) (argsL := [(.ref b282), (.ref b32), (.int n2)]) (rest := []) (lenOf pd0_12 rfl) rfl rfl (Nat.le_of_eq rfl) (hb hby at_202) e292 (by decide) (by decide) ?_
            rintro _ T293 L294 X295 ⟨rfl, N296, e297⟩
            have N296 := Fr.app N291 N296
            show Till p e below s (Q0 Z q1 q2 q3 q4 q5 p6 h0 n0) room_1.cells room_1.slots (T293.setTop (mkF m 205 #[.val (.long q1), .second, .val (.long q2), .second, .val (.long q3), .second, .val (.long q4), .second, .val (.long q5), .second, .val (.int p6), .val (.ref b3), .val (.ref b32), .val (.int n1), .val (.int n2), .val (.long v75s0), .second, .val (.int (((p6.toUInt32 >>> ((5 : Int32) &&& 31).toUInt32).toInt32) &&& (3 : Int32))), .val (.long v108s0), .second, .val (.ref b66), .val (.ref b275), .val (.ref b282), .val .null, .val (.int (fn14 n1 n1 (fun i => u2 (((1 : Int32)).toNatClampNeg + i)) (oupd (oupd (oupd (fun _ => (0 : Int64)) 0 q4) 1 q5) 2 (q4 ^^^ (-1 : Int64))))), .unset, .unset] [(.int (fn14 n2 n2 (fun i => u2 (((us + (1 : Int32))).toNatClampNeg + i)) (oupd (oupd (oupd (fun _ => (0 : Int64)) 0 q5) 1 q4) 2 (q4 ^^^ q5))))]))
            refine Till.pre (fun _ hr => XS.istore X295.here hx rfl (hb hby at_205) rfl (l' := #[.val (.long q1), .second, .val (.long q2), .second, .val (.long q3), .second, .val (.long q4), .second, .val (.long q5), .second, .val (.int p6), .val (.ref b3), .val (.ref b32), .val (.int n1), .val (.int n2), .val (.long v75s0), .second, .val (.int (((p6.toUInt32 >>> ((5 : Int32) &&& 31).toUInt32).toInt32) &&& (3 : Int32))), .val (.long v108s0), .second, .val (.ref b66), .val (.ref b275), .val (.ref b282), .val .null, .val (.int (fn14 n1 n1 (fun i => u2 (((1 : Int32)).toNatClampNeg + i)) (oupd (oupd (oupd (fun _ => (0 : Int64)) 0 q4) 1 q5) 2 (q4 ^^^ (-1 : Int64))))), .val (.int (fn14 n2 n2 (fun i => u2 (((us + (1 : Int32))).toNatClampNeg + i)) (oupd (oupd (oupd (fun _ => (0 : Int64)) 0 q5) 1 q4) 2 (q4 ^^^ q5)))), .unset]) rfl hr) ?_
            show Till p e below s (Q0 Z q1 q2 q3 q4 q5 p6 h0 n0) room_1.cells room_1.slots (T293.setTop (mkF m 207 #[.val (.long q1), .second, .val (.long q2), .second, .val (.long q3), .second, .val (.long q4), .second, .val (.long q5), .second, .val (.int p6), .val (.ref b3), .val (.ref b32), .val (.int n1), .val (.int n2), .val (.long v75s0), .second, .val (.int (((p6.toUInt32 >>> ((5 : Int32) &&& 31).toUInt32).toInt32) &&& (3 : Int32))), .val (.long v108s0), .second, .val (.ref b66), .val (.ref b275), .val (.ref b282), .val .null, .val (.int (fn14 n1 n1 (fun i => u2 (((1 : Int32)).toNatClampNeg + i)) (oupd (oupd (oupd (fun _ => (0 : Int64)) 0 q4) 1 q5) 2 (q4 ^^^ (-1 : Int64))))), .val (.int (fn14 n2 n2 (fun i => u2 (((us + (1 : Int32))).toNatClampNeg + i)) (oupd (oupd (oupd (fun _ => (0 : Int64)) 0 q5) 1 q4) 2 (q4 ^^^ q5)))), .unset] []))
            refine Till.pre (fun _ hr => XS.lload X295.here hx rfl (hb hby at_207) rfl hr) ?_
            show Till p e below s (Q0 Z q1 q2 q3 q4 q5 p6 h0 n0) room_1.cells room_1.slots (T293.setTop (mkF m 209 #[.val (.long q1), .second, .val (.long q2), .second, .val (.long q3), .second, .val (.long q4), .second, .val (.long q5), .second, .val (.int p6), .val (.ref b3), .val (.ref b32), .val (.int n1), .val (.int n2), .val (.long v75s0), .second, .val (.int (((p6.toUInt32 >>> ((5 : Int32) &&& 31).toUInt32).toInt32) &&& (3 : Int32))), .val (.long v108s0), .second, .val (.ref b66), .val (.ref b275), .val (.ref b282), .val .null, .val (.int (fn14 n1 n1 (fun i => u2 (((1 : Int32)).toNatClampNeg + i)) (oupd (oupd (oupd (fun _ => (0 : Int64)) 0 q4) 1 q5) 2 (q4 ^^^ (-1 : Int64))))), .val (.int (fn14 n2 n2 (fun i => u2 (((us + (1 : Int32))).toNatClampNeg + i)) (oupd (oupd (oupd (fun _ => (0 : Int64)) 0 q5) 1 q4) 2 (q4 ^^^ q5)))), .unset] [(.long v108s0)]))
            refine Till.pre (fun _ hr => XS.lload X295.here hx rfl (hb hby at_209) rfl hr) ?_
            show Till p e below s (Q0 Z q1 q2 q3 q4 q5 p6 h0 n0) room_1.cells room_1.slots (T293.setTop (mkF m 211 #[.val (.long q1), .second, .val (.long q2), .second, .val (.long q3), .second, .val (.long q4), .second, .val (.long q5), .second, .val (.int p6), .val (.ref b3), .val (.ref b32), .val (.int n1), .val (.int n2), .val (.long v75s0), .second, .val (.int (((p6.toUInt32 >>> ((5 : Int32) &&& 31).toUInt32).toInt32) &&& (3 : Int32))), .val (.long v108s0), .second, .val (.ref b66), .val (.ref b275), .val (.ref b282), .val .null, .val (.int (fn14 n1 n1 (fun i => u2 (((1 : Int32)).toNatClampNeg + i)) (oupd (oupd (oupd (fun _ => (0 : Int64)) 0 q4) 1 q5) 2 (q4 ^^^ (-1 : Int64))))), .val (.int (fn14 n2 n2 (fun i => u2 (((us + (1 : Int32))).toNatClampNeg + i)) (oupd (oupd (oupd (fun _ => (0 : Int64)) 0 q5) 1 q4) 2 (q4 ^^^ q5)))), .unset] [(.long v75s0), (.long v108s0)]))
            refine Till.pre (fun _ hr => XS.lcmp X295.here hx rfl (hb hby at_211) rfl hr) ?_
            show Till p e below s (Q0 Z q1 q2 q3 q4 q5 p6 h0 n0) room_1.cells room_1.slots (T293.setTop (mkF m 212 #[.val (.long q1), .second, .val (.long q2), .second, .val (.long q3), .second, .val (.long q4), .second, .val (.long q5), .second, .val (.int p6), .val (.ref b3), .val (.ref b32), .val (.int n1), .val (.int n2), .val (.long v75s0), .second, .val (.int (((p6.toUInt32 >>> ((5 : Int32) &&& 31).toUInt32).toInt32) &&& (3 : Int32))), .val (.long v108s0), .second, .val (.ref b66), .val (.ref b275), .val (.ref b282), .val .null, .val (.int (fn14 n1 n1 (fun i => u2 (((1 : Int32)).toNatClampNeg + i)) (oupd (oupd (oupd (fun _ => (0 : Int64)) 0 q4) 1 q5) 2 (q4 ^^^ (-1 : Int64))))), .val (.int (fn14 n2 n2 (fun i => u2 (((us + (1 : Int32))).toNatClampNeg + i)) (oupd (oupd (oupd (fun _ => (0 : Int64)) 0 q5) 1 q4) 2 (q4 ^^^ q5)))), .unset] [(.int (lcmpW v108s0 v75s0))]))
            refine Till.ifc (pc' := 229) X295.here hx (hb hby at_212) (by decide) (by decide) (fun q => ?_) (fun q => absurd (lEq.mp (hEq.2.2.2 q)) (hB : ¬ (v108s0 = v75s0)))
            show Till p e below s (Q0 Z q1 q2 q3 q4 q5 p6 h0 n0) room_1.cells room_1.slots (T293.setTop (mkF m 229 #[.val (.long q1), .second, .val (.long q2), .second, .val (.long q3), .second, .val (.long q4), .second, .val (.long q5), .second, .val (.int p6), .val (.ref b3), .val (.ref b32), .val (.int n1), .val (.int n2), .val (.long v75s0), .second, .val (.int (((p6.toUInt32 >>> ((5 : Int32) &&& 31).toUInt32).toInt32) &&& (3 : Int32))), .val (.long v108s0), .second, .val (.ref b66), .val (.ref b275), .val (.ref b282), .val .null, .val (.int (fn14 n1 n1 (fun i => u2 (((1 : Int32)).toNatClampNeg + i)) (oupd (oupd (oupd (fun _ => (0 : Int64)) 0 q4) 1 q5) 2 (q4 ^^^ (-1 : Int64))))), .val (.int (fn14 n2 n2 (fun i => u2 (((us + (1 : Int32))).toNatClampNeg + i)) (oupd (oupd (oupd (fun _ => (0 : Int64)) 0 q5) 1 q4) 2 (q4 ^^^ q5)))), .unset] []))
            refine Till.pre (fun _ hr => XS.lload X295.here hx rfl (hb hby at_229) rfl hr) ?_
            show Till p e below s (Q0 Z q1 q2 q3 q4 q5 p6 h0 n0) room_1.cells room_1.slots (T293.setTop (mkF m 231 #[.val (.long q1), .second, .val (.long q2), .second, .val (.long q3), .second, .val (.long q4), .second, .val (.long q5), .second, .val (.int p6), .val (.ref b3), .val (.ref b32), .val (.int n1), .val (.int n2), .val (.long v75s0), .second, .val (.int (((p6.toUInt32 >>> ((5 : Int32) &&& 31).toUInt32).toInt32) &&& (3 : Int32))), .val (.long v108s0), .second, .val (.ref b66), .val (.ref b275), .val (.ref b282), .val .null, .val (.int (fn14 n1 n1 (fun i => u2 (((1 : Int32)).toNatClampNeg + i)) (oupd (oupd (oupd (fun _ => (0 : Int64)) 0 q4) 1 q5) 2 (q4 ^^^ (-1 : Int64))))), .val (.int (fn14 n2 n2 (fun i => u2 (((us + (1 : Int32))).toNatClampNeg + i)) (oupd (oupd (oupd (fun _ => (0 : Int64)) 0 q5) 1 q4) 2 (q4 ^^^ q5)))), .unset] [(.long v108s0)]))
            refine Till.pre (fun _ hr => XS.lloadN X295.here hx rfl (hb hby at_231) rfl hr) ?_
            show Till p e below s (Q0 Z q1 q2 q3 q4 q5 p6 h0 n0) room_1.cells room_1.slots (T293.setTop (mkF m 232 #[.val (.long q1), .second, .val (.long q2), .second, .val (.long q3), .second, .val (.long q4), .second, .val (.long q5), .second, .val (.int p6), .val (.ref b3), .val (.ref b32), .val (.int n1), .val (.int n2), .val (.long v75s0), .second, .val (.int (((p6.toUInt32 >>> ((5 : Int32) &&& 31).toUInt32).toInt32) &&& (3 : Int32))), .val (.long v108s0), .second, .val (.ref b66), .val (.ref b275), .val (.ref b282), .val .null, .val (.int (fn14 n1 n1 (fun i => u2 (((1 : Int32)).toNatClampNeg + i)) (oupd (oupd (oupd (fun _ => (0 : Int64)) 0 q4) 1 q5) 2 (q4 ^^^ (-1 : Int64))))), .val (.int (fn14 n2 n2 (fun i => u2 (((us + (1 : Int32))).toNatClampNeg + i)) (oupd (oupd (oupd (fun _ => (0 : Int64)) 0 q5) 1 q4) 2 (q4 ^^^ q5)))), .unset] [(.long q1), (.long v108s0)]))
            refine Till.pre (fun _ hr => XS.lcmp X295.here hx rfl (hb hby at_232) rfl hr) ?_
            show Till p e below s (Q0 Z q1 q2 q3 q4 q5 p6 h0 n0) room_1.cells room_1.slots (T293.setTop (mkF m 233 #[.val (.long q1), .second, .val (.long q2), .second, .val (.long q3), .second, .val (.long q4), .second, .val (.long q5), .second, .val (.int p6), .val (.ref b3), .val (.ref b32), .val (.int n1), .val (.int n2), .val (.long v75s0), .second, .val (.int (((p6.toUInt32 >>> ((5 : Int32) &&& 31).toUInt32).toInt32) &&& (3 : Int32))), .val (.long v108s0), .second, .val (.ref b66), .val (.ref b275), .val (.ref b282), .val .null, .val (.int (fn14 n1 n1 (fun i => u2 (((1 : Int32)).toNatClampNeg + i)) (oupd (oupd (oupd (fun _ => (0 : Int64)) 0 q4) 1 q5) 2 (q4 ^^^ (-1 : Int64))))), .val (.int (fn14 n2 n2 (fun i => u2 (((us + (1 : Int32))).toNatClampNeg + i)) (oupd (oupd (oupd (fun _ => (0 : Int64)) 0 q5) 1 q4) 2 (q4 ^^^ q5)))), .unset] [(.int (lcmpW v108s0 q1))]))
            refine Till.ifc (pc' := 250) X295.here hx (hb hby at_233) (by decide) (by decide) (fun q => ?_) (fun q => absurd (lEq.mp (hEq.2.2.2 q)) (hC : ¬ (v108s0 = q1)))
            show Till p e below s (Q0 Z q1 q2 q3 q4 q5 p6 h0 n0) room_1.cells room_1.slots (T293.setTop (mkF m 250 #[.val (.long q1), .second, .val (.long q2), .second, .val (.long q3), .second, .val (.long q4), .second, .val (.long q5), .second, .val (.int p6), .val (.ref b3), .val (.ref b32), .val (.int n1), .val (.int n2), .val (.long v75s0), .second, .val (.int (((p6.toUInt32 >>> ((5 : Int32) &&& 31).toUInt32).toInt32) &&& (3 : Int32))), .val (.long v108s0), .second, .val (.ref b66), .val (.ref b275), .val (.ref b282), .val .null, .val (.int (fn14 n1 n1 (fun i => u2 (((1 : Int32)).toNatClampNeg + i)) (oupd (oupd (oupd (fun _ => (0 : Int64)) 0 q4) 1 q5) 2 (q4 ^^^ (-1 : Int64))))), .val (.int (fn14 n2 n2 (fun i => u2 (((us + (1 : Int32))).toNatClampNeg + i)) (oupd (oupd (oupd (fun _ => (0 : Int64)) 0 q5) 1 q4) 2 (q4 ^^^ q5)))), .unset] []))
            refine Till.pre (fun _ hr => XS.aload X295.here hx rfl (hb hby at_250) rfl rfl hr) ?_
            show Till p e below s (Q0 Z q1 q2 q3 q4 q5 p6 h0 n0) room_1.cells room_1.slots (T293.setTop (mkF m 252 #[.val (.long q1), .second, .val (.long q2), .second, .val (.long q3), .second, .val (.long q4), .second, .val (.long q5), .second, .val (.int p6), .val (.ref b3), .val (.ref b32), .val (.int n1), .val (.int n2), .val (.long v75s0), .second, .val (.int (((p6.toUInt32 >>> ((5 : Int32) &&& 31).toUInt32).toInt32) &&& (3 : Int32))), .val (.long v108s0), .second, .val (.ref b66), .val (.ref b275), .val (.ref b282), .val .null, .val (.int (fn14 n1 n1 (fun i => u2 (((1 : Int32)).toNatClampNeg + i)) (oupd (oupd (oupd (fun _ => (0 : Int64)) 0 q4) 1 q5) 2 (q4 ^^^ (-1 : Int64))))), .val (.int (fn14 n2 n2 (fun i => u2 (((us + (1 : Int32))).toNatClampNeg + i)) (oupd (oupd (oupd (fun _ => (0 : Int64)) 0 q5) 1 q4) 2 (q4 ^^^ q5)))), .unset] [.null]))
            refine Till.pre (fun _ hr => XS.ifnonnullNo X295.here hx rfl (hb hby at_252) rfl hr) ?_
            show Till p e below s (Q0 Z q1 q2 q3 q4 q5 p6 h0 n0) room_1.cells room_1.slots (T293.setTop (mkF m 255 #[.val (.long q1), .second, .val (.long q2), .second, .val (.long q3), .second, .val (.long q4), .second, .val (.long q5), .second, .val (.int p6), .val (.ref b3), .val (.ref b32), .val (.int n1), .val (.int n2), .val (.long v75s0), .second, .val (.int (((p6.toUInt32 >>> ((5 : Int32) &&& 31).toUInt32).toInt32) &&& (3 : Int32))), .val (.long v108s0), .second, .val (.ref b66), .val (.ref b275), .val (.ref b282), .val .null, .val (.int (fn14 n1 n1 (fun i => u2 (((1 : Int32)).toNatClampNeg + i)) (oupd (oupd (oupd (fun _ => (0 : Int64)) 0 q4) 1 q5) 2 (q4 ^^^ (-1 : Int64))))), .val (.int (fn14 n2 n2 (fun i => u2 (((us + (1 : Int32))).toNatClampNeg + i)) (oupd (oupd (oupd (fun _ => (0 : Int64)) 0 q5) 1 q4) 2 (q4 ^^^ q5)))), .unset] []))
            refine Till.pre (fun _ hr => XS.iconst X295.here hx rfl (hb hby at_255) hr) ?_
            show Till p e below s (Q0 Z q1 q2 q3 q4 q5 p6 h0 n0) room_1.cells room_1.slots (T293.setTop (mkF m 256 #[.val (.long q1), .second, .val (.long q2), .second, .val (.long q3), .second, .val (.long q4), .second, .val (.long q5), .second, .val (.int p6), .val (.ref b3), .val (.ref b32), .val (.int n1), .val (.int n2), .val (.long v75s0), .second, .val (.int (((p6.toUInt32 >>> ((5 : Int32) &&& 31).toUInt32).toInt32) &&& (3 : Int32))), .val (.long v108s0), .second, .val (.ref b66), .val (.ref b275), .val (.ref b282), .val .null, .val (.int (fn14 n1 n1 (fun i => u2 (((1 : Int32)).toNatClampNeg + i)) (oupd (oupd (oupd (fun _ => (0 : Int64)) 0 q4) 1 q5) 2 (q4 ^^^ (-1 : Int64))))), .val (.int (fn14 n2 n2 (fun i => u2 (((us + (1 : Int32))).toNatClampNeg + i)) (oupd (oupd (oupd (fun _ => (0 : Int64)) 0 q5) 1 q4) 2 (q4 ^^^ q5)))), .unset] [(.int (1 : Int32))]))
            refine Till.pre (fun _ hr => XS.goto X295.here hx rfl (pc0 := 256) (pc' := 260) rfl (hb hby at_256) (by decide) (by decide) hr) ?_
            show Till p e below s (Q0 Z q1 q2 q3 q4 q5 p6 h0 n0) room_1.cells room_1.slots (T293.setTop (mkF m 260 #[.val (.long q1), .second, .val (.long q2), .second, .val (.long q3), .second, .val (.long q4), .second, .val (.long q5), .second, .val (.int p6), .val (.ref b3), .val (.ref b32), .val (.int n1), .val (.int n2), .val (.long v75s0), .second, .val (.int (((p6.toUInt32 >>> ((5 : Int32) &&& 31).toUInt32).toInt32) &&& (3 : Int32))), .val (.long v108s0), .second, .val (.ref b66), .val (.ref b275), .val (.ref b282), .val .null, .val (.int (fn14 n1 n1 (fun i => u2 (((1 : Int32)).toNatClampNeg + i)) (oupd (oupd (oupd (fun _ => (0 : Int64)) 0 q4) 1 q5) 2 (q4 ^^^ (-1 : Int64))))), .val (.int (fn14 n2 n2 (fun i => u2 (((us + (1 : Int32))).toNatClampNeg + i)) (oupd (oupd (oupd (fun _ => (0 : Int64)) 0 q5) 1 q4) 2 (q4 ^^^ q5)))), .unset] [(.int (1 : Int32))]))
            refine Till.pre (fun _ hr => XS.istore X295.here hx rfl (hb hby at_260) rfl (l' := #[.val (.long q1), .second, .val (.long q2), .second, .val (.long q3), .second, .val (.long q4), .second, .val (.long q5), .second, .val (.int p6), .val (.ref b3), .val (.ref b32), .val (.int n1), .val (.int n2), .val (.long v75s0), .second, .val (.int (((p6.toUInt32 >>> ((5 : Int32) &&& 31).toUInt32).toInt32) &&& (3 : Int32))), .val (.long v108s0), .second, .val (.ref b66), .val (.ref b275), .val (.ref b282), .val .null, .val (.int (fn14 n1 n1 (fun i => u2 (((1 : Int32)).toNatClampNeg + i)) (oupd (oupd (oupd (fun _ => (0 : Int64)) 0 q4) 1 q5) 2 (q4 ^^^ (-1 : Int64))))), .val (.int (fn14 n2 n2 (fun i => u2 (((us + (1 : Int32))).toNatClampNeg + i)) (oupd (oupd (oupd (fun _ => (0 : Int64)) 0 q5) 1 q4) 2 (q4 ^^^ q5)))), .val (.int (1 : Int32))]) rfl hr) ?_
            show Till p e below s (Q0 Z q1 q2 q3 q4 q5 p6 h0 n0) room_1.cells room_1.slots (T293.setTop (mkF m 262 #[.val (.long q1), .second, .val (.long q2), .second, .val (.long q3), .second, .val (.long q4), .second, .val (.long q5), .second, .val (.int p6), .val (.ref b3), .val (.ref b32), .val (.int n1), .val (.int n2), .val (.long v75s0), .second, .val (.int (((p6.toUInt32 >>> ((5 : Int32) &&& 31).toUInt32).toInt32) &&& (3 : Int32))), .val (.long v108s0), .second, .val (.ref b66), .val (.ref b275), .val (.ref b282), .val .null, .val (.int (fn14 n1 n1 (fun i => u2 (((1 : Int32)).toNatClampNeg + i)) (oupd (oupd (oupd (fun _ => (0 : Int64)) 0 q4) 1 q5) 2 (q4 ^^^ (-1 : Int64))))), .val (.int (fn14 n2 n2 (fun i => u2 (((us + (1 : Int32))).toNatClampNeg + i)) (oupd (oupd (oupd (fun _ => (0 : Int64)) 0 q5) 1 q4) 2 (q4 ^^^ q5)))), .val (.int (1 : Int32))] []))
            refine Till.pre (fun _ hr => XS.iload X295.here hx rfl (hb hby at_262) rfl hr) ?_
            show Till p e below s (Q0 Z q1 q2 q3 q4 q5 p6 h0 n0) room_1.cells room_1.slots (T293.setTop (mkF m 264 #[.val (.long q1), .second, .val (.long q2), .second, .val (.long q3), .second, .val (.long q4), .second, .val (.long q5), .second, .val (.int p6), .val (.ref b3), .val (.ref b32), .val (.int n1), .val (.int n2), .val (.long v75s0), .second, .val (.int (((p6.toUInt32 >>> ((5 : Int32) &&& 31).toUInt32).toInt32) &&& (3 : Int32))), .val (.long v108s0), .second, .val (.ref b66), .val (.ref b275), .val (.ref b282), .val .null, .val (.int (fn14 n1 n1 (fun i => u2 (((1 : Int32)).toNatClampNeg + i)) (oupd (oupd (oupd (fun _ => (0 : Int64)) 0 q4) 1 q5) 2 (q4 ^^^ (-1 : Int64))))), .val (.int (fn14 n2 n2 (fun i => u2 (((us + (1 : Int32))).toNatClampNeg + i)) (oupd (oupd (oupd (fun _ => (0 : Int64)) 0 q5) 1 q4) 2 (q4 ^^^ q5)))), .val (.int (1 : Int32))] [(.int (fn14 n1 n1 (fun i => u2 (((1 : Int32)).toNatClampNeg + i)) (oupd (oupd (oupd (fun _ => (0 : Int64)) 0 q4) 1 q5) 2 (q4 ^^^ (-1 : Int64)))))]))
            have J282_299 : ∀ (v282s0x5 : Int32) (hv282s0x5 : v282s0x5 = (if ((fn14 n1 n1 (fun i => u2 (((1 : Int32)).toNatClampNeg + i)) (oupd (oupd (oupd (fun _ => (0 : Int64)) 0 q4) 1 q5) 2 (q4 ^^^ (-1 : Int64)))) = (0 : Int32)) then (0 : Int32) else (if ((fn14 n2 n2 (fun i => u2 (((us + (1 : Int32))).toNatClampNeg + i)) (oupd (oupd (oupd (fun _ => (0 : Int64)) 0 q5) 1 q4) 2 (q4 ^^^ q5))) = (0 : Int32)) then (0 : Int32) else (1 : Int32)))), Till p e below s (Q0 Z q1 q2 q3 q4 q5 p6 h0 n0) room_1.cells room_1.slots (T293.setTop (mkF m 282 #[.val (.long q1), .second, .val (.long q2), .second, .val (.long q3), .second, .val (.long q4), .second, .val (.long q5), .second, .val (.int p6), .val (.ref b3), .val (.ref b32), .val (.int n1), .val (.int n2), .val (.long v75s0), .second, .val (.int (((p6.toUInt32 >>> ((5 : Int32) &&& 31).toUInt32).toInt32) &&& (3 : Int32))), .val (.long v108s0), .second, .val (.ref b66), .val (.ref b275), .val (.ref b282), .val .null, .val (.int (fn14 n1 n1 (fun i => u2 (((1 : Int32)).toNatClampNeg + i)) (oupd (oupd (oupd (fun _ => (0 : Int64)) 0 q4) 1 q5) 2 (q4 ^^^ (-1 : Int64))))), .val (.int (fn14 n2 n2 (fun i => u2 (((us + (1 : Int32))).toNatClampNeg + i)) (oupd (oupd (oupd (fun _ => (0 : Int64)) 0 q5) 1 q4) 2 (q4 ^^^ q5)))), .val (.int (1 : Int32))] [(.int v282s0x5)])) := by
              intro v282s0x5 hv282s0x5
              show Till p e below s (Q0 Z q1 q2 q3 q4 q5 p6 h0 n0) room_1.cells room_1.slots (T293.setTop (mkF m 282 #[.val (.long q1), .second, .val (.long q2), .second, .val (.long q3), .second, .val (.long q4), .second, .val (.long q5), .second, .val (.int p6), .val (.ref b3), .val (.ref b32), .val (.int n1), .val (.int n2), .val (.long v75s0), .second, .val (.int (((p6.toUInt32 >>> ((5 : Int32) &&& 31).toUInt32).toInt32) &&& (3 : Int32))), .val (.long v108s0), .second, .val (.ref b66), .val (.ref b275), .val (.ref b282), .val .null, .val (.int (fn14 n1 n1 (fun i => u2 (((1 : Int32)).toNatClampNeg + i)) (oupd (oupd (oupd (fun _ => (0 : Int64)) 0 q4) 1 q5) 2 (q4 ^^^ (-1 : Int64))))), .val (.int (fn14 n2 n2 (fun i => u2 (((us + (1 : Int32))).toNatClampNeg + i)) (oupd (oupd (oupd (fun _ => (0 : Int64)) 0 q5) 1 q4) 2 (q4 ^^^ q5)))), .val (.int (1 : Int32))] [(.int v282s0x5)]))
              refine Till.retZ (w := (1 : Int32)) X295 hx hret hlk (hb hby at_282) (by decide) (by decide) (by rw [hv282s0x5, own_s1 hu_us (own_n4 hu_n1) hu_u1 hu_u2, own_s2 hu_us (own_n4 hu_n1) (own_n4 hu_n2) hu_u2]; decide) ?_
              exact ⟨rfl, N296⟩
            refine Till.ifc (pc' := 281) X295.here hx (hb hby at_264) (by decide) (by decide) (fun q => ?_) (fun q => ?_)
            · have hc298 := (hEq.1 q)
              show Till p e below s (Q0 Z q1 q2 q3 q4 q5 p6 h0 n0) room_1.cells room_1.slots (T293.setTop (mkF m 281 #[.val (.long q1), .second, .val (.long q2), .second, .val (.long q3), .second, .val (.long q4), .second, .val (.long q5), .second, .val (.int p6), .val (.ref b3), .val (.ref b32), .val (.int n1), .val (.int n2), .val (.long v75s0), .second, .val (.int (((p6.toUInt32 >>> ((5 : Int32) &&& 31).toUInt32).toInt32) &&& (3 : Int32))), .val (.long v108s0), .second, .val (.ref b66), .val (.ref b275), .val (.ref b282), .val .null, .val (.int (fn14 n1 n1 (fun i => u2 (((1 : Int32)).toNatClampNeg + i)) (oupd (oupd (oupd (fun _ => (0 : Int64)) 0 q4) 1 q5) 2 (q4 ^^^ (-1 : Int64))))), .val (.int (fn14 n2 n2 (fun i => u2 (((us + (1 : Int32))).toNatClampNeg + i)) (oupd (oupd (oupd (fun _ => (0 : Int64)) 0 q5) 1 q4) 2 (q4 ^^^ q5)))), .val (.int (1 : Int32))] []))
              refine Till.pre (fun _ hr => XS.iconst X295.here hx rfl (hb hby at_281) hr) ?_
              show Till p e below s (Q0 Z q1 q2 q3 q4 q5 p6 h0 n0) room_1.cells room_1.slots (T293.setTop (mkF m 282 #[.val (.long q1), .second, .val (.long q2), .second, .val (.long q3), .second, .val (.long q4), .second, .val (.long q5), .second, .val (.int p6), .val (.ref b3), .val (.ref b32), .val (.int n1), .val (.int n2), .val (.long v75s0), .second, .val (.int (((p6.toUInt32 >>> ((5 : Int32) &&& 31).toUInt32).toInt32) &&& (3 : Int32))), .val (.long v108s0), .second, .val (.ref b66), .val (.ref b275), .val (.ref b282), .val .null, .val (.int (fn14 n1 n1 (fun i => u2 (((1 : Int32)).toNatClampNeg + i)) (oupd (oupd (oupd (fun _ => (0 : Int64)) 0 q4) 1 q5) 2 (q4 ^^^ (-1 : Int64))))), .val (.int (fn14 n2 n2 (fun i => u2 (((us + (1 : Int32))).toNatClampNeg + i)) (oupd (oupd (oupd (fun _ => (0 : Int64)) 0 q5) 1 q4) 2 (q4 ^^^ q5)))), .val (.int (1 : Int32))] [(.int (0 : Int32))]))
              exact J282_299 _ (Eq.symm (if_pos hc298))
            · have hc298 := (hEq.2.1 q)
              show Till p e below s (Q0 Z q1 q2 q3 q4 q5 p6 h0 n0) room_1.cells room_1.slots (T293.setTop (mkF m 267 #[.val (.long q1), .second, .val (.long q2), .second, .val (.long q3), .second, .val (.long q4), .second, .val (.long q5), .second, .val (.int p6), .val (.ref b3), .val (.ref b32), .val (.int n1), .val (.int n2), .val (.long v75s0), .second, .val (.int (((p6.toUInt32 >>> ((5 : Int32) &&& 31).toUInt32).toInt32) &&& (3 : Int32))), .val (.long v108s0), .second, .val (.ref b66), .val (.ref b275), .val (.ref b282), .val .null, .val (.int (fn14 n1 n1 (fun i => u2 (((1 : Int32)).toNatClampNeg + i)) (oupd (oupd (oupd (fun _ => (0 : Int64)) 0 q4) 1 q5) 2 (q4 ^^^ (-1 : Int64))))), .val (.int (fn14 n2 n2 (fun i => u2 (((us + (1 : Int32))).toNatClampNeg + i)) (oupd (oupd (oupd (fun _ => (0 : Int64)) 0 q5) 1 q4) 2 (q4 ^^^ q5)))), .val (.int (1 : Int32))] []))
              refine Till.pre (fun _ hr => XS.iload X295.here hx rfl (hb hby at_267) rfl hr) ?_
              show Till p e below s (Q0 Z q1 q2 q3 q4 q5 p6 h0 n0) room_1.cells room_1.slots (T293.setTop (mkF m 269 #[.val (.long q1), .second, .val (.long q2), .second, .val (.long q3), .second, .val (.long q4), .second, .val (.long q5), .second, .val (.int p6), .val (.ref b3), .val (.ref b32), .val (.int n1), .val (.int n2), .val (.long v75s0), .second, .val (.int (((p6.toUInt32 >>> ((5 : Int32) &&& 31).toUInt32).toInt32) &&& (3 : Int32))), .val (.long v108s0), .second, .val (.ref b66), .val (.ref b275), .val (.ref b282), .val .null, .val (.int (fn14 n1 n1 (fun i => u2 (((1 : Int32)).toNatClampNeg + i)) (oupd (oupd (oupd (fun _ => (0 : Int64)) 0 q4) 1 q5) 2 (q4 ^^^ (-1 : Int64))))), .val (.int (fn14 n2 n2 (fun i => u2 (((us + (1 : Int32))).toNatClampNeg + i)) (oupd (oupd (oupd (fun _ => (0 : Int64)) 0 q5) 1 q4) 2 (q4 ^^^ q5)))), .val (.int (1 : Int32))] [(.int (fn14 n2 n2 (fun i => u2 (((us + (1 : Int32))).toNatClampNeg + i)) (oupd (oupd (oupd (fun _ => (0 : Int64)) 0 q5) 1 q4) 2 (q4 ^^^ q5))))]))
              refine Till.ifc (pc' := 281) X295.here hx (hb hby at_269) (by decide) (by decide) (fun q => ?_) (fun q => ?_)
              · have hc299 := (hEq.1 q)
                show Till p e below s (Q0 Z q1 q2 q3 q4 q5 p6 h0 n0) room_1.cells room_1.slots (T293.setTop (mkF m 281 #[.val (.long q1), .second, .val (.long q2), .second, .val (.long q3), .second, .val (.long q4), .second, .val (.long q5), .second, .val (.int p6), .val (.ref b3), .val (.ref b32), .val (.int n1), .val (.int n2), .val (.long v75s0), .second, .val (.int (((p6.toUInt32 >>> ((5 : Int32) &&& 31).toUInt32).toInt32) &&& (3 : Int32))), .val (.long v108s0), .second, .val (.ref b66), .val (.ref b275), .val (.ref b282), .val .null, .val (.int (fn14 n1 n1 (fun i => u2 (((1 : Int32)).toNatClampNeg + i)) (oupd (oupd (oupd (fun _ => (0 : Int64)) 0 q4) 1 q5) 2 (q4 ^^^ (-1 : Int64))))), .val (.int (fn14 n2 n2 (fun i => u2 (((us + (1 : Int32))).toNatClampNeg + i)) (oupd (oupd (oupd (fun _ => (0 : Int64)) 0 q5) 1 q4) 2 (q4 ^^^ q5)))), .val (.int (1 : Int32))] []))
                refine Till.pre (fun _ hr => XS.iconst X295.here hx rfl (hb hby at_281) hr) ?_
                show Till p e below s (Q0 Z q1 q2 q3 q4 q5 p6 h0 n0) room_1.cells room_1.slots (T293.setTop (mkF m 282 #[.val (.long q1), .second, .val (.long q2), .second, .val (.long q3), .second, .val (.long q4), .second, .val (.long q5), .second, .val (.int p6), .val (.ref b3), .val (.ref b32), .val (.int n1), .val (.int n2), .val (.long v75s0), .second, .val (.int (((p6.toUInt32 >>> ((5 : Int32) &&& 31).toUInt32).toInt32) &&& (3 : Int32))), .val (.long v108s0), .second, .val (.ref b66), .val (.ref b275), .val (.ref b282), .val .null, .val (.int (fn14 n1 n1 (fun i => u2 (((1 : Int32)).toNatClampNeg + i)) (oupd (oupd (oupd (fun _ => (0 : Int64)) 0 q4) 1 q5) 2 (q4 ^^^ (-1 : Int64))))), .val (.int (fn14 n2 n2 (fun i => u2 (((us + (1 : Int32))).toNatClampNeg + i)) (oupd (oupd (oupd (fun _ => (0 : Int64)) 0 q5) 1 q4) 2 (q4 ^^^ q5)))), .val (.int (1 : Int32))] [(.int (0 : Int32))]))
                exact J282_299 _ (Eq.symm ((if_neg hc298).trans (if_pos hc299)))
              · have hc299 := (hEq.2.1 q)
                show Till p e below s (Q0 Z q1 q2 q3 q4 q5 p6 h0 n0) room_1.cells room_1.slots (T293.setTop (mkF m 272 #[.val (.long q1), .second, .val (.long q2), .second, .val (.long q3), .second, .val (.long q4), .second, .val (.long q5), .second, .val (.int p6), .val (.ref b3), .val (.ref b32), .val (.int n1), .val (.int n2), .val (.long v75s0), .second, .val (.int (((p6.toUInt32 >>> ((5 : Int32) &&& 31).toUInt32).toInt32) &&& (3 : Int32))), .val (.long v108s0), .second, .val (.ref b66), .val (.ref b275), .val (.ref b282), .val .null, .val (.int (fn14 n1 n1 (fun i => u2 (((1 : Int32)).toNatClampNeg + i)) (oupd (oupd (oupd (fun _ => (0 : Int64)) 0 q4) 1 q5) 2 (q4 ^^^ (-1 : Int64))))), .val (.int (fn14 n2 n2 (fun i => u2 (((us + (1 : Int32))).toNatClampNeg + i)) (oupd (oupd (oupd (fun _ => (0 : Int64)) 0 q5) 1 q4) 2 (q4 ^^^ q5)))), .val (.int (1 : Int32))] []))
                refine Till.pre (fun _ hr => XS.iload X295.here hx rfl (hb hby at_272) rfl hr) ?_
                show Till p e below s (Q0 Z q1 q2 q3 q4 q5 p6 h0 n0) room_1.cells room_1.slots (T293.setTop (mkF m 274 #[.val (.long q1), .second, .val (.long q2), .second, .val (.long q3), .second, .val (.long q4), .second, .val (.long q5), .second, .val (.int p6), .val (.ref b3), .val (.ref b32), .val (.int n1), .val (.int n2), .val (.long v75s0), .second, .val (.int (((p6.toUInt32 >>> ((5 : Int32) &&& 31).toUInt32).toInt32) &&& (3 : Int32))), .val (.long v108s0), .second, .val (.ref b66), .val (.ref b275), .val (.ref b282), .val .null, .val (.int (fn14 n1 n1 (fun i => u2 (((1 : Int32)).toNatClampNeg + i)) (oupd (oupd (oupd (fun _ => (0 : Int64)) 0 q4) 1 q5) 2 (q4 ^^^ (-1 : Int64))))), .val (.int (fn14 n2 n2 (fun i => u2 (((us + (1 : Int32))).toNatClampNeg + i)) (oupd (oupd (oupd (fun _ => (0 : Int64)) 0 q5) 1 q4) 2 (q4 ^^^ q5)))), .val (.int (1 : Int32))] [(.int (1 : Int32))]))
                refine Till.ifc (pc' := 281) X295.here hx (hb hby at_274) (by decide) (by decide) (fun q => absurd (hEq.1 q) (by decide : ¬ ((1 : Int32) = (0 : Int32)))) (fun q => ?_)
                show Till p e below s (Q0 Z q1 q2 q3 q4 q5 p6 h0 n0) room_1.cells room_1.slots (T293.setTop (mkF m 277 #[.val (.long q1), .second, .val (.long q2), .second, .val (.long q3), .second, .val (.long q4), .second, .val (.long q5), .second, .val (.int p6), .val (.ref b3), .val (.ref b32), .val (.int n1), .val (.int n2), .val (.long v75s0), .second, .val (.int (((p6.toUInt32 >>> ((5 : Int32) &&& 31).toUInt32).toInt32) &&& (3 : Int32))), .val (.long v108s0), .second, .val (.ref b66), .val (.ref b275), .val (.ref b282), .val .null, .val (.int (fn14 n1 n1 (fun i => u2 (((1 : Int32)).toNatClampNeg + i)) (oupd (oupd (oupd (fun _ => (0 : Int64)) 0 q4) 1 q5) 2 (q4 ^^^ (-1 : Int64))))), .val (.int (fn14 n2 n2 (fun i => u2 (((us + (1 : Int32))).toNatClampNeg + i)) (oupd (oupd (oupd (fun _ => (0 : Int64)) 0 q5) 1 q4) 2 (q4 ^^^ q5)))), .val (.int (1 : Int32))] []))
                refine Till.pre (fun _ hr => XS.iconst X295.here hx rfl (hb hby at_277) hr) ?_
                show Till p e below s (Q0 Z q1 q2 q3 q4 q5 p6 h0 n0) room_1.cells room_1.slots (T293.setTop (mkF m 278 #[.val (.long q1), .second, .val (.long q2), .second, .val (.long q3), .second, .val (.long q4), .second, .val (.long q5), .second, .val (.int p6), .val (.ref b3), .val (.ref b32), .val (.int n1), .val (.int n2), .val (.long v75s0), .second, .val (.int (((p6.toUInt32 >>> ((5 : Int32) &&& 31).toUInt32).toInt32) &&& (3 : Int32))), .val (.long v108s0), .second, .val (.ref b66), .val (.ref b275), .val (.ref b282), .val .null, .val (.int (fn14 n1 n1 (fun i => u2 (((1 : Int32)).toNatClampNeg + i)) (oupd (oupd (oupd (fun _ => (0 : Int64)) 0 q4) 1 q5) 2 (q4 ^^^ (-1 : Int64))))), .val (.int (fn14 n2 n2 (fun i => u2 (((us + (1 : Int32))).toNatClampNeg + i)) (oupd (oupd (oupd (fun _ => (0 : Int64)) 0 q5) 1 q4) 2 (q4 ^^^ q5)))), .val (.int (1 : Int32))] [(.int (1 : Int32))]))
                refine Till.pre (fun _ hr => XS.goto X295.here hx rfl (pc0 := 278) (pc' := 282) rfl (hb hby at_278) (by decide) (by decide) hr) ?_
                show Till p e below s (Q0 Z q1 q2 q3 q4 q5 p6 h0 n0) room_1.cells room_1.slots (T293.setTop (mkF m 282 #[.val (.long q1), .second, .val (.long q2), .second, .val (.long q3), .second, .val (.long q4), .second, .val (.long q5), .second, .val (.int p6), .val (.ref b3), .val (.ref b32), .val (.int n1), .val (.int n2), .val (.long v75s0), .second, .val (.int (((p6.toUInt32 >>> ((5 : Int32) &&& 31).toUInt32).toInt32) &&& (3 : Int32))), .val (.long v108s0), .second, .val (.ref b66), .val (.ref b275), .val (.ref b282), .val .null, .val (.int (fn14 n1 n1 (fun i => u2 (((1 : Int32)).toNatClampNeg + i)) (oupd (oupd (oupd (fun _ => (0 : Int64)) 0 q4) 1 q5) 2 (q4 ^^^ (-1 : Int64))))), .val (.int (fn14 n2 n2 (fun i => u2 (((us + (1 : Int32))).toNatClampNeg + i)) (oupd (oupd (oupd (fun _ => (0 : Int64)) 0 q5) 1 q4) 2 (q4 ^^^ q5)))), .val (.int (1 : Int32))] [(.int (1 : Int32))]))
                exact J282_299 _ (Eq.symm ((if_neg hc298).trans (if_neg hc299)))
    refine Till.icmp (pc' := 95) X54.here hx (hb hby at_88) (by decide) (by decide) (fun q => ?_) (fun q => ?_)
    · have hc61 := (hEq.2.2.1 q)
      show Till p e below s (Q0 Z q1 q2 q3 q4 q5 p6 h0 n0) room_1.cells room_1.slots (T52.setTop (mkF m 95 #[.val (.long q1), .second, .val (.long q2), .second, .val (.long q3), .second, .val (.long q4), .second, .val (.long q5), .second, .val (.int p6), .val (.ref b3), .val (.ref b32), .val (.int n1), .val (.int n2), .val (.long v75s0), .second, .val (.int (((p6.toUInt32 >>> ((5 : Int32) &&& 31).toUInt32).toInt32) &&& (3 : Int32))), .unset, .unset, .unset, .unset, .unset, .unset, .unset, .unset, .unset] []))
      refine Till.pre (fun _ hr => XS.iload X54.here hx rfl (hb hby at_95) rfl hr) ?_
      show Till p e below s (Q0 Z q1 q2 q3 q4 q5 p6 h0 n0) room_1.cells room_1.slots (T52.setTop (mkF m 97 #[.val (.long q1), .second, .val (.long q2), .second, .val (.long q3), .second, .val (.long q4), .second, .val (.long q5), .second, .val (.int p6), .val (.ref b3), .val (.ref b32), .val (.int n1), .val (.int n2), .val (.long v75s0), .second, .val (.int (((p6.toUInt32 >>> ((5 : Int32) &&& 31).toUInt32).toInt32) &&& (3 : Int32))), .unset, .unset, .unset, .unset, .unset, .unset, .unset, .unset, .unset] [(.int (((p6.toUInt32 >>> ((5 : Int32) &&& 31).toUInt32).toInt32) &&& (3 : Int32)))]))
      refine Till.pre (fun _ hr => XS.iconst X54.here hx rfl (hb hby at_97) hr) ?_
      show Till p e below s (Q0 Z q1 q2 q3 q4 q5 p6 h0 n0) room_1.cells room_1.slots (T52.setTop (mkF m 98 #[.val (.long q1), .second, .val (.long q2), .second, .val (.long q3), .second, .val (.long q4), .second, .val (.long q5), .second, .val (.int p6), .val (.ref b3), .val (.ref b32), .val (.int n1), .val (.int n2), .val (.long v75s0), .second, .val (.int (((p6.toUInt32 >>> ((5 : Int32) &&& 31).toUInt32).toInt32) &&& (3 : Int32))), .unset, .unset, .unset, .unset, .unset, .unset, .unset, .unset, .unset] [(.int (2 : Int32)), (.int (((p6.toUInt32 >>> ((5 : Int32) &&& 31).toUInt32).toInt32) &&& (3 : Int32)))]))
      refine Till.icmp (pc' := 106) X54.here hx (hb hby at_98) (by decide) (by decide) (fun q => ?_) (fun q => ?_)
      · have hc62 := (hEq.2.2.1 q)
        show Till p e below s (Q0 Z q1 q2 q3 q4 q5 p6 h0 n0) room_1.cells room_1.slots (T52.setTop (mkF m 106 #[.val (.long q1), .second, .val (.long q2), .second, .val (.long q3), .second, .val (.long q4), .second, .val (.long q5), .second, .val (.int p6), .val (.ref b3), .val (.ref b32), .val (.int n1), .val (.int n2), .val (.long v75s0), .second, .val (.int (((p6.toUInt32 >>> ((5 : Int32) &&& 31).toUInt32).toInt32) &&& (3 : Int32))), .unset, .unset, .unset, .unset, .unset, .unset, .unset, .unset, .unset] []))
        refine Till.pre (fun _ hr => XS.lload X54.here hx rfl (hb hby at_106) rfl hr) ?_
        show Till p e below s (Q0 Z q1 q2 q3 q4 q5 p6 h0 n0) room_1.cells room_1.slots (T52.setTop (mkF m 108 #[.val (.long q1), .second, .val (.long q2), .second, .val (.long q3), .second, .val (.long q4), .second, .val (.long q5), .second, .val (.int p6), .val (.ref b3), .val (.ref b32), .val (.int n1), .val (.int n2), .val (.long v75s0), .second, .val (.int (((p6.toUInt32 >>> ((5 : Int32) &&& 31).toUInt32).toInt32) &&& (3 : Int32))), .unset, .unset, .unset, .unset, .unset, .unset, .unset, .unset, .unset] [(.long q3)]))
        exact J108_62 _ (Eq.symm ((if_neg hc61).trans (if_neg hc62)))
      · have hc62 := (hEq.2.2.2 q)
        show Till p e below s (Q0 Z q1 q2 q3 q4 q5 p6 h0 n0) room_1.cells room_1.slots (T52.setTop (mkF m 101 #[.val (.long q1), .second, .val (.long q2), .second, .val (.long q3), .second, .val (.long q4), .second, .val (.long q5), .second, .val (.int p6), .val (.ref b3), .val (.ref b32), .val (.int n1), .val (.int n2), .val (.long v75s0), .second, .val (.int (((p6.toUInt32 >>> ((5 : Int32) &&& 31).toUInt32).toInt32) &&& (3 : Int32))), .unset, .unset, .unset, .unset, .unset, .unset, .unset, .unset, .unset] []))
        refine Till.pre (fun _ hr => XS.lload X54.here hx rfl (hb hby at_101) rfl hr) ?_
        show Till p e below s (Q0 Z q1 q2 q3 q4 q5 p6 h0 n0) room_1.cells room_1.slots (T52.setTop (mkF m 103 #[.val (.long q1), .second, .val (.long q2), .second, .val (.long q3), .second, .val (.long q4), .second, .val (.long q5), .second, .val (.int p6), .val (.ref b3), .val (.ref b32), .val (.int n1), .val (.int n2), .val (.long v75s0), .second, .val (.int (((p6.toUInt32 >>> ((5 : Int32) &&& 31).toUInt32).toInt32) &&& (3 : Int32))), .unset, .unset, .unset, .unset, .unset, .unset, .unset, .unset, .unset] [(.long v75s0)]))
        refine Till.pre (fun _ hr => XS.goto X54.here hx rfl (pc0 := 103) (pc' := 108) rfl (hb hby at_103) (by decide) (by decide) hr) ?_
        show Till p e below s (Q0 Z q1 q2 q3 q4 q5 p6 h0 n0) room_1.cells room_1.slots (T52.setTop (mkF m 108 #[.val (.long q1), .second, .val (.long q2), .second, .val (.long q3), .second, .val (.long q4), .second, .val (.long q5), .second, .val (.int p6), .val (.ref b3), .val (.ref b32), .val (.int n1), .val (.int n2), .val (.long v75s0), .second, .val (.int (((p6.toUInt32 >>> ((5 : Int32) &&& 31).toUInt32).toInt32) &&& (3 : Int32))), .unset, .unset, .unset, .unset, .unset, .unset, .unset, .unset, .unset] [(.long v75s0)]))
        exact J108_62 _ (Eq.symm ((if_neg hc61).trans (if_pos hc62)))
    · have hc61 := (hEq.2.2.2 q)
      show Till p e below s (Q0 Z q1 q2 q3 q4 q5 p6 h0 n0) room_1.cells room_1.slots (T52.setTop (mkF m 91 #[.val (.long q1), .second, .val (.long q2), .second, .val (.long q3), .second, .val (.long q4), .second, .val (.long q5), .second, .val (.int p6), .val (.ref b3), .val (.ref b32), .val (.int n1), .val (.int n2), .val (.long v75s0), .second, .val (.int (((p6.toUInt32 >>> ((5 : Int32) &&& 31).toUInt32).toInt32) &&& (3 : Int32))), .unset, .unset, .unset, .unset, .unset, .unset, .unset, .unset, .unset] []))
      refine Till.pre (fun _ hr => XS.lloadN X54.here hx rfl (hb hby at_91) rfl hr) ?_
      show Till p e below s (Q0 Z q1 q2 q3 q4 q5 p6 h0 n0) room_1.cells room_1.slots (T52.setTop (mkF m 92 #[.val (.long q1), .second, .val (.long q2), .second, .val (.long q3), .second, .val (.long q4), .second, .val (.long q5), .second, .val (.int p6), .val (.ref b3), .val (.ref b32), .val (.int n1), .val (.int n2), .val (.long v75s0), .second, .val (.int (((p6.toUInt32 >>> ((5 : Int32) &&& 31).toUInt32).toInt32) &&& (3 : Int32))), .unset, .unset, .unset, .unset, .unset, .unset, .unset, .unset, .unset] [(.long q1)]))
      refine Till.pre (fun _ hr => XS.goto X54.here hx rfl (pc0 := 92) (pc' := 108) rfl (hb hby at_92) (by decide) (by decide) hr) ?_
      show Till p e below s (Q0 Z q1 q2 q3 q4 q5 p6 h0 n0) room_1.cells room_1.slots (T52.setTop (mkF m 108 #[.val (.long q1), .second, .val (.long q2), .second, .val (.long q3), .second, .val (.long q4), .second, .val (.long q5), .second, .val (.int p6), .val (.ref b3), .val (.ref b32), .val (.int n1), .val (.int n2), .val (.long v75s0), .second, .val (.int (((p6.toUInt32 >>> ((5 : Int32) &&& 31).toUInt32).toInt32) &&& (3 : Int32))), .unset, .unset, .unset, .unset, .unset, .unset, .unset, .unset, .unset] [(.long q1)]))
      exact J108_62 _ (Eq.symm (if_pos hc61))
  refine Till.ifc (pc' := 74) X54.here hx (hb hby at_67) (by decide) (by decide) (fun q => ?_) (fun q => ?_)
  · have hc59 := (hEq.1 q)
    show Till p e below s (Q0 Z q1 q2 q3 q4 q5 p6 h0 n0) room_1.cells room_1.slots (T52.setTop (mkF m 74 #[.val (.long q1), .second, .val (.long q2), .second, .val (.long q3), .second, .val (.long q4), .second, .val (.long q5), .second, .val (.int p6), .val (.ref b3), .val (.ref b32), .val (.int n1), .val (.int n2), .unset, .unset, .unset, .unset, .unset, .unset, .unset, .unset, .unset, .unset, .unset, .unset] []))
    refine Till.pre (fun _ hr => XS.lloadN X54.here hx rfl (hb hby at_74) rfl hr) ?_
    show Till p e below s (Q0 Z q1 q2 q3 q4 q5 p6 h0 n0) room_1.cells room_1.slots (T52.setTop (mkF m 75 #[.val (.long q1), .second, .val (.long q2), .second, .val (.long q3), .second, .val (.long q4), .second, .val (.long q5), .second, .val (.int p6), .val (.ref b3), .val (.ref b32), .val (.int n1), .val (.int n2), .unset, .unset, .unset, .unset, .unset, .unset, .unset, .unset, .unset, .unset, .unset, .unset] [(.long q2)]))
    exact J75_59 _ (Eq.symm (if_pos hc59))
  · have hc59 := (hEq.2.1 q)
    show Till p e below s (Q0 Z q1 q2 q3 q4 q5 p6 h0 n0) room_1.cells room_1.slots (T52.setTop (mkF m 70 #[.val (.long q1), .second, .val (.long q2), .second, .val (.long q3), .second, .val (.long q4), .second, .val (.long q5), .second, .val (.int p6), .val (.ref b3), .val (.ref b32), .val (.int n1), .val (.int n2), .unset, .unset, .unset, .unset, .unset, .unset, .unset, .unset, .unset, .unset, .unset, .unset] []))
    refine Till.pre (fun _ hr => XS.lloadN X54.here hx rfl (hb hby at_70) rfl hr) ?_
    show Till p e below s (Q0 Z q1 q2 q3 q4 q5 p6 h0 n0) room_1.cells room_1.slots (T52.setTop (mkF m 71 #[.val (.long q1), .second, .val (.long q2), .second, .val (.long q3), .second, .val (.long q4), .second, .val (.long q5), .second, .val (.int p6), .val (.ref b3), .val (.ref b32), .val (.int n1), .val (.int n2), .unset, .unset, .unset, .unset, .unset, .unset, .unset, .unset, .unset, .unset, .unset, .unset] [(.long q1)]))
    refine Till.pre (fun _ hr => XS.goto X54.here hx rfl (pc0 := 71) (pc' := 75) rfl (hb hby at_71) (by decide) (by decide) hr) ?_
    show Till p e below s (Q0 Z q1 q2 q3 q4 q5 p6 h0 n0) room_1.cells room_1.slots (T52.setTop (mkF m 75 #[.val (.long q1), .second, .val (.long q2), .second, .val (.long q3), .second, .val (.long q4), .second, .val (.long q5), .second, .val (.int p6), .val (.ref b3), .val (.ref b32), .val (.int n1), .val (.int n2), .unset, .unset, .unset, .unset, .unset, .unset, .unset, .unset, .unset, .unset, .unset, .unset] [(.long q1)]))
    exact J75_59 _ (Eq.symm (if_neg hc59))
set_option maxRecDepth 65536 in
set_option maxHeartbeats 40000000 in
theorem comes_1 {Post : Tables → Env → Array Value → State → Outcome → State → Prop} (hpost : ∀ tb e args s v u, (limb_1_1.after args s (.returned v) u = true ∧ limb_1_2.after args s (.returned v) u = true ∧ True) → FrameEnd s (.returned v) u (Jvm.fieldLocs frame_1_writes args s ++ Jvm.arrayLocs frame_1_arrays args s ++ Jvm.staticLocs frame_1_statics s) 32 12416 → Post tb e args s (.returned v) u) :
    ArmFor flags0 classFile x code maxLocals ret World_1 tables_1 room_1 Calls_1 rest_1 Pre_1 Post := by
  intro l hfl _ _ p e ha hc hk s m args below hf hA hF happ hP
  obtain ⟨hcalls, hrest, hpre⟩ := hP
  obtain ⟨-, -, -, hnamed, -, -, -, hat⟩ := (Spec.applies_iff hf).mp happ
  obtain ⟨hg, hn⟩ := and_e (Cond.before_iff.mp (show (Jvm.Cond.and given_1 narrow_1).before args s = true from hpre))
  obtain ⟨h1, hg⟩ := and_e hg
  obtain ⟨k0, hg⟩ := and_e hg
  obtain ⟨k1, hg⟩ := and_e hg
  obtain ⟨k2, hg⟩ := and_e hg
  obtain ⟨k3, hg⟩ := and_e hg
  obtain ⟨k4, hg⟩ := and_e hg
  have k5 := hg
  obtain ⟨w0, w1, w2, w3, w4, w5, rfl⟩ : ∃ w0 w1 w2 w3 w4 w5 : Value, args = #[w0, w1, w2, w3, w4, w5] := by
    have hs : args.size = 6 := by simpa [Cond.value, given_1] using h1
    obtain ⟨L⟩ := args
    match L, hs with
    | [w0, w1, w2, w3, w4, w5], _ => exact ⟨w0, w1, w2, w3, w4, w5, rfl⟩
  have hw := fun d (hd : d ∈ tables_1) => atoms_spec (ws := Jvm.Cond.code x code maxLocals ret :: tables_1) hat d (List.mem_cons_of_mem _ hd)
  obtain ⟨i0, ei0⟩ := isL_v k0
  obtain rfl : w0 = (.long i0) := Option.some.inj ei0
  obtain ⟨i1, ei1⟩ := isL_v k1
  obtain rfl : w1 = (.long i1) := Option.some.inj ei1
  obtain ⟨i2, ei2⟩ := isL_v k2
  obtain rfl : w2 = (.long i2) := Option.some.inj ei2
  obtain ⟨i3, ei3⟩ := isL_v k3
  obtain rfl : w3 = (.long i3) := Option.some.inj ei3
  obtain ⟨i4, ei4⟩ := isL_v k4
  obtain rfl : w4 = (.long i4) := Option.some.inj ei4
  obtain ⟨i5, ei5⟩ := is_v k5
  obtain rfl : w5 = (.int i5) := Option.some.inj ei5
  obtain ⟨n, o, h1, h2, h3, _, L, rfl, ⟨rfl, N⟩, hq⟩ := rm0 l s _ hw i0 i1 i2 i3 i4 i5 s.heap s.heap.size (Nat.le_refl _) tables_1 p e ha hc hk s m _ below hf ((Spec.applies_iff_loose hf).mp happ).1 ⟨rfl, State.Warmed39.refl s, rfl⟩ trivial
  refine ⟨n, _, h1, h2, h3, hpost _ _ _ _ _ _ ⟨Cond.after_iff.mpr rfl, Cond.after_iff.mpr (eq_i res_at (Term.int_eval (1)) rfl), trivial⟩ ⟨hq.1, hq.2.1, (hq.2.2.sift fun y hy => Or.inr (N y hy)).mono (by decide) (by decide)⟩⟩
theorem main_1_1 : Claimed_1_1 := comes_1 fun _ _ _ _ _ _ h hF => ⟨h.1, hF⟩
theorem main_1_2 : Claimed_1_2 := comes_1 fun _ _ _ _ _ _ h hF => ⟨h.2.1, hF⟩
end Jvm.Pilot.@@N@@
namespace Jvm.Pilot.@@N@@
open Jvm Jvm.ClassFile Sem Op Lib Jvm.Free Jvm.Stand Jvm.Pilot.@@N@@.Jvm.D
/-! MADE BY PROGRAM (witnessworld.py) out of the Statement's table words and the real class files: 15 classes; the members and pool entries that the words name. The judged class is class 1, her method 2. -/
namespace start1
open Jvm.ClassFile
def u (s : String) : CpInfo := .utf8 (stringToUtf16 s)
/-- a pool by its gaps: so many unusable entries, then the entry; so many at the end -/
def gap : Nat → List CpInfo → List CpInfo
  | 0, r => r
  | n + 1, r => .unusable :: gap n r
def poolList (es : List (Nat × CpInfo)) (last : Nat) : List CpInfo := es.foldr (fun e r => gap e.1 (e.2 :: r)) (gap last [])
def pool (es : List (Nat × CpInfo)) (last : Nat) : Array CpInfo := ⟨poolList es last⟩
def fileOf (pool : Array CpInfo) (this : Nat) (attrs : Array Attribute := #[]) (ms : Array MethodInfo := #[]) (fl : Nat := 33) (sup : Nat := 0) (ifs : Array Nat := #[]) (fds : Array FieldInfo := #[]) : ClassFile where
  minorVersion := 0
  majorVersion := 65
  constantPool := pool
  accessFlags := fl
  thisClass := this
  superClass := sup
  interfaces := ifs
  fields := fds
  methods := ms
  attributes := attrs
def plain (name : String) (sup : Option ClassId) : Class where
  name := name
  kind := .ordinary
  loader := none
  accessFlags := 33
  super := sup
  interfaces := #[]
  cf := none
  fields := #[]
  methods := #[]
  instanceTypes := #[]
  staticTypes := #[]
  resolved := #[]
  callSites := []
  init := .initialized
  statics := none
  mirror := none

def pool0 : Array CpInfo := pool [(5, u "<init>"), (0, u "()V"), (1, .class_ 10), (1, u "java/lang/Object")] 113

def k0c0 : Code := { maxStack := 0, maxLocals := 1, code := object_method_1_code, exceptionTable := #[], attributes := #[] }
def k0m0 : Method := { name := "<init>", desc := "()V", sig := { parameters := [], returnType := none }, accessFlags := 1, code := some k0c0 }
/-- java/lang/Object -/
def k0 : Class := { plain "java/lang/Object" none with
  accessFlags := 33
  interfaces := #[]
  cf := some (fileOf pool0 8 #[] #[{ accessFlags := 1, nameIndex := 5, descriptorIndex := 6, attributes := #[] }] 33 0 #[] #[])
  fields := #[]
  methods := #[k0m0]
  instanceTypes := #[]
  staticTypes := #[]
  resolved := Array.replicate 124 none
  statics := none }

def pool1 : Array CpInfo := pool [(2, .class_ 4), (0, .nameAndType 5 6), (0, u "java/lang/Object"), (0, u "<init>"), (0, u "()V"), (0, .long 18446744073709551615), (1, .class_ 10), (0, u "com/example/tour/tour/io/WayNodes"), (0, .methodref 9 3), (0, .methodref 9 13), (0, .nameAndType 14 15), (0, u "put"), (0, u "(J[JI)V"), (0, .methodref 9 17), (0, .nameAndType 18 19), (0, u "find"), (0, u "(J)[J"), (0, .methodref 21 22), (0, .class_ 23), (0, .nameAndType 24 25), (0, u "com/example/tour/tour/io/WayNodesFindPinLaw"), (0, u "same"), (0, u "([J[JI)Z"), (3, u "law"), (0, u "(JJJJJI)Z")] 4

def k1m0 : Method := { name := "<init>", desc := "()V", sig := { parameters := [], returnType := none }, accessFlags := 1, code := none }
def k1c1 : Code := { maxStack := 4, maxLocals := 3, code := method_2_code, exceptionTable := #[], attributes := #[] }
def k1m1 : Method := { name := "same", desc := "([J[JI)Z", sig := { parameters := [(.array .long), (.array .long), .int], returnType := some .boolean }, accessFlags := 10, code := some k1c1 }
def k1c2 : Code := { maxStack := 7, maxLocals := 27, code := code, exceptionTable := #[], attributes := #[] }
def k1m2 : Method := { name := "law", desc := "(JJJJJI)Z", sig := { parameters := [.long, .long, .long, .long, .long, .int], returnType := some .boolean }, accessFlags := 9, code := some k1c2 }
/-- com/example/tour/tour/io/WayNodesFindPinLaw -/
def k1 : Class := { plain "com/example/tour/tour/io/WayNodesFindPinLaw" (some 0) with
  accessFlags := 49
  interfaces := #[]
  cf := some (fileOf pool1 21 #[] #[{ accessFlags := 1, nameIndex := 5, descriptorIndex := 6, attributes := #[] }, { accessFlags := 10, nameIndex := 24, descriptorIndex := 25, attributes := #[] }, { accessFlags := 9, nameIndex := 29, descriptorIndex := 30, attributes := #[] }] 49 2 #[] #[])
  fields := #[]
  methods := #[k1m0, k1m1, k1m2]
  instanceTypes := #[]
  staticTypes := #[]
  resolved := Array.replicate 35 none
  statics := none }

def pool2 : Array CpInfo := pool [(1, .methodref 2 3), (0, .class_ 4), (0, .nameAndType 5 6), (0, u "java/lang/Object"), (0, u "<init>"), (0, u "()V"), (0, .class_ 8), (0, u "com/example/tour/tour/io/IdTable"), (0, .methodref 7 3), (0, .fieldref 11 12), (0, .class_ 13), (0, .nameAndType 14 15), (0, u "com/example/tour/tour/io/WayNodes"), (0, u "starts"), (0, u "Lcom/example/tour/tour/io/IdTable;"), (0, .fieldref 11 17), (0, .nameAndType 18 19), (0, u "lists"), (0, u "[J"), (0, .fieldref 11 21), (0, .nameAndType 22 23), (0, u "used"), (0, u "I"), (7, .class_ 33), (1, u "java/util/Arrays"), (2, .methodref 7 37), (0, .nameAndType 38 39), (0, u "put"), (0, u "(JJ)V"), (0, .methodref 41 42), (0, .class_ 43), (0, .nameAndType 44 45), (0, u "java/lang/System"), (0, u "arraycopy"), (0, u "(Ljava/lang/Object;ILjava/lang/Object;II)V"), (0, .methodref 7 47), (0, .nameAndType 48 49), (0, u "get"), (0, u "(J)J"), (0, .long 9223372036854775808), (1, .methodref 31 53), (0, .nameAndType 54 55), (0, u "copyOfRange"), (0, u "([JII)[J"), (2, u "(J[JI)V"), (1, u "find"), (0, u "(J)[J")] 2

def k2c0 : Code := { maxStack := 3, maxLocals := 1, code := prog_16_method_1_code, exceptionTable := #[], attributes := #[] }
def k2m0 : Method := { name := "<init>", desc := "()V", sig := { parameters := [], returnType := none }, accessFlags := 0, code := some k2c0 }
def k2c1 : Code := { maxStack := 5, maxLocals := 5, code := prog_16_method_2_code, exceptionTable := #[], attributes := #[] }
def k2m1 : Method := { name := "put", desc := "(J[JI)V", sig := { parameters := [.long, (.array .long), .int], returnType := none }, accessFlags := 0, code := some k2c1 }
def k2c2 : Code := { maxStack := 6, maxLocals := 6, code := prog_16_method_3_code, exceptionTable := #[], attributes := #[] }
def k2m2 : Method := { name := "find", desc := "(J)[J", sig := { parameters := [.long], returnType := some (.array .long) }, accessFlags := 0, code := some k2c2 }
/-- com/example/tour/tour/io/WayNodes -/
def k2 : Class := { plain "com/example/tour/tour/io/WayNodes" (some 0) with
  accessFlags := 32
  interfaces := #[]
  cf := some (fileOf pool2 11 #[] #[{ accessFlags := 0, nameIndex := 5, descriptorIndex := 6, attributes := #[] }, { accessFlags := 0, nameIndex := 38, descriptorIndex := 58, attributes := #[] }, { accessFlags := 0, nameIndex := 60, descriptorIndex := 61, attributes := #[] }] 32 2 #[] #[{ accessFlags := 18, nameIndex := 14, descriptorIndex := 15, attributes := #[] }, { accessFlags := 2, nameIndex := 18, descriptorIndex := 19, attributes := #[] }, { accessFlags := 2, nameIndex := 22, descriptorIndex := 23, attributes := #[] }])
  fields := #[{ name := "starts", type := (.object "com/example/tour/tour/io/IdTable"), accessFlags := 18, slot := 0, constantValue := 0 }, { name := "lists", type := (.array .long), accessFlags := 2, slot := 1, constantValue := 0 }, { name := "used", type := .int, accessFlags := 2, slot := 2, constantValue := 0 }]
  methods := #[k2m0, k2m1, k2m2]
  instanceTypes := #[(.object "com/example/tour/tour/io/IdTable"), (.array .long), .int]
  staticTypes := #[]
  resolved := Array.replicate 64 none
  statics := none }

def pool3 : Array CpInfo := pool [(3, .methodref 4 5), (0, .class_ 6), (0, .nameAndType 7 8), (0, u "java/lang/Object"), (0, u "<init>"), (0, u "()V"), (0, .methodref 10 11), (0, .class_ 12), (0, .nameAndType 13 14), (0, u "com/example/tour/tour/io/IdTable"), (0, u "allocate"), (0, u "(I)V"), (0, .fieldref 10 16), (0, .nameAndType 17 18), (0, u "size"), (0, u "I"), (0, .fieldref 10 20), (0, .nameAndType 21 22), (0, u "ids"), (0, u "[J"), (3, .methodref 10 27), (0, .nameAndType 28 29), (0, u "slotOf"), (0, u "(J)I"), (0, .fieldref 10 31), (0, .nameAndType 32 22), (0, u "values"), (0, .long 9223372036854775808), (1, .long 11400714819323198485), (1, .fieldref 10 38), (0, .nameAndType 39 18), (0, u "shift"), (0, .methodref 41 42), (0, .class_ 43), (0, .nameAndType 44 45), (0, u "java/util/Arrays"), (0, u "fill"), (0, u "([JJ)V"), (0, u "ABSENT"), (0, u "J"), (3, u "put"), (0, u "(JJ)V"), (1, u "get"), (0, u "(J)J")] 3

def k3c0 : Code := { maxStack := 2, maxLocals := 1, code := prog_7_method_1_code, exceptionTable := #[], attributes := #[] }
def k3m0 : Method := { name := "<init>", desc := "()V", sig := { parameters := [], returnType := none }, accessFlags := 0, code := some k3c0 }
def k3c1 : Code := { maxStack := 4, maxLocals := 6, code := prog_7_method_2_code, exceptionTable := #[], attributes := #[] }
def k3m1 : Method := { name := "put", desc := "(JJ)V", sig := { parameters := [.long, .long], returnType := none }, accessFlags := 0, code := some k3c1 }
def k3c2 : Code := { maxStack := 4, maxLocals := 3, code := prog_7_method_3_code, exceptionTable := #[], attributes := #[] }
def k3m2 : Method := { name := "get", desc := "(J)J", sig := { parameters := [.long], returnType := some .long }, accessFlags := 0, code := some k3c2 }
def k3c3 : Code := { maxStack := 4, maxLocals := 5, code := prog_7_method_4_code, exceptionTable := #[], attributes := #[] }
def k3m3 : Method := { name := "slotOf", desc := "(J)I", sig := { parameters := [.long], returnType := some .int }, accessFlags := 2, code := some k3c3 }
def k3c4 : Code := { maxStack := 3, maxLocals := 2, code := prog_7_method_6_code, exceptionTable := #[], attributes := #[] }
def k3m4 : Method := { name := "allocate", desc := "(I)V", sig := { parameters := [.int], returnType := none }, accessFlags := 2, code := some k3c4 }
/-- com/example/tour/tour/io/IdTable -/
def k3 : Class := { plain "com/example/tour/tour/io/IdTable" (some 0) with
  accessFlags := 32
  interfaces := #[]
  cf := some (fileOf pool3 10 #[] #[{ accessFlags := 0, nameIndex := 7, descriptorIndex := 8, attributes := #[] }, { accessFlags := 0, nameIndex := 51, descriptorIndex := 52, attributes := #[] }, { accessFlags := 0, nameIndex := 54, descriptorIndex := 55, attributes := #[] }, { accessFlags := 2, nameIndex := 28, descriptorIndex := 29, attributes := #[] }, { accessFlags := 2, nameIndex := 13, descriptorIndex := 14, attributes := #[] }] 32 4 #[] #[{ accessFlags := 24, nameIndex := 46, descriptorIndex := 47, attributes := #[] }, { accessFlags := 2, nameIndex := 21, descriptorIndex := 22, attributes := #[] }, { accessFlags := 2, nameIndex := 32, descriptorIndex := 22, attributes := #[] }, { accessFlags := 2, nameIndex := 39, descriptorIndex := 18, attributes := #[] }, { accessFlags := 2, nameIndex := 17, descriptorIndex := 18, attributes := #[] }])
  fields := #[{ name := "ABSENT", type := .long, accessFlags := 24, slot := 0, constantValue := 0 }, { name := "ids", type := (.array .long), accessFlags := 2, slot := 0, constantValue := 0 }, { name := "values", type := (.array .long), accessFlags := 2, slot := 1, constantValue := 0 }, { name := "shift", type := .int, accessFlags := 2, slot := 2, constantValue := 0 }, { name := "size", type := .int, accessFlags := 2, slot := 3, constantValue := 0 }]
  methods := #[k3m0, k3m1, k3m2, k3m3, k3m4]
  instanceTypes := #[(.array .long), (.array .long), .int, .int]
  staticTypes := #[.long]
  resolved := Array.replicate 59 none
  statics := none }

def pool4 : Array CpInfo := pool [(2, .class_ 4), (1, u "java/lang/Object"), (0, u "<init>"), (0, u "()V"), (7, .class_ 16), (1, u "java/util/Arrays"), (57, .class_ 76), (1, u "java/util/Arrays$NaturalOrder"), (36, .class_ 115), (1, u "java/util/Arrays$LegacyMergeSort"), (1, u "Z"), (21, u "copyOfRange"), (10, .methodref 151 152), (0, .class_ 153), (0, .nameAndType 154 155), (0, u "java/lang/System"), (0, u "arraycopy"), (0, u "(Ljava/lang/Object;ILjava/lang/Object;II)V"), (148, .methodref 305 306), (0, .class_ 307), (0, .nameAndType 308 309), (0, u "java/lang/Math"), (0, u "min"), (0, u "(II)I"), (33, .methodref 14 344), (0, .nameAndType 345 346), (0, u "checkLength"), (0, u "(II)V"), (8, .methodref 14 356), (0, .nameAndType 357 358), (0, u "copyOfRangeLong"), (0, u "([JII)[J"), (16, .class_ 376), (0, u "java/util/Arrays$ArrayList"), (68, u "$assertionsDisabled"), (269, u "MIN_ARRAY_SORT_GRAN"), (0, u "I"), (2, u "INSERTIONSORT_THRESHOLD"), (120, u "fill"), (0, u "([JJ)V"), (133, .class_ 976), (0, u "java/util/Arrays$ArrayItr")] 52

def k4m0 : Method := { name := "<init>", desc := "()V", sig := { parameters := [], returnType := none }, accessFlags := 2, code := none }
def k4c1 : Code := { maxStack := 4, maxLocals := 5, code := jdk_65_method_101_code, exceptionTable := #[], attributes := #[] }
def k4m1 : Method := { name := "fill", desc := "([JJ)V", sig := { parameters := [(.array .long), .long], returnType := none }, accessFlags := 9, code := some k4c1 }
def k4c2 : Code := { maxStack := 4, maxLocals := 2, code := jdk_65_method_131_code, exceptionTable := #[], attributes := #[] }
def k4m2 : Method := { name := "checkLength", desc := "(II)V", sig := { parameters := [.int, .int], returnType := none }, accessFlags := 10, code := some k4c2 }
def k4c3 : Code := { maxStack := 3, maxLocals := 3, code := jdk_65_method_138_code, exceptionTable := #[], attributes := #[] }
def k4m3 : Method := { name := "copyOfRange", desc := "([JII)[J", sig := { parameters := [(.array .long), .int, .int], returnType := some (.array .long) }, accessFlags := 9, code := some k4c3 }
def k4c4 : Code := { maxStack := 6, maxLocals := 5, code := jdk_65_method_139_code, exceptionTable := #[], attributes := #[] }
def k4m4 : Method := { name := "copyOfRangeLong", desc := "([JII)[J", sig := { parameters := [(.array .long), .int, .int], returnType := some (.array .long) }, accessFlags := 10, code := some k4c4 }
/-- java/util/Arrays -/
def k4 : Class := { plain "java/util/Arrays" (some 0) with
  accessFlags := 49
  interfaces := #[]
  cf := some (fileOf pool4 14 #[.nestMembers #[975, 375, 113, 74]] #[{ accessFlags := 2, nameIndex := 5, descriptorIndex := 6, attributes := #[] }, { accessFlags := 9, nameIndex := 840, descriptorIndex := 841, attributes := #[] }, { accessFlags := 10, nameIndex := 345, descriptorIndex := 346, attributes := #[] }, { accessFlags := 9, nameIndex := 139, descriptorIndex := 358, attributes := #[] }, { accessFlags := 10, nameIndex := 357, descriptorIndex := 358, attributes := #[] }] 49 2 #[] #[{ accessFlags := 26, nameIndex := 715, descriptorIndex := 716, attributes := #[] }, { accessFlags := 26, nameIndex := 719, descriptorIndex := 716, attributes := #[] }, { accessFlags := 4120, nameIndex := 445, descriptorIndex := 117, attributes := #[] }])
  fields := #[{ name := "MIN_ARRAY_SORT_GRAN", type := .int, accessFlags := 26, slot := 0, constantValue := 0 }, { name := "INSERTIONSORT_THRESHOLD", type := .int, accessFlags := 26, slot := 1, constantValue := 0 }, { name := "$assertionsDisabled", type := .boolean, accessFlags := 4120, slot := 2, constantValue := 0 }]
  methods := #[k4m0, k4m1, k4m2, k4m3, k4m4]
  instanceTypes := #[]
  staticTypes := #[.int, .int, .boolean]
  resolved := Array.replicate 1029 none
  statics := none }

def pool5 : Array CpInfo := pool [(2, .class_ 4), (1, u "java/lang/Object"), (0, u "<init>"), (0, u "()V"), (1, .class_ 10), (1, u "java/lang/System"), (0, u "allowSecurityManager"), (0, u "I"), (16, u "cons"), (0, u "Ljava/io/Console;"), (77, .class_ 110), (1, u "java/lang/System$CallersHolder"), (43, u "initialErrStream"), (0, u "Ljava/io/PrintStream;"), (19, u "security"), (0, u "Ljava/lang/SecurityManager;"), (31, .class_ 209), (0, u "java/lang/System$1"), (7, u "props"), (0, u "Ljava/util/Properties;"), (2, u "lineSeparator"), (0, u "Ljava/lang/String;"), (96, .class_ 321), (1, u "java/lang/System$LoggerFinder"), (5, .class_ 328), (0, u "java/lang/System$Logger"), (67, u "err"), (2, u "out"), (91, u "notSupportedJnuEncoding"), (15, u "in"), (17, u "initialIn"), (0, u "Ljava/io/InputStream;"), (35, u "bootLayer"), (0, u "Ljava/lang/ModuleLayer;"), (99, .class_ 664), (0, u "java/lang/System$2"), (9, u "NEVER"), (2, u "MAYBE"), (49, u "arraycopy"), (0, u "(Ljava/lang/Object;ILjava/lang/Object;II)V"), (72, .class_ 802), (0, u "java/lang/System$Logger$Level")] 31

def k5m0 : Method := { name := "<init>", desc := "()V", sig := { parameters := [], returnType := none }, accessFlags := 2, code := none }
def k5m1 : Method := { name := "arraycopy", desc := "(Ljava/lang/Object;ILjava/lang/Object;II)V", sig := { parameters := [(.object "java/lang/Object"), .int, (.object "java/lang/Object"), .int, .int], returnType := none }, accessFlags := 265, code := none }
/-- java/lang/System -/
def k5 : Class := { plain "java/lang/System" (some 0) with
  accessFlags := 49
  interfaces := #[]
  cf := some (fileOf pool5 8 #[.nestMembers #[319, 327, 801, 108, 663, 208]] #[{ accessFlags := 2, nameIndex := 5, descriptorIndex := 6, attributes := #[] }, { accessFlags := 265, nameIndex := 727, descriptorIndex := 728, attributes := #[] }] 49 2 #[] #[{ accessFlags := 25, nameIndex := 507, descriptorIndex := 526, attributes := #[] }, { accessFlags := 25, nameIndex := 399, descriptorIndex := 155, attributes := #[] }, { accessFlags := 25, nameIndex := 396, descriptorIndex := 155, attributes := #[] }, { accessFlags := 10, nameIndex := 525, descriptorIndex := 526, attributes := #[] }, { accessFlags := 26, nameIndex := 674, descriptorIndex := 12, attributes := #[] }, { accessFlags := 26, nameIndex := 677, descriptorIndex := 12, attributes := #[] }, { accessFlags := 10, nameIndex := 11, descriptorIndex := 12, attributes := #[] }, { accessFlags := 74, nameIndex := 175, descriptorIndex := 176, attributes := #[] }, { accessFlags := 10, nameIndex := 491, descriptorIndex := 222, attributes := #[] }, { accessFlags := 74, nameIndex := 29, descriptorIndex := 30, attributes := #[] }, { accessFlags := 74, nameIndex := 154, descriptorIndex := 155, attributes := #[] }, { accessFlags := 10, nameIndex := 217, descriptorIndex := 218, attributes := #[] }, { accessFlags := 10, nameIndex := 221, descriptorIndex := 222, attributes := #[] }, { accessFlags := 8, nameIndex := 562, descriptorIndex := 563, attributes := #[] }])
  fields := #[{ name := "in", type := (.object "java/io/InputStream"), accessFlags := 25, slot := 0, constantValue := 0 }, { name := "out", type := (.object "java/io/PrintStream"), accessFlags := 25, slot := 1, constantValue := 0 }, { name := "err", type := (.object "java/io/PrintStream"), accessFlags := 25, slot := 2, constantValue := 0 }, { name := "initialIn", type := (.object "java/io/InputStream"), accessFlags := 10, slot := 3, constantValue := 0 }, { name := "NEVER", type := .int, accessFlags := 26, slot := 4, constantValue := 0 }, { name := "MAYBE", type := .int, accessFlags := 26, slot := 5, constantValue := 0 }, { name := "allowSecurityManager", type := .int, accessFlags := 10, slot := 6, constantValue := 0 }, { name := "security", type := (.object "java/lang/SecurityManager"), accessFlags := 74, slot := 7, constantValue := 0 }, { name := "notSupportedJnuEncoding", type := (.object "java/lang/String"), accessFlags := 10, slot := 8, constantValue := 0 }, { name := "cons", type := (.object "java/io/Console"), accessFlags := 74, slot := 9, constantValue := 0 }, { name := "initialErrStream", type := (.object "java/io/PrintStream"), accessFlags := 74, slot := 10, constantValue := 0 }, { name := "props", type := (.object "java/util/Properties"), accessFlags := 10, slot := 11, constantValue := 0 }, { name := "lineSeparator", type := (.object "java/lang/String"), accessFlags := 10, slot := 12, constantValue := 0 }, { name := "bootLayer", type := (.object "java/lang/ModuleLayer"), accessFlags := 8, slot := 13, constantValue := 0 }]
  methods := #[k5m0, k5m1]
  instanceTypes := #[]
  staticTypes := #[(.object "java/io/InputStream"), (.object "java/io/PrintStream"), (.object "java/io/PrintStream"), (.object "java/io/InputStream"), .int, .int, .int, (.object "java/lang/SecurityManager"), (.object "java/lang/String"), (.object "java/io/Console"), (.object "java/io/PrintStream"), (.object "java/util/Properties"), (.object "java/lang/String"), (.object "java/lang/ModuleLayer")]
  resolved := Array.replicate 834 none
  statics := none }

def pool6 : Array CpInfo := pool [(1, .class_ 2), (0, u "java/lang/Math"), (1, .class_ 6), (1, u "java/lang/Object"), (0, u "<init>"), (0, u "()V"), (89, .class_ 100), (1, u "java/lang/Math$RandomNumberGeneratorHolder"), (71, u "negativeZeroFloatBits"), (0, u "J"), (2, u "negativeZeroDoubleBits"), (24, u "min"), (43, u "$assertionsDisabled"), (0, u "Z"), (88, u "(II)I"), (2, u "twoToTheDoubleScaleDown"), (0, u "D"), (4, u "twoToTheDoubleScaleUp"), (9, u "E"), (3, u "PI"), (2, u "TAU"), (2, u "DEGREES_TO_RADIANS"), (0, u "RADIANS_TO_DEGREES")] 94

def k6m0 : Method := { name := "<init>", desc := "()V", sig := { parameters := [], returnType := none }, accessFlags := 2, code := none }
def k6c1 : Code := { maxStack := 2, maxLocals := 2, code := jdk_29_method_69_code, exceptionTable := #[], attributes := #[] }
def k6m1 : Method := { name := "min", desc := "(II)I", sig := { parameters := [.int, .int], returnType := some .int }, accessFlags := 9, code := some k6c1 }
/-- java/lang/Math -/
def k6 : Class := { plain "java/lang/Math" (some 0) with
  accessFlags := 49
  interfaces := #[]
  cf := some (fileOf pool6 1 #[.nestMembers #[98]] #[{ accessFlags := 2, nameIndex := 7, descriptorIndex := 8, attributes := #[] }, { accessFlags := 9, nameIndex := 201, descriptorIndex := 335, attributes := #[] }] 49 4 #[] #[{ accessFlags := 25, nameIndex := 354, descriptorIndex := 339, attributes := #[] }, { accessFlags := 25, nameIndex := 358, descriptorIndex := 339, attributes := #[] }, { accessFlags := 25, nameIndex := 361, descriptorIndex := 339, attributes := #[] }, { accessFlags := 26, nameIndex := 364, descriptorIndex := 339, attributes := #[] }, { accessFlags := 26, nameIndex := 365, descriptorIndex := 339, attributes := #[] }, { accessFlags := 26, nameIndex := 172, descriptorIndex := 173, attributes := #[] }, { accessFlags := 26, nameIndex := 176, descriptorIndex := 173, attributes := #[] }, { accessFlags := 8, nameIndex := 344, descriptorIndex := 339, attributes := #[] }, { accessFlags := 8, nameIndex := 338, descriptorIndex := 339, attributes := #[] }, { accessFlags := 4120, nameIndex := 245, descriptorIndex := 246, attributes := #[] }])
  fields := #[{ name := "E", type := .double, accessFlags := 25, slot := 0, constantValue := 0 }, { name := "PI", type := .double, accessFlags := 25, slot := 1, constantValue := 0 }, { name := "TAU", type := .double, accessFlags := 25, slot := 2, constantValue := 0 }, { name := "DEGREES_TO_RADIANS", type := .double, accessFlags := 26, slot := 3, constantValue := 0 }, { name := "RADIANS_TO_DEGREES", type := .double, accessFlags := 26, slot := 4, constantValue := 0 }, { name := "negativeZeroFloatBits", type := .long, accessFlags := 26, slot := 5, constantValue := 0 }, { name := "negativeZeroDoubleBits", type := .long, accessFlags := 26, slot := 6, constantValue := 0 }, { name := "twoToTheDoubleScaleUp", type := .double, accessFlags := 8, slot := 7, constantValue := 0 }, { name := "twoToTheDoubleScaleDown", type := .double, accessFlags := 8, slot := 8, constantValue := 0 }, { name := "$assertionsDisabled", type := .boolean, accessFlags := 4120, slot := 9, constantValue := 0 }]
  methods := #[k6m0, k6m1]
  instanceTypes := #[]
  staticTypes := #[.double, .double, .double, .double, .double, .long, .long, .double, .double, .boolean]
  resolved := Array.replicate 460 none
  statics := none }

def pool7 : Array CpInfo := pool [(1, u "java/lang/Cloneable"), (0, .class_ 1), (0, u "java/lang/Object"), (0, .class_ 3)] 3

/-- java/lang/Cloneable -/
def k7 : Class := { plain "java/lang/Cloneable" (some 0) with
  accessFlags := 1537
  interfaces := #[]
  cf := some (fileOf pool7 2 #[] #[] 1537 4 #[] #[])
  fields := #[]
  methods := #[]
  instanceTypes := #[]
  staticTypes := #[]
  resolved := Array.replicate 8 none
  statics := none }

def pool8 : Array CpInfo := pool [(1, u "java/io/Serializable"), (0, .class_ 1), (0, u "java/lang/Object"), (0, .class_ 3)] 3

/-- java/io/Serializable -/
def k8 : Class := { plain "java/io/Serializable" (some 0) with
  accessFlags := 1537
  interfaces := #[]
  cf := some (fileOf pool8 2 #[] #[] 1537 4 #[] #[])
  fields := #[]
  methods := #[]
  instanceTypes := #[]
  staticTypes := #[]
  resolved := Array.replicate 8 none
  statics := none }

/-- the primitive byte -/
def k9 : Class := { plain "byte" none with kind := .primitive 'B', accessFlags := 0x411 }
/-- [B -/
def k10 : Class := { plain "[B" (some 0) with kind := .array 9 .byte, interfaces := #[7, 8], accessFlags := 1041 }

/-- the primitive int -/
def k11 : Class := { plain "int" none with kind := .primitive 'I', accessFlags := 0x411 }
/-- [I -/
def k12 : Class := { plain "[I" (some 0) with kind := .array 11 .int, interfaces := #[7, 8], accessFlags := 1041 }

/-- the primitive long -/
def k13 : Class := { plain "long" none with kind := .primitive 'J', accessFlags := 0x411 }
/-- [J -/
def k14 : Class := { plain "[J" (some 0) with kind := .array 13 .long, interfaces := #[7, 8], accessFlags := 1041 }

def heap : Heap := #[]
def classes : Array Class := #[k0, k1, k2, k3, k4, k5, k6, k7, k8, k9, k10, k11, k12, k13, k14]
def interned : List (Array UInt16 × Addr) := []
def slotsUsed : Nat := 0
def theMethod : MethodId := ⟨1, 2⟩
def args0 : Array Value := #[.long 5, .long 5, .long 5, .long 5, .long 5, .int 5]
def aboutOver (below : List Frame) : State where
  vm := { classes := classes, interned := interned.toArray }
  heap := heap
  slotsUsed := slotsUsed
  threads := #[{ frames := .invoking theMethod args0 :: below }]
def below0 : List Frame := [.native { method := ⟨0, 0⟩, args := #[] }]
def about1 : State := aboutOver below0
def p0 : Program := .bare "" "" ""
def e0 : Env := launch0.env 0 0 0
theorem w_frames : about1.frames = Frame.invoking theMethod args0 :: below0 := rfl
set_option maxRecDepth 65536 in
theorem w_args : argsFit about1.vm theMethod args0 = true := by decide +kernel
set_option maxRecDepth 65536 in
theorem w_heap : heapFits about1 = true := by decide +kernel
set_option maxRecDepth 65536 in
theorem w_runnable : about1.curStatus? = some .runnable := by decide +kernel
set_option maxRecDepth 65536 in
theorem w_alone : about1.alone = true := by decide +kernel
set_option maxRecDepth 65536 in
theorem w_named : about1.methodNamed? x = some theMethod := by decide +kernel
set_option maxRecDepth 65536 in
theorem w_hears : about1.hears theMethod below0 = true := by decide +kernel
set_option maxRecDepth 65536 in
theorem w_ripe : about1.ripe theMethod args0 below0 = true := by decide +kernel
theorem w_running : about1.status = .running := rfl
set_option maxRecDepth 65536 in
theorem w_room : about1.hasRoom e0.platform room_1 = true :=
  launch0.hasRoom_least _ room_1 (by decide +kernel) (by decide +kernel) (by decide +kernel) (by decide +kernel) (by decide +kernel) (by decide +kernel)
theorem allAtoms_all (ts : List Jvm.Cond) (a : Array Jvm.Value) (st : Jvm.State) : (allAtoms ts).before a st = ts.all (fun c => c.before a st) := by
  induction ts with
  | nil => rfl
  | cons c t ih =>
    show (Jvm.Cond.and c (allAtoms t)).before a st = _
    rw [Jvm.Cond.before_and, ih, List.all_cons]
def words1 : List Jvm.Cond := Jvm.Cond.code x code maxLocals ret :: tables_1
/-- a 'code' word, met by the world's own term for the bytes: nothing is compared byte by byte -/
theorem code_word {y : MethodName} {bytes : ByteArray} {mx : Nat} {rt : Option FieldType} {a : Array Value} {s : State} {m : MethodId} {meth : Method} {c : Code} (h1 : s.methodNamed? y = some m) (h2 : s.vm.method? m = some meth) (h3 : meth.code = some c) (h4 : c.code = bytes)
    (h5 : (c.maxLocals == mx && c.exceptionTable.isEmpty && decide (c.maxStack ≤ mostOperands) && decide (meth.sig.returnType = rt) && !meth.locks && decide (parseMethodDescriptor y.desc = some meth.sig)) = true) : (Jvm.Cond.code y bytes mx rt).before a s = true := by
  simp only [Bool.and_eq_true, beq_iff_eq, Bool.not_eq_true', decide_eq_true_eq] at h5
  obtain ⟨⟨⟨⟨⟨g1, g2⟩, g3⟩, g4⟩, g5⟩, g6⟩ := h5
  simp [Cond.before, Cond.holds, Cond.value, h1, h2, h3, h4, g1, g2, g3, g4, g5, g6]
def isCode : Jvm.Cond → Bool
  | .code _ _ _ _ => true
  | _ => false
theorem all_split {L : List Jvm.Cond} {P : Jvm.Cond → Bool} (h1 : L.all (fun c => isCode c || P c) = true) (h2 : ∀ c ∈ L.filter isCode, P c = true) : L.all P = true := by
  refine List.all_eq_true.mpr fun c hc => ?_
  have h := List.all_eq_true.mp h1 c hc
  rcases Bool.eq_false_or_eq_true (isCode c) with hi | hi
  · exact h2 c (List.mem_filter.mpr ⟨hc, hi⟩)
  · simpa [hi] using h
set_option maxRecDepth 65536 in
theorem w_c0 : (Jvm.Cond.code x code maxLocals ret).before args0 about1 = true := code_word (m := ⟨1, 2⟩) (meth := k1m2) (c := k1c2) (by decide +kernel) rfl rfl rfl (by decide +kernel)
set_option maxRecDepth 65536 in
theorem w_c1 : (Jvm.Cond.code ({ cls := "com/example/tour/tour/io/WayNodes", name := "<init>", desc := "()V" } : Jvm.MethodName) prog_16_method_1_code (1 : Nat) (Option.none : Option Jvm.ClassFile.FieldType)).before args0 about1 = true := code_word (m := ⟨2, 0⟩) (meth := k2m0) (c := k2c0) (by decide +kernel) rfl rfl rfl (by decide +kernel)
set_option maxRecDepth 65536 in
theorem w_c2 : (Jvm.Cond.code ({ cls := "java/lang/Object", name := "<init>", desc := "()V" } : Jvm.MethodName) object_method_1_code (1 : Nat) (Option.none : Option Jvm.ClassFile.FieldType)).before args0 about1 = true := code_word (m := ⟨0, 0⟩) (meth := k0m0) (c := k0c0) (by decide +kernel) rfl rfl rfl (by decide +kernel)
set_option maxRecDepth 65536 in
theorem w_c3 : (Jvm.Cond.code ({ cls := "com/example/tour/tour/io/IdTable", name := "<init>", desc := "()V" } : Jvm.MethodName) prog_7_method_1_code (1 : Nat) (Option.none : Option Jvm.ClassFile.FieldType)).before args0 about1 = true := code_word (m := ⟨3, 0⟩) (meth := k3m0) (c := k3c0) (by decide +kernel) rfl rfl rfl (by decide +kernel)
set_option maxRecDepth 65536 in
theorem w_c4 : (Jvm.Cond.code ({ cls := "com/example/tour/tour/io/IdTable", name := "allocate", desc := "(I)V" } : Jvm.MethodName) prog_7_method_6_code (2 : Nat) (Option.none : Option Jvm.ClassFile.FieldType)).before args0 about1 = true := code_word (m := ⟨3, 4⟩) (meth := k3m4) (c := k3c4) (by decide +kernel) rfl rfl rfl (by decide +kernel)
set_option maxRecDepth 65536 in
theorem w_c5 : (Jvm.Cond.code ({ cls := "java/util/Arrays", name := "fill", desc := "([JJ)V" } : Jvm.MethodName) jdk_65_method_101_code (5 : Nat) (Option.none : Option Jvm.ClassFile.FieldType)).before args0 about1 = true := code_word (m := ⟨4, 1⟩) (meth := k4m1) (c := k4c1) (by decide +kernel) rfl rfl rfl (by decide +kernel)
set_option maxRecDepth 65536 in
theorem w_c6 : (Jvm.Cond.code ({ cls := "com/example/tour/tour/io/WayNodes", name := "put", desc := "(J[JI)V" } : Jvm.MethodName) prog_16_method_2_code (5 : Nat) (Option.none : Option Jvm.ClassFile.FieldType)).before args0 about1 = true := code_word (m := ⟨2, 1⟩) (meth := k2m1) (c := k2c1) (by decide +kernel) rfl rfl rfl (by decide +kernel)
set_option maxRecDepth 65536 in
theorem w_c7 : (Jvm.Cond.code ({ cls := "com/example/tour/tour/io/IdTable", name := "put", desc := "(JJ)V" } : Jvm.MethodName) prog_7_method_2_code (6 : Nat) (Option.none : Option Jvm.ClassFile.FieldType)).before args0 about1 = true := code_word (m := ⟨3, 1⟩) (meth := k3m1) (c := k3c1) (by decide +kernel) rfl rfl rfl (by decide +kernel)
set_option maxRecDepth 65536 in
theorem w_c8 : (Jvm.Cond.code ({ cls := "com/example/tour/tour/io/IdTable", name := "slotOf", desc := "(J)I" } : Jvm.MethodName) prog_7_method_4_code (5 : Nat) (Option.some Jvm.ClassFile.FieldType.int)).before args0 about1 = true := code_word (m := ⟨3, 3⟩) (meth := k3m3) (c := k3c3) (by decide +kernel) rfl rfl rfl (by decide +kernel)
set_option maxRecDepth 65536 in
theorem w_c9 : (Jvm.Cond.code ({ cls := "com/example/tour/tour/io/WayNodes", name := "find", desc := "(J)[J" } : Jvm.MethodName) prog_16_method_3_code (6 : Nat) (Option.some (Jvm.ClassFile.FieldType.array Jvm.ClassFile.FieldType.long))).before args0 about1 = true := code_word (m := ⟨2, 2⟩) (meth := k2m2) (c := k2c2) (by decide +kernel) rfl rfl rfl (by decide +kernel)
set_option maxRecDepth 65536 in
theorem w_c10 : (Jvm.Cond.code ({ cls := "com/example/tour/tour/io/IdTable", name := "get", desc := "(J)J" } : Jvm.MethodName) prog_7_method_3_code (3 : Nat) (Option.some Jvm.ClassFile.FieldType.long)).before args0 about1 = true := code_word (m := ⟨3, 2⟩) (meth := k3m2) (c := k3c2) (by decide +kernel) rfl rfl rfl (by decide +kernel)
set_option maxRecDepth 65536 in
theorem w_c11 : (Jvm.Cond.code ({ cls := "java/util/Arrays", name := "copyOfRange", desc := "([JII)[J" } : Jvm.MethodName) jdk_65_method_138_code (3 : Nat) (Option.some (Jvm.ClassFile.FieldType.array Jvm.ClassFile.FieldType.long))).before args0 about1 = true := code_word (m := ⟨4, 3⟩) (meth := k4m3) (c := k4c3) (by decide +kernel) rfl rfl rfl (by decide +kernel)
set_option maxRecDepth 65536 in
theorem w_c12 : (Jvm.Cond.code ({ cls := "java/util/Arrays", name := "copyOfRangeLong", desc := "([JII)[J" } : Jvm.MethodName) jdk_65_method_139_code (5 : Nat) (Option.some (Jvm.ClassFile.FieldType.array Jvm.ClassFile.FieldType.long))).before args0 about1 = true := code_word (m := ⟨4, 4⟩) (meth := k4m4) (c := k4c4) (by decide +kernel) rfl rfl rfl (by decide +kernel)
set_option maxRecDepth 65536 in
theorem w_c13 : (Jvm.Cond.code ({ cls := "java/util/Arrays", name := "checkLength", desc := "(II)V" } : Jvm.MethodName) jdk_65_method_131_code (2 : Nat) (Option.none : Option Jvm.ClassFile.FieldType)).before args0 about1 = true := code_word (m := ⟨4, 2⟩) (meth := k4m2) (c := k4c2) (by decide +kernel) rfl rfl rfl (by decide +kernel)
set_option maxRecDepth 65536 in
theorem w_c14 : (Jvm.Cond.code ({ cls := "java/lang/Math", name := "min", desc := "(II)I" } : Jvm.MethodName) jdk_29_method_69_code (2 : Nat) (Option.some Jvm.ClassFile.FieldType.int)).before args0 about1 = true := code_word (m := ⟨6, 1⟩) (meth := k6m1) (c := k6c1) (by decide +kernel) rfl rfl rfl (by decide +kernel)
set_option maxRecDepth 65536 in
theorem w_c15 : (Jvm.Cond.code ({ cls := "com/example/tour/tour/io/WayNodesFindPinLaw", name := "same", desc := "([J[JI)Z" } : Jvm.MethodName) method_2_code (3 : Nat) (Option.some Jvm.ClassFile.FieldType.boolean)).before args0 about1 = true := code_word (m := ⟨1, 1⟩) (meth := k1m1) (c := k1c1) (by decide +kernel) rfl rfl rfl (by decide +kernel)
def codes1 : List Jvm.Cond := [Jvm.Cond.code x code maxLocals ret, Jvm.Cond.code ({ cls := "com/example/tour/tour/io/WayNodes", name := "<init>", desc := "()V" } : Jvm.MethodName) prog_16_method_1_code (1 : Nat) (Option.none : Option Jvm.ClassFile.FieldType), Jvm.Cond.code ({ cls := "java/lang/Object", name := "<init>", desc := "()V" } : Jvm.MethodName) object_method_1_code (1 : Nat) (Option.none : Option Jvm.ClassFile.FieldType), Jvm.Cond.code ({ cls := "com/example/tour/tour/io/IdTable", name := "<init>", desc := "()V" } : Jvm.MethodName) prog_7_method_1_code (1 : Nat) (Option.none : Option Jvm.ClassFile.FieldType), Jvm.Cond.code ({ cls := "com/example/tour/tour/io/IdTable", name := "allocate", desc := "(I)V" } : Jvm.MethodName) prog_7_method_6_code (2 : Nat) (Option.none : Option Jvm.ClassFile.FieldType), Jvm.Cond.code ({ cls := "java/util/Arrays", name := "fill", desc := "([JJ)V" } : Jvm.MethodName) jdk_65_method_101_code (5 : Nat) (Option.none : Option Jvm.ClassFile.FieldType), Jvm.Cond.code ({ cls := "com/example/tour/tour/io/WayNodes", name := "put", desc := "(J[JI)V" } : Jvm.MethodName) prog_16_method_2_code (5 : Nat) (Option.none : Option Jvm.ClassFile.FieldType), Jvm.Cond.code ({ cls := "com/example/tour/tour/io/IdTable", name := "put", desc := "(JJ)V" } : Jvm.MethodName) prog_7_method_2_code (6 : Nat) (Option.none : Option Jvm.ClassFile.FieldType), Jvm.Cond.code ({ cls := "com/example/tour/tour/io/IdTable", name := "slotOf", desc := "(J)I" } : Jvm.MethodName) prog_7_method_4_code (5 : Nat) (Option.some Jvm.ClassFile.FieldType.int), Jvm.Cond.code ({ cls := "com/example/tour/tour/io/WayNodes", name := "find", desc := "(J)[J" } : Jvm.MethodName) prog_16_method_3_code (6 : Nat) (Option.some (Jvm.ClassFile.FieldType.array Jvm.ClassFile.FieldType.long)), Jvm.Cond.code ({ cls := "com/example/tour/tour/io/IdTable", name := "get", desc := "(J)J" } : Jvm.MethodName) prog_7_method_3_code (3 : Nat) (Option.some Jvm.ClassFile.FieldType.long), Jvm.Cond.code ({ cls := "java/util/Arrays", name := "copyOfRange", desc := "([JII)[J" } : Jvm.MethodName) jdk_65_method_138_code (3 : Nat) (Option.some (Jvm.ClassFile.FieldType.array Jvm.ClassFile.FieldType.long)), Jvm.Cond.code ({ cls := "java/util/Arrays", name := "copyOfRangeLong", desc := "([JII)[J" } : Jvm.MethodName) jdk_65_method_139_code (5 : Nat) (Option.some (Jvm.ClassFile.FieldType.array Jvm.ClassFile.FieldType.long)), Jvm.Cond.code ({ cls := "java/util/Arrays", name := "checkLength", desc := "(II)V" } : Jvm.MethodName) jdk_65_method_131_code (2 : Nat) (Option.none : Option Jvm.ClassFile.FieldType), Jvm.Cond.code ({ cls := "java/lang/Math", name := "min", desc := "(II)I" } : Jvm.MethodName) jdk_29_method_69_code (2 : Nat) (Option.some Jvm.ClassFile.FieldType.int), Jvm.Cond.code ({ cls := "com/example/tour/tour/io/WayNodesFindPinLaw", name := "same", desc := "([J[JI)Z" } : Jvm.MethodName) method_2_code (3 : Nat) (Option.some Jvm.ClassFile.FieldType.boolean)]
set_option maxRecDepth 65536 in
theorem codes_eq : words1.filter isCode = codes1 := rfl
theorem w_codes : ∀ c ∈ words1.filter isCode, c.before args0 about1 = true := by
  rw [codes_eq]
  intro c hc
  simp only [codes1, List.mem_cons, List.not_mem_nil, or_false] at hc
  rcases hc with rfl | rfl | rfl | rfl | rfl | rfl | rfl | rfl | rfl | rfl | rfl | rfl | rfl | rfl | rfl | rfl
  · exact w_c0
  · exact w_c1
  · exact w_c2
  · exact w_c3
  · exact w_c4
  · exact w_c5
  · exact w_c6
  · exact w_c7
  · exact w_c8
  · exact w_c9
  · exact w_c10
  · exact w_c11
  · exact w_c12
  · exact w_c13
  · exact w_c14
  · exact w_c15
set_option maxRecDepth 65536 in
theorem w_t1 : (words1.take 24).all (fun c => isCode c || c.before args0 about1) = true := by decide +kernel
set_option maxRecDepth 65536 in
theorem w_t2 : ((words1.drop 24).take 24).all (fun c => isCode c || c.before args0 about1) = true := by decide +kernel
set_option maxRecDepth 65536 in
theorem w_t3 : (((words1.drop 24).drop 24).take 24).all (fun c => isCode c || c.before args0 about1) = true := by decide +kernel
set_option maxRecDepth 65536 in
theorem w_t4 : (((words1.drop 24).drop 24).drop 24).all (fun c => isCode c || c.before args0 about1) = true := by decide +kernel
theorem w_tables : (allAtoms (Jvm.Cond.code x code maxLocals ret :: tables_1)).before args0 about1 = true := by
  rw [allAtoms_all]
  show words1.all (fun c => c.before args0 about1) = true
  refine all_split ?_ w_codes
  rw [← List.take_append_drop 24 words1, List.all_append, w_t1, ← List.take_append_drop 24 (words1.drop 24), List.all_append, w_t2, ← List.take_append_drop 24 ((words1.drop 24).drop 24), List.all_append, w_t3, w_t4]
  rfl
set_option maxRecDepth 65536 in
theorem w_case : (Jvm.Cond.and given_1 narrow_1).before args0 about1 = true := by decide +kernel
theorem w_applies : (headSpec (Jvm.Cond.code x code maxLocals ret :: tables_1) room_1).applies x e0.platform about1 = true :=
  (Spec.applies_iff w_frames).mpr ⟨w_running, w_runnable, w_alone, w_named, w_hears, w_ripe, w_room, w_tables⟩
theorem atStart : AtStart classFile x code maxLocals ret World_1 tables_1 room_1 Calls_1 rest_1 Pre_1 launch0 p0 e0 about1 theMethod args0 below0 :=
  ⟨lists_1, trivial, launch0.admits_env _ _ _, launch0.least_env, fairChoices_fair.cas, fairChoices_fair.clock, w_frames, w_args, w_heap, w_applies, trivial, trivial, w_case⟩
end start1
theorem witness_1 : WitnessClaimed_1 := ⟨start1.p0, start1.e0, start1.about1, start1.theMethod, start1.args0, start1.below0, start1.atStart⟩
end Jvm.Pilot.@@N@@
