import JvmDerived
import JvmDerived.Pilot.@@N@@Statement
import JvmDerived.Pilot.@@N@@Code
set_option linter.unusedVariables false
set_option linter.unusedSimpArgs false
namespace Jvm.Own
open Sem ClassFile Op Lib Jvm.Stand Jvm.Free Jvm.LawKit Jvm.RoadKit
section Own
variable {p : Program} {l : Launch} {e : Env} {R : Room} {s : State} {m : MethodId} {args : Array Value} {below : List Frame} {meth : Method} {c : Code} {T : State} {locs : List Loc} {cells slots : Nat} {Q : Option Value → Heap → List Loc → Prop} {k n : Nat} {Z : State} {a0 : Array Value} {h h' h0 : Heap} {pc pc' : Nat} {Ls : Array Slot} {rest : List Value}
/-- from U the invocation comes to its end, returns, and Q holds there -/
def Till (p : Program) (e : Env) (below : List Frame) (s : State) (Q : Option Value → Heap → List Loc → Prop) (k n : Nat) (U : State) : Prop :=
  ∃ s₂ o, Steps p.tables e below U s₂ ∧ s₂.status = .running ∧ Ended s₂ below o ∧ ∃ v L, o = .returned v ∧ Q v s₂.heap L ∧ FrameEnd s o s₂ L k n
/-- a body's contract -/
def Ctr (l : Launch) (Z : State) (y : MethodName) (bytes : ByteArray) (maxL : Nat) (ret : Option FieldType) (rm : Room) (as : Array Value) (h : Heap) (Q : Option Value → Heap → List Loc → Prop) : Prop :=
  ∀ ws, MetFree l y (head1 (Jvm.Cond.code y bytes maxL ret :: ws) rm) (fun a U => a = as ∧ Z.Warmed39 U.vm ∧ U.heap = h) (fun _ _ _ _ _ => True) (fun _ U o U' => ∃ v L, o = .returned v ∧ Q v U'.heap L ∧ FrameEnd U o U' L rm.cells rm.slots)
theorem Till.pre {U V : State} (hs : ∀ t, Steps p.tables e below V t → Steps p.tables e below U t) (r : Till p e below s Q k n V) : Till p e below s Q k n U := by
  obtain ⟨s₂, o, h1, r⟩ := r; exact ⟨s₂, o, hs _ h1, r⟩
theorem Till.via {U V : State} (hs : Steps p.tables e below U V) (r : Till p e below s Q k n V) : Till p e below s Q k n U := by
  obtain ⟨s₂, o, h1, r⟩ := r; exact ⟨s₂, o, hs.trans h1, r⟩
theorem Till.cast {g g' : JFrame} (q : g = g') (r : Till p e below s Q k n (T.setTop g')) : Till p e below s Q k n (T.setTop g) := q ▸ r
theorem Ctr.of {y : MethodName} {bytes : ByteArray} {maxL : Nat} {ret : Option FieldType} {rm : Room} {as : Array Value} (hp : plainFor y = true)
    (body : ∀ p e s m below meth c s₁, p.tables.exec = Jvm.exec → c.code = bytes → c.maxLocals = maxL → s.vm.findClass y.cls = some m.cls → meth.name = y.name → meth.sig.returnType = ret → meth.locks = false → Z.Warmed39 s.vm → s₁.heap = h →
      Stand p l e rm s m as below meth c s₁ [] 0 0 → Till p e below s Q rm.cells rm.slots (s₁.setTop (entryFrame m as maxL))) : Ctr l Z y bytes maxL ret rm as h Q := by
  intro ws
  refine MetFree.of_bodySF hp hisR ?_
  intro p e s m args below meth c s₁ Bd hml hP hK
  obtain ⟨rfl, hZ, hh⟩ := hP
  exact body p e s m below meth c s₁ Bd.exec Bd.bytes hml (findClass_of_methodNamed Bd.named) (name_of_methodNamed Bd.named Bd.method).1 Bd.returns Bd.notSynchronized hZ (by rw [← hh, Bd.state]; rfl) (Stand.of_body Bd)
/-! branches -/
theorem Till.icmp {cd : ClassFile.Cond} {x y : Int32} {o : Int} (h : At T m c below) (hx : p.tables.exec = Jvm.exec) (hd : decode c.code pc = .ok (.if_icmp cd o, 3)) (ho : 0 ≤ (pc : Int) + o) (hp : ((pc : Int) + o).toNat = pc')
    (r1 : if_icmp.holds cd x y = true → Till p e below s Q k n (T.setTop (mkF m pc' Ls rest))) (r2 : if_icmp.holds cd x y = false → Till p e below s Q k n (T.setTop (mkF m (pc + 3) Ls rest))) : Till p e below s Q k n (T.setTop (mkF m pc Ls (.int y :: .int x :: rest))) := by
  cases hb : if_icmp.holds cd x y with
  | true => exact Till.pre (fun _ hr => XS.icmpYes h hx rfl (pc0 := pc) (pc' := pc') rfl hd rfl hb ho hp hr) (r1 hb)
  | false => exact Till.pre (fun _ hr => XS.icmpNo h hx rfl hd rfl hb hr) (r2 hb)
theorem Till.ifc {cd : ClassFile.Cond} {x : Int32} {o : Int} (h : At T m c below) (hx : p.tables.exec = Jvm.exec) (hd : decode c.code pc = .ok (.ifCond cd o, 3)) (ho : 0 ≤ (pc : Int) + o) (hp : ((pc : Int) + o).toNat = pc')
    (r1 : if_icmp.holds cd x 0 = true → Till p e below s Q k n (T.setTop (mkF m pc' Ls rest))) (r2 : if_icmp.holds cd x 0 = false → Till p e below s Q k n (T.setTop (mkF m (pc + 3) Ls rest))) : Till p e below s Q k n (T.setTop (mkF m pc Ls (.int x :: rest))) := by
  cases hb : if_icmp.holds cd x 0 with
  | true => exact Till.pre (fun _ hr => XS.ifYes h hx rfl (pc0 := pc) (pc' := pc') rfl hd rfl ((if0 _ _).trans hb) ho hp hr) (r1 hb)
  | false => exact Till.pre (fun _ hr => XS.ifNo h hx rfl hd rfl ((if0 _ _).trans hb) hr) (r2 hb)
theorem hEq {x y : Int32} : (if_icmp.holds .eq x y = true → x = y) ∧ (if_icmp.holds .eq x y = false → ¬ x = y) ∧ (if_icmp.holds .ne x y = true → ¬ x = y) ∧ (if_icmp.holds .ne x y = false → x = y) := by
  by_cases q : x = y
  · obtain ⟨h1, h2⟩ := teq q; rw [h1, h2]; simp [q]
  · obtain ⟨h1, h2⟩ := feq q; rw [h1, h2]; simp [q]
theorem hLt {x y : Int32} : (if_icmp.holds .lt x y = true → x < y) ∧ (if_icmp.holds .lt x y = false → ¬ x < y) ∧ (if_icmp.holds .ge x y = true → ¬ x < y) ∧ (if_icmp.holds .ge x y = false → x < y) ∧ (if_icmp.holds .gt y x = true → x < y) ∧ (if_icmp.holds .gt y x = false → ¬ x < y) ∧ (if_icmp.holds .le y x = true → ¬ x < y) ∧ (if_icmp.holds .le y x = false → x < y) := by
  by_cases q : x < y
  · obtain ⟨h1, h2, h3, h4⟩ := tlt q; rw [h1, h2, h3, h4]; simp [q]
  · obtain ⟨h1, h2, h3, h4⟩ := flt q; rw [h1, h2, h3, h4]; simp [q]
theorem lEq {x y : Int64} : lcmpW x y = 0 ↔ x = y := by rw [lcW x y]; exact lc_eq x y
theorem lLt {x y : Int64} : lcmpW x y < 0 ↔ x < y := by rw [lcW x y]; exact lc_lt x y
theorem lGt {x y : Int64} : 0 < lcmpW x y ↔ y < x := by rw [lcW x y]; exact lc_gt x y
/-- Java's >>> on longs -/
def lsr (x : Int64) (y : Int32) : Int64 := (x.toUInt64 >>> (y &&& 0x3f).toInt64.toUInt64).toInt64
/-! returns -/
theorem Till.retI (X : Stand p l e R s m args below meth c T locs cells slots) (hx : p.tables.exec = Jvm.exec) (hret : meth.sig.returnType = some .int) (hlk : meth.locks = false) {z : Int32} (hd : decode c.code pc = .ok (.ireturn, 1)) (hk : cells ≤ k) (hn : slots ≤ n) (hq : Q (some (.int z)) T.heap locs) : Till p e below s Q k n (T.setTop (mkF m pc Ls (.int z :: rest))) := by
  obtain ⟨fs, hr, hrun, hended, hW, hsame⟩ := X.leave (v := some (.int z)) (fun q => by rw [hret] at q; cases q) hlk
  exact ⟨_, _, retOut X hx hret rfl (Or.inl ⟨rfl, Or.inl rfl, z, rfl⟩) hd hr, hrun, hended, _, _, rfl, hq, ⟨_, rfl⟩, hW, hsame.mono hk hn⟩
theorem Till.retZ (X : Stand p l e R s m args below meth c T locs cells slots) (hx : p.tables.exec = Jvm.exec) (hret : meth.sig.returnType = some .boolean) (hlk : meth.locks = false) {z w : Int32} (hd : decode c.code pc = .ok (.ireturn, 1)) (hk : cells ≤ k) (hn : slots ≤ n) (hz : z &&& 1 = w) (hq : Q (some (.int w)) T.heap locs) : Till p e below s Q k n (T.setTop (mkF m pc Ls (.int z :: rest))) := by
  subst hz
  obtain ⟨fs, hr, hrun, hended, hW, hsame⟩ := X.leave (v := some (.int (z &&& 1))) (fun q => by rw [hret] at q; cases q) hlk
  exact ⟨_, _, retN X hx (t := .boolean) hret (Or.inl rfl) hd hr, hrun, hended, _, _, rfl, hq, ⟨_, rfl⟩, hW, hsame.mono hk hn⟩
theorem Till.retJ (X : Stand p l e R s m args below meth c T locs cells slots) (hx : p.tables.exec = Jvm.exec) (hret : meth.sig.returnType = some .long) (hlk : meth.locks = false) {z : Int64} (hd : decode c.code pc = .ok (.lreturn, 1)) (hk : cells ≤ k) (hn : slots ≤ n) (hq : Q (some (.long z)) T.heap locs) : Till p e below s Q k n (T.setTop (mkF m pc Ls (.long z :: rest))) := by
  obtain ⟨fs, hr, hrun, hended, hW, hsame⟩ := X.leave (v := some (.long z)) (fun q => by rw [hret] at q; cases q) hlk
  exact ⟨_, _, retOut X hx hret rfl (Or.inr (Or.inl ⟨rfl, rfl, z, rfl⟩)) hd hr, hrun, hended, _, _, rfl, hq, ⟨_, rfl⟩, hW, hsame.mono hk hn⟩
theorem Till.retA (X : Stand p l e R s m args below meth c T locs cells slots) (hx : p.tables.exec = Jvm.exec) {t : FieldType} (hret : meth.sig.returnType = some t) (ht : t.isReference = true) (hlk : meth.locks = false) {w : Value} (hw : w.isRef = true) (hnw : narrow t w = w) (hd : decode c.code pc = .ok (.areturn, 1)) (hk : cells ≤ k) (hn : slots ≤ n) (hq : Q (some w) T.heap locs) : Till p e below s Q k n (T.setTop (mkF m pc Ls (w :: rest))) := by
  obtain ⟨fs, hr, hrun, hended, hW, hsame⟩ := X.leave (v := some w) (fun q => by rw [hret] at q; cases q) hlk
  exact ⟨_, _, retOut X hx hret hnw (Or.inr (Or.inr (Or.inr (Or.inr ⟨rfl, ht, hw⟩)))) hd hr, hrun, hended, _, _, rfl, hq, ⟨_, rfl⟩, hW, hsame.mono hk hn⟩
theorem Till.retV (X : Stand p l e R s m args below meth c T locs cells slots) (hx : p.tables.exec = Jvm.exec) (hret : meth.sig.returnType = none) (hlk : meth.locks = false) (hd : decode c.code pc = .ok (.return_, 1)) (hk : cells ≤ k) (hn : slots ≤ n) (hq : Q none T.heap locs) : Till p e below s Q k n (T.setTop (mkF m pc Ls [])) := by
  obtain ⟨fs, hr, hrun, hended, hW, hsame⟩ := X.leave (v := none) (fun _ => rfl) hlk
  exact ⟨_, _, X.returnOut hx hret hd hr, hrun, hended, _, _, rfl, hq, ⟨_, rfl⟩, hW, hsame.mono hk hn⟩
/-! the heap -/
theorem Till.getF (X : Stand p l e R s m args below meth c T locs cells slots) (hx : p.tables.exec = Jvm.exec) (hZ : Z.Warmed39 s.vm) {own O nm d : String} {index : Nat} (hown : s.vm.findClass own = some m.cls) (w : (Jvm.Cond.fieldLink own index O nm d).before a0 Z = true) (eT : T.heap = h) {a : Addr} {v : Value} (F : Fld Z h a O nm d v) (hd : decode c.code pc = .ok (.getfield index, 3))
    (r : ∀ T', Stand p l e R s m args below meth c T' locs cells slots → T'.heap = h → Till p e below s Q k n (T'.setTop (mkF m (pc + 3) Ls (v :: rest)))) : Till p e below s Q k n (T.setTop (mkF m pc Ls (.ref a :: rest))) := by
  obtain ⟨T', X', e', st⟩ := Jvm.RoadKit.getF X hx hZ hown (host := "") (Or.inl w) Via.refl eT F (g := mkF m pc Ls (.ref a :: rest)) rfl rfl hd
  exact Till.pre st (r T' X' e')
theorem Till.putF (X : Stand p l e R s m args below meth c T locs cells slots) (hx : p.tables.exec = Jvm.exec) (hZ : Z.Warmed39 s.vm) {own O nm d C : String} {index kk : Nat} {ty : FieldType} (hown : s.vm.findClass own = some m.cls) (w : (Jvm.Cond.fieldLink own index O nm d).before a0 Z = true) (eT : T.heap = h) {a : Addr} {v old : Value} (F : Fld Z h a O nm d old) (E : Exa Z h a C)
    (L : (Jvm.Cond.lays C O nm d).before a0 Z = true ∨ ((Jvm.Cond.laysFinal C O nm d).before a0 Z = true ∧ own = O ∧ meth.name = "<init>")) (wi : (Jvm.Cond.instantiable C kk).before a0 Z = true) (hty : parseFieldDescriptor d = some ty) (hn : narrow ty v = v) (hf : fits ty v = true) (hd : decode c.code pc = .ok (.putfield index, 3))
    (r : ∀ T' h', Stand p l e R s m args below meth c T' (locs ++ [⟨a, Jvm.RoadKit.slotOf Z O nm d⟩]) cells slots → T'.heap = h' → Wr h h' a (Jvm.RoadKit.slotOf Z O nm d) v → Till p e below s Q k n (T'.setTop (mkF m (pc + 3) Ls rest))) : Till p e below s Q k n (T.setTop (mkF m pc Ls (v :: .ref a :: rest))) := by
  obtain ⟨T', h', X', e', W, st⟩ := Jvm.RoadKit.putF X hx hZ hown (host := "") (Or.inl w) Via.refl eT F E L wi hty hn hf (g := mkF m pc Ls (v :: .ref a :: rest)) rfl rfl hd
  exact Till.pre st (r T' h' X' e' W)
theorem Till.newO (X : Stand p l e R s m args below meth c T locs cells slots) (hx : p.tables.exec = Jvm.exec) (hZ : Z.Warmed39 s.vm) {own C : String} {index sl : Nat} (hown : s.vm.findClass own = some m.cls) (w : (Jvm.Cond.classLink own index C).before a0 Z = true) (wi : (Jvm.Cond.instantiable C sl).before a0 Z = true) (wz : (Jvm.Cond.initialized C).before a0 Z = true) (eT : T.heap = h) (hd : decode c.code pc = .ok (.new index, 3)) (hc : cells + 1 ≤ R.cells) (hl : slots + sl ≤ R.slots)
    (r : ∀ T' h' b, b = h.size → Stand p l e R s m args below meth c T' locs (cells + 1) (slots + sl) → T'.heap = h' → Ext h h' → Exa Z h' b C → (∀ {O nm d : String} {ty : FieldType}, Laid Z a0 C O nm d → parseFieldDescriptor d = some ty → Fld Z h' b O nm d (defaultValue ty)) → Till p e below s Q k n (T'.setTop (mkF m (pc + 3) Ls (.ref b :: rest)))) : Till p e below s Q k n (T.setTop (mkF m pc Ls rest)) := by
  obtain ⟨T', h', X', e', E, A, D, -, st⟩ := Jvm.RoadKit.newO X hx hZ hown w wi wz eT (g := mkF m pc Ls rest) rfl hd hc hl
  exact Till.pre st (r T' h' _ rfl X' e' E A D)
theorem Till.initO (X : Stand p l e R s m args below meth c T locs cells slots) (hx : p.tables.exec = Jvm.exec) (hZ : Z.Warmed39 s.vm) {own : String} {idx : Nat} (hown : s.vm.findClass own = some m.cls) (w1 : (Jvm.Cond.methodLink own idx Lib.objectInit).before a0 Z = true) (w2 : (Jvm.Cond.instanceMethod Lib.objectInit).before a0 Z = true) (w3 : (Jvm.Cond.code Lib.objectInit ⟨#[0xb1]⟩ 1 none).before a0 Z = true) (eT : T.heap = h) (hsize : Ls.size = c.maxLocals) {a : Addr} (hd : decode c.code pc = .ok (.invokespecial idx, 3))
    (hf : 1 ≤ R.frames) {W : Nat} (hW : (rest.map fun v => v.category).sum ≤ W) (hl : W + 12 ≤ R.locals)
    (r : ∀ T', Stand p l e R s m args below meth c T' locs cells slots → T'.heap = h → Till p e below s Q k n (T'.setTop (mkF m (pc + 3) Ls rest))) : Till p e below s Q k n (T.setTop (mkF m pc Ls (.ref a :: rest))) := by
  obtain ⟨T', X', e', st⟩ := Jvm.RoadKit.initO X hx hZ hown w1 w2 w3 eT (g := mkF m pc Ls (.ref a :: rest)) rfl hsize rfl hd hf (W := W) (by show 2 * 0 + _ ≤ _; omega) hl
  exact Till.pre st (r T' X' e')
/-! arrays: what they hold, as a function of the place -/
def AR {α : Type} (ty : FieldType) (w : α → Value) (Z : State) (h : Heap) (a : Addr) (z : Int32) (f : Nat → α) : Prop := ∃ c : Cell, Arr Z h a c ty ∧ c.slots.size = z.toNatClampNeg ∧ ¬ z < 0 ∧ ∀ i, i < c.slots.size → c.slots[i]? = some (w (f i))
abbrev LA := @AR Int64 .long Value.long
abbrev IA := @AR Int32 .int Value.int
abbrev BA := @AR Int32 .byte Value.int
def oupd {α : Type} (f : Nat → α) (i : Nat) (v : α) : Nat → α := fun x => if x = i then v else f x
theorem upd_hit {α : Type} {f : Nat → α} {i j : Nat} {v : α} (q : j = i) : oupd f i v j = v := if_pos q
theorem upd_miss {α : Type} {f : Nat → α} {i j : Nat} {v : α} (q : ¬ j = i) : oupd f i v j = f j := if_neg q
section Ary
variable {α : Type} {ty : FieldType} {w : α → Value} {a b : Addr} {z j : Int32} {f : Nat → α} {ws : List Addr} {sl : Nat} {v : Value}
theorem AR.lt (A : AR ty w Z h a z f) : a < h.size := by obtain ⟨c, A, -⟩ := A; exact A.lt
theorem AR.pos (A : AR ty w Z h a z f) : ¬ z < 0 := by obtain ⟨c, -, -, q, -⟩ := A; exact q
theorem AR.ext (A : AR ty w Z h a z f) (E : Ext h h') : AR ty w Z h' a z f := by obtain ⟨c, A, r⟩ := A; exact ⟨c, A.ext E, r⟩
theorem AR.keep (A : AR ty w Z h a z f) (K : Keep h h' ws) (q : a ∉ ws) : AR ty w Z h' a z f := by obtain ⟨c, A, r⟩ := A; exact ⟨c, ⟨K.2.1 a c A.1 q, A.2⟩, r⟩
theorem AR.wr (A : AR ty w Z h a z f) (W : Wr h h' b sl v) (q : a ≠ b) : AR ty w Z h' a z f := by obtain ⟨c, A, r⟩ := A; exact ⟨c, A.other W q, r⟩
theorem AR.congr {g : Nat → α} (A : AR ty w Z h a z f) (q : ∀ i, i < z.toNatClampNeg → f i = g i) : AR ty w Z h a z g := by obtain ⟨c, A, S, N, H⟩ := A; exact ⟨c, A, S, N, fun i hi => by rw [H i hi, q i (S ▸ hi)]⟩
theorem AR.set {x : α} (A : AR ty w Z h a z f) (W : Wr h h' a j.toNatClampNeg (w x)) : AR ty w Z h' a z (oupd f j.toNatClampNeg x) := by
  obtain ⟨c, A, S, N, H⟩ := A
  refine ⟨_, A.same W, by rw [sz_set]; exact S, N, fun i hi => ?_⟩
  rw [sz_set] at hi
  by_cases u : i = j.toNatClampNeg
  · rw [upd_hit u]; subst u; simp [Cell.setSlot, hi]
  · rw [upd_miss u]; simp only [Cell.setSlot]; rw [Array.getElem?_setIfInBounds_ne (Ne.symm u)]; exact H i hi
theorem Till.newA {aty : ArrayType} {d0 : α} (X : Stand p l e R s m args below meth c T locs cells slots) (hx : p.tables.exec = Jvm.exec) (hZ : Z.Warmed39 s.vm) (wa : (Jvm.Cond.arrayClass (newarray.typeOf aty)).before a0 Z = true) (eT : T.heap = h) (hd : decode c.code pc = .ok (.newarray aty, 2)) (hdv : defaultValue (newarray.typeOf aty) = w d0) (hz : ¬ z < 0) (cap : Nat) (hcap : z.toNatClampNeg ≤ cap) (hb : cap * 8 ≤ 536870912) (hc : cells + 1 ≤ R.cells) (hl : slots + cap ≤ R.slots)
    (r : ∀ T' h' b, b = h.size → Stand p l e R s m args below meth c T' locs (cells + 1) (slots + cap) → T'.heap = h' → Ext h h' → AR (newarray.typeOf aty) w Z h' b z (fun _ => d0) → Till p e below s Q k n (T'.setTop (mkF m (pc + 2) Ls (.ref b :: rest)))) : Till p e below s Q k n (T.setTop (mkF m pc Ls (.int z :: rest))) := by
  obtain ⟨T', h', cA, X', e', E, A, st⟩ := newP X hx hZ wa eT (g := mkF m pc Ls (.int z :: rest)) rfl hd rfl hz (cap := cap) hcap hb hc hl
  exact Till.pre st (r T' h' _ rfl X' e' E ⟨_, A, sz_new _ _ _, hz, fun i hi => by rw [sz_new] at hi; simp [Jvm.RoadKit.newA, hi, hdv]⟩)
theorem Till.alen (A : AR ty w Z h a z f) (X : Stand p l e R s m args below meth c T locs cells slots) (hx : p.tables.exec = Jvm.exec) (hZ : Z.Warmed39 s.vm) (eT : T.heap = h) (hd : decode c.code pc = .ok (.arraylength, 1))
    (r : Till p e below s Q k n (T.setTop (mkF m (pc + 1) Ls (.int z :: rest)))) : Till p e below s Q k n (T.setTop (mkF m pc Ls (.ref a :: rest))) := by
  obtain ⟨c', A, S, N, H⟩ := A
  refine Till.pre (X.arraylength hx (by rw [eT]; exact A.1) (State.isArrayOf_alike hZ.alike A.2.1) (g := mkF m pc Ls (.ref a :: rest)) rfl rfl hd) ?_
  rw [len_of S N]; exact r
theorem AR.at (A : AR ty w Z h a z f) (h1 : ¬ j < 0) (h2 : j < z) : ∃ c : Cell, Arr Z h a c ty ∧ ¬ (j < 0 ∨ c.slots.size ≤ j.toNatClampNeg) ∧ c.slots[j.toNatClampNeg]? = some (w (f j.toNatClampNeg)) := by
  obtain ⟨c', A, S, N, H⟩ := A
  have hin := inb_of S ⟨h1, h2⟩
  exact ⟨c', A, hin, H _ (Nat.lt_of_not_le fun y => hin (Or.inr y))⟩
end Ary
section Acc
variable {a : Addr} {z j : Int32}
theorem Till.laload {f : Nat → Int64} (A : LA Z h a z f) (h1 : ¬ j < 0) (h2 : j < z) (X : Stand p l e R s m args below meth c T locs cells slots) (hx : p.tables.exec = Jvm.exec) (hZ : Z.Warmed39 s.vm) (eT : T.heap = h) (hd : decode c.code pc = .ok (.laload, 1))
    (r : Till p e below s Q k n (T.setTop (mkF m (pc + 1) Ls (.long (f j.toNatClampNeg) :: rest)))) : Till p e below s Q k n (T.setTop (mkF m pc Ls (.int j :: .ref a :: rest))) := by
  obtain ⟨c', A, hin, hv⟩ := A.at h1 h2
  exact Till.pre (X.laload hx (by rw [eT]; exact A.1) (State.isArrayOf_alike hZ.alike A.2.1) A.2.2 hin hv (g := mkF m pc Ls (.int j :: .ref a :: rest)) rfl rfl hd) r
theorem Till.iaload {f : Nat → Int32} (A : IA Z h a z f) (h1 : ¬ j < 0) (h2 : j < z) (X : Stand p l e R s m args below meth c T locs cells slots) (hx : p.tables.exec = Jvm.exec) (hZ : Z.Warmed39 s.vm) (eT : T.heap = h) (hd : decode c.code pc = .ok (.iaload, 1))
    (r : Till p e below s Q k n (T.setTop (mkF m (pc + 1) Ls (.int (f j.toNatClampNeg) :: rest)))) : Till p e below s Q k n (T.setTop (mkF m pc Ls (.int j :: .ref a :: rest))) := by
  obtain ⟨c', A, hin, hv⟩ := A.at h1 h2
  exact Till.pre (X.iaload hx (by rw [eT]; exact A.1) (State.isArrayOf_alike hZ.alike A.2.1) A.2.2 hin hv (g := mkF m pc Ls (.int j :: .ref a :: rest)) rfl rfl hd) r
theorem Till.baload {f : Nat → Int32} (A : BA Z h a z f) (h1 : ¬ j < 0) (h2 : j < z) (X : Stand p l e R s m args below meth c T locs cells slots) (hx : p.tables.exec = Jvm.exec) (hZ : Z.Warmed39 s.vm) (eT : T.heap = h) (hd : decode c.code pc = .ok (.baload, 1))
    (r : Till p e below s Q k n (T.setTop (mkF m (pc + 1) Ls (.int (f j.toNatClampNeg) :: rest)))) : Till p e below s Q k n (T.setTop (mkF m pc Ls (.int j :: .ref a :: rest))) := by
  obtain ⟨c', A, hin, hv⟩ := A.at h1 h2
  exact Till.pre (X.baloadBytes hx (by rw [eT]; exact A.1) (State.isArrayOf_alike hZ.alike A.2.1) A.2.2 hin hv (g := mkF m pc Ls (.int j :: .ref a :: rest)) rfl rfl hd) r
theorem Till.lastore {f : Nat → Int64} {x : Int64} (A : LA Z h a z f) (h1 : ¬ j < 0) (h2 : j < z) (X : Stand p l e R s m args below meth c T locs cells slots) (hx : p.tables.exec = Jvm.exec) (hZ : Z.Warmed39 s.vm) (eT : T.heap = h) (hd : decode c.code pc = .ok (.lastore, 1))
    (r : ∀ T' h', Stand p l e R s m args below meth c T' (locs ++ [⟨a, j.toNatClampNeg⟩]) cells slots → T'.heap = h' → Wr h h' a j.toNatClampNeg (.long x) → LA Z h' a z (oupd f j.toNatClampNeg x) → Till p e below s Q k n (T'.setTop (mkF m (pc + 1) Ls rest))) : Till p e below s Q k n (T.setTop (mkF m pc Ls (.long x :: .int j :: .ref a :: rest))) := by
  obtain ⟨c', A', hin, hv⟩ := A.at h1 h2
  obtain ⟨T', h', X', e', W, st⟩ := stJ X hx hZ eT A' hin (x := x) (g := mkF m pc Ls (.long x :: .int j :: .ref a :: rest)) rfl rfl hd
  exact Till.pre st (r T' h' X' e' W (AR.set A W))
theorem Till.iastore {f : Nat → Int32} {x : Int32} (A : IA Z h a z f) (h1 : ¬ j < 0) (h2 : j < z) (X : Stand p l e R s m args below meth c T locs cells slots) (hx : p.tables.exec = Jvm.exec) (hZ : Z.Warmed39 s.vm) (eT : T.heap = h) (hd : decode c.code pc = .ok (.iastore, 1))
    (r : ∀ T' h', Stand p l e R s m args below meth c T' (locs ++ [⟨a, j.toNatClampNeg⟩]) cells slots → T'.heap = h' → Wr h h' a j.toNatClampNeg (.int x) → IA Z h' a z (oupd f j.toNatClampNeg x) → Till p e below s Q k n (T'.setTop (mkF m (pc + 1) Ls rest))) : Till p e below s Q k n (T.setTop (mkF m pc Ls (.int x :: .int j :: .ref a :: rest))) := by
  obtain ⟨c', A', hin, hv⟩ := A.at h1 h2
  obtain ⟨T', h', X', e', W, st⟩ := stI X hx hZ eT A' hin (x := x) (g := mkF m pc Ls (.int x :: .int j :: .ref a :: rest)) rfl rfl hd
  exact Till.pre st (r T' h' X' e' W (AR.set A W))
theorem Till.bastore {f : Nat → Int32} {x : Int32} (A : BA Z h a z f) (h1 : ¬ j < 0) (h2 : j < z) (X : Stand p l e R s m args below meth c T locs cells slots) (hx : p.tables.exec = Jvm.exec) (hZ : Z.Warmed39 s.vm) (eT : T.heap = h) (hd : decode c.code pc = .ok (.bastore, 1))
    (r : ∀ T' h', Stand p l e R s m args below meth c T' (locs ++ [⟨a, j.toNatClampNeg⟩]) cells slots → T'.heap = h' → Wr h h' a j.toNatClampNeg (.int x.toInt8.toInt32) → BA Z h' a z (oupd f j.toNatClampNeg x.toInt8.toInt32) → Till p e below s Q k n (T'.setTop (mkF m (pc + 1) Ls rest))) : Till p e below s Q k n (T.setTop (mkF m pc Ls (.int x :: .int j :: .ref a :: rest))) := by
  obtain ⟨c', A', hin, hv⟩ := A.at h1 h2
  obtain ⟨T', h', X', e', W, st⟩ := stB X hx hZ eT A' hin (x := x) (g := mkF m pc Ls (.int x :: .int j :: .ref a :: rest)) rfl rfl hd
  exact Till.pre st (r T' h' X' e' W (AR.set A W))
end Acc
/-! calls -/
section Calls
variable {own : String} {index maxL : Nat} {y : MethodName} {bytes : ByteArray} {ret : Option FieldType} {rm : Room} {as : Array Value} {Qc : Option Value → Heap → List Loc → Prop} {W : Nat} {argsL st : List Value}
theorem Till.callS (C : Ctr l Z y bytes maxL ret rm as h Qc) (X : Stand p l e R s m args below meth c T locs cells slots) (hx : p.tables.exec = Jvm.exec) (hZ : Z.Warmed39 s.vm) (hown : s.vm.findClass own = some m.cls) (w1 : (Jvm.Cond.methodLink own index y).before a0 Z = true) (w2 : (Jvm.Cond.static y).before a0 Z = true) (w3 : (Jvm.Cond.initialized y.cls).before a0 Z = true) (w4 : (Jvm.Cond.code y bytes maxL ret).before a0 Z = true)
    (hy : y.cls ≠ "java/lang/invoke/MethodHandle" ∧ y.cls ≠ "java/lang/invoke/VarHandle") (hf : rm.frames + 1 ≤ R.frames) (hl : W + (maxL + 11) + rm.locals ≤ R.locals) (hsize : Ls.size = c.maxLocals) (hlen : ∀ sig, parseMethodDescriptor y.desc = some sig → argsL.length = sig.parameters.length) (has : argsL.toArray = as) (hst : st = argsL.reverse ++ rest) (hW : (rest.map fun v => v.category).sum ≤ W) (hd : decode c.code pc = .ok (.invokestatic index, 3)) (eT : T.heap = h) (hc : cells + rm.cells ≤ R.cells) (hs : slots + rm.slots ≤ R.slots)
    (r : ∀ v T' L, Stand p l e R s m args below meth c T' (locs ++ L) (cells + rm.cells) (slots + rm.slots) → Qc v T'.heap L → Till p e below s Q k n (T'.setTop (mkF m (pc + 3) Ls (v.toList ++ rest)))) : Till p e below s Q k n (T.setTop (mkF m pc Ls st)) := by
  obtain ⟨v, vm1, ⟨T', L', c', s'⟩, -, X', ⟨Lc, hQ, l1, y1, z1⟩, stp⟩ := Jvm.LawKit.callS X hx hown (mvT hZ w1) (mvT hZ w2) (mvT hZ w3) (mvT hZ w4) hy (backOf (W := W) (C []) hZ w4 w3 hf hl) (g := mkF m pc Ls st) rfl hsize (argsL := argsL) (rest := rest) hlen hst (by show 2 * 0 + _ ≤ _; omega) hd (fun _ _ => ⟨has, eT, hc, hs⟩)
  dsimp only [Pt.U, Pt.locs, Pt.cells, Pt.slots] at X' l1 y1 z1 stp hQ
  subst l1 y1 z1
  exact Till.pre stp (r v T' Lc X' hQ)
theorem Till.callC {a : Addr} (C : Ctr l Z y bytes maxL none rm as h Qc) (X : Stand p l e R s m args below meth c T locs cells slots) (hx : p.tables.exec = Jvm.exec) (hZ : Z.Warmed39 s.vm) (hown : s.vm.findClass own = some m.cls) (hy1 : y.name = "<init>") (w1 : (Jvm.Cond.methodLink own index y).before a0 Z = true) (w2 : (Jvm.Cond.instanceMethod y).before a0 Z = true) (w3 : (Jvm.Cond.initialized y.cls).before a0 Z = true) (w4 : (Jvm.Cond.code y bytes maxL none).before a0 Z = true)
    (hy : y.cls ≠ "java/lang/invoke/MethodHandle" ∧ y.cls ≠ "java/lang/invoke/VarHandle") (hf : rm.frames + 1 ≤ R.frames) (hl : W + (maxL + 11) + rm.locals ≤ R.locals) (hsize : Ls.size = c.maxLocals) (hlen : ∀ sig, parseMethodDescriptor y.desc = some sig → argsL.length = sig.parameters.length) (has : (.ref a :: argsL).toArray = as) (hst : st = argsL.reverse ++ .ref a :: rest) (hW : (rest.map fun v => v.category).sum ≤ W) (hd : decode c.code pc = .ok (.invokespecial index, 3)) (eT : T.heap = h) (hc : cells + rm.cells ≤ R.cells) (hs : slots + rm.slots ≤ R.slots)
    (r : ∀ v T' L, Stand p l e R s m args below meth c T' (locs ++ L) (cells + rm.cells) (slots + rm.slots) → Qc v T'.heap L → Till p e below s Q k n (T'.setTop (mkF m (pc + 3) Ls (v.toList ++ rest)))) : Till p e below s Q k n (T.setTop (mkF m pc Ls st)) := by
  obtain ⟨v, vm1, ⟨T', L', c', s'⟩, -, X', ⟨Lc, hQ, l1, y1, z1⟩, stp⟩ := X.specialBack hx hy1 hown (mvT hZ w1) (mvT hZ w2) (mvT hZ w4) hy (backOf (W := W) (C []) hZ w4 w3 hf hl) (g := mkF m pc Ls st) rfl hsize (Steps.refl _) (a := a) (argsL := argsL) (rest := rest) hlen hst (by show 2 * 0 + _ ≤ _; omega) hd (fun _ _ => ⟨has, eT, hc, hs⟩)
  dsimp only [Pt.U, Pt.locs, Pt.cells, Pt.slots] at X' l1 y1 z1 stp hQ
  subst l1 y1 z1
  exact Till.via stp (r v T' Lc X' hQ)
theorem Till.callV {a : Addr} (C : Ctr l Z y bytes maxL ret rm as h Qc) (E : Exa Z h a y.cls) (X : Stand p l e R s m args below meth c T locs cells slots) (hx : p.tables.exec = Jvm.exec) (hZ : Z.Warmed39 s.vm) (hown : s.vm.findClass own = some m.cls) (w1 : (Jvm.Cond.methodLink own index y).before a0 Z = true) (w5 : (Jvm.Cond.declares y).before a0 Z = true) (w6 : (Jvm.Cond.selects y.cls y y).before a0 Z = true) (w2 : (Jvm.Cond.instanceMethod y).before a0 Z = true) (w3 : (Jvm.Cond.initialized y.cls).before a0 Z = true) (w4 : (Jvm.Cond.code y bytes maxL ret).before a0 Z = true)
    (hy : y.cls ≠ "java/lang/invoke/MethodHandle" ∧ y.cls ≠ "java/lang/invoke/VarHandle") (hf : rm.frames + 1 ≤ R.frames) (hl : W + (maxL + 11) + rm.locals ≤ R.locals) (hsize : Ls.size = c.maxLocals) (hlen : ∀ sig, parseMethodDescriptor y.desc = some sig → argsL.length = sig.parameters.length) (has : (.ref a :: argsL).toArray = as) (hst : st = argsL.reverse ++ .ref a :: rest) (hW : (rest.map fun v => v.category).sum ≤ W) (hd : decode c.code pc = .ok (.invokevirtual index, 3)) (eT : T.heap = h) (hc : cells + rm.cells ≤ R.cells) (hs : slots + rm.slots ≤ R.slots)
    (r : ∀ v T' L, Stand p l e R s m args below meth c T' (locs ++ L) (cells + rm.cells) (slots + rm.slots) → Qc v T'.heap L → Till p e below s Q k n (T'.setTop (mkF m (pc + 3) Ls (v.toList ++ rest)))) : Till p e below s Q k n (T.setTop (mkF m pc Ls st)) := by
  obtain ⟨cq, kq, qa, qb, qc⟩ := isOf hZ eT E
  obtain ⟨v, vm1, ⟨T', L', c', s'⟩, -, X', ⟨Lc, hQ, l1, y1, z1⟩, stp⟩ := X.virtualBack hx (y := y) (z := y) hown (mvT hZ w1) (mvT hZ w5) (notFace_of_selects (args := #[]) (mvT hZ w6)) (mvT hZ w6) (mvT hZ w2) hy (backOf (W := W) (C []) hZ w4 w3 hf hl) qa qc (g := mkF m pc Ls st) rfl hsize (Steps.refl _) (argsL := argsL) (rest := rest) hlen hst (by show 2 * 0 + _ ≤ _; omega) hd (fun _ _ => ⟨has, eT, hc, hs⟩)
  dsimp only [Pt.U, Pt.locs, Pt.cells, Pt.slots] at X' l1 y1 z1 stp hQ
  subst l1 y1 z1
  exact Till.via stp (r v T' Lc X' hQ)
theorem Till.callP {a : Addr} {kk : Nat} (C : Ctr l Z y bytes maxL ret rm as h Qc) (E : Exa Z h a y.cls) (X : Stand p l e R s m args below meth c T locs cells slots) (hx : p.tables.exec = Jvm.exec) (hZ : Z.Warmed39 s.vm) (hown : s.vm.findClass own = some m.cls) (w1 : (Jvm.Cond.methodLink own index y).before a0 Z = true) (w2 : (Jvm.Cond.instanceMethod y).before a0 Z = true) (wp : (Jvm.Cond.privateMethod y).before a0 Z = true) (wi : (Jvm.Cond.instantiable y.cls kk).before a0 Z = true) (w3 : (Jvm.Cond.initialized y.cls).before a0 Z = true) (w4 : (Jvm.Cond.code y bytes maxL ret).before a0 Z = true)
    (hy : y.cls ≠ "java/lang/invoke/MethodHandle" ∧ y.cls ≠ "java/lang/invoke/VarHandle") (hf : rm.frames + 1 ≤ R.frames) (hl : W + (maxL + 11) + rm.locals ≤ R.locals) (hsize : Ls.size = c.maxLocals) (hlen : ∀ sig, parseMethodDescriptor y.desc = some sig → argsL.length = sig.parameters.length) (has : (.ref a :: argsL).toArray = as) (hst : st = argsL.reverse ++ .ref a :: rest) (hW : (rest.map fun v => v.category).sum ≤ W) (hd : decode c.code pc = .ok (.invokevirtual index, 3)) (eT : T.heap = h) (hc : cells + rm.cells ≤ R.cells) (hs : slots + rm.slots ≤ R.slots)
    (r : ∀ v T' L, Stand p l e R s m args below meth c T' (locs ++ L) (cells + rm.cells) (slots + rm.slots) → Qc v T'.heap L → Till p e below s Q k n (T'.setTop (mkF m (pc + 3) Ls (v.toList ++ rest)))) : Till p e below s Q k n (T.setTop (mkF m pc Ls st)) := by
  have wi' : (Jvm.Cond.instantiable y.cls kk).before args s = true := mvT hZ wi
  have w2' : (Jvm.Cond.instanceMethod y).before args s = true := mvT hZ w2
  obtain ⟨c2, k2, i1, i2, -, hniab, -, -⟩ := Cond.instantiable_spec wi'
  have hpr := Cond.privateMethod_at (mvP hZ wp (args := args))
  have hsel : (Jvm.Cond.selects y.cls y y).before args s = true := selects_self_of_private i1 i2 (Bool.or_eq_false_iff.mp hniab).1 hpr w2' hy
  obtain ⟨cell, hcell, hobj⟩ := E.cell
  obtain ⟨v, vm1, ⟨T', L', c', s'⟩, -, X', ⟨Lc, hQ, l1, y1, z1⟩, stp⟩ := X.privateBack hx hown (mvT hZ w1) w2' hsel hpr (mvT hZ w4) hy (backOf (W := W) (C []) hZ w4 w3 hf hl) (g := mkF m pc Ls st) rfl hsize (Steps.refl _) (a := a) (by rw [eT]; exact hcell) hobj (argsL := argsL) (rest := rest) hlen hst (by show 2 * 0 + _ ≤ _; omega) hd (fun _ _ => ⟨has, eT, hc, hs⟩)
  dsimp only [Pt.U, Pt.locs, Pt.cells, Pt.slots] at X' l1 y1 z1 stp hQ
  subst l1 y1 z1
  exact Till.via stp (r v T' Lc X' hQ)
end Calls
theorem Till.pop2L {x : Int64} (X : Stand p l e R s m args below meth c T locs cells slots) (hx : p.tables.exec = Jvm.exec) (hd : decode c.code pc = .ok (.pop2, 1)) (r : Till p e below s Q k n (T.setTop (mkF m (pc + 1) Ls rest))) : Till p e below s Q k n (T.setTop (mkF m pc Ls (.long x :: rest))) := by
  refine Till.pre (fun t hr => ?_) r
  show Steps p.tables e below (T.setTop { method := m, pc := pc, locals := Ls, stack := _ :: rest, locked := none }) _
  jvm_step X.here [X.here.top, hx, hd, Value.category]
  exact hr
end Own
end Jvm.Own
namespace Jvm.Pilot.@@N@@
open Jvm Jvm.ClassFile Sem Op Lib Jvm.Free Jvm.Stand Jvm.LawKit Jvm.RoadKit Bundle Jvm.Own Jvm.Pilot.@@N@@.Jvm.D
theorem d1_0 : decode method_2_code 0 = .ok (.iload_n 1, 1) := by decide +kernel
theorem d1_1 : decode method_2_code 1 = .ok (.iconst 3, 1) := by decide +kernel
theorem d1_2 : decode method_2_code 2 = .ok (.iand, 1) := by decide +kernel
theorem d1_3 : decode method_2_code 3 = .ok (.istore_n 2, 1) := by decide +kernel
theorem d1_4 : decode method_2_code 4 = .ok (.iload_n 2, 1) := by decide +kernel
theorem d1_5 : decode method_2_code 5 = .ok (.ifCond .ne 5, 3) := by decide +kernel
theorem d1_8 : decode method_2_code 8 = .ok (.iload_n 0, 1) := by decide +kernel
theorem d1_9 : decode method_2_code 9 = .ok (.ireturn, 1) := by decide +kernel
theorem d1_10 : decode method_2_code 10 = .ok (.iload_n 2, 1) := by decide +kernel
theorem d1_11 : decode method_2_code 11 = .ok (.iconst 1, 1) := by decide +kernel
theorem d1_12 : decode method_2_code 12 = .ok (.if_icmp .ne 9, 3) := by decide +kernel
theorem d1_15 : decode method_2_code 15 = .ok (.iload_n 0, 1) := by decide +kernel
theorem d1_16 : decode method_2_code 16 = .ok (.sipush 255, 3) := by decide +kernel
theorem d1_19 : decode method_2_code 19 = .ok (.iand, 1) := by decide +kernel
theorem d1_20 : decode method_2_code 20 = .ok (.ireturn, 1) := by decide +kernel
theorem d1_21 : decode method_2_code 21 = .ok (.iload_n 2, 1) := by decide +kernel
theorem d1_22 : decode method_2_code 22 = .ok (.iconst 2, 1) := by decide +kernel
theorem d1_23 : decode method_2_code 23 = .ok (.if_icmp .ne 8, 3) := by decide +kernel
theorem d1_26 : decode method_2_code 26 = .ok (.iload_n 0, 1) := by decide +kernel
theorem d1_27 : decode method_2_code 27 = .ok (.bipush 127, 2) := by decide +kernel
theorem d1_29 : decode method_2_code 29 = .ok (.iand, 1) := by decide +kernel
theorem d1_30 : decode method_2_code 30 = .ok (.ireturn, 1) := by decide +kernel
theorem d1_31 : decode method_2_code 31 = .ok (.bipush 47, 2) := by decide +kernel
theorem d1_33 : decode method_2_code 33 = .ok (.iload_n 0, 1) := by decide +kernel
theorem d1_34 : decode method_2_code 34 = .ok (.bipush 63, 2) := by decide +kernel
theorem d1_36 : decode method_2_code 36 = .ok (.iand, 1) := by decide +kernel
theorem d1_37 : decode method_2_code 37 = .ok (.iadd, 1) := by decide +kernel
theorem d1_38 : decode method_2_code 38 = .ok (.ireturn, 1) := by decide +kernel
theorem pn_1 : plainName "com/example/wolfville/wolfville/xml/XmlCharactersReferenceDigitPinLaw" = true := by first | (simp [plainName, overriddenIn]; done) | decide +kernel
theorem ef_1 (m : MethodId) (p1 : Int32) (p2 : Int32) : entryFrame m #[(.int p1), (.int p2)] 3 = mkF m 0 #[.val (.int p1), .val (.int p2), .unset] [] := by first | (simp [entryFrame, mkF, argsToLocals, Value.category]; done) | rfl
def fn1 (p1 : Int32) (p2 : Int32) : Int32 := (if ((p2 &&& (3 : Int32)) = (0 : Int32)) then p1 else (if ((p2 &&& (3 : Int32)) = (1 : Int32)) then (p1 &&& (255 : Int32)) else (if ((p2 &&& (3 : Int32)) = (2 : Int32)) then (p1 &&& (127 : Int32)) else ((47 : Int32) + (p1 &&& (63 : Int32))))))
def Q1 (Z : State) (p1 : Int32) (p2 : Int32) (h0 : Heap) (n0 : Nat) : Option Value → Heap → List Loc → Prop := fun v h L => v = some (Value.int (fn1 p1 p2)) ∧ Fr n0 L ∧ h = h0
def room1 : Room := { frames := 0, cells := 0, slots := 0, locals := 0 }
set_option maxRecDepth 65536 in
set_option maxHeartbeats 40000000 in
theorem rm1 (l : Launch) (Z : State) (a0 : Array Value) (hw : ∀ d ∈ tables_1, d.before a0 Z = true) (p1 : Int32) (p2 : Int32) (h0 : Heap) (n0 : Nat)  : Ctr l Z (⟨"com/example/wolfville/wolfville/xml/XmlCharactersReferenceDigitPinLaw", "pick", "(II)I"⟩ : MethodName) method_2_code 3 (some .int) room1 #[(.int p1), (.int p2)] h0 (Q1 Z p1 p2 h0 n0) := by
  refine Ctr.of (plainFor_of_name pn_1) ?_
  intro p e s m below meth c s₁ hx hby hml hown hnm hret hlk hZ e0 X0
  have hown : s.vm.findClass "com/example/wolfville/wolfville/xml/XmlCharactersReferenceDigitPinLaw" = some m.cls := hown
  have hml : c.maxLocals = 3 := hml
  have hnm : meth.name = "pick" := hnm
  have hret : meth.sig.returnType = (some .int) := hret
  have N0 := Fr.nil n0
  refine Till.cast (ef_1 m p1 p2) ?_
  show Till p e below s (Q1 Z p1 p2 h0 n0) room1.cells room1.slots (s₁.setTop (mkF m 0 #[.val (.int p1), .val (.int p2), .unset] []))
  refine Till.pre (fun _ hr => XS.iloadN X0.here hx rfl (hb hby d1_0) rfl hr) ?_
  show Till p e below s (Q1 Z p1 p2 h0 n0) room1.cells room1.slots (s₁.setTop (mkF m 1 #[.val (.int p1), .val (.int p2), .unset] [(.int p2)]))
  refine Till.pre (fun _ hr => XS.iconst X0.here hx rfl (hb hby d1_1) hr) ?_
  show Till p e below s (Q1 Z p1 p2 h0 n0) room1.cells room1.slots (s₁.setTop (mkF m 2 #[.val (.int p1), .val (.int p2), .unset] [(.int (3 : Int32)), (.int p2)]))
  refine Till.pre (fun _ hr => XS.iand X0.here hx rfl (hb hby d1_2) rfl hr) ?_
  show Till p e below s (Q1 Z p1 p2 h0 n0) room1.cells room1.slots (s₁.setTop (mkF m 3 #[.val (.int p1), .val (.int p2), .unset] [(.int (p2 &&& (3 : Int32)))]))
  refine Till.pre (fun _ hr => XS.istoreN X0.here hx rfl (hb hby d1_3) rfl (l' := #[.val (.int p1), .val (.int p2), .val (.int (p2 &&& (3 : Int32)))]) rfl hr) ?_
  show Till p e below s (Q1 Z p1 p2 h0 n0) room1.cells room1.slots (s₁.setTop (mkF m 4 #[.val (.int p1), .val (.int p2), .val (.int (p2 &&& (3 : Int32)))] []))
  refine Till.pre (fun _ hr => XS.iloadN X0.here hx rfl (hb hby d1_4) rfl hr) ?_
  show Till p e below s (Q1 Z p1 p2 h0 n0) room1.cells room1.slots (s₁.setTop (mkF m 5 #[.val (.int p1), .val (.int p2), .val (.int (p2 &&& (3 : Int32)))] [(.int (p2 &&& (3 : Int32)))]))
  refine Till.ifc (pc' := 10) X0.here hx (hb hby d1_5) (by decide) (by decide) (fun q => ?_) (fun q => ?_)
  · have hc1 := (hEq.2.2.1 q)
    show Till p e below s (Q1 Z p1 p2 h0 n0) room1.cells room1.slots (s₁.setTop (mkF m 10 #[.val (.int p1), .val (.int p2), .val (.int (p2 &&& (3 : Int32)))] []))
    refine Till.pre (fun _ hr => XS.iloadN X0.here hx rfl (hb hby d1_10) rfl hr) ?_
    show Till p e below s (Q1 Z p1 p2 h0 n0) room1.cells room1.slots (s₁.setTop (mkF m 11 #[.val (.int p1), .val (.int p2), .val (.int (p2 &&& (3 : Int32)))] [(.int (p2 &&& (3 : Int32)))]))
    refine Till.pre (fun _ hr => XS.iconst X0.here hx rfl (hb hby d1_11) hr) ?_
    show Till p e below s (Q1 Z p1 p2 h0 n0) room1.cells room1.slots (s₁.setTop (mkF m 12 #[.val (.int p1), .val (.int p2), .val (.int (p2 &&& (3 : Int32)))] [(.int (1 : Int32)), (.int (p2 &&& (3 : Int32)))]))
    refine Till.icmp (pc' := 21) X0.here hx (hb hby d1_12) (by decide) (by decide) (fun q => ?_) (fun q => ?_)
    · have hc2 := (hEq.2.2.1 q)
      show Till p e below s (Q1 Z p1 p2 h0 n0) room1.cells room1.slots (s₁.setTop (mkF m 21 #[.val (.int p1), .val (.int p2), .val (.int (p2 &&& (3 : Int32)))] []))
      refine Till.pre (fun _ hr => XS.iloadN X0.here hx rfl (hb hby d1_21) rfl hr) ?_
      show Till p e below s (Q1 Z p1 p2 h0 n0) room1.cells room1.slots (s₁.setTop (mkF m 22 #[.val (.int p1), .val (.int p2), .val (.int (p2 &&& (3 : Int32)))] [(.int (p2 &&& (3 : Int32)))]))
      refine Till.pre (fun _ hr => XS.iconst X0.here hx rfl (hb hby d1_22) hr) ?_
      show Till p e below s (Q1 Z p1 p2 h0 n0) room1.cells room1.slots (s₁.setTop (mkF m 23 #[.val (.int p1), .val (.int p2), .val (.int (p2 &&& (3 : Int32)))] [(.int (2 : Int32)), (.int (p2 &&& (3 : Int32)))]))
      refine Till.icmp (pc' := 31) X0.here hx (hb hby d1_23) (by decide) (by decide) (fun q => ?_) (fun q => ?_)
      · have hc3 := (hEq.2.2.1 q)
        show Till p e below s (Q1 Z p1 p2 h0 n0) room1.cells room1.slots (s₁.setTop (mkF m 31 #[.val (.int p1), .val (.int p2), .val (.int (p2 &&& (3 : Int32)))] []))
        refine Till.pre (fun _ hr => XS.bipush X0.here hx rfl (hb hby d1_31) hr) ?_
        show Till p e below s (Q1 Z p1 p2 h0 n0) room1.cells room1.slots (s₁.setTop (mkF m 33 #[.val (.int p1), .val (.int p2), .val (.int (p2 &&& (3 : Int32)))] [(.int (47 : Int32))]))
        refine Till.pre (fun _ hr => XS.iloadN X0.here hx rfl (hb hby d1_33) rfl hr) ?_
        show Till p e below s (Q1 Z p1 p2 h0 n0) room1.cells room1.slots (s₁.setTop (mkF m 34 #[.val (.int p1), .val (.int p2), .val (.int (p2 &&& (3 : Int32)))] [(.int p1), (.int (47 : Int32))]))
        refine Till.pre (fun _ hr => XS.bipush X0.here hx rfl (hb hby d1_34) hr) ?_
        show Till p e below s (Q1 Z p1 p2 h0 n0) room1.cells room1.slots (s₁.setTop (mkF m 36 #[.val (.int p1), .val (.int p2), .val (.int (p2 &&& (3 : Int32)))] [(.int (63 : Int32)), (.int p1), (.int (47 : Int32))]))
        refine Till.pre (fun _ hr => XS.iand X0.here hx rfl (hb hby d1_36) rfl hr) ?_
        show Till p e below s (Q1 Z p1 p2 h0 n0) room1.cells room1.slots (s₁.setTop (mkF m 37 #[.val (.int p1), .val (.int p2), .val (.int (p2 &&& (3 : Int32)))] [(.int (p1 &&& (63 : Int32))), (.int (47 : Int32))]))
        refine Till.pre (fun _ hr => XS.iadd X0.here hx rfl (hb hby d1_37) rfl hr) ?_
        show Till p e below s (Q1 Z p1 p2 h0 n0) room1.cells room1.slots (s₁.setTop (mkF m 38 #[.val (.int p1), .val (.int p2), .val (.int (p2 &&& (3 : Int32)))] [(.int ((47 : Int32) + (p1 &&& (63 : Int32))))]))
        refine Till.retI X0 hx hret hlk (hb hby d1_38) (by decide) (by decide) ?_
        exact ⟨(congrArg (fun z => some (Value.int z)) (Eq.symm ((if_neg hc1).trans ((if_neg hc2).trans (if_neg hc3))))), N0, e0⟩
      · have hc3 := (hEq.2.2.2 q)
        show Till p e below s (Q1 Z p1 p2 h0 n0) room1.cells room1.slots (s₁.setTop (mkF m 26 #[.val (.int p1), .val (.int p2), .val (.int (p2 &&& (3 : Int32)))] []))
        refine Till.pre (fun _ hr => XS.iloadN X0.here hx rfl (hb hby d1_26) rfl hr) ?_
        show Till p e below s (Q1 Z p1 p2 h0 n0) room1.cells room1.slots (s₁.setTop (mkF m 27 #[.val (.int p1), .val (.int p2), .val (.int (p2 &&& (3 : Int32)))] [(.int p1)]))
        refine Till.pre (fun _ hr => XS.bipush X0.here hx rfl (hb hby d1_27) hr) ?_
        show Till p e below s (Q1 Z p1 p2 h0 n0) room1.cells room1.slots (s₁.setTop (mkF m 29 #[.val (.int p1), .val (.int p2), .val (.int (p2 &&& (3 : Int32)))] [(.int (127 : Int32)), (.int p1)]))
        refine Till.pre (fun _ hr => XS.iand X0.here hx rfl (hb hby d1_29) rfl hr) ?_
        show Till p e below s (Q1 Z p1 p2 h0 n0) room1.cells room1.slots (s₁.setTop (mkF m 30 #[.val (.int p1), .val (.int p2), .val (.int (p2 &&& (3 : Int32)))] [(.int (p1 &&& (127 : Int32)))]))
        refine Till.retI X0 hx hret hlk (hb hby d1_30) (by decide) (by decide) ?_
        exact ⟨(congrArg (fun z => some (Value.int z)) (Eq.symm ((if_neg hc1).trans ((if_neg hc2).trans (if_pos hc3))))), N0, e0⟩
    · have hc2 := (hEq.2.2.2 q)
      show Till p e below s (Q1 Z p1 p2 h0 n0) room1.cells room1.slots (s₁.setTop (mkF m 15 #[.val (.int p1), .val (.int p2), .val (.int (p2 &&& (3 : Int32)))] []))
      refine Till.pre (fun _ hr => XS.iloadN X0.here hx rfl (hb hby d1_15) rfl hr) ?_
      show Till p e below s (Q1 Z p1 p2 h0 n0) room1.cells room1.slots (s₁.setTop (mkF m 16 #[.val (.int p1), .val (.int p2), .val (.int (p2 &&& (3 : Int32)))] [(.int p1)]))
      refine Till.pre (fun _ hr => XS.sipush X0.here hx rfl (hb hby d1_16) hr) ?_
      show Till p e below s (Q1 Z p1 p2 h0 n0) room1.cells room1.slots (s₁.setTop (mkF m 19 #[.val (.int p1), .val (.int p2), .val (.int (p2 &&& (3 : Int32)))] [(.int (255 : Int32)), (.int p1)]))
      refine Till.pre (fun _ hr => XS.iand X0.here hx rfl (hb hby d1_19) rfl hr) ?_
      show Till p e below s (Q1 Z p1 p2 h0 n0) room1.cells room1.slots (s₁.setTop (mkF m 20 #[.val (.int p1), .val (.int p2), .val (.int (p2 &&& (3 : Int32)))] [(.int (p1 &&& (255 : Int32)))]))
      refine Till.retI X0 hx hret hlk (hb hby d1_20) (by decide) (by decide) ?_
      exact ⟨(congrArg (fun z => some (Value.int z)) (Eq.symm ((if_neg hc1).trans (if_pos hc2)))), N0, e0⟩
  · have hc1 := (hEq.2.2.2 q)
    show Till p e below s (Q1 Z p1 p2 h0 n0) room1.cells room1.slots (s₁.setTop (mkF m 8 #[.val (.int p1), .val (.int p2), .val (.int (p2 &&& (3 : Int32)))] []))
    refine Till.pre (fun _ hr => XS.iloadN X0.here hx rfl (hb hby d1_8) rfl hr) ?_
    show Till p e below s (Q1 Z p1 p2 h0 n0) room1.cells room1.slots (s₁.setTop (mkF m 9 #[.val (.int p1), .val (.int p2), .val (.int (p2 &&& (3 : Int32)))] [(.int p1)]))
    refine Till.retI X0 hx hret hlk (hb hby d1_9) (by decide) (by decide) ?_
    exact ⟨(congrArg (fun z => some (Value.int z)) (Eq.symm (if_pos hc1))), N0, e0⟩
theorem d2_0 : decode prog_208_method_14_code 0 = .ok (.iload_n 0, 1) := by decide +kernel
theorem d2_1 : decode prog_208_method_14_code 1 = .ok (.bipush 48, 2) := by decide +kernel
theorem d2_3 : decode prog_208_method_14_code 3 = .ok (.if_icmp .lt 17, 3) := by decide +kernel
theorem d2_6 : decode prog_208_method_14_code 6 = .ok (.iload_n 0, 1) := by decide +kernel
theorem d2_7 : decode prog_208_method_14_code 7 = .ok (.bipush 57, 2) := by decide +kernel
theorem d2_9 : decode prog_208_method_14_code 9 = .ok (.if_icmp .gt 11, 3) := by decide +kernel
theorem d2_12 : decode prog_208_method_14_code 12 = .ok (.iload_n 0, 1) := by decide +kernel
theorem d2_13 : decode prog_208_method_14_code 13 = .ok (.bipush 48, 2) := by decide +kernel
theorem d2_15 : decode prog_208_method_14_code 15 = .ok (.isub, 1) := by decide +kernel
theorem d2_16 : decode prog_208_method_14_code 16 = .ok (.istore_n 2, 1) := by decide +kernel
theorem d2_17 : decode prog_208_method_14_code 17 = .ok (.goto 63, 3) := by decide +kernel
theorem d2_20 : decode prog_208_method_14_code 20 = .ok (.iload_n 1, 1) := by decide +kernel
theorem d2_21 : decode prog_208_method_14_code 21 = .ok (.bipush 16, 2) := by decide +kernel
theorem d2_23 : decode prog_208_method_14_code 23 = .ok (.if_icmp .ne 26, 3) := by decide +kernel
theorem d2_26 : decode prog_208_method_14_code 26 = .ok (.iload_n 0, 1) := by decide +kernel
theorem d2_27 : decode prog_208_method_14_code 27 = .ok (.bipush 97, 2) := by decide +kernel
theorem d2_29 : decode prog_208_method_14_code 29 = .ok (.if_icmp .lt 20, 3) := by decide +kernel
theorem d2_32 : decode prog_208_method_14_code 32 = .ok (.iload_n 0, 1) := by decide +kernel
theorem d2_33 : decode prog_208_method_14_code 33 = .ok (.bipush 102, 2) := by decide +kernel
theorem d2_35 : decode prog_208_method_14_code 35 = .ok (.if_icmp .gt 14, 3) := by decide +kernel
theorem d2_38 : decode prog_208_method_14_code 38 = .ok (.iload_n 0, 1) := by decide +kernel
theorem d2_39 : decode prog_208_method_14_code 39 = .ok (.bipush 97, 2) := by decide +kernel
theorem d2_41 : decode prog_208_method_14_code 41 = .ok (.isub, 1) := by decide +kernel
theorem d2_42 : decode prog_208_method_14_code 42 = .ok (.bipush 10, 2) := by decide +kernel
theorem d2_44 : decode prog_208_method_14_code 44 = .ok (.iadd, 1) := by decide +kernel
theorem d2_45 : decode prog_208_method_14_code 45 = .ok (.istore_n 2, 1) := by decide +kernel
theorem d2_46 : decode prog_208_method_14_code 46 = .ok (.goto 34, 3) := by decide +kernel
theorem d2_49 : decode prog_208_method_14_code 49 = .ok (.iload_n 1, 1) := by decide +kernel
theorem d2_50 : decode prog_208_method_14_code 50 = .ok (.bipush 16, 2) := by decide +kernel
theorem d2_52 : decode prog_208_method_14_code 52 = .ok (.if_icmp .ne 26, 3) := by decide +kernel
theorem d2_55 : decode prog_208_method_14_code 55 = .ok (.iload_n 0, 1) := by decide +kernel
theorem d2_56 : decode prog_208_method_14_code 56 = .ok (.bipush 65, 2) := by decide +kernel
theorem d2_58 : decode prog_208_method_14_code 58 = .ok (.if_icmp .lt 20, 3) := by decide +kernel
theorem d2_61 : decode prog_208_method_14_code 61 = .ok (.iload_n 0, 1) := by decide +kernel
theorem d2_62 : decode prog_208_method_14_code 62 = .ok (.bipush 70, 2) := by decide +kernel
theorem d2_64 : decode prog_208_method_14_code 64 = .ok (.if_icmp .gt 14, 3) := by decide +kernel
theorem d2_67 : decode prog_208_method_14_code 67 = .ok (.iload_n 0, 1) := by decide +kernel
theorem d2_68 : decode prog_208_method_14_code 68 = .ok (.bipush 65, 2) := by decide +kernel
theorem d2_70 : decode prog_208_method_14_code 70 = .ok (.isub, 1) := by decide +kernel
theorem d2_71 : decode prog_208_method_14_code 71 = .ok (.bipush 10, 2) := by decide +kernel
theorem d2_73 : decode prog_208_method_14_code 73 = .ok (.iadd, 1) := by decide +kernel
theorem d2_74 : decode prog_208_method_14_code 74 = .ok (.istore_n 2, 1) := by decide +kernel
theorem d2_75 : decode prog_208_method_14_code 75 = .ok (.goto 5, 3) := by decide +kernel
theorem d2_78 : decode prog_208_method_14_code 78 = .ok (.iconst (-1), 1) := by decide +kernel
theorem d2_79 : decode prog_208_method_14_code 79 = .ok (.istore_n 2, 1) := by decide +kernel
theorem d2_80 : decode prog_208_method_14_code 80 = .ok (.iload_n 2, 1) := by decide +kernel
theorem d2_81 : decode prog_208_method_14_code 81 = .ok (.ireturn, 1) := by decide +kernel
theorem pn_2 : plainName "com/example/wolfville/wolfville/xml/XmlCharacters" = true := by first | (simp [plainName, overriddenIn]; done) | decide +kernel
theorem ef_2 (m : MethodId) (p1 : Int32) (p2 : Int32) : entryFrame m #[(.int p1), (.int p2)] 3 = mkF m 0 #[.val (.int p1), .val (.int p2), .unset] [] := by first | (simp [entryFrame, mkF, argsToLocals, Value.category]; done) | rfl
def fn2 (p1 : Int32) (p2 : Int32) : Int32 := (if (p1 < (48 : Int32)) then (if (p2 = (16 : Int32)) then (if (p1 < (97 : Int32)) then (if (p2 = (16 : Int32)) then (if (p1 < (65 : Int32)) then (-1 : Int32) else (if ((70 : Int32) < p1) then (-1 : Int32) else ((p1 - (65 : Int32)) + (10 : Int32)))) else (-1 : Int32)) else (if ((102 : Int32) < p1) then (if (p2 = (16 : Int32)) then (if (p1 < (65 : Int32)) then (-1 : Int32) else (if ((70 : Int32) < p1) then (-1 : Int32) else ((p1 - (65 : Int32)) + (10 : Int32)))) else (-1 : Int32)) else ((p1 - (97 : Int32)) + (10 : Int32)))) else (if (p2 = (16 : Int32)) then (if (p1 < (65 : Int32)) then (-1 : Int32) else (if ((70 : Int32) < p1) then (-1 : Int32) else ((p1 - (65 : Int32)) + (10 : Int32)))) else (-1 : Int32))) else (if ((57 : Int32) < p1) then (if (p2 = (16 : Int32)) then (if (p1 < (97 : Int32)) then (if (p2 = (16 : Int32)) then (if (p1 < (65 : Int32)) then (-1 : Int32) else (if ((70 : Int32) < p1) then (-1 : Int32) else ((p1 - (65 : Int32)) + (10 : Int32)))) else (-1 : Int32)) else (if ((102 : Int32) < p1) then (if (p2 = (16 : Int32)) then (if (p1 < (65 : Int32)) then (-1 : Int32) else (if ((70 : Int32) < p1) then (-1 : Int32) else ((p1 - (65 : Int32)) + (10 : Int32)))) else (-1 : Int32)) else ((p1 - (97 : Int32)) + (10 : Int32)))) else (if (p2 = (16 : Int32)) then (if (p1 < (65 : Int32)) then (-1 : Int32) else (if ((70 : Int32) < p1) then (-1 : Int32) else ((p1 - (65 : Int32)) + (10 : Int32)))) else (-1 : Int32))) else (p1 - (48 : Int32))))
def Q2 (Z : State) (p1 : Int32) (p2 : Int32) (h0 : Heap) (n0 : Nat) : Option Value → Heap → List Loc → Prop := fun v h L => v = some (Value.int (fn2 p1 p2)) ∧ Fr n0 L ∧ h = h0
def room2 : Room := { frames := 0, cells := 0, slots := 0, locals := 0 }
set_option maxRecDepth 65536 in
set_option maxHeartbeats 40000000 in
theorem rm2 (l : Launch) (Z : State) (a0 : Array Value) (hw : ∀ d ∈ tables_1, d.before a0 Z = true) (p1 : Int32) (p2 : Int32) (h0 : Heap) (n0 : Nat)  : Ctr l Z (⟨"com/example/wolfville/wolfville/xml/XmlCharacters", "referenceDigit", "(II)I"⟩ : MethodName) prog_208_method_14_code 3 (some .int) room2 #[(.int p1), (.int p2)] h0 (Q2 Z p1 p2 h0 n0) := by
  refine Ctr.of (plainFor_of_name pn_2) ?_
  intro p e s m below meth c s₁ hx hby hml hown hnm hret hlk hZ e0 X0
  have hown : s.vm.findClass "com/example/wolfville/wolfville/xml/XmlCharacters" = some m.cls := hown
  have hml : c.maxLocals = 3 := hml
  have hnm : meth.name = "referenceDigit" := hnm
  have hret : meth.sig.returnType = (some .int) := hret
  have N0 := Fr.nil n0
  refine Till.cast (ef_2 m p1 p2) ?_
  show Till p e below s (Q2 Z p1 p2 h0 n0) room2.cells room2.slots (s₁.setTop (mkF m 0 #[.val (.int p1), .val (.int p2), .unset] []))
  refine Till.pre (fun _ hr => XS.iloadN X0.here hx rfl (hb hby d2_0) rfl hr) ?_
  show Till p e below s (Q2 Z p1 p2 h0 n0) room2.cells room2.slots (s₁.setTop (mkF m 1 #[.val (.int p1), .val (.int p2), .unset] [(.int p1)]))
  refine Till.pre (fun _ hr => XS.bipush X0.here hx rfl (hb hby d2_1) hr) ?_
  show Till p e below s (Q2 Z p1 p2 h0 n0) room2.cells room2.slots (s₁.setTop (mkF m 3 #[.val (.int p1), .val (.int p2), .unset] [(.int (48 : Int32)), (.int p1)]))
  have J80_26 : ∀ (v80l2 : Int32) (hv80l2 : v80l2 = (if (p1 < (48 : Int32)) then (if (p2 = (16 : Int32)) then (if (p1 < (97 : Int32)) then (if (p2 = (16 : Int32)) then (if (p1 < (65 : Int32)) then (-1 : Int32) else (if ((70 : Int32) < p1) then (-1 : Int32) else ((p1 - (65 : Int32)) + (10 : Int32)))) else (-1 : Int32)) else (if ((102 : Int32) < p1) then (if (p2 = (16 : Int32)) then (if (p1 < (65 : Int32)) then (-1 : Int32) else (if ((70 : Int32) < p1) then (-1 : Int32) else ((p1 - (65 : Int32)) + (10 : Int32)))) else (-1 : Int32)) else ((p1 - (97 : Int32)) + (10 : Int32)))) else (if (p2 = (16 : Int32)) then (if (p1 < (65 : Int32)) then (-1 : Int32) else (if ((70 : Int32) < p1) then (-1 : Int32) else ((p1 - (65 : Int32)) + (10 : Int32)))) else (-1 : Int32))) else (if ((57 : Int32) < p1) then (if (p2 = (16 : Int32)) then (if (p1 < (97 : Int32)) then (if (p2 = (16 : Int32)) then (if (p1 < (65 : Int32)) then (-1 : Int32) else (if ((70 : Int32) < p1) then (-1 : Int32) else ((p1 - (65 : Int32)) + (10 : Int32)))) else (-1 : Int32)) else (if ((102 : Int32) < p1) then (if (p2 = (16 : Int32)) then (if (p1 < (65 : Int32)) then (-1 : Int32) else (if ((70 : Int32) < p1) then (-1 : Int32) else ((p1 - (65 : Int32)) + (10 : Int32)))) else (-1 : Int32)) else ((p1 - (97 : Int32)) + (10 : Int32)))) else (if (p2 = (16 : Int32)) then (if (p1 < (65 : Int32)) then (-1 : Int32) else (if ((70 : Int32) < p1) then (-1 : Int32) else ((p1 - (65 : Int32)) + (10 : Int32)))) else (-1 : Int32))) else (p1 - (48 : Int32))))), Till p e below s (Q2 Z p1 p2 h0 n0) room2.cells room2.slots (s₁.setTop (mkF m 80 #[.val (.int p1), .val (.int p2), .val (.int v80l2)] [])) := by
    intro v80l2 hv80l2
    show Till p e below s (Q2 Z p1 p2 h0 n0) room2.cells room2.slots (s₁.setTop (mkF m 80 #[.val (.int p1), .val (.int p2), .val (.int v80l2)] []))
    refine Till.pre (fun _ hr => XS.iloadN X0.here hx rfl (hb hby d2_80) rfl hr) ?_
    show Till p e below s (Q2 Z p1 p2 h0 n0) room2.cells room2.slots (s₁.setTop (mkF m 81 #[.val (.int p1), .val (.int p2), .val (.int v80l2)] [(.int v80l2)]))
    refine Till.retI X0 hx hret hlk (hb hby d2_81) (by decide) (by decide) ?_
    subst hv80l2
    exact ⟨rfl, N0, e0⟩
  refine Till.icmp (pc' := 20) X0.here hx (hb hby d2_3) (by decide) (by decide) (fun q => ?_) (fun q => ?_)
  · have hc1 := (hLt.1 q)
    show Till p e below s (Q2 Z p1 p2 h0 n0) room2.cells room2.slots (s₁.setTop (mkF m 20 #[.val (.int p1), .val (.int p2), .unset] []))
    refine Till.pre (fun _ hr => XS.iloadN X0.here hx rfl (hb hby d2_20) rfl hr) ?_
    show Till p e below s (Q2 Z p1 p2 h0 n0) room2.cells room2.slots (s₁.setTop (mkF m 21 #[.val (.int p1), .val (.int p2), .unset] [(.int p2)]))
    refine Till.pre (fun _ hr => XS.bipush X0.here hx rfl (hb hby d2_21) hr) ?_
    show Till p e below s (Q2 Z p1 p2 h0 n0) room2.cells room2.slots (s₁.setTop (mkF m 23 #[.val (.int p1), .val (.int p2), .unset] [(.int (16 : Int32)), (.int p2)]))
    refine Till.icmp (pc' := 49) X0.here hx (hb hby d2_23) (by decide) (by decide) (fun q => ?_) (fun q => ?_)
    · have hc2 := (hEq.2.2.1 q)
      show Till p e below s (Q2 Z p1 p2 h0 n0) room2.cells room2.slots (s₁.setTop (mkF m 49 #[.val (.int p1), .val (.int p2), .unset] []))
      refine Till.pre (fun _ hr => XS.iloadN X0.here hx rfl (hb hby d2_49) rfl hr) ?_
      show Till p e below s (Q2 Z p1 p2 h0 n0) room2.cells room2.slots (s₁.setTop (mkF m 50 #[.val (.int p1), .val (.int p2), .unset] [(.int p2)]))
      refine Till.pre (fun _ hr => XS.bipush X0.here hx rfl (hb hby d2_50) hr) ?_
      show Till p e below s (Q2 Z p1 p2 h0 n0) room2.cells room2.slots (s₁.setTop (mkF m 52 #[.val (.int p1), .val (.int p2), .unset] [(.int (16 : Int32)), (.int p2)]))
      refine Till.icmp (pc' := 78) X0.here hx (hb hby d2_52) (by decide) (by decide) (fun q => ?_) (fun q => ?_)
      · have hc3 := (hEq.2.2.1 q)
        show Till p e below s (Q2 Z p1 p2 h0 n0) room2.cells room2.slots (s₁.setTop (mkF m 78 #[.val (.int p1), .val (.int p2), .unset] []))
        refine Till.pre (fun _ hr => XS.iconst X0.here hx rfl (hb hby d2_78) hr) ?_
        show Till p e below s (Q2 Z p1 p2 h0 n0) room2.cells room2.slots (s₁.setTop (mkF m 79 #[.val (.int p1), .val (.int p2), .unset] [(.int (-1 : Int32))]))
        refine Till.pre (fun _ hr => XS.istoreN X0.here hx rfl (hb hby d2_79) rfl (l' := #[.val (.int p1), .val (.int p2), .val (.int (-1 : Int32))]) rfl hr) ?_
        show Till p e below s (Q2 Z p1 p2 h0 n0) room2.cells room2.slots (s₁.setTop (mkF m 80 #[.val (.int p1), .val (.int p2), .val (.int (-1 : Int32))] []))
        exact J80_26 _ (Eq.symm ((if_pos hc1).trans ((if_neg hc2).trans (if_neg hc3))))
      · have hc3 := (hEq.2.2.2 q)
        show Till p e below s (Q2 Z p1 p2 h0 n0) room2.cells room2.slots (s₁.setTop (mkF m 55 #[.val (.int p1), .val (.int p2), .unset] []))
        refine Till.pre (fun _ hr => XS.iloadN X0.here hx rfl (hb hby d2_55) rfl hr) ?_
        show Till p e below s (Q2 Z p1 p2 h0 n0) room2.cells room2.slots (s₁.setTop (mkF m 56 #[.val (.int p1), .val (.int p2), .unset] [(.int p1)]))
        refine Till.pre (fun _ hr => XS.bipush X0.here hx rfl (hb hby d2_56) hr) ?_
        show Till p e below s (Q2 Z p1 p2 h0 n0) room2.cells room2.slots (s₁.setTop (mkF m 58 #[.val (.int p1), .val (.int p2), .unset] [(.int (65 : Int32)), (.int p1)]))
        refine Till.icmp (pc' := 78) X0.here hx (hb hby d2_58) (by decide) (by decide) (fun q => ?_) (fun q => ?_)
        · have hc4 := (hLt.1 q)
          show Till p e below s (Q2 Z p1 p2 h0 n0) room2.cells room2.slots (s₁.setTop (mkF m 78 #[.val (.int p1), .val (.int p2), .unset] []))
          refine Till.pre (fun _ hr => XS.iconst X0.here hx rfl (hb hby d2_78) hr) ?_
          show Till p e below s (Q2 Z p1 p2 h0 n0) room2.cells room2.slots (s₁.setTop (mkF m 79 #[.val (.int p1), .val (.int p2), .unset] [(.int (-1 : Int32))]))
          refine Till.pre (fun _ hr => XS.istoreN X0.here hx rfl (hb hby d2_79) rfl (l' := #[.val (.int p1), .val (.int p2), .val (.int (-1 : Int32))]) rfl hr) ?_
          show Till p e below s (Q2 Z p1 p2 h0 n0) room2.cells room2.slots (s₁.setTop (mkF m 80 #[.val (.int p1), .val (.int p2), .val (.int (-1 : Int32))] []))
          exact J80_26 _ (Eq.symm ((if_pos hc1).trans ((if_neg hc2).trans ((if_pos hc3).trans (if_pos hc4)))))
        · have hc4 := (hLt.2.1 q)
          show Till p e below s (Q2 Z p1 p2 h0 n0) room2.cells room2.slots (s₁.setTop (mkF m 61 #[.val (.int p1), .val (.int p2), .unset] []))
          refine Till.pre (fun _ hr => XS.iloadN X0.here hx rfl (hb hby d2_61) rfl hr) ?_
          show Till p e below s (Q2 Z p1 p2 h0 n0) room2.cells room2.slots (s₁.setTop (mkF m 62 #[.val (.int p1), .val (.int p2), .unset] [(.int p1)]))
          refine Till.pre (fun _ hr => XS.bipush X0.here hx rfl (hb hby d2_62) hr) ?_
          show Till p e below s (Q2 Z p1 p2 h0 n0) room2.cells room2.slots (s₁.setTop (mkF m 64 #[.val (.int p1), .val (.int p2), .unset] [(.int (70 : Int32)), (.int p1)]))
          refine Till.icmp (pc' := 78) X0.here hx (hb hby d2_64) (by decide) (by decide) (fun q => ?_) (fun q => ?_)
          · have hc5 := (hLt.2.2.2.2.1 q)
            show Till p e below s (Q2 Z p1 p2 h0 n0) room2.cells room2.slots (s₁.setTop (mkF m 78 #[.val (.int p1), .val (.int p2), .unset] []))
            refine Till.pre (fun _ hr => XS.iconst X0.here hx rfl (hb hby d2_78) hr) ?_
            show Till p e below s (Q2 Z p1 p2 h0 n0) room2.cells room2.slots (s₁.setTop (mkF m 79 #[.val (.int p1), .val (.int p2), .unset] [(.int (-1 : Int32))]))
            refine Till.pre (fun _ hr => XS.istoreN X0.here hx rfl (hb hby d2_79) rfl (l' := #[.val (.int p1), .val (.int p2), .val (.int (-1 : Int32))]) rfl hr) ?_
            show Till p e below s (Q2 Z p1 p2 h0 n0) room2.cells room2.slots (s₁.setTop (mkF m 80 #[.val (.int p1), .val (.int p2), .val (.int (-1 : Int32))] []))
            exact J80_26 _ (Eq.symm ((if_pos hc1).trans ((if_neg hc2).trans ((if_pos hc3).trans ((if_neg hc4).trans (if_pos hc5))))))
          · have hc5 := (hLt.2.2.2.2.2.1 q)
            show Till p e below s (Q2 Z p1 p2 h0 n0) room2.cells room2.slots (s₁.setTop (mkF m 67 #[.val (.int p1), .val (.int p2), .unset] []))
            refine Till.pre (fun _ hr => XS.iloadN X0.here hx rfl (hb hby d2_67) rfl hr) ?_
            show Till p e below s (Q2 Z p1 p2 h0 n0) room2.cells room2.slots (s₁.setTop (mkF m 68 #[.val (.int p1), .val (.int p2), .unset] [(.int p1)]))
            refine Till.pre (fun _ hr => XS.bipush X0.here hx rfl (hb hby d2_68) hr) ?_
            show Till p e below s (Q2 Z p1 p2 h0 n0) room2.cells room2.slots (s₁.setTop (mkF m 70 #[.val (.int p1), .val (.int p2), .unset] [(.int (65 : Int32)), (.int p1)]))
            refine Till.pre (fun _ hr => XS.isub X0.here hx rfl (hb hby d2_70) rfl hr) ?_
            show Till p e below s (Q2 Z p1 p2 h0 n0) room2.cells room2.slots (s₁.setTop (mkF m 71 #[.val (.int p1), .val (.int p2), .unset] [(.int (p1 - (65 : Int32)))]))
            refine Till.pre (fun _ hr => XS.bipush X0.here hx rfl (hb hby d2_71) hr) ?_
            show Till p e below s (Q2 Z p1 p2 h0 n0) room2.cells room2.slots (s₁.setTop (mkF m 73 #[.val (.int p1), .val (.int p2), .unset] [(.int (10 : Int32)), (.int (p1 - (65 : Int32)))]))
            refine Till.pre (fun _ hr => XS.iadd X0.here hx rfl (hb hby d2_73) rfl hr) ?_
            show Till p e below s (Q2 Z p1 p2 h0 n0) room2.cells room2.slots (s₁.setTop (mkF m 74 #[.val (.int p1), .val (.int p2), .unset] [(.int ((p1 - (65 : Int32)) + (10 : Int32)))]))
            refine Till.pre (fun _ hr => XS.istoreN X0.here hx rfl (hb hby d2_74) rfl (l' := #[.val (.int p1), .val (.int p2), .val (.int ((p1 - (65 : Int32)) + (10 : Int32)))]) rfl hr) ?_
            show Till p e below s (Q2 Z p1 p2 h0 n0) room2.cells room2.slots (s₁.setTop (mkF m 75 #[.val (.int p1), .val (.int p2), .val (.int ((p1 - (65 : Int32)) + (10 : Int32)))] []))
            refine Till.pre (fun _ hr => XS.goto X0.here hx rfl (pc0 := 75) (pc' := 80) rfl (hb hby d2_75) (by decide) (by decide) hr) ?_
            show Till p e below s (Q2 Z p1 p2 h0 n0) room2.cells room2.slots (s₁.setTop (mkF m 80 #[.val (.int p1), .val (.int p2), .val (.int ((p1 - (65 : Int32)) + (10 : Int32)))] []))
            exact J80_26 _ (Eq.symm ((if_pos hc1).trans ((if_neg hc2).trans ((if_pos hc3).trans ((if_neg hc4).trans (if_neg hc5))))))
    · have hc2 := (hEq.2.2.2 q)
      show Till p e below s (Q2 Z p1 p2 h0 n0) room2.cells room2.slots (s₁.setTop (mkF m 26 #[.val (.int p1), .val (.int p2), .unset] []))
      refine Till.pre (fun _ hr => XS.iloadN X0.here hx rfl (hb hby d2_26) rfl hr) ?_
      show Till p e below s (Q2 Z p1 p2 h0 n0) room2.cells room2.slots (s₁.setTop (mkF m 27 #[.val (.int p1), .val (.int p2), .unset] [(.int p1)]))
      refine Till.pre (fun _ hr => XS.bipush X0.here hx rfl (hb hby d2_27) hr) ?_
      show Till p e below s (Q2 Z p1 p2 h0 n0) room2.cells room2.slots (s₁.setTop (mkF m 29 #[.val (.int p1), .val (.int p2), .unset] [(.int (97 : Int32)), (.int p1)]))
      refine Till.icmp (pc' := 49) X0.here hx (hb hby d2_29) (by decide) (by decide) (fun q => ?_) (fun q => ?_)
      · have hc6 := (hLt.1 q)
        show Till p e below s (Q2 Z p1 p2 h0 n0) room2.cells room2.slots (s₁.setTop (mkF m 49 #[.val (.int p1), .val (.int p2), .unset] []))
        refine Till.pre (fun _ hr => XS.iloadN X0.here hx rfl (hb hby d2_49) rfl hr) ?_
        show Till p e below s (Q2 Z p1 p2 h0 n0) room2.cells room2.slots (s₁.setTop (mkF m 50 #[.val (.int p1), .val (.int p2), .unset] [(.int p2)]))
        refine Till.pre (fun _ hr => XS.bipush X0.here hx rfl (hb hby d2_50) hr) ?_
        show Till p e below s (Q2 Z p1 p2 h0 n0) room2.cells room2.slots (s₁.setTop (mkF m 52 #[.val (.int p1), .val (.int p2), .unset] [(.int (16 : Int32)), (.int p2)]))
        refine Till.icmp (pc' := 78) X0.here hx (hb hby d2_52) (by decide) (by decide) (fun q => ?_) (fun q => ?_)
        · have hc7 := (hEq.2.2.1 q)
          show Till p e below s (Q2 Z p1 p2 h0 n0) room2.cells room2.slots (s₁.setTop (mkF m 78 #[.val (.int p1), .val (.int p2), .unset] []))
          refine Till.pre (fun _ hr => XS.iconst X0.here hx rfl (hb hby d2_78) hr) ?_
          show Till p e below s (Q2 Z p1 p2 h0 n0) room2.cells room2.slots (s₁.setTop (mkF m 79 #[.val (.int p1), .val (.int p2), .unset] [(.int (-1 : Int32))]))
          refine Till.pre (fun _ hr => XS.istoreN X0.here hx rfl (hb hby d2_79) rfl (l' := #[.val (.int p1), .val (.int p2), .val (.int (-1 : Int32))]) rfl hr) ?_
          show Till p e below s (Q2 Z p1 p2 h0 n0) room2.cells room2.slots (s₁.setTop (mkF m 80 #[.val (.int p1), .val (.int p2), .val (.int (-1 : Int32))] []))
          exact J80_26 _ (Eq.symm ((if_pos hc1).trans ((if_pos hc2).trans ((if_pos hc6).trans (if_neg hc7)))))
        · have hc7 := (hEq.2.2.2 q)
          show Till p e below s (Q2 Z p1 p2 h0 n0) room2.cells room2.slots (s₁.setTop (mkF m 55 #[.val (.int p1), .val (.int p2), .unset] []))
          refine Till.pre (fun _ hr => XS.iloadN X0.here hx rfl (hb hby d2_55) rfl hr) ?_
          show Till p e below s (Q2 Z p1 p2 h0 n0) room2.cells room2.slots (s₁.setTop (mkF m 56 #[.val (.int p1), .val (.int p2), .unset] [(.int p1)]))
          refine Till.pre (fun _ hr => XS.bipush X0.here hx rfl (hb hby d2_56) hr) ?_
          show Till p e below s (Q2 Z p1 p2 h0 n0) room2.cells room2.slots (s₁.setTop (mkF m 58 #[.val (.int p1), .val (.int p2), .unset] [(.int (65 : Int32)), (.int p1)]))
          refine Till.icmp (pc' := 78) X0.here hx (hb hby d2_58) (by decide) (by decide) (fun q => ?_) (fun q => ?_)
          · have hc8 := (hLt.1 q)
            show Till p e below s (Q2 Z p1 p2 h0 n0) room2.cells room2.slots (s₁.setTop (mkF m 78 #[.val (.int p1), .val (.int p2), .unset] []))
            refine Till.pre (fun _ hr => XS.iconst X0.here hx rfl (hb hby d2_78) hr) ?_
            show Till p e below s (Q2 Z p1 p2 h0 n0) room2.cells room2.slots (s₁.setTop (mkF m 79 #[.val (.int p1), .val (.int p2), .unset] [(.int (-1 : Int32))]))
            refine Till.pre (fun _ hr => XS.istoreN X0.here hx rfl (hb hby d2_79) rfl (l' := #[.val (.int p1), .val (.int p2), .val (.int (-1 : Int32))]) rfl hr) ?_
            show Till p e below s (Q2 Z p1 p2 h0 n0) room2.cells room2.slots (s₁.setTop (mkF m 80 #[.val (.int p1), .val (.int p2), .val (.int (-1 : Int32))] []))
            exact J80_26 _ (Eq.symm ((if_pos hc1).trans ((if_pos hc2).trans ((if_pos hc6).trans ((if_pos hc7).trans (if_pos hc8))))))
          · have hc8 := (hLt.2.1 q)
            show Till p e below s (Q2 Z p1 p2 h0 n0) room2.cells room2.slots (s₁.setTop (mkF m 61 #[.val (.int p1), .val (.int p2), .unset] []))
            refine Till.pre (fun _ hr => XS.iloadN X0.here hx rfl (hb hby d2_61) rfl hr) ?_
            show Till p e below s (Q2 Z p1 p2 h0 n0) room2.cells room2.slots (s₁.setTop (mkF m 62 #[.val (.int p1), .val (.int p2), .unset] [(.int p1)]))
            refine Till.pre (fun _ hr => XS.bipush X0.here hx rfl (hb hby d2_62) hr) ?_
            show Till p e below s (Q2 Z p1 p2 h0 n0) room2.cells room2.slots (s₁.setTop (mkF m 64 #[.val (.int p1), .val (.int p2), .unset] [(.int (70 : Int32)), (.int p1)]))
            refine Till.icmp (pc' := 78) X0.here hx (hb hby d2_64) (by decide) (by decide) (fun q => ?_) (fun q => ?_)
            · have hc9 := (hLt.2.2.2.2.1 q)
              show Till p e below s (Q2 Z p1 p2 h0 n0) room2.cells room2.slots (s₁.setTop (mkF m 78 #[.val (.int p1), .val (.int p2), .unset] []))
              refine Till.pre (fun _ hr => XS.iconst X0.here hx rfl (hb hby d2_78) hr) ?_
              show Till p e below s (Q2 Z p1 p2 h0 n0) room2.cells room2.slots (s₁.setTop (mkF m 79 #[.val (.int p1), .val (.int p2), .unset] [(.int (-1 : Int32))]))
              refine Till.pre (fun _ hr => XS.istoreN X0.here hx rfl (hb hby d2_79) rfl (l' := #[.val (.int p1), .val (.int p2), .val (.int (-1 : Int32))]) rfl hr) ?_
              show Till p e below s (Q2 Z p1 p2 h0 n0) room2.cells room2.slots (s₁.setTop (mkF m 80 #[.val (.int p1), .val (.int p2), .val (.int (-1 : Int32))] []))
              exact J80_26 _ (Eq.symm ((if_pos hc1).trans ((if_pos hc2).trans ((if_pos hc6).trans ((if_pos hc7).trans ((if_neg hc8).trans (if_pos hc9)))))))
            · have hc9 := (hLt.2.2.2.2.2.1 q)
              show Till p e below s (Q2 Z p1 p2 h0 n0) room2.cells room2.slots (s₁.setTop (mkF m 67 #[.val (.int p1), .val (.int p2), .unset] []))
              refine Till.pre (fun _ hr => XS.iloadN X0.here hx rfl (hb hby d2_67) rfl hr) ?_
              show Till p e below s (Q2 Z p1 p2 h0 n0) room2.cells room2.slots (s₁.setTop (mkF m 68 #[.val (.int p1), .val (.int p2), .unset] [(.int p1)]))
              refine Till.pre (fun _ hr => XS.bipush X0.here hx rfl (hb hby d2_68) hr) ?_
              show Till p e below s (Q2 Z p1 p2 h0 n0) room2.cells room2.slots (s₁.setTop (mkF m 70 #[.val (.int p1), .val (.int p2), .unset] [(.int (65 : Int32)), (.int p1)]))
              refine Till.pre (fun _ hr => XS.isub X0.here hx rfl (hb hby d2_70) rfl hr) ?_
              show Till p e below s (Q2 Z p1 p2 h0 n0) room2.cells room2.slots (s₁.setTop (mkF m 71 #[.val (.int p1), .val (.int p2), .unset] [(.int (p1 - (65 : Int32)))]))
              refine Till.pre (fun _ hr => XS.bipush X0.here hx rfl (hb hby d2_71) hr) ?_
              show Till p e below s (Q2 Z p1 p2 h0 n0) room2.cells room2.slots (s₁.setTop (mkF m 73 #[.val (.int p1), .val (.int p2), .unset] [(.int (10 : Int32)), (.int (p1 - (65 : Int32)))]))
              refine Till.pre (fun _ hr => XS.iadd X0.here hx rfl (hb hby d2_73) rfl hr) ?_
              show Till p e below s (Q2 Z p1 p2 h0 n0) room2.cells room2.slots (s₁.setTop (mkF m 74 #[.val (.int p1), .val (.int p2), .unset] [(.int ((p1 - (65 : Int32)) + (10 : Int32)))]))
              refine Till.pre (fun _ hr => XS.istoreN X0.here hx rfl (hb hby d2_74) rfl (l' := #[.val (.int p1), .val (.int p2), .val (.int ((p1 - (65 : Int32)) + (10 : Int32)))]) rfl hr) ?_
              show Till p e below s (Q2 Z p1 p2 h0 n0) room2.cells room2.slots (s₁.setTop (mkF m 75 #[.val (.int p1), .val (.int p2), .val (.int ((p1 - (65 : Int32)) + (10 : Int32)))] []))
              refine Till.pre (fun _ hr => XS.goto X0.here hx rfl (pc0 := 75) (pc' := 80) rfl (hb hby d2_75) (by decide) (by decide) hr) ?_
              show Till p e below s (Q2 Z p1 p2 h0 n0) room2.cells room2.slots (s₁.setTop (mkF m 80 #[.val (.int p1), .val (.int p2), .val (.int ((p1 - (65 : Int32)) + (10 : Int32)))] []))
              exact J80_26 _ (Eq.symm ((if_pos hc1).trans ((if_pos hc2).trans ((if_pos hc6).trans ((if_pos hc7).trans ((if_neg hc8).trans (if_neg hc9)))))))
      · have hc6 := (hLt.2.1 q)
        show Till p e below s (Q2 Z p1 p2 h0 n0) room2.cells room2.slots (s₁.setTop (mkF m 32 #[.val (.int p1), .val (.int p2), .unset] []))
        refine Till.pre (fun _ hr => XS.iloadN X0.here hx rfl (hb hby d2_32) rfl hr) ?_
        show Till p e below s (Q2 Z p1 p2 h0 n0) room2.cells room2.slots (s₁.setTop (mkF m 33 #[.val (.int p1), .val (.int p2), .unset] [(.int p1)]))
        refine Till.pre (fun _ hr => XS.bipush X0.here hx rfl (hb hby d2_33) hr) ?_
        show Till p e below s (Q2 Z p1 p2 h0 n0) room2.cells room2.slots (s₁.setTop (mkF m 35 #[.val (.int p1), .val (.int p2), .unset] [(.int (102 : Int32)), (.int p1)]))
        refine Till.icmp (pc' := 49) X0.here hx (hb hby d2_35) (by decide) (by decide) (fun q => ?_) (fun q => ?_)
        · have hc10 := (hLt.2.2.2.2.1 q)
          show Till p e below s (Q2 Z p1 p2 h0 n0) room2.cells room2.slots (s₁.setTop (mkF m 49 #[.val (.int p1), .val (.int p2), .unset] []))
          refine Till.pre (fun _ hr => XS.iloadN X0.here hx rfl (hb hby d2_49) rfl hr) ?_
          show Till p e below s (Q2 Z p1 p2 h0 n0) room2.cells room2.slots (s₁.setTop (mkF m 50 #[.val (.int p1), .val (.int p2), .unset] [(.int p2)]))
          refine Till.pre (fun _ hr => XS.bipush X0.here hx rfl (hb hby d2_50) hr) ?_
          show Till p e below s (Q2 Z p1 p2 h0 n0) room2.cells room2.slots (s₁.setTop (mkF m 52 #[.val (.int p1), .val (.int p2), .unset] [(.int (16 : Int32)), (.int p2)]))
          refine Till.icmp (pc' := 78) X0.here hx (hb hby d2_52) (by decide) (by decide) (fun q => ?_) (fun q => ?_)
          · have hc11 := (hEq.2.2.1 q)
            show Till p e below s (Q2 Z p1 p2 h0 n0) room2.cells room2.slots (s₁.setTop (mkF m 78 #[.val (.int p1), .val (.int p2), .unset] []))
            refine Till.pre (fun _ hr => XS.iconst X0.here hx rfl (hb hby d2_78) hr) ?_
            show Till p e below s (Q2 Z p1 p2 h0 n0) room2.cells room2.slots (s₁.setTop (mkF m 79 #[.val (.int p1), .val (.int p2), .unset] [(.int (-1 : Int32))]))
            refine Till.pre (fun _ hr => XS.istoreN X0.here hx rfl (hb hby d2_79) rfl (l' := #[.val (.int p1), .val (.int p2), .val (.int (-1 : Int32))]) rfl hr) ?_
            show Till p e below s (Q2 Z p1 p2 h0 n0) room2.cells room2.slots (s₁.setTop (mkF m 80 #[.val (.int p1), .val (.int p2), .val (.int (-1 : Int32))] []))
            exact J80_26 _ (Eq.symm ((if_pos hc1).trans ((if_pos hc2).trans ((if_neg hc6).trans ((if_pos hc10).trans (if_neg hc11))))))
          · have hc11 := (hEq.2.2.2 q)
            show Till p e below s (Q2 Z p1 p2 h0 n0) room2.cells room2.slots (s₁.setTop (mkF m 55 #[.val (.int p1), .val (.int p2), .unset] []))
            refine Till.pre (fun _ hr => XS.iloadN X0.here hx rfl (hb hby d2_55) rfl hr) ?_
            show Till p e below s (Q2 Z p1 p2 h0 n0) room2.cells room2.slots (s₁.setTop (mkF m 56 #[.val (.int p1), .val (.int p2), .unset] [(.int p1)]))
            refine Till.pre (fun _ hr => XS.bipush X0.here hx rfl (hb hby d2_56) hr) ?_
            show Till p e below s (Q2 Z p1 p2 h0 n0) room2.cells room2.slots (s₁.setTop (mkF m 58 #[.val (.int p1), .val (.int p2), .unset] [(.int (65 : Int32)), (.int p1)]))
            refine Till.icmp (pc' := 78) X0.here hx (hb hby d2_58) (by decide) (by decide) (fun q => ?_) (fun q => ?_)
            · have hc12 := (hLt.1 q)
              show Till p e below s (Q2 Z p1 p2 h0 n0) room2.cells room2.slots (s₁.setTop (mkF m 78 #[.val (.int p1), .val (.int p2), .unset] []))
              refine Till.pre (fun _ hr => XS.iconst X0.here hx rfl (hb hby d2_78) hr) ?_
              show Till p e below s (Q2 Z p1 p2 h0 n0) room2.cells room2.slots (s₁.setTop (mkF m 79 #[.val (.int p1), .val (.int p2), .unset] [(.int (-1 : Int32))]))
              refine Till.pre (fun _ hr => XS.istoreN X0.here hx rfl (hb hby d2_79) rfl (l' := #[.val (.int p1), .val (.int p2), .val (.int (-1 : Int32))]) rfl hr) ?_
              show Till p e below s (Q2 Z p1 p2 h0 n0) room2.cells room2.slots (s₁.setTop (mkF m 80 #[.val (.int p1), .val (.int p2), .val (.int (-1 : Int32))] []))
              exact J80_26 _ (Eq.symm ((if_pos hc1).trans ((if_pos hc2).trans ((if_neg hc6).trans ((if_pos hc10).trans ((if_pos hc11).trans (if_pos hc12)))))))
            · have hc12 := (hLt.2.1 q)
              show Till p e below s (Q2 Z p1 p2 h0 n0) room2.cells room2.slots (s₁.setTop (mkF m 61 #[.val (.int p1), .val (.int p2), .unset] []))
              refine Till.pre (fun _ hr => XS.iloadN X0.here hx rfl (hb hby d2_61) rfl hr) ?_
              show Till p e below s (Q2 Z p1 p2 h0 n0) room2.cells room2.slots (s₁.setTop (mkF m 62 #[.val (.int p1), .val (.int p2), .unset] [(.int p1)]))
              refine Till.pre (fun _ hr => XS.bipush X0.here hx rfl (hb hby d2_62) hr) ?_
              show Till p e below s (Q2 Z p1 p2 h0 n0) room2.cells room2.slots (s₁.setTop (mkF m 64 #[.val (.int p1), .val (.int p2), .unset] [(.int (70 : Int32)), (.int p1)]))
              refine Till.icmp (pc' := 78) X0.here hx (hb hby d2_64) (by decide) (by decide) (fun q => ?_) (fun q => ?_)
              · have hc13 := (hLt.2.2.2.2.1 q)
                show Till p e below s (Q2 Z p1 p2 h0 n0) room2.cells room2.slots (s₁.setTop (mkF m 78 #[.val (.int p1), .val (.int p2), .unset] []))
                refine Till.pre (fun _ hr => XS.iconst X0.here hx rfl (hb hby d2_78) hr) ?_
                show Till p e below s (Q2 Z p1 p2 h0 n0) room2.cells room2.slots (s₁.setTop (mkF m 79 #[.val (.int p1), .val (.int p2), .unset] [(.int (-1 : Int32))]))
                refine Till.pre (fun _ hr => XS.istoreN X0.here hx rfl (hb hby d2_79) rfl (l' := #[.val (.int p1), .val (.int p2), .val (.int (-1 : Int32))]) rfl hr) ?_
                show Till p e below s (Q2 Z p1 p2 h0 n0) room2.cells room2.slots (s₁.setTop (mkF m 80 #[.val (.int p1), .val (.int p2), .val (.int (-1 : Int32))] []))
                exact J80_26 _ (Eq.symm ((if_pos hc1).trans ((if_pos hc2).trans ((if_neg hc6).trans ((if_pos hc10).trans ((if_pos hc11).trans ((if_neg hc12).trans (if_pos hc13))))))))
              · have hc13 := (hLt.2.2.2.2.2.1 q)
                show Till p e below s (Q2 Z p1 p2 h0 n0) room2.cells room2.slots (s₁.setTop (mkF m 67 #[.val (.int p1), .val (.int p2), .unset] []))
                refine Till.pre (fun _ hr => XS.iloadN X0.here hx rfl (hb hby d2_67) rfl hr) ?_
                show Till p e below s (Q2 Z p1 p2 h0 n0) room2.cells room2.slots (s₁.setTop (mkF m 68 #[.val (.int p1), .val (.int p2), .unset] [(.int p1)]))
                refine Till.pre (fun _ hr => XS.bipush X0.here hx rfl (hb hby d2_68) hr) ?_
                show Till p e below s (Q2 Z p1 p2 h0 n0) room2.cells room2.slots (s₁.setTop (mkF m 70 #[.val (.int p1), .val (.int p2), .unset] [(.int (65 : Int32)), (.int p1)]))
                refine Till.pre (fun _ hr => XS.isub X0.here hx rfl (hb hby d2_70) rfl hr) ?_
                show Till p e below s (Q2 Z p1 p2 h0 n0) room2.cells room2.slots (s₁.setTop (mkF m 71 #[.val (.int p1), .val (.int p2), .unset] [(.int (p1 - (65 : Int32)))]))
                refine Till.pre (fun _ hr => XS.bipush X0.here hx rfl (hb hby d2_71) hr) ?_
                show Till p e below s (Q2 Z p1 p2 h0 n0) room2.cells room2.slots (s₁.setTop (mkF m 73 #[.val (.int p1), .val (.int p2), .unset] [(.int (10 : Int32)), (.int (p1 - (65 : Int32)))]))
                refine Till.pre (fun _ hr => XS.iadd X0.here hx rfl (hb hby d2_73) rfl hr) ?_
                show Till p e below s (Q2 Z p1 p2 h0 n0) room2.cells room2.slots (s₁.setTop (mkF m 74 #[.val (.int p1), .val (.int p2), .unset] [(.int ((p1 - (65 : Int32)) + (10 : Int32)))]))
                refine Till.pre (fun _ hr => XS.istoreN X0.here hx rfl (hb hby d2_74) rfl (l' := #[.val (.int p1), .val (.int p2), .val (.int ((p1 - (65 : Int32)) + (10 : Int32)))]) rfl hr) ?_
                show Till p e below s (Q2 Z p1 p2 h0 n0) room2.cells room2.slots (s₁.setTop (mkF m 75 #[.val (.int p1), .val (.int p2), .val (.int ((p1 - (65 : Int32)) + (10 : Int32)))] []))
                refine Till.pre (fun _ hr => XS.goto X0.here hx rfl (pc0 := 75) (pc' := 80) rfl (hb hby d2_75) (by decide) (by decide) hr) ?_
                show Till p e below s (Q2 Z p1 p2 h0 n0) room2.cells room2.slots (s₁.setTop (mkF m 80 #[.val (.int p1), .val (.int p2), .val (.int ((p1 - (65 : Int32)) + (10 : Int32)))] []))
                exact J80_26 _ (Eq.symm ((if_pos hc1).trans ((if_pos hc2).trans ((if_neg hc6).trans ((if_pos hc10).trans ((if_pos hc11).trans ((if_neg hc12).trans (if_neg hc13))))))))
        · have hc10 := (hLt.2.2.2.2.2.1 q)
          show Till p e below s (Q2 Z p1 p2 h0 n0) room2.cells room2.slots (s₁.setTop (mkF m 38 #[.val (.int p1), .val (.int p2), .unset] []))
          refine Till.pre (fun _ hr => XS.iloadN X0.here hx rfl (hb hby d2_38) rfl hr) ?_
          show Till p e below s (Q2 Z p1 p2 h0 n0) room2.cells room2.slots (s₁.setTop (mkF m 39 #[.val (.int p1), .val (.int p2), .unset] [(.int p1)]))
          refine Till.pre (fun _ hr => XS.bipush X0.here hx rfl (hb hby d2_39) hr) ?_
          show Till p e below s (Q2 Z p1 p2 h0 n0) room2.cells room2.slots (s₁.setTop (mkF m 41 #[.val (.int p1), .val (.int p2), .unset] [(.int (97 : Int32)), (.int p1)]))
          refine Till.pre (fun _ hr => XS.isub X0.here hx rfl (hb hby d2_41) rfl hr) ?_
          show Till p e below s (Q2 Z p1 p2 h0 n0) room2.cells room2.slots (s₁.setTop (mkF m 42 #[.val (.int p1), .val (.int p2), .unset] [(.int (p1 - (97 : Int32)))]))
          refine Till.pre (fun _ hr => XS.bipush X0.here hx rfl (hb hby d2_42) hr) ?_
          show Till p e below s (Q2 Z p1 p2 h0 n0) room2.cells room2.slots (s₁.setTop (mkF m 44 #[.val (.int p1), .val (.int p2), .unset] [(.int (10 : Int32)), (.int (p1 - (97 : Int32)))]))
          refine Till.pre (fun _ hr => XS.iadd X0.here hx rfl (hb hby d2_44) rfl hr) ?_
          show Till p e below s (Q2 Z p1 p2 h0 n0) room2.cells room2.slots (s₁.setTop (mkF m 45 #[.val (.int p1), .val (.int p2), .unset] [(.int ((p1 - (97 : Int32)) + (10 : Int32)))]))
          refine Till.pre (fun _ hr => XS.istoreN X0.here hx rfl (hb hby d2_45) rfl (l' := #[.val (.int p1), .val (.int p2), .val (.int ((p1 - (97 : Int32)) + (10 : Int32)))]) rfl hr) ?_
          show Till p e below s (Q2 Z p1 p2 h0 n0) room2.cells room2.slots (s₁.setTop (mkF m 46 #[.val (.int p1), .val (.int p2), .val (.int ((p1 - (97 : Int32)) + (10 : Int32)))] []))
          refine Till.pre (fun _ hr => XS.goto X0.here hx rfl (pc0 := 46) (pc' := 80) rfl (hb hby d2_46) (by decide) (by decide) hr) ?_
          show Till p e below s (Q2 Z p1 p2 h0 n0) room2.cells room2.slots (s₁.setTop (mkF m 80 #[.val (.int p1), .val (.int p2), .val (.int ((p1 - (97 : Int32)) + (10 : Int32)))] []))
          exact J80_26 _ (Eq.symm ((if_pos hc1).trans ((if_pos hc2).trans ((if_neg hc6).trans (if_neg hc10)))))
  · have hc1 := (hLt.2.1 q)
    show Till p e below s (Q2 Z p1 p2 h0 n0) room2.cells room2.slots (s₁.setTop (mkF m 6 #[.val (.int p1), .val (.int p2), .unset] []))
    refine Till.pre (fun _ hr => XS.iloadN X0.here hx rfl (hb hby d2_6) rfl hr) ?_
    show Till p e below s (Q2 Z p1 p2 h0 n0) room2.cells room2.slots (s₁.setTop (mkF m 7 #[.val (.int p1), .val (.int p2), .unset] [(.int p1)]))
    refine Till.pre (fun _ hr => XS.bipush X0.here hx rfl (hb hby d2_7) hr) ?_
    show Till p e below s (Q2 Z p1 p2 h0 n0) room2.cells room2.slots (s₁.setTop (mkF m 9 #[.val (.int p1), .val (.int p2), .unset] [(.int (57 : Int32)), (.int p1)]))
    refine Till.icmp (pc' := 20) X0.here hx (hb hby d2_9) (by decide) (by decide) (fun q => ?_) (fun q => ?_)
    · have hc14 := (hLt.2.2.2.2.1 q)
      show Till p e below s (Q2 Z p1 p2 h0 n0) room2.cells room2.slots (s₁.setTop (mkF m 20 #[.val (.int p1), .val (.int p2), .unset] []))
      refine Till.pre (fun _ hr => XS.iloadN X0.here hx rfl (hb hby d2_20) rfl hr) ?_
      show Till p e below s (Q2 Z p1 p2 h0 n0) room2.cells room2.slots (s₁.setTop (mkF m 21 #[.val (.int p1), .val (.int p2), .unset] [(.int p2)]))
      refine Till.pre (fun _ hr => XS.bipush X0.here hx rfl (hb hby d2_21) hr) ?_
      show Till p e below s (Q2 Z p1 p2 h0 n0) room2.cells room2.slots (s₁.setTop (mkF m 23 #[.val (.int p1), .val (.int p2), .unset] [(.int (16 : Int32)), (.int p2)]))
      refine Till.icmp (pc' := 49) X0.here hx (hb hby d2_23) (by decide) (by decide) (fun q => ?_) (fun q => ?_)
      · have hc15 := (hEq.2.2.1 q)
        show Till p e below s (Q2 Z p1 p2 h0 n0) room2.cells room2.slots (s₁.setTop (mkF m 49 #[.val (.int p1), .val (.int p2), .unset] []))
        refine Till.pre (fun _ hr => XS.iloadN X0.here hx rfl (hb hby d2_49) rfl hr) ?_
        show Till p e below s (Q2 Z p1 p2 h0 n0) room2.cells room2.slots (s₁.setTop (mkF m 50 #[.val (.int p1), .val (.int p2), .unset] [(.int p2)]))
        refine Till.pre (fun _ hr => XS.bipush X0.here hx rfl (hb hby d2_50) hr) ?_
        show Till p e below s (Q2 Z p1 p2 h0 n0) room2.cells room2.slots (s₁.setTop (mkF m 52 #[.val (.int p1), .val (.int p2), .unset] [(.int (16 : Int32)), (.int p2)]))
        refine Till.icmp (pc' := 78) X0.here hx (hb hby d2_52) (by decide) (by decide) (fun q => ?_) (fun q => ?_)
        · have hc16 := (hEq.2.2.1 q)
          show Till p e below s (Q2 Z p1 p2 h0 n0) room2.cells room2.slots (s₁.setTop (mkF m 78 #[.val (.int p1), .val (.int p2), .unset] []))
          refine Till.pre (fun _ hr => XS.iconst X0.here hx rfl (hb hby d2_78) hr) ?_
          show Till p e below s (Q2 Z p1 p2 h0 n0) room2.cells room2.slots (s₁.setTop (mkF m 79 #[.val (.int p1), .val (.int p2), .unset] [(.int (-1 : Int32))]))
          refine Till.pre (fun _ hr => XS.istoreN X0.here hx rfl (hb hby d2_79) rfl (l' := #[.val (.int p1), .val (.int p2), .val (.int (-1 : Int32))]) rfl hr) ?_
          show Till p e below s (Q2 Z p1 p2 h0 n0) room2.cells room2.slots (s₁.setTop (mkF m 80 #[.val (.int p1), .val (.int p2), .val (.int (-1 : Int32))] []))
          exact J80_26 _ (Eq.symm ((if_neg hc1).trans ((if_pos hc14).trans ((if_neg hc15).trans (if_neg hc16)))))
        · have hc16 := (hEq.2.2.2 q)
          show Till p e below s (Q2 Z p1 p2 h0 n0) room2.cells room2.slots (s₁.setTop (mkF m 55 #[.val (.int p1), .val (.int p2), .unset] []))
          refine Till.pre (fun _ hr => XS.iloadN X0.here hx rfl (hb hby d2_55) rfl hr) ?_
          show Till p e below s (Q2 Z p1 p2 h0 n0) room2.cells room2.slots (s₁.setTop (mkF m 56 #[.val (.int p1), .val (.int p2), .unset] [(.int p1)]))
          refine Till.pre (fun _ hr => XS.bipush X0.here hx rfl (hb hby d2_56) hr) ?_
          show Till p e below s (Q2 Z p1 p2 h0 n0) room2.cells room2.slots (s₁.setTop (mkF m 58 #[.val (.int p1), .val (.int p2), .unset] [(.int (65 : Int32)), (.int p1)]))
          refine Till.icmp (pc' := 78) X0.here hx (hb hby d2_58) (by decide) (by decide) (fun q => ?_) (fun q => ?_)
          · have hc17 := (hLt.1 q)
            show Till p e below s (Q2 Z p1 p2 h0 n0) room2.cells room2.slots (s₁.setTop (mkF m 78 #[.val (.int p1), .val (.int p2), .unset] []))
            refine Till.pre (fun _ hr => XS.iconst X0.here hx rfl (hb hby d2_78) hr) ?_
            show Till p e below s (Q2 Z p1 p2 h0 n0) room2.cells room2.slots (s₁.setTop (mkF m 79 #[.val (.int p1), .val (.int p2), .unset] [(.int (-1 : Int32))]))
            refine Till.pre (fun _ hr => XS.istoreN X0.here hx rfl (hb hby d2_79) rfl (l' := #[.val (.int p1), .val (.int p2), .val (.int (-1 : Int32))]) rfl hr) ?_
            show Till p e below s (Q2 Z p1 p2 h0 n0) room2.cells room2.slots (s₁.setTop (mkF m 80 #[.val (.int p1), .val (.int p2), .val (.int (-1 : Int32))] []))
            exact J80_26 _ (Eq.symm ((if_neg hc1).trans ((if_pos hc14).trans ((if_neg hc15).trans ((if_pos hc16).trans (if_pos hc17))))))
          · have hc17 := (hLt.2.1 q)
            show Till p e below s (Q2 Z p1 p2 h0 n0) room2.cells room2.slots (s₁.setTop (mkF m 61 #[.val (.int p1), .val (.int p2), .unset] []))
            refine Till.pre (fun _ hr => XS.iloadN X0.here hx rfl (hb hby d2_61) rfl hr) ?_
            show Till p e below s (Q2 Z p1 p2 h0 n0) room2.cells room2.slots (s₁.setTop (mkF m 62 #[.val (.int p1), .val (.int p2), .unset] [(.int p1)]))
            refine Till.pre (fun _ hr => XS.bipush X0.here hx rfl (hb hby d2_62) hr) ?_
            show Till p e below s (Q2 Z p1 p2 h0 n0) room2.cells room2.slots (s₁.setTop (mkF m 64 #[.val (.int p1), .val (.int p2), .unset] [(.int (70 : Int32)), (.int p1)]))
            refine Till.icmp (pc' := 78) X0.here hx (hb hby d2_64) (by decide) (by decide) (fun q => ?_) (fun q => ?_)
            · have hc18 := (hLt.2.2.2.2.1 q)
              show Till p e below s (Q2 Z p1 p2 h0 n0) room2.cells room2.slots (s₁.setTop (mkF m 78 #[.val (.int p1), .val (.int p2), .unset] []))
              refine Till.pre (fun _ hr => XS.iconst X0.here hx rfl (hb hby d2_78) hr) ?_
              show Till p e below s (Q2 Z p1 p2 h0 n0) room2.cells room2.slots (s₁.setTop (mkF m 79 #[.val (.int p1), .val (.int p2), .unset] [(.int (-1 : Int32))]))
              refine Till.pre (fun _ hr => XS.istoreN X0.here hx rfl (hb hby d2_79) rfl (l' := #[.val (.int p1), .val (.int p2), .val (.int (-1 : Int32))]) rfl hr) ?_
              show Till p e below s (Q2 Z p1 p2 h0 n0) room2.cells room2.slots (s₁.setTop (mkF m 80 #[.val (.int p1), .val (.int p2), .val (.int (-1 : Int32))] []))
              exact J80_26 _ (Eq.symm ((if_neg hc1).trans ((if_pos hc14).trans ((if_neg hc15).trans ((if_pos hc16).trans ((if_neg hc17).trans (if_pos hc18)))))))
            · have hc18 := (hLt.2.2.2.2.2.1 q)
              show Till p e below s (Q2 Z p1 p2 h0 n0) room2.cells room2.slots (s₁.setTop (mkF m 67 #[.val (.int p1), .val (.int p2), .unset] []))
              refine Till.pre (fun _ hr => XS.iloadN X0.here hx rfl (hb hby d2_67) rfl hr) ?_
              show Till p e below s (Q2 Z p1 p2 h0 n0) room2.cells room2.slots (s₁.setTop (mkF m 68 #[.val (.int p1), .val (.int p2), .unset] [(.int p1)]))
              refine Till.pre (fun _ hr => XS.bipush X0.here hx rfl (hb hby d2_68) hr) ?_
              show Till p e below s (Q2 Z p1 p2 h0 n0) room2.cells room2.slots (s₁.setTop (mkF m 70 #[.val (.int p1), .val (.int p2), .unset] [(.int (65 : Int32)), (.int p1)]))
              refine Till.pre (fun _ hr => XS.isub X0.here hx rfl (hb hby d2_70) rfl hr) ?_
              show Till p e below s (Q2 Z p1 p2 h0 n0) room2.cells room2.slots (s₁.setTop (mkF m 71 #[.val (.int p1), .val (.int p2), .unset] [(.int (p1 - (65 : Int32)))]))
              refine Till.pre (fun _ hr => XS.bipush X0.here hx rfl (hb hby d2_71) hr) ?_
              show Till p e below s (Q2 Z p1 p2 h0 n0) room2.cells room2.slots (s₁.setTop (mkF m 73 #[.val (.int p1), .val (.int p2), .unset] [(.int (10 : Int32)), (.int (p1 - (65 : Int32)))]))
              refine Till.pre (fun _ hr => XS.iadd X0.here hx rfl (hb hby d2_73) rfl hr) ?_
              show Till p e below s (Q2 Z p1 p2 h0 n0) room2.cells room2.slots (s₁.setTop (mkF m 74 #[.val (.int p1), .val (.int p2), .unset] [(.int ((p1 - (65 : Int32)) + (10 : Int32)))]))
              refine Till.pre (fun _ hr => XS.istoreN X0.here hx rfl (hb hby d2_74) rfl (l' := #[.val (.int p1), .val (.int p2), .val (.int ((p1 - (65 : Int32)) + (10 : Int32)))]) rfl hr) ?_
              show Till p e below s (Q2 Z p1 p2 h0 n0) room2.cells room2.slots (s₁.setTop (mkF m 75 #[.val (.int p1), .val (.int p2), .val (.int ((p1 - (65 : Int32)) + (10 : Int32)))] []))
              refine Till.pre (fun _ hr => XS.goto X0.here hx rfl (pc0 := 75) (pc' := 80) rfl (hb hby d2_75) (by decide) (by decide) hr) ?_
              show Till p e below s (Q2 Z p1 p2 h0 n0) room2.cells room2.slots (s₁.setTop (mkF m 80 #[.val (.int p1), .val (.int p2), .val (.int ((p1 - (65 : Int32)) + (10 : Int32)))] []))
              exact J80_26 _ (Eq.symm ((if_neg hc1).trans ((if_pos hc14).trans ((if_neg hc15).trans ((if_pos hc16).trans ((if_neg hc17).trans (if_neg hc18)))))))
      · have hc15 := (hEq.2.2.2 q)
        show Till p e below s (Q2 Z p1 p2 h0 n0) room2.cells room2.slots (s₁.setTop (mkF m 26 #[.val (.int p1), .val (.int p2), .unset] []))
        refine Till.pre (fun _ hr => XS.iloadN X0.here hx rfl (hb hby d2_26) rfl hr) ?_
        show Till p e below s (Q2 Z p1 p2 h0 n0) room2.cells room2.slots (s₁.setTop (mkF m 27 #[.val (.int p1), .val (.int p2), .unset] [(.int p1)]))
        refine Till.pre (fun _ hr => XS.bipush X0.here hx rfl (hb hby d2_27) hr) ?_
        show Till p e below s (Q2 Z p1 p2 h0 n0) room2.cells room2.slots (s₁.setTop (mkF m 29 #[.val (.int p1), .val (.int p2), .unset] [(.int (97 : Int32)), (.int p1)]))
        refine Till.icmp (pc' := 49) X0.here hx (hb hby d2_29) (by decide) (by decide) (fun q => ?_) (fun q => ?_)
        · have hc19 := (hLt.1 q)
          show Till p e below s (Q2 Z p1 p2 h0 n0) room2.cells room2.slots (s₁.setTop (mkF m 49 #[.val (.int p1), .val (.int p2), .unset] []))
          refine Till.pre (fun _ hr => XS.iloadN X0.here hx rfl (hb hby d2_49) rfl hr) ?_
          show Till p e below s (Q2 Z p1 p2 h0 n0) room2.cells room2.slots (s₁.setTop (mkF m 50 #[.val (.int p1), .val (.int p2), .unset] [(.int p2)]))
          refine Till.pre (fun _ hr => XS.bipush X0.here hx rfl (hb hby d2_50) hr) ?_
          show Till p e below s (Q2 Z p1 p2 h0 n0) room2.cells room2.slots (s₁.setTop (mkF m 52 #[.val (.int p1), .val (.int p2), .unset] [(.int (16 : Int32)), (.int p2)]))
          refine Till.icmp (pc' := 78) X0.here hx (hb hby d2_52) (by decide) (by decide) (fun q => ?_) (fun q => ?_)
          · have hc20 := (hEq.2.2.1 q)
            show Till p e below s (Q2 Z p1 p2 h0 n0) room2.cells room2.slots (s₁.setTop (mkF m 78 #[.val (.int p1), .val (.int p2), .unset] []))
            refine Till.pre (fun _ hr => XS.iconst X0.here hx rfl (hb hby d2_78) hr) ?_
            show Till p e below s (Q2 Z p1 p2 h0 n0) room2.cells room2.slots (s₁.setTop (mkF m 79 #[.val (.int p1), .val (.int p2), .unset] [(.int (-1 : Int32))]))
            refine Till.pre (fun _ hr => XS.istoreN X0.here hx rfl (hb hby d2_79) rfl (l' := #[.val (.int p1), .val (.int p2), .val (.int (-1 : Int32))]) rfl hr) ?_
            show Till p e below s (Q2 Z p1 p2 h0 n0) room2.cells room2.slots (s₁.setTop (mkF m 80 #[.val (.int p1), .val (.int p2), .val (.int (-1 : Int32))] []))
            exact J80_26 _ (Eq.symm ((if_neg hc1).trans ((if_pos hc14).trans ((if_pos hc15).trans ((if_pos hc19).trans (if_neg hc20))))))
          · have hc20 := (hEq.2.2.2 q)
            show Till p e below s (Q2 Z p1 p2 h0 n0) room2.cells room2.slots (s₁.setTop (mkF m 55 #[.val (.int p1), .val (.int p2), .unset] []))
            refine Till.pre (fun _ hr => XS.iloadN X0.here hx rfl (hb hby d2_55) rfl hr) ?_
            show Till p e below s (Q2 Z p1 p2 h0 n0) room2.cells room2.slots (s₁.setTop (mkF m 56 #[.val (.int p1), .val (.int p2), .unset] [(.int p1)]))
            refine Till.pre (fun _ hr => XS.bipush X0.here hx rfl (hb hby d2_56) hr) ?_
            show Till p e below s (Q2 Z p1 p2 h0 n0) room2.cells room2.slots (s₁.setTop (mkF m 58 #[.val (.int p1), .val (.int p2), .unset] [(.int (65 : Int32)), (.int p1)]))
            refine Till.icmp (pc' := 78) X0.here hx (hb hby d2_58) (by decide) (by decide) (fun q => ?_) (fun q => ?_)
            · have hc21 := (hLt.1 q)
              show Till p e below s (Q2 Z p1 p2 h0 n0) room2.cells room2.slots (s₁.setTop (mkF m 78 #[.val (.int p1), .val (.int p2), .unset] []))
              refine Till.pre (fun _ hr => XS.iconst X0.here hx rfl (hb hby d2_78) hr) ?_
              show Till p e below s (Q2 Z p1 p2 h0 n0) room2.cells room2.slots (s₁.setTop (mkF m 79 #[.val (.int p1), .val (.int p2), .unset] [(.int (-1 : Int32))]))
              refine Till.pre (fun _ hr => XS.istoreN X0.here hx rfl (hb hby d2_79) rfl (l' := #[.val (.int p1), .val (.int p2), .val (.int (-1 : Int32))]) rfl hr) ?_
              show Till p e below s (Q2 Z p1 p2 h0 n0) room2.cells room2.slots (s₁.setTop (mkF m 80 #[.val (.int p1), .val (.int p2), .val (.int (-1 : Int32))] []))
              exact J80_26 _ (Eq.symm ((if_neg hc1).trans ((if_pos hc14).trans ((if_pos hc15).trans ((if_pos hc19).trans ((if_pos hc20).trans (if_pos hc21)))))))
            · have hc21 := (hLt.2.1 q)
              show Till p e below s (Q2 Z p1 p2 h0 n0) room2.cells room2.slots (s₁.setTop (mkF m 61 #[.val (.int p1), .val (.int p2), .unset] []))
              refine Till.pre (fun _ hr => XS.iloadN X0.here hx rfl (hb hby d2_61) rfl hr) ?_
              show Till p e below s (Q2 Z p1 p2 h0 n0) room2.cells room2.slots (s₁.setTop (mkF m 62 #[.val (.int p1), .val (.int p2), .unset] [(.int p1)]))
              refine Till.pre (fun _ hr => XS.bipush X0.here hx rfl (hb hby d2_62) hr) ?_
              show Till p e below s (Q2 Z p1 p2 h0 n0) room2.cells room2.slots (s₁.setTop (mkF m 64 #[.val (.int p1), .val (.int p2), .unset] [(.int (70 : Int32)), (.int p1)]))
              refine Till.icmp (pc' := 78) X0.here hx (hb hby d2_64) (by decide) (by decide) (fun q => ?_) (fun q => ?_)
              · have hc22 := (hLt.2.2.2.2.1 q)
                show Till p e below s (Q2 Z p1 p2 h0 n0) room2.cells room2.slots (s₁.setTop (mkF m 78 #[.val (.int p1), .val (.int p2), .unset] []))
                refine Till.pre (fun _ hr => XS.iconst X0.here hx rfl (hb hby d2_78) hr) ?_
                show Till p e below s (Q2 Z p1 p2 h0 n0) room2.cells room2.slots (s₁.setTop (mkF m 79 #[.val (.int p1), .val (.int p2), .unset] [(.int (-1 : Int32))]))
                refine Till.pre (fun _ hr => XS.istoreN X0.here hx rfl (hb hby d2_79) rfl (l' := #[.val (.int p1), .val (.int p2), .val (.int (-1 : Int32))]) rfl hr) ?_
                show Till p e below s (Q2 Z p1 p2 h0 n0) room2.cells room2.slots (s₁.setTop (mkF m 80 #[.val (.int p1), .val (.int p2), .val (.int (-1 : Int32))] []))
                exact J80_26 _ (Eq.symm ((if_neg hc1).trans ((if_pos hc14).trans ((if_pos hc15).trans ((if_pos hc19).trans ((if_pos hc20).trans ((if_neg hc21).trans (if_pos hc22))))))))
              · have hc22 := (hLt.2.2.2.2.2.1 q)
                show Till p e below s (Q2 Z p1 p2 h0 n0) room2.cells room2.slots (s₁.setTop (mkF m 67 #[.val (.int p1), .val (.int p2), .unset] []))
                refine Till.pre (fun _ hr => XS.iloadN X0.here hx rfl (hb hby d2_67) rfl hr) ?_
                show Till p e below s (Q2 Z p1 p2 h0 n0) room2.cells room2.slots (s₁.setTop (mkF m 68 #[.val (.int p1), .val (.int p2), .unset] [(.int p1)]))
                refine Till.pre (fun _ hr => XS.bipush X0.here hx rfl (hb hby d2_68) hr) ?_
                show Till p e below s (Q2 Z p1 p2 h0 n0) room2.cells room2.slots (s₁.setTop (mkF m 70 #[.val (.int p1), .val (.int p2), .unset] [(.int (65 : Int32)), (.int p1)]))
                refine Till.pre (fun _ hr => XS.isub X0.here hx rfl (hb hby d2_70) rfl hr) ?_
                show Till p e below s (Q2 Z p1 p2 h0 n0) room2.cells room2.slots (s₁.setTop (mkF m 71 #[.val (.int p1), .val (.int p2), .unset] [(.int (p1 - (65 : Int32)))]))
                refine Till.pre (fun _ hr => XS.bipush X0.here hx rfl (hb hby d2_71) hr) ?_
                show Till p e below s (Q2 Z p1 p2 h0 n0) room2.cells room2.slots (s₁.setTop (mkF m 73 #[.val (.int p1), .val (.int p2), .unset] [(.int (10 : Int32)), (.int (p1 - (65 : Int32)))]))
                refine Till.pre (fun _ hr => XS.iadd X0.here hx rfl (hb hby d2_73) rfl hr) ?_
                show Till p e below s (Q2 Z p1 p2 h0 n0) room2.cells room2.slots (s₁.setTop (mkF m 74 #[.val (.int p1), .val (.int p2), .unset] [(.int ((p1 - (65 : Int32)) + (10 : Int32)))]))
                refine Till.pre (fun _ hr => XS.istoreN X0.here hx rfl (hb hby d2_74) rfl (l' := #[.val (.int p1), .val (.int p2), .val (.int ((p1 - (65 : Int32)) + (10 : Int32)))]) rfl hr) ?_
                show Till p e below s (Q2 Z p1 p2 h0 n0) room2.cells room2.slots (s₁.setTop (mkF m 75 #[.val (.int p1), .val (.int p2), .val (.int ((p1 - (65 : Int32)) + (10 : Int32)))] []))
                refine Till.pre (fun _ hr => XS.goto X0.here hx rfl (pc0 := 75) (pc' := 80) rfl (hb hby d2_75) (by decide) (by decide) hr) ?_
                show Till p e below s (Q2 Z p1 p2 h0 n0) room2.cells room2.slots (s₁.setTop (mkF m 80 #[.val (.int p1), .val (.int p2), .val (.int ((p1 - (65 : Int32)) + (10 : Int32)))] []))
                exact J80_26 _ (Eq.symm ((if_neg hc1).trans ((if_pos hc14).trans ((if_pos hc15).trans ((if_pos hc19).trans ((if_pos hc20).trans ((if_neg hc21).trans (if_neg hc22))))))))
        · have hc19 := (hLt.2.1 q)
          show Till p e below s (Q2 Z p1 p2 h0 n0) room2.cells room2.slots (s₁.setTop (mkF m 32 #[.val (.int p1), .val (.int p2), .unset] []))
          refine Till.pre (fun _ hr => XS.iloadN X0.here hx rfl (hb hby d2_32) rfl hr) ?_
          show Till p e below s (Q2 Z p1 p2 h0 n0) room2.cells room2.slots (s₁.setTop (mkF m 33 #[.val (.int p1), .val (.int p2), .unset] [(.int p1)]))
          refine Till.pre (fun _ hr => XS.bipush X0.here hx rfl (hb hby d2_33) hr) ?_
          show Till p e below s (Q2 Z p1 p2 h0 n0) room2.cells room2.slots (s₁.setTop (mkF m 35 #[.val (.int p1), .val (.int p2), .unset] [(.int (102 : Int32)), (.int p1)]))
          refine Till.icmp (pc' := 49) X0.here hx (hb hby d2_35) (by decide) (by decide) (fun q => ?_) (fun q => ?_)
          · have hc23 := (hLt.2.2.2.2.1 q)
            show Till p e below s (Q2 Z p1 p2 h0 n0) room2.cells room2.slots (s₁.setTop (mkF m 49 #[.val (.int p1), .val (.int p2), .unset] []))
            refine Till.pre (fun _ hr => XS.iloadN X0.here hx rfl (hb hby d2_49) rfl hr) ?_
            show Till p e below s (Q2 Z p1 p2 h0 n0) room2.cells room2.slots (s₁.setTop (mkF m 50 #[.val (.int p1), .val (.int p2), .unset] [(.int p2)]))
            refine Till.pre (fun _ hr => XS.bipush X0.here hx rfl (hb hby d2_50) hr) ?_
            show Till p e below s (Q2 Z p1 p2 h0 n0) room2.cells room2.slots (s₁.setTop (mkF m 52 #[.val (.int p1), .val (.int p2), .unset] [(.int (16 : Int32)), (.int p2)]))
            refine Till.icmp (pc' := 78) X0.here hx (hb hby d2_52) (by decide) (by decide) (fun q => ?_) (fun q => ?_)
            · have hc24 := (hEq.2.2.1 q)
              show Till p e below s (Q2 Z p1 p2 h0 n0) room2.cells room2.slots (s₁.setTop (mkF m 78 #[.val (.int p1), .val (.int p2), .unset] []))
              refine Till.pre (fun _ hr => XS.iconst X0.here hx rfl (hb hby d2_78) hr) ?_
              show Till p e below s (Q2 Z p1 p2 h0 n0) room2.cells room2.slots (s₁.setTop (mkF m 79 #[.val (.int p1), .val (.int p2), .unset] [(.int (-1 : Int32))]))
              refine Till.pre (fun _ hr => XS.istoreN X0.here hx rfl (hb hby d2_79) rfl (l' := #[.val (.int p1), .val (.int p2), .val (.int (-1 : Int32))]) rfl hr) ?_
              show Till p e below s (Q2 Z p1 p2 h0 n0) room2.cells room2.slots (s₁.setTop (mkF m 80 #[.val (.int p1), .val (.int p2), .val (.int (-1 : Int32))] []))
              exact J80_26 _ (Eq.symm ((if_neg hc1).trans ((if_pos hc14).trans ((if_pos hc15).trans ((if_neg hc19).trans ((if_pos hc23).trans (if_neg hc24)))))))
            · have hc24 := (hEq.2.2.2 q)
              show Till p e below s (Q2 Z p1 p2 h0 n0) room2.cells room2.slots (s₁.setTop (mkF m 55 #[.val (.int p1), .val (.int p2), .unset] []))
              refine Till.pre (fun _ hr => XS.iloadN X0.here hx rfl (hb hby d2_55) rfl hr) ?_
              show Till p e below s (Q2 Z p1 p2 h0 n0) room2.cells room2.slots (s₁.setTop (mkF m 56 #[.val (.int p1), .val (.int p2), .unset] [(.int p1)]))
              refine Till.pre (fun _ hr => XS.bipush X0.here hx rfl (hb hby d2_56) hr) ?_
              show Till p e below s (Q2 Z p1 p2 h0 n0) room2.cells room2.slots (s₁.setTop (mkF m 58 #[.val (.int p1), .val (.int p2), .unset] [(.int (65 : Int32)), (.int p1)]))
              refine Till.icmp (pc' := 78) X0.here hx (hb hby d2_58) (by decide) (by decide) (fun q => ?_) (fun q => ?_)
              · have hc25 := (hLt.1 q)
                show Till p e below s (Q2 Z p1 p2 h0 n0) room2.cells room2.slots (s₁.setTop (mkF m 78 #[.val (.int p1), .val (.int p2), .unset] []))
                refine Till.pre (fun _ hr => XS.iconst X0.here hx rfl (hb hby d2_78) hr) ?_
                show Till p e below s (Q2 Z p1 p2 h0 n0) room2.cells room2.slots (s₁.setTop (mkF m 79 #[.val (.int p1), .val (.int p2), .unset] [(.int (-1 : Int32))]))
                refine Till.pre (fun _ hr => XS.istoreN X0.here hx rfl (hb hby d2_79) rfl (l' := #[.val (.int p1), .val (.int p2), .val (.int (-1 : Int32))]) rfl hr) ?_
                show Till p e below s (Q2 Z p1 p2 h0 n0) room2.cells room2.slots (s₁.setTop (mkF m 80 #[.val (.int p1), .val (.int p2), .val (.int (-1 : Int32))] []))
                exact J80_26 _ (Eq.symm ((if_neg hc1).trans ((if_pos hc14).trans ((if_pos hc15).trans ((if_neg hc19).trans ((if_pos hc23).trans ((if_pos hc24).trans (if_pos hc25))))))))
              · have hc25 := (hLt.2.1 q)
                show Till p e below s (Q2 Z p1 p2 h0 n0) room2.cells room2.slots (s₁.setTop (mkF m 61 #[.val (.int p1), .val (.int p2), .unset] []))
                refine Till.pre (fun _ hr => XS.iloadN X0.here hx rfl (hb hby d2_61) rfl hr) ?_
                show Till p e below s (Q2 Z p1 p2 h0 n0) room2.cells room2.slots (s₁.setTop (mkF m 62 #[.val (.int p1), .val (.int p2), .unset] [(.int p1)]))
                refine Till.pre (fun _ hr => XS.bipush X0.here hx rfl (hb hby d2_62) hr) ?_
                show Till p e below s (Q2 Z p1 p2 h0 n0) room2.cells room2.slots (s₁.setTop (mkF m 64 #[.val (.int p1), .val (.int p2), .unset] [(.int (70 : Int32)), (.int p1)]))
                refine Till.icmp (pc' := 78) X0.here hx (hb hby d2_64) (by decide) (by decide) (fun q => ?_) (fun q => ?_)
                · have hc26 := (hLt.2.2.2.2.1 q)
                  show Till p e below s (Q2 Z p1 p2 h0 n0) room2.cells room2.slots (s₁.setTop (mkF m 78 #[.val (.int p1), .val (.int p2), .unset] []))
                  refine Till.pre (fun _ hr => XS.iconst X0.here hx rfl (hb hby d2_78) hr) ?_
                  show Till p e below s (Q2 Z p1 p2 h0 n0) room2.cells room2.slots (s₁.setTop (mkF m 79 #[.val (.int p1), .val (.int p2), .unset] [(.int (-1 : Int32))]))
                  refine Till.pre (fun _ hr => XS.istoreN X0.here hx rfl (hb hby d2_79) rfl (l' := #[.val (.int p1), .val (.int p2), .val (.int (-1 : Int32))]) rfl hr) ?_
                  show Till p e below s (Q2 Z p1 p2 h0 n0) room2.cells room2.slots (s₁.setTop (mkF m 80 #[.val (.int p1), .val (.int p2), .val (.int (-1 : Int32))] []))
                  exact J80_26 _ (Eq.symm ((if_neg hc1).trans ((if_pos hc14).trans ((if_pos hc15).trans ((if_neg hc19).trans ((if_pos hc23).trans ((if_pos hc24).trans ((if_neg hc25).trans (if_pos hc26)))))))))
                · have hc26 := (hLt.2.2.2.2.2.1 q)
                  show Till p e below s (Q2 Z p1 p2 h0 n0) room2.cells room2.slots (s₁.setTop (mkF m 67 #[.val (.int p1), .val (.int p2), .unset] []))
                  refine Till.pre (fun _ hr => XS.iloadN X0.here hx rfl (hb hby d2_67) rfl hr) ?_
                  show Till p e below s (Q2 Z p1 p2 h0 n0) room2.cells room2.slots (s₁.setTop (mkF m 68 #[.val (.int p1), .val (.int p2), .unset] [(.int p1)]))
                  refine Till.pre (fun _ hr => XS.bipush X0.here hx rfl (hb hby d2_68) hr) ?_
                  show Till p e below s (Q2 Z p1 p2 h0 n0) room2.cells room2.slots (s₁.setTop (mkF m 70 #[.val (.int p1), .val (.int p2), .unset] [(.int (65 : Int32)), (.int p1)]))
                  refine Till.pre (fun _ hr => XS.isub X0.here hx rfl (hb hby d2_70) rfl hr) ?_
                  show Till p e below s (Q2 Z p1 p2 h0 n0) room2.cells room2.slots (s₁.setTop (mkF m 71 #[.val (.int p1), .val (.int p2), .unset] [(.int (p1 - (65 : Int32)))]))
                  refine Till.pre (fun _ hr => XS.bipush X0.here hx rfl (hb hby d2_71) hr) ?_
                  show Till p e below s (Q2 Z p1 p2 h0 n0) room2.cells room2.slots (s₁.setTop (mkF m 73 #[.val (.int p1), .val (.int p2), .unset] [(.int (10 : Int32)), (.int (p1 - (65 : Int32)))]))
                  refine Till.pre (fun _ hr => XS.iadd X0.here hx rfl (hb hby d2_73) rfl hr) ?_
                  show Till p e below s (Q2 Z p1 p2 h0 n0) room2.cells room2.slots (s₁.setTop (mkF m 74 #[.val (.int p1), .val (.int p2), .unset] [(.int ((p1 - (65 : Int32)) + (10 : Int32)))]))
                  refine Till.pre (fun _ hr => XS.istoreN X0.here hx rfl (hb hby d2_74) rfl (l' := #[.val (.int p1), .val (.int p2), .val (.int ((p1 - (65 : Int32)) + (10 : Int32)))]) rfl hr) ?_
                  show Till p e below s (Q2 Z p1 p2 h0 n0) room2.cells room2.slots (s₁.setTop (mkF m 75 #[.val (.int p1), .val (.int p2), .val (.int ((p1 - (65 : Int32)) + (10 : Int32)))] []))
                  refine Till.pre (fun _ hr => XS.goto X0.here hx rfl (pc0 := 75) (pc' := 80) rfl (hb hby d2_75) (by decide) (by decide) hr) ?_
                  show Till p e below s (Q2 Z p1 p2 h0 n0) room2.cells room2.slots (s₁.setTop (mkF m 80 #[.val (.int p1), .val (.int p2), .val (.int ((p1 - (65 : Int32)) + (10 : Int32)))] []))
                  exact J80_26 _ (Eq.symm ((if_neg hc1).trans ((if_pos hc14).trans ((if_pos hc15).trans ((if_neg hc19).trans ((if_pos hc23).trans ((if_pos hc24).trans ((if_neg hc25).trans (if_neg hc26)))))))))
          · have hc23 := (hLt.2.2.2.2.2.1 q)
            show Till p e below s (Q2 Z p1 p2 h0 n0) room2.cells room2.slots (s₁.setTop (mkF m 38 #[.val (.int p1), .val (.int p2), .unset] []))
            refine Till.pre (fun _ hr => XS.iloadN X0.here hx rfl (hb hby d2_38) rfl hr) ?_
            show Till p e below s (Q2 Z p1 p2 h0 n0) room2.cells room2.slots (s₁.setTop (mkF m 39 #[.val (.int p1), .val (.int p2), .unset] [(.int p1)]))
            refine Till.pre (fun _ hr => XS.bipush X0.here hx rfl (hb hby d2_39) hr) ?_
            show Till p e below s (Q2 Z p1 p2 h0 n0) room2.cells room2.slots (s₁.setTop (mkF m 41 #[.val (.int p1), .val (.int p2), .unset] [(.int (97 : Int32)), (.int p1)]))
            refine Till.pre (fun _ hr => XS.isub X0.here hx rfl (hb hby d2_41) rfl hr) ?_
            show Till p e below s (Q2 Z p1 p2 h0 n0) room2.cells room2.slots (s₁.setTop (mkF m 42 #[.val (.int p1), .val (.int p2), .unset] [(.int (p1 - (97 : Int32)))]))
            refine Till.pre (fun _ hr => XS.bipush X0.here hx rfl (hb hby d2_42) hr) ?_
            show Till p e below s (Q2 Z p1 p2 h0 n0) room2.cells room2.slots (s₁.setTop (mkF m 44 #[.val (.int p1), .val (.int p2), .unset] [(.int (10 : Int32)), (.int (p1 - (97 : Int32)))]))
            refine Till.pre (fun _ hr => XS.iadd X0.here hx rfl (hb hby d2_44) rfl hr) ?_
            show Till p e below s (Q2 Z p1 p2 h0 n0) room2.cells room2.slots (s₁.setTop (mkF m 45 #[.val (.int p1), .val (.int p2), .unset] [(.int ((p1 - (97 : Int32)) + (10 : Int32)))]))
            refine Till.pre (fun _ hr => XS.istoreN X0.here hx rfl (hb hby d2_45) rfl (l' := #[.val (.int p1), .val (.int p2), .val (.int ((p1 - (97 : Int32)) + (10 : Int32)))]) rfl hr) ?_
            show Till p e below s (Q2 Z p1 p2 h0 n0) room2.cells room2.slots (s₁.setTop (mkF m 46 #[.val (.int p1), .val (.int p2), .val (.int ((p1 - (97 : Int32)) + (10 : Int32)))] []))
            refine Till.pre (fun _ hr => XS.goto X0.here hx rfl (pc0 := 46) (pc' := 80) rfl (hb hby d2_46) (by decide) (by decide) hr) ?_
            show Till p e below s (Q2 Z p1 p2 h0 n0) room2.cells room2.slots (s₁.setTop (mkF m 80 #[.val (.int p1), .val (.int p2), .val (.int ((p1 - (97 : Int32)) + (10 : Int32)))] []))
            exact J80_26 _ (Eq.symm ((if_neg hc1).trans ((if_pos hc14).trans ((if_pos hc15).trans ((if_neg hc19).trans (if_neg hc23))))))
    · have hc14 := (hLt.2.2.2.2.2.1 q)
      show Till p e below s (Q2 Z p1 p2 h0 n0) room2.cells room2.slots (s₁.setTop (mkF m 12 #[.val (.int p1), .val (.int p2), .unset] []))
      refine Till.pre (fun _ hr => XS.iloadN X0.here hx rfl (hb hby d2_12) rfl hr) ?_
      show Till p e below s (Q2 Z p1 p2 h0 n0) room2.cells room2.slots (s₁.setTop (mkF m 13 #[.val (.int p1), .val (.int p2), .unset] [(.int p1)]))
      refine Till.pre (fun _ hr => XS.bipush X0.here hx rfl (hb hby d2_13) hr) ?_
      show Till p e below s (Q2 Z p1 p2 h0 n0) room2.cells room2.slots (s₁.setTop (mkF m 15 #[.val (.int p1), .val (.int p2), .unset] [(.int (48 : Int32)), (.int p1)]))
      refine Till.pre (fun _ hr => XS.isub X0.here hx rfl (hb hby d2_15) rfl hr) ?_
      show Till p e below s (Q2 Z p1 p2 h0 n0) room2.cells room2.slots (s₁.setTop (mkF m 16 #[.val (.int p1), .val (.int p2), .unset] [(.int (p1 - (48 : Int32)))]))
      refine Till.pre (fun _ hr => XS.istoreN X0.here hx rfl (hb hby d2_16) rfl (l' := #[.val (.int p1), .val (.int p2), .val (.int (p1 - (48 : Int32)))]) rfl hr) ?_
      show Till p e below s (Q2 Z p1 p2 h0 n0) room2.cells room2.slots (s₁.setTop (mkF m 17 #[.val (.int p1), .val (.int p2), .val (.int (p1 - (48 : Int32)))] []))
      refine Till.pre (fun _ hr => XS.goto X0.here hx rfl (pc0 := 17) (pc' := 80) rfl (hb hby d2_17) (by decide) (by decide) hr) ?_
      show Till p e below s (Q2 Z p1 p2 h0 n0) room2.cells room2.slots (s₁.setTop (mkF m 80 #[.val (.int p1), .val (.int p2), .val (.int (p1 - (48 : Int32)))] []))
      exact J80_26 _ (Eq.symm ((if_neg hc1).trans (if_neg hc14)))
theorem d3_0 : decode method_3_code 0 = .ok (.iload_n 0, 1) := by decide +kernel
theorem d3_1 : decode method_3_code 1 = .ok (.bipush 48, 2) := by decide +kernel
theorem d3_3 : decode method_3_code 3 = .ok (.if_icmp .lt 14, 3) := by decide +kernel
theorem d3_6 : decode method_3_code 6 = .ok (.iload_n 0, 1) := by decide +kernel
theorem d3_7 : decode method_3_code 7 = .ok (.bipush 57, 2) := by decide +kernel
theorem d3_9 : decode method_3_code 9 = .ok (.if_icmp .gt 8, 3) := by decide +kernel
theorem d3_12 : decode method_3_code 12 = .ok (.iload_n 0, 1) := by decide +kernel
theorem d3_13 : decode method_3_code 13 = .ok (.bipush 48, 2) := by decide +kernel
theorem d3_15 : decode method_3_code 15 = .ok (.isub, 1) := by decide +kernel
theorem d3_16 : decode method_3_code 16 = .ok (.ireturn, 1) := by decide +kernel
theorem d3_17 : decode method_3_code 17 = .ok (.iload_n 1, 1) := by decide +kernel
theorem d3_18 : decode method_3_code 18 = .ok (.bipush 16, 2) := by decide +kernel
theorem d3_20 : decode method_3_code 20 = .ok (.if_icmp .ne 33, 3) := by decide +kernel
theorem d3_23 : decode method_3_code 23 = .ok (.iload_n 0, 1) := by decide +kernel
theorem d3_24 : decode method_3_code 24 = .ok (.bipush 32, 2) := by decide +kernel
theorem d3_26 : decode method_3_code 26 = .ok (.ior, 1) := by decide +kernel
theorem d3_27 : decode method_3_code 27 = .ok (.i2l, 1) := by decide +kernel
theorem d3_28 : decode method_3_code 28 = .ok (.ldc2_w 7, 3) := by decide +kernel
theorem d3_31 : decode method_3_code 31 = .ok (.lsub, 1) := by decide +kernel
theorem d3_32 : decode method_3_code 32 = .ok (.lstore_n 2, 1) := by decide +kernel
theorem d3_33 : decode method_3_code 33 = .ok (.lload_n 2, 1) := by decide +kernel
theorem d3_34 : decode method_3_code 34 = .ok (.lconst 0, 1) := by decide +kernel
theorem d3_35 : decode method_3_code 35 = .ok (.lcmp, 1) := by decide +kernel
theorem d3_36 : decode method_3_code 36 = .ok (.ifCond .lt 17, 3) := by decide +kernel
theorem d3_39 : decode method_3_code 39 = .ok (.lload_n 2, 1) := by decide +kernel
theorem d3_40 : decode method_3_code 40 = .ok (.ldc2_w 9, 3) := by decide +kernel
theorem d3_43 : decode method_3_code 43 = .ok (.lcmp, 1) := by decide +kernel
theorem d3_44 : decode method_3_code 44 = .ok (.ifCond .gt 9, 3) := by decide +kernel
theorem d3_47 : decode method_3_code 47 = .ok (.lload_n 2, 1) := by decide +kernel
theorem d3_48 : decode method_3_code 48 = .ok (.l2i, 1) := by decide +kernel
theorem d3_49 : decode method_3_code 49 = .ok (.bipush 10, 2) := by decide +kernel
theorem d3_51 : decode method_3_code 51 = .ok (.iadd, 1) := by decide +kernel
theorem d3_52 : decode method_3_code 52 = .ok (.ireturn, 1) := by decide +kernel
theorem d3_53 : decode method_3_code 53 = .ok (.iconst (-1), 1) := by decide +kernel
theorem d3_54 : decode method_3_code 54 = .ok (.ireturn, 1) := by decide +kernel
theorem ef_3 (m : MethodId) (p1 : Int32) (p2 : Int32) : entryFrame m #[(.int p1), (.int p2)] 4 = mkF m 0 #[.val (.int p1), .val (.int p2), .unset, .unset] [] := by first | (simp [entryFrame, mkF, argsToLocals, Value.category]; done) | rfl
def fn3 (p1 : Int32) (p2 : Int32) : Int32 := (if (p1 < (48 : Int32)) then (if (p2 = (16 : Int32)) then (if (((p1 ||| (32 : Int32)).toInt64 - (97 : Int64)) < (0 : Int64)) then (-1 : Int32) else (if ((5 : Int64) < ((p1 ||| (32 : Int32)).toInt64 - (97 : Int64))) then (-1 : Int32) else (((p1 ||| (32 : Int32)).toInt64 - (97 : Int64)).toInt32 + (10 : Int32)))) else (-1 : Int32)) else (if ((57 : Int32) < p1) then (if (p2 = (16 : Int32)) then (if (((p1 ||| (32 : Int32)).toInt64 - (97 : Int64)) < (0 : Int64)) then (-1 : Int32) else (if ((5 : Int64) < ((p1 ||| (32 : Int32)).toInt64 - (97 : Int64))) then (-1 : Int32) else (((p1 ||| (32 : Int32)).toInt64 - (97 : Int64)).toInt32 + (10 : Int32)))) else (-1 : Int32)) else (p1 - (48 : Int32))))
def Q3 (Z : State) (p1 : Int32) (p2 : Int32) (h0 : Heap) (n0 : Nat) : Option Value → Heap → List Loc → Prop := fun v h L => v = some (Value.int (fn3 p1 p2)) ∧ Fr n0 L ∧ h = h0
def room3 : Room := { frames := 0, cells := 0, slots := 0, locals := 0 }
set_option maxRecDepth 65536 in
set_option maxHeartbeats 40000000 in
theorem rm3 (l : Launch) (Z : State) (a0 : Array Value) (hw : ∀ d ∈ tables_1, d.before a0 Z = true) (p1 : Int32) (p2 : Int32) (h0 : Heap) (n0 : Nat)  : Ctr l Z (⟨"com/example/wolfville/wolfville/xml/XmlCharactersReferenceDigitPinLaw", "expected", "(II)I"⟩ : MethodName) method_3_code 4 (some .int) room3 #[(.int p1), (.int p2)] h0 (Q3 Z p1 p2 h0 n0) := by
  refine Ctr.of (plainFor_of_name pn_1) ?_
  intro p e s m below meth c s₁ hx hby hml hown hnm hret hlk hZ e0 X0
  have hown : s.vm.findClass "com/example/wolfville/wolfville/xml/XmlCharactersReferenceDigitPinLaw" = some m.cls := hown
  have hml : c.maxLocals = 4 := hml
  have hnm : meth.name = "expected" := hnm
  have hret : meth.sig.returnType = (some .int) := hret
  have N0 := Fr.nil n0
  refine Till.cast (ef_3 m p1 p2) ?_
  show Till p e below s (Q3 Z p1 p2 h0 n0) room3.cells room3.slots (s₁.setTop (mkF m 0 #[.val (.int p1), .val (.int p2), .unset, .unset] []))
  refine Till.pre (fun _ hr => XS.iloadN X0.here hx rfl (hb hby d3_0) rfl hr) ?_
  show Till p e below s (Q3 Z p1 p2 h0 n0) room3.cells room3.slots (s₁.setTop (mkF m 1 #[.val (.int p1), .val (.int p2), .unset, .unset] [(.int p1)]))
  refine Till.pre (fun _ hr => XS.bipush X0.here hx rfl (hb hby d3_1) hr) ?_
  show Till p e below s (Q3 Z p1 p2 h0 n0) room3.cells room3.slots (s₁.setTop (mkF m 3 #[.val (.int p1), .val (.int p2), .unset, .unset] [(.int (48 : Int32)), (.int p1)]))
  refine Till.icmp (pc' := 17) X0.here hx (hb hby d3_3) (by decide) (by decide) (fun q => ?_) (fun q => ?_)
  · have hc1 := (hLt.1 q)
    show Till p e below s (Q3 Z p1 p2 h0 n0) room3.cells room3.slots (s₁.setTop (mkF m 17 #[.val (.int p1), .val (.int p2), .unset, .unset] []))
    refine Till.pre (fun _ hr => XS.iloadN X0.here hx rfl (hb hby d3_17) rfl hr) ?_
    show Till p e below s (Q3 Z p1 p2 h0 n0) room3.cells room3.slots (s₁.setTop (mkF m 18 #[.val (.int p1), .val (.int p2), .unset, .unset] [(.int p2)]))
    refine Till.pre (fun _ hr => XS.bipush X0.here hx rfl (hb hby d3_18) hr) ?_
    show Till p e below s (Q3 Z p1 p2 h0 n0) room3.cells room3.slots (s₁.setTop (mkF m 20 #[.val (.int p1), .val (.int p2), .unset, .unset] [(.int (16 : Int32)), (.int p2)]))
    refine Till.icmp (pc' := 53) X0.here hx (hb hby d3_20) (by decide) (by decide) (fun q => ?_) (fun q => ?_)
    · have hc2 := (hEq.2.2.1 q)
      show Till p e below s (Q3 Z p1 p2 h0 n0) room3.cells room3.slots (s₁.setTop (mkF m 53 #[.val (.int p1), .val (.int p2), .unset, .unset] []))
      refine Till.pre (fun _ hr => XS.iconst X0.here hx rfl (hb hby d3_53) hr) ?_
      show Till p e below s (Q3 Z p1 p2 h0 n0) room3.cells room3.slots (s₁.setTop (mkF m 54 #[.val (.int p1), .val (.int p2), .unset, .unset] [(.int (-1 : Int32))]))
      refine Till.retI X0 hx hret hlk (hb hby d3_54) (by decide) (by decide) ?_
      exact ⟨(congrArg (fun z => some (Value.int z)) (Eq.symm ((if_pos hc1).trans (if_neg hc2)))), N0, e0⟩
    · have hc2 := (hEq.2.2.2 q)
      show Till p e below s (Q3 Z p1 p2 h0 n0) room3.cells room3.slots (s₁.setTop (mkF m 23 #[.val (.int p1), .val (.int p2), .unset, .unset] []))
      refine Till.pre (fun _ hr => XS.iloadN X0.here hx rfl (hb hby d3_23) rfl hr) ?_
      show Till p e below s (Q3 Z p1 p2 h0 n0) room3.cells room3.slots (s₁.setTop (mkF m 24 #[.val (.int p1), .val (.int p2), .unset, .unset] [(.int p1)]))
      refine Till.pre (fun _ hr => XS.bipush X0.here hx rfl (hb hby d3_24) hr) ?_
      show Till p e below s (Q3 Z p1 p2 h0 n0) room3.cells room3.slots (s₁.setTop (mkF m 26 #[.val (.int p1), .val (.int p2), .unset, .unset] [(.int (32 : Int32)), (.int p1)]))
      refine Till.pre (fun _ hr => XS.ior X0.here hx rfl (hb hby d3_26) rfl hr) ?_
      show Till p e below s (Q3 Z p1 p2 h0 n0) room3.cells room3.slots (s₁.setTop (mkF m 27 #[.val (.int p1), .val (.int p2), .unset, .unset] [(.int (p1 ||| (32 : Int32)))]))
      refine Till.pre (fun _ hr => XS.i2l X0.here hx rfl (hb hby d3_27) rfl hr) ?_
      show Till p e below s (Q3 Z p1 p2 h0 n0) room3.cells room3.slots (s₁.setTop (mkF m 28 #[.val (.int p1), .val (.int p2), .unset, .unset] [(.long (p1 ||| (32 : Int32)).toInt64)]))
      refine Till.pre (X0.ldc2Long hx hown (mvT hZ (hw _ (List.mem_of_getElem? (i := 11) rfl))) (g := (mkF m 28 #[.val (.int p1), .val (.int p2), .unset, .unset] [(.long (p1 ||| (32 : Int32)).toInt64)])) rfl (hb hby d3_28)) ?_
      show Till p e below s (Q3 Z p1 p2 h0 n0) room3.cells room3.slots (s₁.setTop (mkF m 31 #[.val (.int p1), .val (.int p2), .unset, .unset] [(.long (97 : Int64)), (.long (p1 ||| (32 : Int32)).toInt64)]))
      refine Till.pre (fun _ hr => XS.lsub X0.here hx rfl (hb hby d3_31) rfl hr) ?_
      show Till p e below s (Q3 Z p1 p2 h0 n0) room3.cells room3.slots (s₁.setTop (mkF m 32 #[.val (.int p1), .val (.int p2), .unset, .unset] [(.long ((p1 ||| (32 : Int32)).toInt64 - (97 : Int64)))]))
      refine Till.pre (fun _ hr => XS.lstoreN X0.here hx rfl (hb hby d3_32) rfl (l' := #[.val (.int p1), .val (.int p2), .val (.long ((p1 ||| (32 : Int32)).toInt64 - (97 : Int64))), .second]) rfl hr) ?_
      show Till p e below s (Q3 Z p1 p2 h0 n0) room3.cells room3.slots (s₁.setTop (mkF m 33 #[.val (.int p1), .val (.int p2), .val (.long ((p1 ||| (32 : Int32)).toInt64 - (97 : Int64))), .second] []))
      refine Till.pre (fun _ hr => XS.lloadN X0.here hx rfl (hb hby d3_33) rfl hr) ?_
      show Till p e below s (Q3 Z p1 p2 h0 n0) room3.cells room3.slots (s₁.setTop (mkF m 34 #[.val (.int p1), .val (.int p2), .val (.long ((p1 ||| (32 : Int32)).toInt64 - (97 : Int64))), .second] [(.long ((p1 ||| (32 : Int32)).toInt64 - (97 : Int64)))]))
      refine Till.pre (fun _ hr => XS.lconst X0.here hx rfl (hb hby d3_34) hr) ?_
      show Till p e below s (Q3 Z p1 p2 h0 n0) room3.cells room3.slots (s₁.setTop (mkF m 35 #[.val (.int p1), .val (.int p2), .val (.long ((p1 ||| (32 : Int32)).toInt64 - (97 : Int64))), .second] [(.long (0 : Int64)), (.long ((p1 ||| (32 : Int32)).toInt64 - (97 : Int64)))]))
      refine Till.pre (fun _ hr => XS.lcmp X0.here hx rfl (hb hby d3_35) rfl hr) ?_
      show Till p e below s (Q3 Z p1 p2 h0 n0) room3.cells room3.slots (s₁.setTop (mkF m 36 #[.val (.int p1), .val (.int p2), .val (.long ((p1 ||| (32 : Int32)).toInt64 - (97 : Int64))), .second] [(.int (lcmpW ((p1 ||| (32 : Int32)).toInt64 - (97 : Int64)) (0 : Int64)))]))
      refine Till.ifc (pc' := 53) X0.here hx (hb hby d3_36) (by decide) (by decide) (fun q => ?_) (fun q => ?_)
      · have hc3 := (lLt.mp (hLt.1 q))
        show Till p e below s (Q3 Z p1 p2 h0 n0) room3.cells room3.slots (s₁.setTop (mkF m 53 #[.val (.int p1), .val (.int p2), .val (.long ((p1 ||| (32 : Int32)).toInt64 - (97 : Int64))), .second] []))
        refine Till.pre (fun _ hr => XS.iconst X0.here hx rfl (hb hby d3_53) hr) ?_
        show Till p e below s (Q3 Z p1 p2 h0 n0) room3.cells room3.slots (s₁.setTop (mkF m 54 #[.val (.int p1), .val (.int p2), .val (.long ((p1 ||| (32 : Int32)).toInt64 - (97 : Int64))), .second] [(.int (-1 : Int32))]))
        refine Till.retI X0 hx hret hlk (hb hby d3_54) (by decide) (by decide) ?_
        exact ⟨(congrArg (fun z => some (Value.int z)) (Eq.symm ((if_pos hc1).trans ((if_pos hc2).trans (if_pos hc3))))), N0, e0⟩
      · have hc3 := (mt lLt.mpr (hLt.2.1 q))
        show Till p e below s (Q3 Z p1 p2 h0 n0) room3.cells room3.slots (s₁.setTop (mkF m 39 #[.val (.int p1), .val (.int p2), .val (.long ((p1 ||| (32 : Int32)).toInt64 - (97 : Int64))), .second] []))
        refine Till.pre (fun _ hr => XS.lloadN X0.here hx rfl (hb hby d3_39) rfl hr) ?_
        show Till p e below s (Q3 Z p1 p2 h0 n0) room3.cells room3.slots (s₁.setTop (mkF m 40 #[.val (.int p1), .val (.int p2), .val (.long ((p1 ||| (32 : Int32)).toInt64 - (97 : Int64))), .second] [(.long ((p1 ||| (32 : Int32)).toInt64 - (97 : Int64)))]))
        refine Till.pre (X0.ldc2Long hx hown (mvT hZ (hw _ (List.mem_of_getElem? (i := 12) rfl))) (g := (mkF m 40 #[.val (.int p1), .val (.int p2), .val (.long ((p1 ||| (32 : Int32)).toInt64 - (97 : Int64))), .second] [(.long ((p1 ||| (32 : Int32)).toInt64 - (97 : Int64)))])) rfl (hb hby d3_40)) ?_
        show Till p e below s (Q3 Z p1 p2 h0 n0) room3.cells room3.slots (s₁.setTop (mkF m 43 #[.val (.int p1), .val (.int p2), .val (.long ((p1 ||| (32 : Int32)).toInt64 - (97 : Int64))), .second] [(.long (5 : Int64)), (.long ((p1 ||| (32 : Int32)).toInt64 - (97 : Int64)))]))
        refine Till.pre (fun _ hr => XS.lcmp X0.here hx rfl (hb hby d3_43) rfl hr) ?_
        show Till p e below s (Q3 Z p1 p2 h0 n0) room3.cells room3.slots (s₁.setTop (mkF m 44 #[.val (.int p1), .val (.int p2), .val (.long ((p1 ||| (32 : Int32)).toInt64 - (97 : Int64))), .second] [(.int (lcmpW ((p1 ||| (32 : Int32)).toInt64 - (97 : Int64)) (5 : Int64)))]))
        refine Till.ifc (pc' := 53) X0.here hx (hb hby d3_44) (by decide) (by decide) (fun q => ?_) (fun q => ?_)
        · have hc4 := (lGt.mp (hLt.2.2.2.2.1 q))
          show Till p e below s (Q3 Z p1 p2 h0 n0) room3.cells room3.slots (s₁.setTop (mkF m 53 #[.val (.int p1), .val (.int p2), .val (.long ((p1 ||| (32 : Int32)).toInt64 - (97 : Int64))), .second] []))
          refine Till.pre (fun _ hr => XS.iconst X0.here hx rfl (hb hby d3_53) hr) ?_
          show Till p e below s (Q3 Z p1 p2 h0 n0) room3.cells room3.slots (s₁.setTop (mkF m 54 #[.val (.int p1), .val (.int p2), .val (.long ((p1 ||| (32 : Int32)).toInt64 - (97 : Int64))), .second] [(.int (-1 : Int32))]))
          refine Till.retI X0 hx hret hlk (hb hby d3_54) (by decide) (by decide) ?_
          exact ⟨(congrArg (fun z => some (Value.int z)) (Eq.symm ((if_pos hc1).trans ((if_pos hc2).trans ((if_neg hc3).trans (if_pos hc4)))))), N0, e0⟩
        · have hc4 := (mt lGt.mpr (hLt.2.2.2.2.2.1 q))
          show Till p e below s (Q3 Z p1 p2 h0 n0) room3.cells room3.slots (s₁.setTop (mkF m 47 #[.val (.int p1), .val (.int p2), .val (.long ((p1 ||| (32 : Int32)).toInt64 - (97 : Int64))), .second] []))
          refine Till.pre (fun _ hr => XS.lloadN X0.here hx rfl (hb hby d3_47) rfl hr) ?_
          show Till p e below s (Q3 Z p1 p2 h0 n0) room3.cells room3.slots (s₁.setTop (mkF m 48 #[.val (.int p1), .val (.int p2), .val (.long ((p1 ||| (32 : Int32)).toInt64 - (97 : Int64))), .second] [(.long ((p1 ||| (32 : Int32)).toInt64 - (97 : Int64)))]))
          refine Till.pre (fun _ hr => XS.l2i X0.here hx rfl (hb hby d3_48) rfl hr) ?_
          show Till p e below s (Q3 Z p1 p2 h0 n0) room3.cells room3.slots (s₁.setTop (mkF m 49 #[.val (.int p1), .val (.int p2), .val (.long ((p1 ||| (32 : Int32)).toInt64 - (97 : Int64))), .second] [(.int ((p1 ||| (32 : Int32)).toInt64 - (97 : Int64)).toInt32)]))
          refine Till.pre (fun _ hr => XS.bipush X0.here hx rfl (hb hby d3_49) hr) ?_
          show Till p e below s (Q3 Z p1 p2 h0 n0) room3.cells room3.slots (s₁.setTop (mkF m 51 #[.val (.int p1), .val (.int p2), .val (.long ((p1 ||| (32 : Int32)).toInt64 - (97 : Int64))), .second] [(.int (10 : Int32)), (.int ((p1 ||| (32 : Int32)).toInt64 - (97 : Int64)).toInt32)]))
          refine Till.pre (fun _ hr => XS.iadd X0.here hx rfl (hb hby d3_51) rfl hr) ?_
          show Till p e below s (Q3 Z p1 p2 h0 n0) room3.cells room3.slots (s₁.setTop (mkF m 52 #[.val (.int p1), .val (.int p2), .val (.long ((p1 ||| (32 : Int32)).toInt64 - (97 : Int64))), .second] [(.int (((p1 ||| (32 : Int32)).toInt64 - (97 : Int64)).toInt32 + (10 : Int32)))]))
          refine Till.retI X0 hx hret hlk (hb hby d3_52) (by decide) (by decide) ?_
          exact ⟨(congrArg (fun z => some (Value.int z)) (Eq.symm ((if_pos hc1).trans ((if_pos hc2).trans ((if_neg hc3).trans (if_neg hc4)))))), N0, e0⟩
  · have hc1 := (hLt.2.1 q)
    show Till p e below s (Q3 Z p1 p2 h0 n0) room3.cells room3.slots (s₁.setTop (mkF m 6 #[.val (.int p1), .val (.int p2), .unset, .unset] []))
    refine Till.pre (fun _ hr => XS.iloadN X0.here hx rfl (hb hby d3_6) rfl hr) ?_
    show Till p e below s (Q3 Z p1 p2 h0 n0) room3.cells room3.slots (s₁.setTop (mkF m 7 #[.val (.int p1), .val (.int p2), .unset, .unset] [(.int p1)]))
    refine Till.pre (fun _ hr => XS.bipush X0.here hx rfl (hb hby d3_7) hr) ?_
    show Till p e below s (Q3 Z p1 p2 h0 n0) room3.cells room3.slots (s₁.setTop (mkF m 9 #[.val (.int p1), .val (.int p2), .unset, .unset] [(.int (57 : Int32)), (.int p1)]))
    refine Till.icmp (pc' := 17) X0.here hx (hb hby d3_9) (by decide) (by decide) (fun q => ?_) (fun q => ?_)
    · have hc5 := (hLt.2.2.2.2.1 q)
      show Till p e below s (Q3 Z p1 p2 h0 n0) room3.cells room3.slots (s₁.setTop (mkF m 17 #[.val (.int p1), .val (.int p2), .unset, .unset] []))
      refine Till.pre (fun _ hr => XS.iloadN X0.here hx rfl (hb hby d3_17) rfl hr) ?_
      show Till p e below s (Q3 Z p1 p2 h0 n0) room3.cells room3.slots (s₁.setTop (mkF m 18 #[.val (.int p1), .val (.int p2), .unset, .unset] [(.int p2)]))
      refine Till.pre (fun _ hr => XS.bipush X0.here hx rfl (hb hby d3_18) hr) ?_
      show Till p e below s (Q3 Z p1 p2 h0 n0) room3.cells room3.slots (s₁.setTop (mkF m 20 #[.val (.int p1), .val (.int p2), .unset, .unset] [(.int (16 : Int32)), (.int p2)]))
      refine Till.icmp (pc' := 53) X0.here hx (hb hby d3_20) (by decide) (by decide) (fun q => ?_) (fun q => ?_)
      · have hc6 := (hEq.2.2.1 q)
        show Till p e below s (Q3 Z p1 p2 h0 n0) room3.cells room3.slots (s₁.setTop (mkF m 53 #[.val (.int p1), .val (.int p2), .unset, .unset] []))
        refine Till.pre (fun _ hr => XS.iconst X0.here hx rfl (hb hby d3_53) hr) ?_
        show Till p e below s (Q3 Z p1 p2 h0 n0) room3.cells room3.slots (s₁.setTop (mkF m 54 #[.val (.int p1), .val (.int p2), .unset, .unset] [(.int (-1 : Int32))]))
        refine Till.retI X0 hx hret hlk (hb hby d3_54) (by decide) (by decide) ?_
        exact ⟨(congrArg (fun z => some (Value.int z)) (Eq.symm ((if_neg hc1).trans ((if_pos hc5).trans (if_neg hc6))))), N0, e0⟩
      · have hc6 := (hEq.2.2.2 q)
        show Till p e below s (Q3 Z p1 p2 h0 n0) room3.cells room3.slots (s₁.setTop (mkF m 23 #[.val (.int p1), .val (.int p2), .unset, .unset] []))
        refine Till.pre (fun _ hr => XS.iloadN X0.here hx rfl (hb hby d3_23) rfl hr) ?_
        show Till p e below s (Q3 Z p1 p2 h0 n0) room3.cells room3.slots (s₁.setTop (mkF m 24 #[.val (.int p1), .val (.int p2), .unset, .unset] [(.int p1)]))
        refine Till.pre (fun _ hr => XS.bipush X0.here hx rfl (hb hby d3_24) hr) ?_
        show Till p e below s (Q3 Z p1 p2 h0 n0) room3.cells room3.slots (s₁.setTop (mkF m 26 #[.val (.int p1), .val (.int p2), .unset, .unset] [(.int (32 : Int32)), (.int p1)]))
        refine Till.pre (fun _ hr => XS.ior X0.here hx rfl (hb hby d3_26) rfl hr) ?_
        show Till p e below s (Q3 Z p1 p2 h0 n0) room3.cells room3.slots (s₁.setTop (mkF m 27 #[.val (.int p1), .val (.int p2), .unset, .unset] [(.int (p1 ||| (32 : Int32)))]))
        refine Till.pre (fun _ hr => XS.i2l X0.here hx rfl (hb hby d3_27) rfl hr) ?_
        show Till p e below s (Q3 Z p1 p2 h0 n0) room3.cells room3.slots (s₁.setTop (mkF m 28 #[.val (.int p1), .val (.int p2), .unset, .unset] [(.long (p1 ||| (32 : Int32)).toInt64)]))
        refine Till.pre (X0.ldc2Long hx hown (mvT hZ (hw _ (List.mem_of_getElem? (i := 11) rfl))) (g := (mkF m 28 #[.val (.int p1), .val (.int p2), .unset, .unset] [(.long (p1 ||| (32 : Int32)).toInt64)])) rfl (hb hby d3_28)) ?_
        show Till p e below s (Q3 Z p1 p2 h0 n0) room3.cells room3.slots (s₁.setTop (mkF m 31 #[.val (.int p1), .val (.int p2), .unset, .unset] [(.long (97 : Int64)), (.long (p1 ||| (32 : Int32)).toInt64)]))
        refine Till.pre (fun _ hr => XS.lsub X0.here hx rfl (hb hby d3_31) rfl hr) ?_
        show Till p e below s (Q3 Z p1 p2 h0 n0) room3.cells room3.slots (s₁.setTop (mkF m 32 #[.val (.int p1), .val (.int p2), .unset, .unset] [(.long ((p1 ||| (32 : Int32)).toInt64 - (97 : Int64)))]))
        refine Till.pre (fun _ hr => XS.lstoreN X0.here hx rfl (hb hby d3_32) rfl (l' := #[.val (.int p1), .val (.int p2), .val (.long ((p1 ||| (32 : Int32)).toInt64 - (97 : Int64))), .second]) rfl hr) ?_
        show Till p e below s (Q3 Z p1 p2 h0 n0) room3.cells room3.slots (s₁.setTop (mkF m 33 #[.val (.int p1), .val (.int p2), .val (.long ((p1 ||| (32 : Int32)).toInt64 - (97 : Int64))), .second] []))
        refine Till.pre (fun _ hr => XS.lloadN X0.here hx rfl (hb hby d3_33) rfl hr) ?_
        show Till p e below s (Q3 Z p1 p2 h0 n0) room3.cells room3.slots (s₁.setTop (mkF m 34 #[.val (.int p1), .val (.int p2), .val (.long ((p1 ||| (32 : Int32)).toInt64 - (97 : Int64))), .second] [(.long ((p1 ||| (32 : Int32)).toInt64 - (97 : Int64)))]))
        refine Till.pre (fun _ hr => XS.lconst X0.here hx rfl (hb hby d3_34) hr) ?_
        show Till p e below s (Q3 Z p1 p2 h0 n0) room3.cells room3.slots (s₁.setTop (mkF m 35 #[.val (.int p1), .val (.int p2), .val (.long ((p1 ||| (32 : Int32)).toInt64 - (97 : Int64))), .second] [(.long (0 : Int64)), (.long ((p1 ||| (32 : Int32)).toInt64 - (97 : Int64)))]))
        refine Till.pre (fun _ hr => XS.lcmp X0.here hx rfl (hb hby d3_35) rfl hr) ?_
        show Till p e below s (Q3 Z p1 p2 h0 n0) room3.cells room3.slots (s₁.setTop (mkF m 36 #[.val (.int p1), .val (.int p2), .val (.long ((p1 ||| (32 : Int32)).toInt64 - (97 : Int64))), .second] [(.int (lcmpW ((p1 ||| (32 : Int32)).toInt64 - (97 : Int64)) (0 : Int64)))]))
        refine Till.ifc (pc' := 53) X0.here hx (hb hby d3_36) (by decide) (by decide) (fun q => ?_) (fun q => ?_)
        · have hc7 := (lLt.mp (hLt.1 q))
          show Till p e below s (Q3 Z p1 p2 h0 n0) room3.cells room3.slots (s₁.setTop (mkF m 53 #[.val (.int p1), .val (.int p2), .val (.long ((p1 ||| (32 : Int32)).toInt64 - (97 : Int64))), .second] []))
          refine Till.pre (fun _ hr => XS.iconst X0.here hx rfl (hb hby d3_53) hr) ?_
          show Till p e below s (Q3 Z p1 p2 h0 n0) room3.cells room3.slots (s₁.setTop (mkF m 54 #[.val (.int p1), .val (.int p2), .val (.long ((p1 ||| (32 : Int32)).toInt64 - (97 : Int64))), .second] [(.int (-1 : Int32))]))
          refine Till.retI X0 hx hret hlk (hb hby d3_54) (by decide) (by decide) ?_
          exact ⟨(congrArg (fun z => some (Value.int z)) (Eq.symm ((if_neg hc1).trans ((if_pos hc5).trans ((if_pos hc6).trans (if_pos hc7)))))), N0, e0⟩
        · have hc7 := (mt lLt.mpr (hLt.2.1 q))
          show Till p e below s (Q3 Z p1 p2 h0 n0) room3.cells room3.slots (s₁.setTop (mkF m 39 #[.val (.int p1), .val (.int p2), .val (.long ((p1 ||| (32 : Int32)).toInt64 - (97 : Int64))), .second] []))
          refine Till.pre (fun _ hr => XS.lloadN X0.here hx rfl (hb hby d3_39) rfl hr) ?_
          show Till p e below s (Q3 Z p1 p2 h0 n0) room3.cells room3.slots (s₁.setTop (mkF m 40 #[.val (.int p1), .val (.int p2), .val (.long ((p1 ||| (32 : Int32)).toInt64 - (97 : Int64))), .second] [(.long ((p1 ||| (32 : Int32)).toInt64 - (97 : Int64)))]))
          refine Till.pre (X0.ldc2Long hx hown (mvT hZ (hw _ (List.mem_of_getElem? (i := 12) rfl))) (g := (mkF m 40 #[.val (.int p1), .val (.int p2), .val (.long ((p1 ||| (32 : Int32)).toInt64 - (97 : Int64))), .second] [(.long ((p1 ||| (32 : Int32)).toInt64 - (97 : Int64)))])) rfl (hb hby d3_40)) ?_
          show Till p e below s (Q3 Z p1 p2 h0 n0) room3.cells room3.slots (s₁.setTop (mkF m 43 #[.val (.int p1), .val (.int p2), .val (.long ((p1 ||| (32 : Int32)).toInt64 - (97 : Int64))), .second] [(.long (5 : Int64)), (.long ((p1 ||| (32 : Int32)).toInt64 - (97 : Int64)))]))
          refine Till.pre (fun _ hr => XS.lcmp X0.here hx rfl (hb hby d3_43) rfl hr) ?_
          show Till p e below s (Q3 Z p1 p2 h0 n0) room3.cells room3.slots (s₁.setTop (mkF m 44 #[.val (.int p1), .val (.int p2), .val (.long ((p1 ||| (32 : Int32)).toInt64 - (97 : Int64))), .second] [(.int (lcmpW ((p1 ||| (32 : Int32)).toInt64 - (97 : Int64)) (5 : Int64)))]))
          refine Till.ifc (pc' := 53) X0.here hx (hb hby d3_44) (by decide) (by decide) (fun q => ?_) (fun q => ?_)
          · have hc8 := (lGt.mp (hLt.2.2.2.2.1 q))
            show Till p e below s (Q3 Z p1 p2 h0 n0) room3.cells room3.slots (s₁.setTop (mkF m 53 #[.val (.int p1), .val (.int p2), .val (.long ((p1 ||| (32 : Int32)).toInt64 - (97 : Int64))), .second] []))
            refine Till.pre (fun _ hr => XS.iconst X0.here hx rfl (hb hby d3_53) hr) ?_
            show Till p e below s (Q3 Z p1 p2 h0 n0) room3.cells room3.slots (s₁.setTop (mkF m 54 #[.val (.int p1), .val (.int p2), .val (.long ((p1 ||| (32 : Int32)).toInt64 - (97 : Int64))), .second] [(.int (-1 : Int32))]))
            refine Till.retI X0 hx hret hlk (hb hby d3_54) (by decide) (by decide) ?_
            exact ⟨(congrArg (fun z => some (Value.int z)) (Eq.symm ((if_neg hc1).trans ((if_pos hc5).trans ((if_pos hc6).trans ((if_neg hc7).trans (if_pos hc8))))))), N0, e0⟩
          · have hc8 := (mt lGt.mpr (hLt.2.2.2.2.2.1 q))
            show Till p e below s (Q3 Z p1 p2 h0 n0) room3.cells room3.slots (s₁.setTop (mkF m 47 #[.val (.int p1), .val (.int p2), .val (.long ((p1 ||| (32 : Int32)).toInt64 - (97 : Int64))), .second] []))
            refine Till.pre (fun _ hr => XS.lloadN X0.here hx rfl (hb hby d3_47) rfl hr) ?_
            show Till p e below s (Q3 Z p1 p2 h0 n0) room3.cells room3.slots (s₁.setTop (mkF m 48 #[.val (.int p1), .val (.int p2), .val (.long ((p1 ||| (32 : Int32)).toInt64 - (97 : Int64))), .second] [(.long ((p1 ||| (32 : Int32)).toInt64 - (97 : Int64)))]))
            refine Till.pre (fun _ hr => XS.l2i X0.here hx rfl (hb hby d3_48) rfl hr) ?_
            show Till p e below s (Q3 Z p1 p2 h0 n0) room3.cells room3.slots (s₁.setTop (mkF m 49 #[.val (.int p1), .val (.int p2), .val (.long ((p1 ||| (32 : Int32)).toInt64 - (97 : Int64))), .second] [(.int ((p1 ||| (32 : Int32)).toInt64 - (97 : Int64)).toInt32)]))
            refine Till.pre (fun _ hr => XS.bipush X0.here hx rfl (hb hby d3_49) hr) ?_
            show Till p e below s (Q3 Z p1 p2 h0 n0) room3.cells room3.slots (s₁.setTop (mkF m 51 #[.val (.int p1), .val (.int p2), .val (.long ((p1 ||| (32 : Int32)).toInt64 - (97 : Int64))), .second] [(.int (10 : Int32)), (.int ((p1 ||| (32 : Int32)).toInt64 - (97 : Int64)).toInt32)]))
            refine Till.pre (fun _ hr => XS.iadd X0.here hx rfl (hb hby d3_51) rfl hr) ?_
            show Till p e below s (Q3 Z p1 p2 h0 n0) room3.cells room3.slots (s₁.setTop (mkF m 52 #[.val (.int p1), .val (.int p2), .val (.long ((p1 ||| (32 : Int32)).toInt64 - (97 : Int64))), .second] [(.int (((p1 ||| (32 : Int32)).toInt64 - (97 : Int64)).toInt32 + (10 : Int32)))]))
            refine Till.retI X0 hx hret hlk (hb hby d3_52) (by decide) (by decide) ?_
            exact ⟨(congrArg (fun z => some (Value.int z)) (Eq.symm ((if_neg hc1).trans ((if_pos hc5).trans ((if_pos hc6).trans ((if_neg hc7).trans (if_neg hc8))))))), N0, e0⟩
    · have hc5 := (hLt.2.2.2.2.2.1 q)
      show Till p e below s (Q3 Z p1 p2 h0 n0) room3.cells room3.slots (s₁.setTop (mkF m 12 #[.val (.int p1), .val (.int p2), .unset, .unset] []))
      refine Till.pre (fun _ hr => XS.iloadN X0.here hx rfl (hb hby d3_12) rfl hr) ?_
      show Till p e below s (Q3 Z p1 p2 h0 n0) room3.cells room3.slots (s₁.setTop (mkF m 13 #[.val (.int p1), .val (.int p2), .unset, .unset] [(.int p1)]))
      refine Till.pre (fun _ hr => XS.bipush X0.here hx rfl (hb hby d3_13) hr) ?_
      show Till p e below s (Q3 Z p1 p2 h0 n0) room3.cells room3.slots (s₁.setTop (mkF m 15 #[.val (.int p1), .val (.int p2), .unset, .unset] [(.int (48 : Int32)), (.int p1)]))
      refine Till.pre (fun _ hr => XS.isub X0.here hx rfl (hb hby d3_15) rfl hr) ?_
      show Till p e below s (Q3 Z p1 p2 h0 n0) room3.cells room3.slots (s₁.setTop (mkF m 16 #[.val (.int p1), .val (.int p2), .unset, .unset] [(.int (p1 - (48 : Int32)))]))
      refine Till.retI X0 hx hret hlk (hb hby d3_16) (by decide) (by decide) ?_
      exact ⟨(congrArg (fun z => some (Value.int z)) (Eq.symm ((if_neg hc1).trans (if_neg hc5)))), N0, e0⟩
theorem own_or (c : Int32) : (c.toInt < 0 → (c ||| 32).toInt < 0) ∧ (128 ≤ c.toInt → 128 ≤ (c ||| 32).toInt) := by
  refine ⟨fun h => (c_orS c 32).2.1 h, fun h => ?_⟩
  have := c_or0 c 32 (by omega) (by decide)
  omega
theorem own_in : ∀ k : Fin 128, fn2 (Int32.ofNat k.val) 16 = fn3 (Int32.ofNat k.val) 16 ∧ fn2 (Int32.ofNat k.val) 10 = fn3 (Int32.ofNat k.val) 10 := by decide +kernel
theorem own_o2 (c r : Int32) (h : c.toInt < 0 ∨ 128 ≤ c.toInt) : fn2 c r = -1 := by
  unfold fn2
  repeat' split
  all_goals first | rfl | (exfalso; simp only [Int32.lt_iff_toInt_lt, Int32.reduceToInt] at *; omega)
theorem own_o3 (c r : Int32) (h : c.toInt < 0 ∨ 128 ≤ c.toInt) : fn3 c r = -1 := by
  have h1 := own_or c
  have h2 := c_i2l (c ||| 32)
  have h3 := c_lsub (c ||| 32).toInt64 97
  have h4 := rng64 ((c ||| 32).toInt64 - 97)
  have h5 := rng32 (c ||| 32)
  have l97 : (97 : Int64).toInt = 97 := rfl
  have l0 : (0 : Int64).toInt = 0 := rfl
  have l5 : (5 : Int64).toInt = 5 := rfl
  unfold fn3
  repeat' split
  all_goals first | rfl | (exfalso; simp only [Int32.lt_iff_toInt_lt, Int64.lt_iff_toInt_lt, Int32.reduceToInt] at *; omega)
theorem own_rd (c r : Int32) (h : r = 10 ∨ r = 16) : fn2 c r = fn3 c r := by
  by_cases hc : 0 ≤ c.toInt ∧ c.toInt < 128
  · have e : c = Int32.ofNat c.toInt.toNat := by
      apply Int32.toInt_inj.mp
      have := Int32.toInt_ofNat_small (n := c.toInt.toNat) (by omega)
      rw [this]; omega
    have q := own_in ⟨c.toInt.toNat, by omega⟩
    rw [e]
    rcases h with rfl | rfl
    · exact q.2
    · exact q.1
  · rw [own_o2 c r (by omega), own_o3 c r (by omega)]
theorem pd0_0 : parseMethodDescriptor "(II)I" = some ⟨[.int, .int], some .int⟩ := by decide +kernel
theorem ef_0 (m : MethodId) (p1 : Int32) (p2 : Int32) (p3 : Int32) : entryFrame m #[(.int p1), (.int p2), (.int p3)] maxLocals = mkF m 0 #[.val (.int p1), .val (.int p2), .val (.int p3), .unset, .unset, .unset] [] := by first | (simp [entryFrame, mkF, argsToLocals, Value.category, maxLocals]; done) | rfl
def Q0 (Z : State) (p1 : Int32) (p2 : Int32) (p3 : Int32) (h0 : Heap) (n0 : Nat) : Option Value → Heap → List Loc → Prop := fun v h L => v = some (.int 1) ∧ Fr n0 L
set_option maxRecDepth 65536 in
set_option maxHeartbeats 40000000 in
theorem rm0 (l : Launch) (Z : State) (a0 : Array Value) (hw : ∀ d ∈ tables_1, d.before a0 Z = true) (p1 : Int32) (p2 : Int32) (p3 : Int32) (h0 : Heap) (n0 : Nat) (Zs : n0 ≤ h0.size) : Ctr l Z x code maxLocals ret room_1 #[(.int p1), (.int p2), (.int p3)] h0 (Q0 Z p1 p2 p3 h0 n0) := by
  refine Ctr.of (plainFor_of_name pn_1) ?_
  intro p e s m below meth c s₁ hx hby hml hown hnm hret hlk hZ e0 X0
  have hown : s.vm.findClass "com/example/wolfville/wolfville/xml/XmlCharactersReferenceDigitPinLaw" = some m.cls := hown
  have hml : c.maxLocals = 6 := hml
  have hnm : meth.name = "law" := hnm
  have hret : meth.sig.returnType = (some .boolean) := hret
  have N0 := Fr.nil n0
  refine Till.cast (ef_0 m p1 p2 p3) ?_
  show Till p e below s (Q0 Z p1 p2 p3 h0 n0) room_1.cells room_1.slots (s₁.setTop (mkF m 0 #[.val (.int p1), .val (.int p2), .val (.int p3), .unset, .unset, .unset] []))
  refine Till.pre (fun _ hr => XS.iloadN X0.here hx rfl (hb hby at_0) rfl hr) ?_
  show Till p e below s (Q0 Z p1 p2 p3 h0 n0) room_1.cells room_1.slots (s₁.setTop (mkF m 1 #[.val (.int p1), .val (.int p2), .val (.int p3), .unset, .unset, .unset] [(.int p2)]))
  refine Till.pre (fun _ hr => XS.iconst X0.here hx rfl (hb hby at_1) hr) ?_
  show Till p e below s (Q0 Z p1 p2 p3 h0 n0) room_1.cells room_1.slots (s₁.setTop (mkF m 2 #[.val (.int p1), .val (.int p2), .val (.int p3), .unset, .unset, .unset] [(.int (1 : Int32)), (.int p2)]))
  refine Till.pre (fun _ hr => XS.iand X0.here hx rfl (hb hby at_2) rfl hr) ?_
  show Till p e below s (Q0 Z p1 p2 p3 h0 n0) room_1.cells room_1.slots (s₁.setTop (mkF m 3 #[.val (.int p1), .val (.int p2), .val (.int p3), .unset, .unset, .unset] [(.int (p2 &&& (1 : Int32)))]))
  have J13_1 : ∀ (v13s0 : Int32) (hv13s0 : v13s0 = (if ((p2 &&& (1 : Int32)) = (0 : Int32)) then (10 : Int32) else (16 : Int32))), Till p e below s (Q0 Z p1 p2 p3 h0 n0) room_1.cells room_1.slots (s₁.setTop (mkF m 13 #[.val (.int p1), .val (.int p2), .val (.int p3), .unset, .unset, .unset] [(.int v13s0)])) := by
    intro v13s0 hv13s0
    show Till p e below s (Q0 Z p1 p2 p3 h0 n0) room_1.cells room_1.slots (s₁.setTop (mkF m 13 #[.val (.int p1), .val (.int p2), .val (.int p3), .unset, .unset, .unset] [(.int v13s0)]))
    refine Till.pre (fun _ hr => XS.istoreN X0.here hx rfl (hb hby at_13) rfl (l' := #[.val (.int p1), .val (.int p2), .val (.int p3), .val (.int v13s0), .unset, .unset]) rfl hr) ?_
    show Till p e below s (Q0 Z p1 p2 p3 h0 n0) room_1.cells room_1.slots (s₁.setTop (mkF m 14 #[.val (.int p1), .val (.int p2), .val (.int p3), .val (.int v13s0), .unset, .unset] []))
    refine Till.pre (fun _ hr => XS.iloadN X0.here hx rfl (hb hby at_14) rfl hr) ?_
    show Till p e below s (Q0 Z p1 p2 p3 h0 n0) room_1.cells room_1.slots (s₁.setTop (mkF m 15 #[.val (.int p1), .val (.int p2), .val (.int p3), .val (.int v13s0), .unset, .unset] [(.int p1)]))
    refine Till.pre (fun _ hr => XS.iloadN X0.here hx rfl (hb hby at_15) rfl hr) ?_
    show Till p e below s (Q0 Z p1 p2 p3 h0 n0) room_1.cells room_1.slots (s₁.setTop (mkF m 16 #[.val (.int p1), .val (.int p2), .val (.int p3), .val (.int v13s0), .unset, .unset] [(.int p3), (.int p1)]))
    refine Till.callS (rm1 l Z a0 hw p1 p3 h0 n0) X0 hx hZ hown (hw _ (List.mem_of_getElem? (i := 0) rfl)) (hw _ (List.mem_of_getElem? (i := 1) rfl)) (hw _ (List.mem_of_getElem? (i := 2) rfl)) (hw _ (List.mem_of_getElem? (i := 3) rfl)) (by decide) (by decide) (W := 0) (by decide) (by rw [hml]; rfl) (argsL := [(.int p1), (.int p3)]) (rest := []) (lenOf pd0_0 rfl) rfl rfl (Nat.le_of_eq rfl) (hb hby at_16) e0 (by decide) (by decide) ?_
    rintro _ T3 L4 X5 ⟨rfl, N6, e7⟩
    have N6 := Fr.app N0 N6
    show Till p e below s (Q0 Z p1 p2 p3 h0 n0) room_1.cells room_1.slots (T3.setTop (mkF m 19 #[.val (.int p1), .val (.int p2), .val (.int p3), .val (.int v13s0), .unset, .unset] [(.int (fn1 p1 p3))]))
    refine Till.pre (fun _ hr => XS.istore X5.here hx rfl (hb hby at_19) rfl (l' := #[.val (.int p1), .val (.int p2), .val (.int p3), .val (.int v13s0), .val (.int (fn1 p1 p3)), .unset]) rfl hr) ?_
    show Till p e below s (Q0 Z p1 p2 p3 h0 n0) room_1.cells room_1.slots (T3.setTop (mkF m 21 #[.val (.int p1), .val (.int p2), .val (.int p3), .val (.int v13s0), .val (.int (fn1 p1 p3)), .unset] []))
    refine Till.pre (fun _ hr => XS.iload X5.here hx rfl (hb hby at_21) rfl hr) ?_
    show Till p e below s (Q0 Z p1 p2 p3 h0 n0) room_1.cells room_1.slots (T3.setTop (mkF m 23 #[.val (.int p1), .val (.int p2), .val (.int p3), .val (.int v13s0), .val (.int (fn1 p1 p3)), .unset] [(.int (fn1 p1 p3))]))
    refine Till.pre (fun _ hr => XS.iloadN X5.here hx rfl (hb hby at_23) rfl hr) ?_
    show Till p e below s (Q0 Z p1 p2 p3 h0 n0) room_1.cells room_1.slots (T3.setTop (mkF m 24 #[.val (.int p1), .val (.int p2), .val (.int p3), .val (.int v13s0), .val (.int (fn1 p1 p3)), .unset] [(.int v13s0), (.int (fn1 p1 p3))]))
    refine Till.callS (rm2 l Z a0 hw (fn1 p1 p3) v13s0 h0 n0) X5 hx hZ hown (hw _ (List.mem_of_getElem? (i := 4) rfl)) (hw _ (List.mem_of_getElem? (i := 5) rfl)) (hw _ (List.mem_of_getElem? (i := 6) rfl)) (hw _ (List.mem_of_getElem? (i := 7) rfl)) (by decide) (by decide) (W := 0) (by decide) (by rw [hml]; rfl) (argsL := [(.int (fn1 p1 p3)), (.int v13s0)]) (rest := []) (lenOf pd0_0 rfl) rfl rfl (Nat.le_of_eq rfl) (hb hby at_24) e7 (by decide) (by decide) ?_
    rintro _ T8 L9 X10 ⟨rfl, N11, e12⟩
    have N11 := Fr.app N6 N11
    show Till p e below s (Q0 Z p1 p2 p3 h0 n0) room_1.cells room_1.slots (T8.setTop (mkF m 27 #[.val (.int p1), .val (.int p2), .val (.int p3), .val (.int v13s0), .val (.int (fn1 p1 p3)), .unset] [(.int (fn2 (fn1 p1 p3) v13s0))]))
    refine Till.pre (fun _ hr => XS.istore X10.here hx rfl (hb hby at_27) rfl (l' := #[.val (.int p1), .val (.int p2), .val (.int p3), .val (.int v13s0), .val (.int (fn1 p1 p3)), .val (.int (fn2 (fn1 p1 p3) v13s0))]) rfl hr) ?_
    show Till p e below s (Q0 Z p1 p2 p3 h0 n0) room_1.cells room_1.slots (T8.setTop (mkF m 29 #[.val (.int p1), .val (.int p2), .val (.int p3), .val (.int v13s0), .val (.int (fn1 p1 p3)), .val (.int (fn2 (fn1 p1 p3) v13s0))] []))
    refine Till.pre (fun _ hr => XS.iload X10.here hx rfl (hb hby at_29) rfl hr) ?_
    show Till p e below s (Q0 Z p1 p2 p3 h0 n0) room_1.cells room_1.slots (T8.setTop (mkF m 31 #[.val (.int p1), .val (.int p2), .val (.int p3), .val (.int v13s0), .val (.int (fn1 p1 p3)), .val (.int (fn2 (fn1 p1 p3) v13s0))] [(.int (fn2 (fn1 p1 p3) v13s0))]))
    refine Till.pre (fun _ hr => XS.iload X10.here hx rfl (hb hby at_31) rfl hr) ?_
    show Till p e below s (Q0 Z p1 p2 p3 h0 n0) room_1.cells room_1.slots (T8.setTop (mkF m 33 #[.val (.int p1), .val (.int p2), .val (.int p3), .val (.int v13s0), .val (.int (fn1 p1 p3)), .val (.int (fn2 (fn1 p1 p3) v13s0))] [(.int (fn1 p1 p3)), (.int (fn2 (fn1 p1 p3) v13s0))]))
    refine Till.pre (fun _ hr => XS.iloadN X10.here hx rfl (hb hby at_33) rfl hr) ?_
    show Till p e below s (Q0 Z p1 p2 p3 h0 n0) room_1.cells room_1.slots (T8.setTop (mkF m 34 #[.val (.int p1), .val (.int p2), .val (.int p3), .val (.int v13s0), .val (.int (fn1 p1 p3)), .val (.int (fn2 (fn1 p1 p3) v13s0))] [(.int v13s0), (.int (fn1 p1 p3)), (.int (fn2 (fn1 p1 p3) v13s0))]))
    refine Till.callS (rm3 l Z a0 hw (fn1 p1 p3) v13s0 h0 n0) X10 hx hZ hown (hw _ (List.mem_of_getElem? (i := 8) rfl)) (hw _ (List.mem_of_getElem? (i := 9) rfl)) (hw _ (List.mem_of_getElem? (i := 2) rfl)) (hw _ (List.mem_of_getElem? (i := 10) rfl)) (by decide) (by decide) (W := 1) (by decide) (by rw [hml]; rfl) (argsL := [(.int (fn1 p1 p3)), (.int v13s0)]) (rest := [(.int (fn2 (fn1 p1 p3) v13s0))]) (lenOf pd0_0 rfl) rfl rfl (Nat.le_of_eq rfl) (hb hby at_34) e12 (by decide) (by decide) ?_
    rintro _ T13 L14 X15 ⟨rfl, N16, e17⟩
    have N16 := Fr.app N11 N16
    show Till p e below s (Q0 Z p1 p2 p3 h0 n0) room_1.cells room_1.slots (T13.setTop (mkF m 37 #[.val (.int p1), .val (.int p2), .val (.int p3), .val (.int v13s0), .val (.int (fn1 p1 p3)), .val (.int (fn2 (fn1 p1 p3) v13s0))] [(.int (fn3 (fn1 p1 p3) v13s0)), (.int (fn2 (fn1 p1 p3) v13s0))]))
    have J45_18 : ∀ (v45s0 : Int32) (hv45s0 : v45s0 = (if ((fn2 (fn1 p1 p3) v13s0) = (fn3 (fn1 p1 p3) v13s0)) then (1 : Int32) else (0 : Int32))), Till p e below s (Q0 Z p1 p2 p3 h0 n0) room_1.cells room_1.slots (T13.setTop (mkF m 45 #[.val (.int p1), .val (.int p2), .val (.int p3), .val (.int v13s0), .val (.int (fn1 p1 p3)), .val (.int (fn2 (fn1 p1 p3) v13s0))] [(.int v45s0)])) := by
      intro v45s0 hv45s0
      show Till p e below s (Q0 Z p1 p2 p3 h0 n0) room_1.cells room_1.slots (T13.setTop (mkF m 45 #[.val (.int p1), .val (.int p2), .val (.int p3), .val (.int v13s0), .val (.int (fn1 p1 p3)), .val (.int (fn2 (fn1 p1 p3) v13s0))] [(.int v45s0)]))
      refine Till.retZ (w := (1 : Int32)) X15 hx hret hlk (hb hby at_45) (by decide) (by decide) (by rw [hv45s0, if_pos (own_rd _ _ (by rw [hv13s0]; split <;> simp))]; decide) ?_
      exact ⟨rfl, N16⟩
    refine Till.icmp (pc' := 44) X15.here hx (hb hby at_37) (by decide) (by decide) (fun q => ?_) (fun q => ?_)
    · have hc18 := (hEq.2.2.1 q)
      show Till p e below s (Q0 Z p1 p2 p3 h0 n0) room_1.cells room_1.slots (T13.setTop (mkF m 44 #[.val (.int p1), .val (.int p2), .val (.int p3), .val (.int v13s0), .val (.int (fn1 p1 p3)), .val (.int (fn2 (fn1 p1 p3) v13s0))] []))
      refine Till.pre (fun _ hr => XS.iconst X15.here hx rfl (hb hby at_44) hr) ?_
      show Till p e below s (Q0 Z p1 p2 p3 h0 n0) room_1.cells room_1.slots (T13.setTop (mkF m 45 #[.val (.int p1), .val (.int p2), .val (.int p3), .val (.int v13s0), .val (.int (fn1 p1 p3)), .val (.int (fn2 (fn1 p1 p3) v13s0))] [(.int (0 : Int32))]))
      exact J45_18 _ (Eq.symm (if_neg hc18))
    · have hc18 := (hEq.2.2.2 q)
      show Till p e below s (Q0 Z p1 p2 p3 h0 n0) room_1.cells room_1.slots (T13.setTop (mkF m 40 #[.val (.int p1), .val (.int p2), .val (.int p3), .val (.int v13s0), .val (.int (fn1 p1 p3)), .val (.int (fn2 (fn1 p1 p3) v13s0))] []))
      refine Till.pre (fun _ hr => XS.iconst X15.here hx rfl (hb hby at_40) hr) ?_
      show Till p e below s (Q0 Z p1 p2 p3 h0 n0) room_1.cells room_1.slots (T13.setTop (mkF m 41 #[.val (.int p1), .val (.int p2), .val (.int p3), .val (.int v13s0), .val (.int (fn1 p1 p3)), .val (.int (fn2 (fn1 p1 p3) v13s0))] [(.int (1 : Int32))]))
      refine Till.pre (fun _ hr => XS.goto X15.here hx rfl (pc0 := 41) (pc' := 45) rfl (hb hby at_41) (by decide) (by decide) hr) ?_
      show Till p e below s (Q0 Z p1 p2 p3 h0 n0) room_1.cells room_1.slots (T13.setTop (mkF m 45 #[.val (.int p1), .val (.int p2), .val (.int p3), .val (.int v13s0), .val (.int (fn1 p1 p3)), .val (.int (fn2 (fn1 p1 p3) v13s0))] [(.int (1 : Int32))]))
      exact J45_18 _ (Eq.symm (if_pos hc18))
  refine Till.ifc (pc' := 11) X0.here hx (hb hby at_3) (by decide) (by decide) (fun q => ?_) (fun q => ?_)
  · have hc1 := (hEq.1 q)
    show Till p e below s (Q0 Z p1 p2 p3 h0 n0) room_1.cells room_1.slots (s₁.setTop (mkF m 11 #[.val (.int p1), .val (.int p2), .val (.int p3), .unset, .unset, .unset] []))
    refine Till.pre (fun _ hr => XS.bipush X0.here hx rfl (hb hby at_11) hr) ?_
    show Till p e below s (Q0 Z p1 p2 p3 h0 n0) room_1.cells room_1.slots (s₁.setTop (mkF m 13 #[.val (.int p1), .val (.int p2), .val (.int p3), .unset, .unset, .unset] [(.int (10 : Int32))]))
    exact J13_1 _ (Eq.symm (if_pos hc1))
  · have hc1 := (hEq.2.1 q)
    show Till p e below s (Q0 Z p1 p2 p3 h0 n0) room_1.cells room_1.slots (s₁.setTop (mkF m 6 #[.val (.int p1), .val (.int p2), .val (.int p3), .unset, .unset, .unset] []))
    refine Till.pre (fun _ hr => XS.bipush X0.here hx rfl (hb hby at_6) hr) ?_
    show Till p e below s (Q0 Z p1 p2 p3 h0 n0) room_1.cells room_1.slots (s₁.setTop (mkF m 8 #[.val (.int p1), .val (.int p2), .val (.int p3), .unset, .unset, .unset] [(.int (16 : Int32))]))
    refine Till.pre (fun _ hr => XS.goto X0.here hx rfl (pc0 := 8) (pc' := 13) rfl (hb hby at_8) (by decide) (by decide) hr) ?_
    show Till p e below s (Q0 Z p1 p2 p3 h0 n0) room_1.cells room_1.slots (s₁.setTop (mkF m 13 #[.val (.int p1), .val (.int p2), .val (.int p3), .unset, .unset, .unset] [(.int (16 : Int32))]))
    exact J13_1 _ (Eq.symm (if_neg hc1))
set_option maxRecDepth 65536 in
set_option maxHeartbeats 40000000 in
theorem comes_1 {Post : Tables → Env → Array Value → State → Outcome → State → Prop} (hpost : ∀ tb e args s v u, (limb_1_1.after args s (.returned v) u = true ∧ limb_1_2.after args s (.returned v) u = true ∧ True) → FrameEnd s (.returned v) u (Jvm.fieldLocs frame_1_writes args s ++ Jvm.arrayLocs frame_1_arrays args s ++ Jvm.staticLocs frame_1_statics s) 0 0 → Post tb e args s (.returned v) u) :
    ArmFor flags0 classFile x code maxLocals ret World_1 tables_1 room_1 Calls_1 rest_1 Pre_1 Post := by
  intro l hfl _ _ p e ha hc hk s m args below hf hA hF happ hP
  obtain ⟨hcalls, hrest, hpre⟩ := hP
  obtain ⟨-, -, -, hnamed, -, -, -, hat⟩ := (Spec.applies_iff hf).mp happ
  obtain ⟨hg, hn⟩ := and_e (Cond.before_iff.mp (show (Jvm.Cond.and given_1 narrow_1).before args s = true from hpre))
  obtain ⟨h1, hg⟩ := and_e hg
  obtain ⟨k0, hg⟩ := and_e hg
  obtain ⟨k1, hg⟩ := and_e hg
  have k2 := hg
  obtain ⟨w0, w1, w2, rfl⟩ : ∃ w0 w1 w2 : Value, args = #[w0, w1, w2] := by
    have hs : args.size = 3 := by simpa [Cond.value, given_1] using h1
    obtain ⟨L⟩ := args
    match L, hs with
    | [w0, w1, w2], _ => exact ⟨w0, w1, w2, rfl⟩
  have hw := fun d (hd : d ∈ tables_1) => atoms_spec (ws := Jvm.Cond.code x code maxLocals ret :: tables_1) hat d (List.mem_cons_of_mem _ hd)
  obtain ⟨i0, ei0⟩ := is_v k0
  obtain rfl : w0 = (.int i0) := Option.some.inj ei0
  obtain ⟨i1, ei1⟩ := is_v k1
  obtain rfl : w1 = (.int i1) := Option.some.inj ei1
  obtain ⟨i2, ei2⟩ := is_v k2
  obtain rfl : w2 = (.int i2) := Option.some.inj ei2
  obtain ⟨n, o, h1, h2, h3, _, L, rfl, ⟨rfl, N⟩, hq⟩ := rm0 l s _ hw i0 i1 i2 s.heap s.heap.size (Nat.le_refl _) tables_1 p e ha hc hk s m _ below hf ((Spec.applies_iff_loose hf).mp happ).1 ⟨rfl, State.Warmed39.refl s, rfl⟩ trivial
  refine ⟨n, _, h1, h2, h3, hpost _ _ _ _ _ _ ⟨Cond.after_iff.mpr rfl, Cond.after_iff.mpr (eq_i res_at (Term.int_eval (1)) rfl), trivial⟩ ⟨hq.1, hq.2.1, (hq.2.2.sift fun y hy => Or.inr (N y hy)).mono (by decide) (by decide)⟩⟩
theorem main_1_1 : Claimed_1_1 := comes_1 fun _ _ _ _ _ _ h hF => ⟨h.1, hF⟩
theorem main_1_2 : Claimed_1_2 := comes_1 fun _ _ _ _ _ _ h hF => ⟨h.2.1, hF⟩
end Jvm.Pilot.@@N@@
namespace Jvm.Pilot.@@N@@
open Jvm Jvm.ClassFile Sem Op Lib Jvm.Free Jvm.Stand Jvm.Pilot.@@N@@.Jvm.D
/-! MADE BY PROGRAM (witnessworld.py) out of the Statement's table words and the real class files: 7 classes; the members and pool entries that the words name. The judged class is class 1, her method 3. -/
namespace start1
open Jvm.ClassFile
def u (s : String) : CpInfo := .utf8 (stringToUtf16 s)
/-- a pool by its gaps: so many unusable entries, then the entry; so many at the end -/
def gap : Nat → List CpInfo → List CpInfo
  | 0, r => r
  | n + 1, r => .unusable :: gap n r
def poolList (es : List (Nat × CpInfo)) (last : Nat) : List CpInfo := es.foldr (fun e r => gap e.1 (e.2 :: r)) (gap last [])
def pool (es : List (Nat × CpInfo)) (last : Nat) : Array CpInfo := ⟨poolList es last⟩
def fileOf (pool : Array CpInfo) (this : Nat) (attrs : Array Attribute := #[]) (ms : Array MethodInfo := #[]) (fl : Nat := 33) (sup : Nat := 0) (ifs : Array Nat := #[]) (fds : Array FieldInfo := #[]) : ClassFile where
  minorVersion := 0
  majorVersion := 65
  constantPool := pool
  accessFlags := fl
  thisClass := this
  superClass := sup
  interfaces := ifs
  fields := fds
  methods := ms
  attributes := attrs
def plain (name : String) (sup : Option ClassId) : Class where
  name := name
  kind := .ordinary
  loader := none
  accessFlags := 33
  super := sup
  interfaces := #[]
  cf := none
  fields := #[]
  methods := #[]
  instanceTypes := #[]
  staticTypes := #[]
  resolved := #[]
  callSites := []
  init := .initialized
  statics := none
  mirror := none

def pool0 : Array CpInfo := pool [(5, u "<init>"), (0, u "()V"), (1, .class_ 10), (1, u "java/lang/Object")] 113

def k0m0 : Method := { name := "<init>", desc := "()V", sig := { parameters := [], returnType := none }, accessFlags := 1, code := none }
/-- java/lang/Object -/
def k0 : Class := { plain "java/lang/Object" none with
  accessFlags := 33
  interfaces := #[]
  cf := some (fileOf pool0 8 #[] #[{ accessFlags := 1, nameIndex := 5, descriptorIndex := 6, attributes := #[] }] 33 0 #[] #[])
  fields := #[]
  methods := #[k0m0]
  instanceTypes := #[]
  staticTypes := #[]
  resolved := Array.replicate 124 none
  statics := none }

def pool1 : Array CpInfo := pool [(2, .class_ 4), (1, u "java/lang/Object"), (0, u "<init>"), (0, u "()V"), (0, .long 97), (1, .long 5), (1, .methodref 12 13), (0, .class_ 14), (0, .nameAndType 15 16), (0, u "com/example/wolfville/wolfville/xml/XmlCharactersReferenceDigitPinLaw"), (0, u "pick"), (0, u "(II)I"), (0, .methodref 18 19), (0, .class_ 20), (0, .nameAndType 21 16), (0, u "com/example/wolfville/wolfville/xml/XmlCharacters"), (0, u "referenceDigit"), (0, .methodref 12 23), (0, .nameAndType 24 16), (0, u "expected"), (3, u "law"), (0, u "(III)Z")] 2

def k1m0 : Method := { name := "<init>", desc := "()V", sig := { parameters := [], returnType := none }, accessFlags := 2, code := none }
def k1c1 : Code := { maxStack := 3, maxLocals := 3, code := method_2_code, exceptionTable := #[], attributes := #[] }
def k1m1 : Method := { name := "pick", desc := "(II)I", sig := { parameters := [.int, .int], returnType := some .int }, accessFlags := 10, code := some k1c1 }
def k1c2 : Code := { maxStack := 4, maxLocals := 4, code := method_3_code, exceptionTable := #[], attributes := #[] }
def k1m2 : Method := { name := "expected", desc := "(II)I", sig := { parameters := [.int, .int], returnType := some .int }, accessFlags := 10, code := some k1c2 }
def k1c3 : Code := { maxStack := 3, maxLocals := 6, code := code, exceptionTable := #[], attributes := #[] }
def k1m3 : Method := { name := "law", desc := "(III)Z", sig := { parameters := [.int, .int, .int], returnType := some .boolean }, accessFlags := 9, code := some k1c3 }
/-- com/example/wolfville/wolfville/xml/XmlCharactersReferenceDigitPinLaw -/
def k1 : Class := { plain "com/example/wolfville/wolfville/xml/XmlCharactersReferenceDigitPinLaw" (some 0) with
  accessFlags := 49
  interfaces := #[]
  cf := some (fileOf pool1 12 #[] #[{ accessFlags := 2, nameIndex := 5, descriptorIndex := 6, attributes := #[] }, { accessFlags := 10, nameIndex := 15, descriptorIndex := 16, attributes := #[] }, { accessFlags := 10, nameIndex := 24, descriptorIndex := 16, attributes := #[] }, { accessFlags := 9, nameIndex := 28, descriptorIndex := 29, attributes := #[] }] 49 2 #[] #[])
  fields := #[]
  methods := #[k1m0, k1m1, k1m2, k1m3]
  instanceTypes := #[]
  staticTypes := #[]
  resolved := Array.replicate 32 none
  statics := none }

def pool2 : Array CpInfo := pool [(2, .class_ 4), (1, u "java/lang/Object"), (0, u "<init>"), (0, u "()V"), (6, .class_ 15), (1, u "com/example/wolfville/wolfville/xml/XmlCharacters"), (0, u "NAME_START_RANGES"), (0, u "[I"), (10, u "NAME_ONLY_RANGES"), (34, u "(II)I"), (5, u "PREDEFINED_ENTITIES"), (0, u "Ljava/util/Map;"), (42, .class_ 114), (0, u "com/example/wolfville/wolfville/xml/XmlCharacters$SpaceCollapse"), (70, u "referenceDigit")] 39

def k2m0 : Method := { name := "<init>", desc := "()V", sig := { parameters := [], returnType := none }, accessFlags := 2, code := none }
def k2c1 : Code := { maxStack := 2, maxLocals := 3, code := prog_208_method_14_code, exceptionTable := #[], attributes := #[] }
def k2m1 : Method := { name := "referenceDigit", desc := "(II)I", sig := { parameters := [.int, .int], returnType := some .int }, accessFlags := 9, code := some k2c1 }
/-- com/example/wolfville/wolfville/xml/XmlCharacters -/
def k2 : Class := { plain "com/example/wolfville/wolfville/xml/XmlCharacters" (some 0) with
  accessFlags := 49
  interfaces := #[]
  cf := some (fileOf pool2 13 #[.nestMembers #[113]] #[{ accessFlags := 2, nameIndex := 5, descriptorIndex := 6, attributes := #[] }, { accessFlags := 9, nameIndex := 185, descriptorIndex := 63, attributes := #[] }] 49 2 #[] #[{ accessFlags := 26, nameIndex := 16, descriptorIndex := 17, attributes := #[] }, { accessFlags := 26, nameIndex := 28, descriptorIndex := 17, attributes := #[] }, { accessFlags := 26, nameIndex := 69, descriptorIndex := 70, attributes := #[] }])
  fields := #[{ name := "NAME_START_RANGES", type := (.array .int), accessFlags := 26, slot := 0, constantValue := 0 }, { name := "NAME_ONLY_RANGES", type := (.array .int), accessFlags := 26, slot := 1, constantValue := 0 }, { name := "PREDEFINED_ENTITIES", type := (.object "java/util/Map"), accessFlags := 26, slot := 2, constantValue := 0 }]
  methods := #[k2m0, k2m1]
  instanceTypes := #[]
  staticTypes := #[(.array .int), (.array .int), (.object "java/util/Map")]
  resolved := Array.replicate 225 none
  statics := none }

def pool3 : Array CpInfo := pool [(1, u "java/lang/Cloneable"), (0, .class_ 1), (0, u "java/lang/Object"), (0, .class_ 3)] 3

/-- java/lang/Cloneable -/
def k3 : Class := { plain "java/lang/Cloneable" (some 0) with
  accessFlags := 1537
  interfaces := #[]
  cf := some (fileOf pool3 2 #[] #[] 1537 4 #[] #[])
  fields := #[]
  methods := #[]
  instanceTypes := #[]
  staticTypes := #[]
  resolved := Array.replicate 8 none
  statics := none }

def pool4 : Array CpInfo := pool [(1, u "java/io/Serializable"), (0, .class_ 1), (0, u "java/lang/Object"), (0, .class_ 3)] 3

/-- java/io/Serializable -/
def k4 : Class := { plain "java/io/Serializable" (some 0) with
  accessFlags := 1537
  interfaces := #[]
  cf := some (fileOf pool4 2 #[] #[] 1537 4 #[] #[])
  fields := #[]
  methods := #[]
  instanceTypes := #[]
  staticTypes := #[]
  resolved := Array.replicate 8 none
  statics := none }

/-- the primitive byte -/
def k5 : Class := { plain "byte" none with kind := .primitive 'B', accessFlags := 0x411 }
/-- [B -/
def k6 : Class := { plain "[B" (some 0) with kind := .array 5 .byte, interfaces := #[3, 4], accessFlags := 1041 }

def heap : Heap := #[]
def classes : Array Class := #[k0, k1, k2, k3, k4, k5, k6]
def interned : List (Array UInt16 × Addr) := []
def slotsUsed : Nat := 0
def theMethod : MethodId := ⟨1, 3⟩
def args0 : Array Value := #[.int 5, .int 5, .int 5]
def aboutOver (below : List Frame) : State where
  vm := { classes := classes, interned := interned.toArray }
  heap := heap
  slotsUsed := slotsUsed
  threads := #[{ frames := .invoking theMethod args0 :: below }]
def below0 : List Frame := [.native { method := ⟨0, 0⟩, args := #[] }]
def about1 : State := aboutOver below0
def p0 : Program := .bare "" "" ""
def e0 : Env := launch0.env 0 0 0
theorem w_frames : about1.frames = Frame.invoking theMethod args0 :: below0 := rfl
set_option maxRecDepth 65536 in
theorem w_args : argsFit about1.vm theMethod args0 = true := by decide +kernel
set_option maxRecDepth 65536 in
theorem w_heap : heapFits about1 = true := by decide +kernel
set_option maxRecDepth 65536 in
theorem w_runnable : about1.curStatus? = some .runnable := by decide +kernel
set_option maxRecDepth 65536 in
theorem w_alone : about1.alone = true := by decide +kernel
set_option maxRecDepth 65536 in
theorem w_named : about1.methodNamed? x = some theMethod := by decide +kernel
set_option maxRecDepth 65536 in
theorem w_hears : about1.hears theMethod below0 = true := by decide +kernel
set_option maxRecDepth 65536 in
theorem w_ripe : about1.ripe theMethod args0 below0 = true := by decide +kernel
theorem w_running : about1.status = .running := rfl
set_option maxRecDepth 65536 in
theorem w_room : about1.hasRoom e0.platform room_1 = true :=
  launch0.hasRoom_least _ room_1 (by decide +kernel) (by decide +kernel) (by decide +kernel) (by decide +kernel) (by decide +kernel) (by decide +kernel)
theorem allAtoms_all (ts : List Jvm.Cond) (a : Array Jvm.Value) (st : Jvm.State) : (allAtoms ts).before a st = ts.all (fun c => c.before a st) := by
  induction ts with
  | nil => rfl
  | cons c t ih =>
    show (Jvm.Cond.and c (allAtoms t)).before a st = _
    rw [Jvm.Cond.before_and, ih, List.all_cons]
def words1 : List Jvm.Cond := Jvm.Cond.code x code maxLocals ret :: tables_1
/-- a 'code' word, met by the world's own term for the bytes: nothing is compared byte by byte -/
theorem code_word {y : MethodName} {bytes : ByteArray} {mx : Nat} {rt : Option FieldType} {a : Array Value} {s : State} {m : MethodId} {meth : Method} {c : Code} (h1 : s.methodNamed? y = some m) (h2 : s.vm.method? m = some meth) (h3 : meth.code = some c) (h4 : c.code = bytes)
    (h5 : (c.maxLocals == mx && c.exceptionTable.isEmpty && decide (c.maxStack ≤ mostOperands) && decide (meth.sig.returnType = rt) && !meth.locks && decide (parseMethodDescriptor y.desc = some meth.sig)) = true) : (Jvm.Cond.code y bytes mx rt).before a s = true := by
  simp only [Bool.and_eq_true, beq_iff_eq, Bool.not_eq_true', decide_eq_true_eq] at h5
  obtain ⟨⟨⟨⟨⟨g1, g2⟩, g3⟩, g4⟩, g5⟩, g6⟩ := h5
  simp [Cond.before, Cond.holds, Cond.value, h1, h2, h3, h4, g1, g2, g3, g4, g5, g6]
def isCode : Jvm.Cond → Bool
  | .code _ _ _ _ => true
  | _ => false
theorem all_split {L : List Jvm.Cond} {P : Jvm.Cond → Bool} (h1 : L.all (fun c => isCode c || P c) = true) (h2 : ∀ c ∈ L.filter isCode, P c = true) : L.all P = true := by
  refine List.all_eq_true.mpr fun c hc => ?_
  have h := List.all_eq_true.mp h1 c hc
  rcases Bool.eq_false_or_eq_true (isCode c) with hi | hi
  · exact h2 c (List.mem_filter.mpr ⟨hc, hi⟩)
  · simpa [hi] using h
set_option maxRecDepth 65536 in
theorem w_c0 : (Jvm.Cond.code x code maxLocals ret).before args0 about1 = true := code_word (m := ⟨1, 3⟩) (meth := k1m3) (c := k1c3) (by decide +kernel) rfl rfl rfl (by decide +kernel)
set_option maxRecDepth 65536 in
theorem w_c1 : (Jvm.Cond.code ({ cls := "com/example/wolfville/wolfville/xml/XmlCharactersReferenceDigitPinLaw", name := "pick", desc := "(II)I" } : Jvm.MethodName) method_2_code (3 : Nat) (Option.some Jvm.ClassFile.FieldType.int)).before args0 about1 = true := code_word (m := ⟨1, 1⟩) (meth := k1m1) (c := k1c1) (by decide +kernel) rfl rfl rfl (by decide +kernel)
set_option maxRecDepth 65536 in
theorem w_c2 : (Jvm.Cond.code ({ cls := "com/example/wolfville/wolfville/xml/XmlCharacters", name := "referenceDigit", desc := "(II)I" } : Jvm.MethodName) prog_208_method_14_code (3 : Nat) (Option.some Jvm.ClassFile.FieldType.int)).before args0 about1 = true := code_word (m := ⟨2, 1⟩) (meth := k2m1) (c := k2c1) (by decide +kernel) rfl rfl rfl (by decide +kernel)
set_option maxRecDepth 65536 in
theorem w_c3 : (Jvm.Cond.code ({ cls := "com/example/wolfville/wolfville/xml/XmlCharactersReferenceDigitPinLaw", name := "expected", desc := "(II)I" } : Jvm.MethodName) method_3_code (4 : Nat) (Option.some Jvm.ClassFile.FieldType.int)).before args0 about1 = true := code_word (m := ⟨1, 2⟩) (meth := k1m2) (c := k1c2) (by decide +kernel) rfl rfl rfl (by decide +kernel)
def codes1 : List Jvm.Cond := [Jvm.Cond.code x code maxLocals ret, Jvm.Cond.code ({ cls := "com/example/wolfville/wolfville/xml/XmlCharactersReferenceDigitPinLaw", name := "pick", desc := "(II)I" } : Jvm.MethodName) method_2_code (3 : Nat) (Option.some Jvm.ClassFile.FieldType.int), Jvm.Cond.code ({ cls := "com/example/wolfville/wolfville/xml/XmlCharacters", name := "referenceDigit", desc := "(II)I" } : Jvm.MethodName) prog_208_method_14_code (3 : Nat) (Option.some Jvm.ClassFile.FieldType.int), Jvm.Cond.code ({ cls := "com/example/wolfville/wolfville/xml/XmlCharactersReferenceDigitPinLaw", name := "expected", desc := "(II)I" } : Jvm.MethodName) method_3_code (4 : Nat) (Option.some Jvm.ClassFile.FieldType.int)]
set_option maxRecDepth 65536 in
theorem codes_eq : words1.filter isCode = codes1 := rfl
theorem w_codes : ∀ c ∈ words1.filter isCode, c.before args0 about1 = true := by
  rw [codes_eq]
  intro c hc
  simp only [codes1, List.mem_cons, List.not_mem_nil, or_false] at hc
  rcases hc with rfl | rfl | rfl | rfl
  · exact w_c0
  · exact w_c1
  · exact w_c2
  · exact w_c3
set_option maxRecDepth 65536 in
theorem w_t1 : words1.all (fun c => isCode c || c.before args0 about1) = true := by decide +kernel
theorem w_tables : (allAtoms (Jvm.Cond.code x code maxLocals ret :: tables_1)).before args0 about1 = true := by
  rw [allAtoms_all]
  show words1.all (fun c => c.before args0 about1) = true
  refine all_split ?_ w_codes
  rw [w_t1]
set_option maxRecDepth 65536 in
theorem w_case : (Jvm.Cond.and given_1 narrow_1).before args0 about1 = true := by decide +kernel
theorem w_applies : (headSpec (Jvm.Cond.code x code maxLocals ret :: tables_1) room_1).applies x e0.platform about1 = true :=
  (Spec.applies_iff w_frames).mpr ⟨w_running, w_runnable, w_alone, w_named, w_hears, w_ripe, w_room, w_tables⟩
theorem atStart : AtStart classFile x code maxLocals ret World_1 tables_1 room_1 Calls_1 rest_1 Pre_1 launch0 p0 e0 about1 theMethod args0 below0 :=
  ⟨lists_1, trivial, launch0.admits_env _ _ _, launch0.least_env, fairChoices_fair.cas, fairChoices_fair.clock, w_frames, w_args, w_heap, w_applies, trivial, trivial, w_case⟩
end start1
theorem witness_1 : WitnessClaimed_1 := ⟨start1.p0, start1.e0, start1.about1, start1.theMethod, start1.args0, start1.below0, start1.atStart⟩
end Jvm.Pilot.@@N@@
