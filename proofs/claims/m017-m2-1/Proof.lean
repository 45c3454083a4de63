import JvmDerived
import JvmDerived.Pilot.@@N@@Statement
import JvmDerived.Pilot.@@N@@Code
set_option linter.unusedVariables false
set_option linter.unusedSimpArgs false
@@BLOCK:NumsL.lean.txt@@
namespace Jvm.Pilot.@@N@@
open Jvm Jvm.ClassFile Sem Op Lib Jvm.Free Jvm.Stand Jvm.LawKit Jvm.RoadKit Bundle Jvm.Pilot.@@N@@.Jvm.D
/-! ## A. The run goes on: a walk in steps, its end left open -/
section Base
variable {p : Program} {l : Launch} {e : Env} {R : Room} {s : State} {m : MethodId} {args : Array Value} {below : List Frame} {meth : Method} {c : Code} {T T' : State} {locs : List Loc} {cells slots : Nat} {Z : State} {a0 : Array Value} {F : State → Prop} {g g' : JFrame} {n0 : Nat} {h h' : Heap} {a b : Addr} {C n d : String} {v w : Value} {sl : Nat}
/-- the run from T with the frame g on top comes to a state of which F holds -/
def Rn (p : Program) (e : Env) (below : List Frame) (F : State → Prop) (T : State) (g : JFrame) : Prop := ∃ U, Steps p.tables e below (T.setTop g) U ∧ F U
theorem Rn.go (st : ∀ t, Steps p.tables e below (T'.setTop g') t → Steps p.tables e below (T.setTop g) t) (k : Rn p e below F T' g') : Rn p e below F T g := by
  obtain ⟨U, h1, h2⟩ := k; exact ⟨U, st _ h1, h2⟩
theorem Rn.to (st : Steps p.tables e below (T.setTop g) (T'.setTop g')) (k : Rn p e below F T' g') : Rn p e below F T g := by
  obtain ⟨U, h1, h2⟩ := k; exact ⟨U, st.trans h1, h2⟩
theorem own_lcW (x y : Int64) : lcmpW x y = if x > y then 1 else if x = y then 0 else -1 := rfl
theorem own_nat (x : Int32) : x.toNatClampNeg = x.toInt.toNat := rfl
theorem own_remI {x y : Int32} {k : Int} (hy : y.toInt = k) (hx : 0 ≤ x.toInt) : (x % y).toInt = x.toInt % k := by rw [Jvm.Kit.i32_rem_nonneg hx, hy]
theorem own_irem {g : JFrame} {target : State} (h : At T m c below) (hx : p.tables.exec = Jvm.exec) (hg : g.method = m) {x y : Int32} {rest : List Value} (hd : decode c.code g.pc = .ok (.irem, 1)) (hs : g.stack = .int y :: .int x :: rest) (hy : y ≠ 0)
    (hr : Steps p.tables e below (T.setTop { g with pc := g.pc + 1, stack := .int (x % y) :: rest }) target) : Steps p.tables e below (T.setTop g) target := by
  have q : x - x / y * y = x % y := irem_eq_mod x y
  exact XS.irem h hx hg hd hs hy (by rw [q]; exact hr)
/-! ## B. What the heap holds: a list of the objects and arrays that the law has made -/
abbrev Itm : Type := (String × List (String × String × Value)) ⊕ (FieldType × Int32 × List Value)
abbrev ob (a : Addr) (C : String) (fs : List (String × String × Value)) : Addr × Itm := (a, .inl (C, fs))
abbrev ar (a : Addr) (ty : FieldType) (n : Int32) (vs : List Value) : Addr × Itm := (a, .inr (ty, n, vs))
abbrev ari (a : Addr) (ty : FieldType) (n : Int32) (xs : List Int32) : Addr × Itm := ar a ty n (xs.map Value.int)
abbrev arj (a : Addr) (n : Int32) (xs : List Int64) : Addr × Itm := ar a .long n (xs.map Value.long)
def Obj (Z : State) (h : Heap) (a : Addr) (C : String) (fs : List (String × String × Value)) : Prop := Exa Z h a C ∧ (∀ f ∈ fs, Fld Z h a C f.1 f.2.1 f.2.2) ∧ (fs.map fun f => Jvm.RoadKit.slotOf Z C f.1 f.2.1).Nodup
def Ary (Z : State) (h : Heap) (a : Addr) (ty : FieldType) (n : Int32) (vs : List Value) : Prop := (∃ k, Arv Z h a k ty n vs (defaultValue ty) ∧ ∀ C, ty = .object C → Ovr Z k C) ∧ vs.length = n.toNatClampNeg
def itm (Z : State) (h : Heap) (x : Addr × Itm) : Prop := match x.2 with
  | .inl o => Obj Z h x.1 o.1 o.2
  | .inr o => Ary Z h x.1 o.1 o.2.1 o.2.2
/-- made by the law, or an array of no places (which nobody can write) -/
def Frs (n0 : Nat) (x : Addr × Itm) : Prop := n0 ≤ x.1 ∨ ∃ ty n, x.2 = .inr (ty, n, [])
def Hp (Z : State) (n0 : Nat) (h : Heap) (D : List (Addr × Itm)) : Prop := Old Z n0 h ∧ (∀ x ∈ D, Frs n0 x ∧ itm Z h x) ∧ (D.map (·.1)).Nodup
variable {fs : List (String × String × Value)} {vs : List Value} {ty : FieldType} {z : Int32} {x : Addr × Itm} {D : List (Addr × Itm)} {I J : Itm} {i j : Nat}
theorem map_same {α β : Type} (f : α → β) (L : List α) (i : Nat) (x y : α) (h : L[i]? = some x) (q : f y = f x) : (L.set i y).map f = L.map f := by
  apply List.ext_getElem?
  intro k
  rw [List.getElem?_map, List.getElem?_map, List.getElem?_set]
  by_cases e : i = k
  · subst e
    rw [if_pos rfl, if_pos (List.getElem?_eq_some_iff.mp h).1, h]; simp [q]
  · rw [if_neg e]
theorem Obj.lt (O : Obj Z h a C fs) : a < h.size := O.1.lt
theorem Ary.lt (O : Ary Z h a ty z vs) : a < h.size := by obtain ⟨⟨k, V, -⟩, -⟩ := O; exact V.lt
theorem itm.lt (O : itm Z h x) : x.1 < h.size := by
  obtain ⟨a, I⟩ := x
  cases I with
  | inl o => exact Obj.lt (show Obj Z h a o.1 o.2 from O)
  | inr o => exact Ary.lt (show Ary Z h a o.1 o.2.1 o.2.2 from O)
theorem itm.ext (E : Ext h h') (O : itm Z h x) : itm Z h' x := by
  obtain ⟨a, I⟩ := x
  cases I with
  | inl o =>
    have O' : Obj Z h a o.1 o.2 := O
    exact (show Obj Z h' a o.1 o.2 from ⟨O'.1.ext E, fun f hf => (O'.2.1 f hf).ext E, O'.2.2⟩)
  | inr o =>
    have O' : Ary Z h a o.1 o.2.1 o.2.2 := O
    obtain ⟨⟨k, V, u⟩, q⟩ := O'
    exact (show Ary Z h' a o.1 o.2.1 o.2.2 from ⟨⟨k, V.ext E, u⟩, q⟩)
theorem itm.other (W : Wr h h' b sl v) (q : x.1 ≠ b) (O : itm Z h x) : itm Z h' x := by
  obtain ⟨a, I⟩ := x
  cases I with
  | inl o =>
    have O' : Obj Z h a o.1 o.2 := O
    exact (show Obj Z h' a o.1 o.2 from ⟨O'.1.wr W, fun f hf => (O'.2.1 f hf).other W (Or.inl q), O'.2.2⟩)
  | inr o =>
    have O' : Ary Z h a o.1 o.2.1 o.2.2 := O
    obtain ⟨⟨k, V, u⟩, r⟩ := O'
    exact (show Ary Z h' a o.1 o.2.1 o.2.2 from ⟨⟨k, V.other W q, u⟩, r⟩)
theorem Obj.put (hj : fs[j]? = some (n, d, w)) (W : Wr h h' a (Jvm.RoadKit.slotOf Z C n d) v) (O : Obj Z h a C fs) : Obj Z h' a C (fs.set j (n, d, v)) := by
  have hjl : j < fs.length := (List.getElem?_eq_some_iff.mp hj).1
  refine ⟨O.1.wr W, fun f hf => ?_, ?_⟩
  · obtain ⟨i, hi⟩ := List.mem_iff_getElem?.mp hf
    by_cases e : j = i
    · subst e
      rw [List.getElem?_set_self hjl] at hi
      cases hi
      exact (O.2.1 _ (List.mem_of_getElem? hj)).same W
    · rw [List.getElem?_set_ne e] at hi
      refine (O.2.1 f (List.mem_of_getElem? hi)).other W (Or.inr fun q => e ?_)
      have hil : i < fs.length := (List.getElem?_eq_some_iff.mp hi).1
      refine ((List.getElem?_inj (i := i) (j := j) (by simpa using hil) O.2.2).mp ?_).symm
      rw [List.getElem?_map, List.getElem?_map, hi, hj]
      simp [q]
  · rw [map_same _ fs j (n, d, w) (n, d, v) hj rfl]; exact O.2.2
theorem Ary.put {k : Int32} (hk : ¬ k < 0) (hl : k.toNatClampNeg < vs.length) (hv : fits ty v = true) (W : Wr h h' a k.toNatClampNeg v) (O : Ary Z h a ty z vs) : Ary Z h' a ty z (vs.set k.toNatClampNeg v) := by
  obtain ⟨⟨kc, ⟨cl, A, q1, S, q3, H, G⟩, u⟩, q⟩ := O
  exact ⟨⟨kc, Arv.set A q1 S q3 H G hv W _ rfl hl, u⟩, by rw [List.length_set]; exact q⟩
theorem Frs.obj (q : Frs n0 (ob a C fs)) : n0 ≤ a := q.elim id fun ⟨_, _, r⟩ => by cases r
theorem Frs.arr {k : Nat} (q : Frs n0 (ar a ty z vs)) (hl : k < vs.length) : n0 ≤ a := q.elim id fun ⟨_, _, r⟩ => by cases r; cases hl
theorem Hp.get (H : Hp Z n0 h D) (hi : D[i]? = some x) : Frs n0 x ∧ itm Z h x := H.2.1 _ (List.mem_of_getElem? hi)
theorem Hp.obj (H : Hp Z n0 h D) (hi : D[i]? = some (ob a C fs)) : Obj Z h a C fs := (H.get hi).2
theorem Hp.ary (H : Hp Z n0 h D) (hi : D[i]? = some (ar a ty z vs)) : Ary Z h a ty z vs := (H.get hi).2
theorem Hp.fld (H : Hp Z n0 h D) (hi : D[i]? = some (ob a C fs)) (hj : fs[j]? = some (n, d, v)) : Fld Z h a C n d v := (H.obj hi).2.1 _ (List.mem_of_getElem? hj)
theorem Hp.exa (H : Hp Z n0 h D) (hi : D[i]? = some (ob a C fs)) : Exa Z h a C := (H.obj hi).1
theorem Hp.upd (H : Hp Z n0 h D) (hi : D[i]? = some (a, I)) (hfr : n0 ≤ a) (W : Wr h h' a sl v) (q : itm Z h (a, I) → itm Z h' (a, J)) : Hp Z n0 h' (D.set i (a, J)) := by
  have hil : i < D.length := (List.getElem?_eq_some_iff.mp hi).1
  refine ⟨H.1.wr W hfr, fun x hx => ?_, ?_⟩
  · obtain ⟨k, hk⟩ := List.mem_iff_getElem?.mp hx
    by_cases e : i = k
    · subst e
      rw [List.getElem?_set_self hil] at hk
      cases hk
      exact ⟨Or.inl hfr, q (H.get hi).2⟩
    · rw [List.getElem?_set_ne e] at hk
      refine ⟨(H.get hk).1, (H.get hk).2.other W fun r => e ?_⟩
      refine (List.getElem?_inj (i := i) (j := k) (by simpa using hil) H.2.2).mp ?_
      rw [List.getElem?_map, List.getElem?_map, hi, hk]
      simp [r]
  · rw [map_same _ D i (a, I) (a, J) hi rfl]; exact H.2.2
theorem Hp.new (H : Hp Z n0 h D) (E : Ext h h') (q : itm Z h' (h.size, I)) : Hp Z n0 h' (D ++ [(h.size, I)]) := by
  have hsz : n0 ≤ h.size := by rw [← H.1.1]; exact H.1.2.1
  refine ⟨H.1.ext E, fun x hx => ?_, ?_⟩
  · rcases List.mem_append.mp hx with r | r
    · exact ⟨(H.2.1 x r).1, (H.2.1 x r).2.ext E⟩
    · cases List.mem_singleton.mp r; exact ⟨Or.inl hsz, q⟩
  · rw [List.map_append, List.nodup_append]
    refine ⟨H.2.2, by simp, fun y hy z hz => ?_⟩
    obtain ⟨x, hx, rfl⟩ := List.mem_map.mp hy
    have : z = h.size := by simpa using hz
    rw [this]
    exact Nat.ne_of_lt (H.2.1 x hx).2.lt
theorem Hp.nil (Z : State) : Hp Z Z.heap.size Z.heap [] := ⟨Old.start Z, (fun _ q => by cases q), List.nodup_nil⟩
theorem Hp.ext (H : Hp Z n0 h D) (E : Ext h h') : Hp Z n0 h' D := ⟨H.1.ext E, fun x hx => ⟨(H.2.1 x hx).1, (H.2.1 x hx).2.ext E⟩, H.2.2⟩
/-- a walk stands at T, has made so many cells and slots, has written nothing old, and its heap holds D -/
def On (p : Program) (l : Launch) (e : Env) (R : Room) (s : State) (m : MethodId) (args : Array Value) (below : List Frame) (meth : Method) (c : Code) (Z : State) (n0 : Nat) (T : State) (cells slots : Nat) (D : List (Addr × Itm)) : Prop := ∃ locs, Stand p l e R s m args below meth c T locs cells slots ∧ Fr n0 locs ∧ Hp Z n0 T.heap D
theorem On.here (Y : On p l e R s m args below meth c Z n0 T cells slots D) : At T m c below := by obtain ⟨_, X, -⟩ := Y; exact X.here
/-- what is known of the heap may be forgotten -/
theorem On.weak {D D' : List (Addr × Itm)} (Y : On p l e R s m args below meth c Z n0 T cells slots D) (q : D'.Sublist D) : On p l e R s m args below meth c Z n0 T cells slots D' := by
  obtain ⟨locs, X, N, H⟩ := Y
  exact ⟨locs, X, N, H.1, fun x hx => H.2.1 x (q.subset hx), H.2.2.sublist (q.map _)⟩
/-! ## C. One law a step -/
theorem On.getf (Y : On p l e R s m args below meth c Z n0 T cells slots D) (hx : p.tables.exec = Jvm.exec) (hZ : Z.Warmed39 s.vm) {own : String} {index : Nat} (hown : s.vm.findClass own = some m.cls) (w : (Cond.fieldLink own index C n d).before a0 Z = true) (hi : D[i]? = some (ob a C fs)) (hj : fs[j]? = some (n, d, v))
    {g : JFrame} (hg : g.method = m) {rest : List Value} (hs : g.stack = .ref a :: rest) (hd : decode c.code g.pc = .ok (.getfield index, 3)) (k : ∀ T', On p l e R s m args below meth c Z n0 T' cells slots D → Rn p e below F T' { g with pc := g.pc + 3, stack := v :: rest }) : Rn p e below F T g := by
  obtain ⟨locs, X, N, H⟩ := Y
  obtain ⟨T', X', e', st⟩ := getF X hx hZ hown (host := "") (Or.inl w) Via.refl rfl (H.fld hi hj) hg hs hd
  exact Rn.go st (k T' ⟨locs, X', N, by rw [e']; exact H⟩)
theorem On.putf (Y : On p l e R s m args below meth c Z n0 T cells slots D) (hx : p.tables.exec = Jvm.exec) (hZ : Z.Warmed39 s.vm) {own : String} {index kk : Nat} (hown : s.vm.findClass own = some m.cls) (wl : (Cond.fieldLink own index C n d).before a0 Z = true) (hi : D[i]? = some (ob a C fs)) (hj : fs[j]? = some (n, d, w))
    (L : (Cond.lays C C n d).before a0 Z = true ∨ ((Cond.laysFinal C C n d).before a0 Z = true ∧ own = C ∧ meth.name = "<init>")) (wi : (Cond.instantiable C kk).before a0 Z = true) (hty : parseFieldDescriptor d = some ty) {v v' : Value} (hn : narrow ty v = v') (hf : fits ty v' = true)
    {g : JFrame} (hg : g.method = m) {rest : List Value} (hs : g.stack = v :: .ref a :: rest) (hd : decode c.code g.pc = .ok (.putfield index, 3)) (k : ∀ T', On p l e R s m args below meth c Z n0 T' cells slots (D.set i (ob a C (fs.set j (n, d, v')))) → Rn p e below F T' { g with pc := g.pc + 3, stack := rest }) : Rn p e below F T g := by
  obtain ⟨locs, X, N, H⟩ := Y
  obtain ⟨T', h', X', e', W, st⟩ := putFN X hx hZ hown wl Via.refl rfl (H.fld hi hj) (H.exa hi) L wi hty hn hf hg hs hd
  have hfr := (H.get hi).1.obj
  refine Rn.go st (k T' ⟨_, X', Fr.snoc X' N hfr, ?_⟩)
  rw [e']
  exact H.upd hi hfr W fun O => Obj.put hj W O
theorem On.newo (Y : On p l e R s m args below meth c Z n0 T cells slots D) (hx : p.tables.exec = Jvm.exec) (hZ : Z.Warmed39 s.vm) {own : String} {index k : Nat} (hown : s.vm.findClass own = some m.cls) (w : (Cond.classLink own index C).before a0 Z = true) (wi : (Cond.instantiable C k).before a0 Z = true) (wz : (Cond.initialized C).before a0 Z = true)
    (fs : List (String × String × Value)) (hl : ∀ f ∈ fs, Laid Z a0 C C f.1 f.2.1 ∧ ∃ ty, parseFieldDescriptor f.2.1 = some ty ∧ f.2.2 = defaultValue ty) (hn : (fs.map (·.1)).Nodup)
    {g : JFrame} (hg : g.method = m) (hd : decode c.code g.pc = .ok (.new index, 3)) (hc : cells + 1 ≤ R.cells) (hs : slots + k ≤ R.slots)
    (kk : ∀ T' a, On p l e R s m args below meth c Z n0 T' (cells + 1) (slots + k) (D ++ [ob a C fs]) → Rn p e below F T' { g with pc := g.pc + 3, stack := .ref a :: g.stack }) : Rn p e below F T g := by
  obtain ⟨locs, X, N, H⟩ := Y
  obtain ⟨T', h', X', e', E, A, Df, -, st⟩ := newO X hx hZ hown w wi wz rfl hg hd hc hs
  refine Rn.go st (kk T' _ ⟨_, X', N, ?_⟩)
  rw [e']
  refine H.new E (show Obj Z h' _ C fs from ⟨A, fun f hf => ?_, ?_⟩)
  · obtain ⟨L, ty, h1, h2⟩ := hl f hf
    rw [h2]; exact Df L h1
  · rw [List.nodup_iff_pairwise_ne, List.pairwise_map] at hn ⊢
    refine List.Pairwise.imp_of_mem (fun {x y} hx hy q => ?_) hn
    obtain ⟨L, ty, h1, -⟩ := hl x hx
    obtain ⟨L', ty', h1', -⟩ := hl y hy
    exact slot_ne L L' q h1 h1'
theorem On.newp (Y : On p l e R s m args below meth c Z n0 T cells slots D) (hx : p.tables.exec = Jvm.exec) (hZ : Z.Warmed39 s.vm) {aty : ArrayType} (w : (Cond.arrayClass (newarray.typeOf aty)).before a0 Z = true) {g : JFrame} (hg : g.method = m) (hd : decode c.code g.pc = .ok (.newarray aty, 2)) {z : Int32} {rest : List Value} (hs : g.stack = .int z :: rest)
    (hn : ¬ z < 0) {cap N : Nat} (hN : z.toNatClampNeg = N) (hcap : N ≤ cap) (hb : cap * 8 ≤ 536870912) (hc : cells + 1 ≤ R.cells) (hl : slots + cap ≤ R.slots) {dv : Value} (hdv : defaultValue (newarray.typeOf aty) = dv)
    (k : ∀ T' a, On p l e R s m args below meth c Z n0 T' (cells + 1) (slots + cap) (D ++ [ar a (newarray.typeOf aty) z (List.replicate N dv)]) → Rn p e below F T' { g with pc := g.pc + 2, stack := .ref a :: rest }) : Rn p e below F T g := by
  obtain ⟨locs, X, Nl, H⟩ := Y
  subst hN hdv
  obtain ⟨T', h', cA, X', e', E, A, st⟩ := newP X hx hZ w rfl hg hd hs hn hcap hb hc hl
  refine Rn.go st (k T' _ ⟨_, X', Nl, ?_⟩)
  rw [e']
  exact H.new E (show Ary Z h' _ _ z _ from ⟨⟨_, (Arv.new A hn).pad (pad_rep [] _ _), fun C hC => by cases aty <;> cases hC⟩, by simp⟩)
theorem On.newr (Y : On p l e R s m args below meth c Z n0 T cells slots D) (hx : p.tables.exec = Jvm.exec) (hZ : Z.Warmed39 s.vm) {own : String} {index : Nat} (hown : s.vm.findClass own = some m.cls) (w1 : (Cond.classLink own index C).before a0 Z = true) (w2 : (Cond.arrayOver (.object C)).before a0 Z = true) {g : JFrame} (hg : g.method = m) (hd : decode c.code g.pc = .ok (.anewarray index, 3)) {z : Int32} {rest : List Value} (hs : g.stack = .int z :: rest)
    (hn : ¬ z < 0) {cap N : Nat} (hN : z.toNatClampNeg = N) (hcap : N ≤ cap) (hb : cap * 8 ≤ 536870912) (hc : cells + 1 ≤ R.cells) (hl : slots + cap ≤ R.slots)
    (k : ∀ T' a, On p l e R s m args below meth c Z n0 T' (cells + 1) (slots + cap) (D ++ [ar a (.object C) z (List.replicate N .null)]) → Rn p e below F T' { g with pc := g.pc + 3, stack := .ref a :: rest }) : Rn p e below F T g := by
  obtain ⟨locs, X, Nl, H⟩ := Y
  subst hN
  obtain ⟨T', h', cA, X', e', E, A, O, st⟩ := newR X hx hZ hown w1 w2 rfl hg hd hs hn hcap hb hc hl
  refine Rn.go st (k T' _ ⟨_, X', Nl, ?_⟩)
  rw [e']
  exact H.new E (show Ary Z h' _ _ z _ from ⟨⟨_, (Arv.new A hn).pad (pad_rep [] _ _), fun C' hC => by cases hC; exact O⟩, by simp⟩)
theorem On.isto (Y : On p l e R s m args below meth c Z n0 T cells slots D) (hx : p.tables.exec = Jvm.exec) (hZ : Z.Warmed39 s.vm) {xs : List Int32} (hi : D[i]? = some (ari a .int z xs)) {k x : Int32} (hk : ¬ k < 0) (hl : k.toNatClampNeg < xs.length)
    {g : JFrame} (hg : g.method = m) {rest : List Value} (hs : g.stack = .int x :: .int k :: .ref a :: rest) (hd : decode c.code g.pc = .ok (.iastore, 1))
    (kk : ∀ T', On p l e R s m args below meth c Z n0 T' cells slots (D.set i (ari a .int z (xs.set k.toNatClampNeg x))) → Rn p e below F T' { g with pc := g.pc + 1, stack := rest }) : Rn p e below F T g := by
  obtain ⟨locs, X, N, H⟩ := Y
  obtain ⟨⟨kc, ⟨cl, A, q1, S, q3, Hh, G⟩, -⟩, q⟩ := H.ary hi
  have hl' : k.toNatClampNeg < (xs.map Value.int).length := by simpa using hl
  obtain ⟨T', h', X', e', W, st⟩ := stI X hx hZ rfl A (fun r => r.elim hk fun r => absurd hl' (by rw [q, ← S]; exact Nat.not_lt.mpr r)) hg hs hd
  have hfr := (H.get hi).1.arr hl'
  refine Rn.go st (kk T' ⟨_, X', Fr.snoc X' N hfr, ?_⟩)
  rw [e']
  refine H.upd hi hfr W fun O => ?_
  have := Ary.put hk hl' rfl W O
  rw [← List.map_set] at this
  exact this
theorem On.bsto (Y : On p l e R s m args below meth c Z n0 T cells slots D) (hx : p.tables.exec = Jvm.exec) (hZ : Z.Warmed39 s.vm) {xs : List Int32} (hi : D[i]? = some (ari a .byte z xs)) {k x : Int32} (hk : ¬ k < 0) (hl : k.toNatClampNeg < xs.length)
    {g : JFrame} (hg : g.method = m) {rest : List Value} (hs : g.stack = .int x :: .int k :: .ref a :: rest) (hd : decode c.code g.pc = .ok (.bastore, 1))
    (kk : ∀ T', On p l e R s m args below meth c Z n0 T' cells slots (D.set i (ari a .byte z (xs.set k.toNatClampNeg x.toInt8.toInt32))) → Rn p e below F T' { g with pc := g.pc + 1, stack := rest }) : Rn p e below F T g := by
  obtain ⟨locs, X, N, H⟩ := Y
  obtain ⟨⟨kc, ⟨cl, A, q1, S, q3, Hh, G⟩, -⟩, q⟩ := H.ary hi
  have hl' : k.toNatClampNeg < (xs.map Value.int).length := by simpa using hl
  obtain ⟨T', h', X', e', W, st⟩ := stB X hx hZ rfl A (fun r => r.elim hk fun r => absurd hl' (by rw [q, ← S]; exact Nat.not_lt.mpr r)) hg hs hd
  have hfr := (H.get hi).1.arr hl'
  refine Rn.go st (kk T' ⟨_, X', Fr.snoc X' N hfr, ?_⟩)
  rw [e']
  refine H.upd hi hfr W fun O => ?_
  have := Ary.put hk hl' (fits_nar_byte _) W O
  rw [← List.map_set] at this
  exact this
theorem On.zsto (Y : On p l e R s m args below meth c Z n0 T cells slots D) (hx : p.tables.exec = Jvm.exec) (hZ : Z.Warmed39 s.vm) {xs : List Int32} (hi : D[i]? = some (ari a .boolean z xs)) {k x : Int32} (hk : ¬ k < 0) (hl : k.toNatClampNeg < xs.length)
    {g : JFrame} (hg : g.method = m) {rest : List Value} (hs : g.stack = .int x :: .int k :: .ref a :: rest) (hd : decode c.code g.pc = .ok (.bastore, 1))
    (kk : ∀ T', On p l e R s m args below meth c Z n0 T' cells slots (D.set i (ari a .boolean z (xs.set k.toNatClampNeg (x &&& 1)))) → Rn p e below F T' { g with pc := g.pc + 1, stack := rest }) : Rn p e below F T g := by
  obtain ⟨locs, X, N, H⟩ := Y
  obtain ⟨⟨kc, ⟨cl, A, q1, S, q3, Hh, G⟩, -⟩, q⟩ := H.ary hi
  have hl' : k.toNatClampNeg < (xs.map Value.int).length := by simpa using hl
  obtain ⟨T', h', X', e', W, st⟩ := stZ X hx hZ rfl A (fun r => r.elim hk fun r => absurd hl' (by rw [q, ← S]; exact Nat.not_lt.mpr r)) hg hs hd
  have hfr := (H.get hi).1.arr hl'
  refine Rn.go st (kk T' ⟨_, X', Fr.snoc X' N hfr, ?_⟩)
  rw [e']
  refine H.upd hi hfr W fun O => ?_
  have := Ary.put hk hl' (fits_nar_bool _) W O
  rw [← List.map_set] at this
  exact this
theorem On.jsto (Y : On p l e R s m args below meth c Z n0 T cells slots D) (hx : p.tables.exec = Jvm.exec) (hZ : Z.Warmed39 s.vm) {xs : List Int64} (hi : D[i]? = some (arj a z xs)) {k : Int32} {x : Int64} (hk : ¬ k < 0) (hl : k.toNatClampNeg < xs.length)
    {g : JFrame} (hg : g.method = m) {rest : List Value} (hs : g.stack = .long x :: .int k :: .ref a :: rest) (hd : decode c.code g.pc = .ok (.lastore, 1))
    (kk : ∀ T', On p l e R s m args below meth c Z n0 T' cells slots (D.set i (arj a z (xs.set k.toNatClampNeg x))) → Rn p e below F T' { g with pc := g.pc + 1, stack := rest }) : Rn p e below F T g := by
  obtain ⟨locs, X, N, H⟩ := Y
  obtain ⟨⟨kc, ⟨cl, A, q1, S, q3, Hh, G⟩, -⟩, q⟩ := H.ary hi
  have hl' : k.toNatClampNeg < (xs.map Value.long).length := by simpa using hl
  obtain ⟨T', h', X', e', W, st⟩ := stJ X hx hZ rfl A (fun r => r.elim hk fun r => absurd hl' (by rw [q, ← S]; exact Nat.not_lt.mpr r)) hg hs hd
  have hfr := (H.get hi).1.arr hl'
  refine Rn.go st (kk T' ⟨_, X', Fr.snoc X' N hfr, ?_⟩)
  rw [e']
  refine H.upd hi hfr W fun O => ?_
  have := Ary.put hk hl' rfl W O
  rw [← List.map_set] at this
  exact this
/-- the cell of an array, opened for a load -/
theorem Ary.at (O : Ary Z h a ty z vs) {k : Int32} (hk : ¬ k < 0) (hv : vs[k.toNatClampNeg]? = some v) : ∃ cl, Arr Z h a cl ty ∧ ¬ (k < 0 ∨ cl.slots.size ≤ k.toNatClampNeg) ∧ cl.slots[k.toNatClampNeg]? = some v := by
  obtain ⟨⟨kc, ⟨cl, A, q1, S, q3, H, G⟩, -⟩, q⟩ := O
  have hl := (List.getElem?_eq_some_iff.mp hv).1
  have hl2 : k.toNatClampNeg < cl.slots.size := by rw [S, ← q]; exact hl
  exact ⟨cl, A, fun r => r.elim hk (Nat.not_le.mpr hl2), by rw [H _ hl2, List.getD_eq_getElem?_getD, hv]; rfl⟩
theorem On.ild (Y : On p l e R s m args below meth c Z n0 T cells slots D) (hx : p.tables.exec = Jvm.exec) (hZ : Z.Warmed39 s.vm) {xs : List Int32} (hi : D[i]? = some (ari a .int z xs)) {k x : Int32} (hk : ¬ k < 0) (hv : xs[k.toNatClampNeg]? = some x)
    {g : JFrame} (hg : g.method = m) {rest : List Value} (hs : g.stack = .int k :: .ref a :: rest) (hd : decode c.code g.pc = .ok (.iaload, 1))
    (kk : Rn p e below F T { g with pc := g.pc + 1, stack := .int x :: rest }) : Rn p e below F T g := by
  obtain ⟨locs, X, N, H⟩ := Y
  obtain ⟨cl, A, h1, h2⟩ := (H.ary hi).at (v := .int x) hk (by simp [List.getElem?_map, hv])
  exact Rn.go (fun t kt => X.iaload hx A.1 (State.isArrayOf_alike hZ.alike A.2.1) A.2.2 h1 h2 hg hs hd t kt) kk
theorem On.bld (Y : On p l e R s m args below meth c Z n0 T cells slots D) (hx : p.tables.exec = Jvm.exec) (hZ : Z.Warmed39 s.vm) {xs : List Int32} (hi : D[i]? = some (ari a .byte z xs)) {k x : Int32} (hk : ¬ k < 0) (hv : xs[k.toNatClampNeg]? = some x)
    {g : JFrame} (hg : g.method = m) {rest : List Value} (hs : g.stack = .int k :: .ref a :: rest) (hd : decode c.code g.pc = .ok (.baload, 1))
    (kk : Rn p e below F T { g with pc := g.pc + 1, stack := .int x :: rest }) : Rn p e below F T g := by
  obtain ⟨locs, X, N, H⟩ := Y
  obtain ⟨cl, A, h1, h2⟩ := (H.ary hi).at (v := .int x) hk (by simp [List.getElem?_map, hv])
  exact Rn.go (fun t kt => X.baloadBytes hx A.1 (State.isArrayOf_alike hZ.alike A.2.1) A.2.2 h1 h2 hg hs hd t kt) kk
theorem On.zld (Y : On p l e R s m args below meth c Z n0 T cells slots D) (hx : p.tables.exec = Jvm.exec) (hZ : Z.Warmed39 s.vm) {xs : List Int32} (hi : D[i]? = some (ari a .boolean z xs)) {k x : Int32} (hk : ¬ k < 0) (hv : xs[k.toNatClampNeg]? = some x)
    {g : JFrame} (hg : g.method = m) {rest : List Value} (hs : g.stack = .int k :: .ref a :: rest) (hd : decode c.code g.pc = .ok (.baload, 1))
    (kk : Rn p e below F T { g with pc := g.pc + 1, stack := .int x :: rest }) : Rn p e below F T g := by
  obtain ⟨locs, X, N, H⟩ := Y
  obtain ⟨cl, A, h1, h2⟩ := (H.ary hi).at (v := .int x) hk (by simp [List.getElem?_map, hv])
  exact Rn.go (fun t kt => X.baloadBooleans hx A.1 (State.isArrayOf_alike hZ.alike A.2.1) A.2.2 h1 h2 hg hs hd t kt) kk
theorem On.jld (Y : On p l e R s m args below meth c Z n0 T cells slots D) (hx : p.tables.exec = Jvm.exec) (hZ : Z.Warmed39 s.vm) {xs : List Int64} (hi : D[i]? = some (arj a z xs)) {k : Int32} {x : Int64} (hk : ¬ k < 0) (hv : xs[k.toNatClampNeg]? = some x)
    {g : JFrame} (hg : g.method = m) {rest : List Value} (hs : g.stack = .int k :: .ref a :: rest) (hd : decode c.code g.pc = .ok (.laload, 1))
    (kk : Rn p e below F T { g with pc := g.pc + 1, stack := .long x :: rest }) : Rn p e below F T g := by
  obtain ⟨locs, X, N, H⟩ := Y
  obtain ⟨cl, A, h1, h2⟩ := (H.ary hi).at (v := .long x) hk (by simp [List.getElem?_map, hv])
  exact Rn.go (fun t kt => X.laload hx A.1 (State.isArrayOf_alike hZ.alike A.2.1) A.2.2 h1 h2 hg hs hd t kt) kk
theorem On.alen (Y : On p l e R s m args below meth c Z n0 T cells slots D) (hx : p.tables.exec = Jvm.exec) (hZ : Z.Warmed39 s.vm) (hi : D[i]? = some (ar a ty z vs))
    {g : JFrame} (hg : g.method = m) {rest : List Value} (hs : g.stack = .ref a :: rest) (hd : decode c.code g.pc = .ok (.arraylength, 1))
    (kk : Rn p e below F T { g with pc := g.pc + 1, stack := .int z :: rest }) : Rn p e below F T g := by
  obtain ⟨locs, X, N, H⟩ := Y
  obtain ⟨⟨kc, ⟨cl, A, q1, S, q3, Hh, G⟩, -⟩, q⟩ := H.ary hi
  refine Rn.go (fun t kt => X.arraylength hx A.1 (State.isArrayOf_alike hZ.alike A.2.1) hg hs hd t kt) ?_
  rw [len_of S q3]; exact kk
theorem On.ldcI (Y : On p l e R s m args below meth c Z n0 T cells slots D) (hx : p.tables.exec = Jvm.exec) (hZ : Z.Warmed39 s.vm) {own : String} {index : Nat} {x : Int32} (hown : s.vm.findClass own = some m.cls) (w : (Cond.constant own index x).before a0 Z = true)
    {g : JFrame} (hg : g.method = m) (hd : decode c.code g.pc = .ok (.ldc index, 2)) (kk : Rn p e below F T { g with pc := g.pc + 2, stack := .int x :: g.stack }) : Rn p e below F T g := by
  obtain ⟨locs, X, N, H⟩ := Y
  exact Rn.go (X.ldcInt hx hown (mvT hZ w) hg hd) kk
theorem On.ldcJ (Y : On p l e R s m args below meth c Z n0 T cells slots D) (hx : p.tables.exec = Jvm.exec) (hZ : Z.Warmed39 s.vm) {own : String} {index : Nat} {x : Int64} (hown : s.vm.findClass own = some m.cls) (w : (Cond.constantLong own index x).before a0 Z = true)
    {g : JFrame} (hg : g.method = m) (hd : decode c.code g.pc = .ok (.ldc2_w index, 3)) (kk : Rn p e below F T { g with pc := g.pc + 3, stack := .long x :: g.stack }) : Rn p e below F T g := by
  obtain ⟨locs, X, N, H⟩ := Y
  exact Rn.go (X.ldc2Long hx hown (mvT hZ w) hg hd) kk
theorem On.sldcI (Y : On p l e R s m args below meth c Z n0 T cells slots D) (hx : p.tables.exec = Jvm.exec) (hZ : Z.Warmed39 s.vm) {own : String} {index : Nat} {x : Int32} (hown : s.vm.findClass own = some m.cls) (w : (Cond.constant own index x).before a0 Z = true)
    {g : JFrame} (hg : g.method = m) (hd : decode c.code g.pc = .ok (.ldc index, 2)) : ∀ t, Steps p.tables e below (T.setTop { g with pc := g.pc + 2, stack := .int x :: g.stack }) t → Steps p.tables e below (T.setTop g) t := by
  obtain ⟨locs, X, N, H⟩ := Y
  exact X.ldcInt hx hown (mvT hZ w) hg hd
theorem On.sldcJ (Y : On p l e R s m args below meth c Z n0 T cells slots D) (hx : p.tables.exec = Jvm.exec) (hZ : Z.Warmed39 s.vm) {own : String} {index : Nat} {x : Int64} (hown : s.vm.findClass own = some m.cls) (w : (Cond.constantLong own index x).before a0 Z = true)
    {g : JFrame} (hg : g.method = m) (hd : decode c.code g.pc = .ok (.ldc2_w index, 3)) : ∀ t, Steps p.tables e below (T.setTop { g with pc := g.pc + 3, stack := .long x :: g.stack }) t → Steps p.tables e below (T.setTop g) t := by
  obtain ⟨locs, X, N, H⟩ := Y
  exact X.ldc2Long hx hown (mvT hZ w) hg hd
theorem On.ini (Y : On p l e R s m args below meth c Z n0 T cells slots D) (hx : p.tables.exec = Jvm.exec) (hZ : Z.Warmed39 s.vm) {own : String} {idx : Nat} (hown : s.vm.findClass own = some m.cls) (w1 : (Cond.methodLink own idx Lib.objectInit).before a0 Z = true) (w2 : (Cond.instanceMethod Lib.objectInit).before a0 Z = true)
    (w3 : (Cond.code Lib.objectInit ⟨#[0xb1]⟩ 1 none).before a0 Z = true) {g : JFrame} (hg : g.method = m) (hsize : g.locals.size = c.maxLocals) {a : Addr} {rest : List Value} (hs : g.stack = .ref a :: rest) (hd : decode c.code g.pc = .ok (.invokespecial idx, 3))
    (hf : 1 ≤ R.frames) {W : Nat} (hW : 2 * g.monitorRoom + (rest.map fun v => v.category).sum ≤ W) (hl : W + 12 ≤ R.locals)
    (k : ∀ T', On p l e R s m args below meth c Z n0 T' cells slots D → Rn p e below F T' { g with pc := g.pc + 3, stack := rest }) : Rn p e below F T g := by
  obtain ⟨locs, X, N, H⟩ := Y
  obtain ⟨T', X', e', st⟩ := initO X hx hZ hown w1 w2 w3 rfl hg hsize hs hd hf hW hl
  exact Rn.go st (k T' ⟨locs, X', N, by rw [e']; exact H⟩)
/-! ## D. A method's contract: from a heap that holds D, with these arguments, it returns v and leaves a heap that holds D', where P v D' -/
def QP (Z : State) (n0 : Nat) (P : Option Value → List (Addr × Itm) → Prop) (v : Option Value) (h : Heap) (L : List Loc) : Prop := ∃ D', P v D' ∧ Fr n0 L ∧ Hp Z n0 h D'
def Con (l : Launch) (Z : State) (n0 : Nat) (y : MethodName) (bytes : ByteArray) (maxL : Nat) (ret : Option FieldType) (rm : Room) (as : Array Value) (D : List (Addr × Itm)) (P : Option Value → List (Addr × Itm) → Prop) : Prop :=
  ∀ (ws : List Cond) (h0 : Heap), Hp Z n0 h0 D → MetFree l y (head1 (Cond.code y bytes maxL ret :: ws) rm) (fun a U => a = as ∧ Z.Warmed39 U.vm ∧ U.heap = h0) (fun _ _ _ _ _ => True) (fun _ U o U' => ∃ v L, o = .returned v ∧ QP Z n0 P v U'.heap L ∧ FrameEnd U o U' L rm.cells rm.slots)
def Cx (p : Program) (s : State) (m : MethodId) (meth : Method) (c : Code) (Z : State) (y : MethodName) (bytes : ByteArray) (maxL : Nat) (ret : Option FieldType) : Prop :=
  p.tables.exec = Jvm.exec ∧ c.code = bytes ∧ c.maxLocals = maxL ∧ s.vm.findClass y.cls = some m.cls ∧ meth.name = y.name ∧ meth.sig.returnType = ret ∧ meth.locks = false ∧ Z.Warmed39 s.vm
def Fi (Z : State) (n0 : Nat) (below : List Frame) (s : State) (kc ks : Nat) (P : Option Value → List (Addr × Itm) → Prop) (U : State) : Prop := ∃ o, U.status = .running ∧ Ended U below o ∧ ∃ v L, o = .returned v ∧ QP Z n0 P v U.heap L ∧ FrameEnd s o U L kc ks
variable {y : MethodName} {bytes : ByteArray} {maxL : Nat} {ret : Option FieldType} {rm : Room} {as : Array Value} {P : Option Value → List (Addr × Itm) → Prop} {kc ks : Nat}
theorem Con.of (hp : plainFor y = true) (body : ∀ {p : Program} {e : Env} {s : State} {m : MethodId} {below : List Frame} {meth : Method} {c : Code} {T : State}, Cx p s m meth c Z y bytes maxL ret → On p l e rm s m as below meth c Z n0 T 0 0 D → Rn p e below (Fi Z n0 below s rm.cells rm.slots P) T (entryFrame m as maxL)) :
    Con l Z n0 y bytes maxL ret rm as D P := by
  intro ws h0 H
  refine MetFree.of_bodySF hp hisR ?_
  intro p e s m args below meth c s₁ Bd hml0 hP hK
  obtain ⟨rfl, hZ, hh⟩ := hP
  have X0 : Stand p l e rm s m args below meth c s₁ [] 0 0 := Stand.of_body Bd
  have e0 : s₁.heap = h0 := by rw [← hh, Bd.state]; rfl
  obtain ⟨U, h1, o, h2, h3, h4⟩ := body ⟨Bd.exec, Bd.bytes, hml0, findClass_of_methodNamed Bd.named, (name_of_methodNamed Bd.named Bd.method).1, Bd.returns, Bd.notSynchronized, hZ⟩ ⟨[], X0, Fr.nil n0, by rw [e0]; exact H⟩
  exact ⟨U, o, h1, h2, h3, h4⟩
theorem On.out (Y : On p l e R s m args below meth c Z n0 T cells slots D) {v : Option Value} (hv : meth.sig.returnType = none → v = none) (hlk : meth.locks = false) (hc : cells ≤ kc) (hs : slots ≤ ks) (hP : P v D)
    (st : ∀ locs fs, Stand p l e R s m args below meth c T locs cells slots → (∀ (f : JFrame) (acts : List Action), f.method = m → f.locked = none → f.entered = [] → (doReturn e (T.setTop f) acts v).1 = T.setFrames fs) → Steps p.tables e below (T.setTop g) (T.setFrames fs)) : Rn p e below (Fi Z n0 below s kc ks P) T g := by
  obtain ⟨locs, X, N, H⟩ := Y
  obtain ⟨fs, hr, hrun, hended, hW, hsame⟩ := X.leave hv hlk
  exact ⟨_, st locs fs X hr, _, hrun, hended, _, _, rfl, ⟨D, hP, N, H⟩, ⟨_, rfl⟩, hW, hsame.mono hc hs⟩
theorem On.retv (Y : On p l e R s m args below meth c Z n0 T cells slots D) (hx : p.tables.exec = Jvm.exec) (hret : meth.sig.returnType = none) (hlk : meth.locks = false) {pc : Nat} {Ls : Array Slot} (hd : decode c.code pc = .ok (.return_, 1)) (hc : cells ≤ kc) (hs : slots ≤ ks) (hP : P none D) : Rn p e below (Fi Z n0 below s kc ks P) T (mkF m pc Ls []) :=
  Y.out (fun _ => rfl) hlk hc hs hP fun locs fs X hr => X.returnOut hx hret hd hr
theorem On.reti (Y : On p l e R s m args below meth c Z n0 T cells slots D) (hx : p.tables.exec = Jvm.exec) (hret : meth.sig.returnType = some .int) (hlk : meth.locks = false) {pc : Nat} {Ls : Array Slot} {z : Int32} {rest : List Value} (hd : decode c.code pc = .ok (.ireturn, 1)) (hc : cells ≤ kc) (hs : slots ≤ ks) (hP : P (some (.int z)) D) : Rn p e below (Fi Z n0 below s kc ks P) T (mkF m pc Ls (.int z :: rest)) :=
  Y.out (fun q => by rw [hret] at q; cases q) hlk hc hs hP fun locs fs X hr => retOut X hx hret rfl (Or.inl ⟨rfl, Or.inl rfl, _, rfl⟩) hd hr
theorem On.retn (Y : On p l e R s m args below meth c Z n0 T cells slots D) (hx : p.tables.exec = Jvm.exec) {t : FieldType} (hret : meth.sig.returnType = some t) (ht : t = .boolean ∨ t = .byte ∨ t = .char ∨ t = .short) (hlk : meth.locks = false) {pc : Nat} {Ls : Array Slot} {z z' : Int32} (hz : nar t z = z') {rest : List Value} (hd : decode c.code pc = .ok (.ireturn, 1)) (hc : cells ≤ kc) (hs : slots ≤ ks) (hP : P (some (.int z')) D) : Rn p e below (Fi Z n0 below s kc ks P) T (mkF m pc Ls (.int z :: rest)) := by
  subst hz
  exact Y.out (fun q => by rw [hret] at q; cases q) hlk hc hs hP fun locs fs X hr => retN X hx hret ht hd hr
theorem On.retj (Y : On p l e R s m args below meth c Z n0 T cells slots D) (hx : p.tables.exec = Jvm.exec) (hret : meth.sig.returnType = some .long) (hlk : meth.locks = false) {pc : Nat} {Ls : Array Slot} {z : Int64} {rest : List Value} (hd : decode c.code pc = .ok (.lreturn, 1)) (hc : cells ≤ kc) (hs : slots ≤ ks) (hP : P (some (.long z)) D) : Rn p e below (Fi Z n0 below s kc ks P) T (mkF m pc Ls (.long z :: rest)) :=
  Y.out (fun q => by rw [hret] at q; cases q) hlk hc hs hP fun locs fs X hr => retOut X hx hret rfl (Or.inr (Or.inl ⟨rfl, rfl, _, rfl⟩)) hd hr
theorem On.reta (Y : On p l e R s m args below meth c Z n0 T cells slots D) (hx : p.tables.exec = Jvm.exec) {t : FieldType} (hret : meth.sig.returnType = some t) (ht : t.isReference = true) (hlk : meth.locks = false) {pc : Nat} {Ls : Array Slot} {z : Value} (hz : z.isRef = true) (hn : narrow t z = z) {rest : List Value} (hd : decode c.code pc = .ok (.areturn, 1)) (hc : cells ≤ kc) (hs : slots ≤ ks) (hP : P (some z) D) : Rn p e below (Fi Z n0 below s kc ks P) T (mkF m pc Ls (z :: rest)) :=
  Y.out (fun q => by rw [hret] at q; cases q) hlk hc hs hP fun locs fs X hr => retOut X hx hret hn (Or.inr (Or.inr (Or.inr (Or.inr ⟨rfl, ht, hz⟩)))) hd hr
/-! ## E. Calls -/
theorem On.special (Y : On p l e R s m args below meth c Z n0 T cells slots D) (hx : p.tables.exec = Jvm.exec) (hZ : Z.Warmed39 s.vm) {own : String} {index : Nat} (hy1 : y.name = "<init>") (hown : s.vm.findClass own = some m.cls) (w1 : (Cond.methodLink own index y).before a0 Z = true) (w2 : (Cond.instanceMethod y).before a0 Z = true) (w3 : (Cond.code y bytes maxL none).before a0 Z = true) (w4 : (Cond.initialized y.cls).before a0 Z = true)
    (hy : y.cls ≠ "java/lang/invoke/MethodHandle" ∧ y.cls ≠ "java/lang/invoke/VarHandle") {a : Addr} {argsL rest : List Value} (K : Con l Z n0 y bytes maxL none rm (.ref a :: argsL).toArray D P)
    {W : Nat} (hf : rm.frames + 1 ≤ R.frames) (hl : W + (maxL + 11) + rm.locals ≤ R.locals) (hc : cells + rm.cells ≤ R.cells) (hs : slots + rm.slots ≤ R.slots)
    {g : JFrame} (hg : g.method = m) (hsize : g.locals.size = c.maxLocals) (hlen : ∀ sig, parseMethodDescriptor y.desc = some sig → argsL.length = sig.parameters.length) (hstack : g.stack = argsL.reverse ++ .ref a :: rest) (hW : 2 * g.monitorRoom + (rest.map fun v => v.category).sum ≤ W) (hd : decode c.code g.pc = .ok (.invokespecial index, 3))
    (k : ∀ T' v D', P v D' → On p l e R s m args below meth c Z n0 T' (cells + rm.cells) (slots + rm.slots) D' → Rn p e below F T' { g with pc := g.pc + 3, stack := v.toList ++ rest }) : Rn p e below F T g := by
  obtain ⟨locs, X, N, H⟩ := Y
  obtain ⟨v, _, ⟨T', L', k', n'⟩, -, X', ⟨Lc, hQ, l', y', z'⟩, st⟩ := X.specialBack hx hy1 hown (mvT hZ w1) (mvT hZ w2) (mvT hZ w3) hy (backOf (W := W) (K [] T.heap H) hZ w3 w4 hf hl) hg hsize (Steps.refl _) (a := a) (argsL := argsL) (rest := rest) hlen hstack hW hd (fun _ _ => ⟨rfl, rfl, hc, hs⟩)
  dsimp only [Pt.U, Pt.locs, Pt.cells, Pt.slots] at X' l' y' z' st hQ
  subst l' y' z'
  obtain ⟨D', hP, N', H'⟩ := hQ
  exact Rn.to st (k T' v D' hP ⟨_, X', Fr.app N N', H'⟩)
theorem On.virtual (Y : On p l e R s m args below meth c Z n0 T cells slots D) (hx : p.tables.exec = Jvm.exec) (hZ : Z.Warmed39 s.vm) {own : String} {index : Nat} (hown : s.vm.findClass own = some m.cls) (w1 : (Cond.methodLink own index y).before a0 Z = true) (w2 : (Cond.declares y).before a0 Z = true) (w3 : (Cond.instanceMethod y).before a0 Z = true) (w4 : (Cond.selects C y y).before a0 Z = true) (w5 : (Cond.code y bytes maxL ret).before a0 Z = true) (w6 : (Cond.initialized y.cls).before a0 Z = true)
    (hy : y.cls ≠ "java/lang/invoke/MethodHandle" ∧ y.cls ≠ "java/lang/invoke/VarHandle") {a : Addr} {argsL rest : List Value} (hi : D[i]? = some (ob a C fs)) (K : Con l Z n0 y bytes maxL ret rm (.ref a :: argsL).toArray D P)
    {W : Nat} (hf : rm.frames + 1 ≤ R.frames) (hl : W + (maxL + 11) + rm.locals ≤ R.locals) (hc : cells + rm.cells ≤ R.cells) (hs : slots + rm.slots ≤ R.slots)
    {g : JFrame} (hg : g.method = m) (hsize : g.locals.size = c.maxLocals) (hlen : ∀ sig, parseMethodDescriptor y.desc = some sig → argsL.length = sig.parameters.length) (hstack : g.stack = argsL.reverse ++ .ref a :: rest) (hW : 2 * g.monitorRoom + (rest.map fun v => v.category).sum ≤ W) (hd : decode c.code g.pc = .ok (.invokevirtual index, 3))
    (k : ∀ T' v D', P v D' → On p l e R s m args below meth c Z n0 T' (cells + rm.cells) (slots + rm.slots) D' → Rn p e below F T' { g with pc := g.pc + 3, stack := v.toList ++ rest }) : Rn p e below F T g := by
  obtain ⟨locs, X, N, H⟩ := Y
  obtain ⟨cq, kq, qa, qb, qc⟩ := isOf hZ rfl (H.exa hi)
  obtain ⟨v, _, ⟨T', L', k', n'⟩, -, X', ⟨Lc, hQ, l', y', z'⟩, st⟩ := X.virtualBack hx (y := y) (z := y) hown (mvT hZ w1) (mvT hZ w2) (notFace_of_selects (args := #[]) (mvT hZ w4)) (mvT hZ w4) (mvT hZ w3) hy (backOf (W := W) (K [] T.heap H) hZ w5 w6 hf hl) qa qc hg hsize (Steps.refl _) (argsL := argsL) (rest := rest) hlen hstack hW hd (fun _ _ => ⟨rfl, rfl, hc, hs⟩)
  dsimp only [Pt.U, Pt.locs, Pt.cells, Pt.slots] at X' l' y' z' st hQ
  subst l' y' z'
  obtain ⟨D', hP, N', H'⟩ := hQ
  exact Rn.to st (k T' v D' hP ⟨_, X', Fr.app N N', H'⟩)
theorem On.static (Y : On p l e R s m args below meth c Z n0 T cells slots D) (hx : p.tables.exec = Jvm.exec) (hZ : Z.Warmed39 s.vm) {own : String} {index : Nat} (hown : s.vm.findClass own = some m.cls) (w1 : (Cond.methodLink own index y).before a0 Z = true) (w2 : (Cond.static y).before a0 Z = true) (w3 : (Cond.code y bytes maxL ret).before a0 Z = true) (w4 : (Cond.initialized y.cls).before a0 Z = true)
    (hy : y.cls ≠ "java/lang/invoke/MethodHandle" ∧ y.cls ≠ "java/lang/invoke/VarHandle") {argsL rest : List Value} (K : Con l Z n0 y bytes maxL ret rm argsL.toArray D P)
    {W : Nat} (hf : rm.frames + 1 ≤ R.frames) (hl : W + (maxL + 11) + rm.locals ≤ R.locals) (hc : cells + rm.cells ≤ R.cells) (hs : slots + rm.slots ≤ R.slots)
    {g : JFrame} (hg : g.method = m) (hsize : g.locals.size = c.maxLocals) (hlen : ∀ sig, parseMethodDescriptor y.desc = some sig → argsL.length = sig.parameters.length) (hstack : g.stack = argsL.reverse ++ rest) (hW : 2 * g.monitorRoom + (rest.map fun v => v.category).sum ≤ W) (hd : decode c.code g.pc = .ok (.invokestatic index, 3))
    (k : ∀ T' v D', P v D' → On p l e R s m args below meth c Z n0 T' (cells + rm.cells) (slots + rm.slots) D' → Rn p e below F T' { g with pc := g.pc + 3, stack := v.toList ++ rest }) : Rn p e below F T g := by
  obtain ⟨locs, X, N, H⟩ := Y
  obtain ⟨v, _, ⟨T', L', k', n'⟩, -, X', ⟨Lc, hQ, l', y', z'⟩, st⟩ := Jvm.LawKit.callS X hx hown (mvT hZ w1) (mvT hZ w2) (mvT hZ w4) (mvT hZ w3) hy (backOf (W := W) (K [] T.heap H) hZ w3 w4 hf hl) hg hsize (argsL := argsL) (rest := rest) hlen hstack hW hd (fun _ _ => ⟨rfl, rfl, hc, hs⟩)
  dsimp only [Pt.U, Pt.locs, Pt.cells, Pt.slots] at X' l' y' z' st hQ
  subst l' y' z'
  obtain ⟨D', hP, N', H'⟩ := hQ
  exact Rn.go st (k T' v D' hP ⟨_, X', Fr.app N N', H'⟩)
theorem On.priv (Y : On p l e R s m args below meth c Z n0 T cells slots D) (hx : p.tables.exec = Jvm.exec) (hZ : Z.Warmed39 s.vm) {own : String} {index kk : Nat} (hown : s.vm.findClass own = some m.cls) (w1 : (Cond.methodLink own index y).before a0 Z = true) (w2 : (Cond.instanceMethod y).before a0 Z = true) (w3 : (Cond.privateMethod y).before a0 Z = true) (wi : (Cond.instantiable y.cls kk).before a0 Z = true) (w4 : (Cond.code y bytes maxL ret).before a0 Z = true) (w5 : (Cond.initialized y.cls).before a0 Z = true)
    (hy : y.cls ≠ "java/lang/invoke/MethodHandle" ∧ y.cls ≠ "java/lang/invoke/VarHandle") {a : Addr} {argsL rest : List Value} (hi : D[i]? = some (ob a C fs)) (K : Con l Z n0 y bytes maxL ret rm (.ref a :: argsL).toArray D P)
    {W : Nat} (hf : rm.frames + 1 ≤ R.frames) (hl : W + (maxL + 11) + rm.locals ≤ R.locals) (hc : cells + rm.cells ≤ R.cells) (hs : slots + rm.slots ≤ R.slots)
    {g : JFrame} (hg : g.method = m) (hsize : g.locals.size = c.maxLocals) (hlen : ∀ sig, parseMethodDescriptor y.desc = some sig → argsL.length = sig.parameters.length) (hstack : g.stack = argsL.reverse ++ .ref a :: rest) (hW : 2 * g.monitorRoom + (rest.map fun v => v.category).sum ≤ W) (hd : decode c.code g.pc = .ok (.invokevirtual index, 3))
    (k : ∀ T' v D', P v D' → On p l e R s m args below meth c Z n0 T' (cells + rm.cells) (slots + rm.slots) D' → Rn p e below F T' { g with pc := g.pc + 3, stack := v.toList ++ rest }) : Rn p e below F T g := by
  obtain ⟨locs, X, N, H⟩ := Y
  have hp : s.PrivateAt y := Cond.privateMethod_at (mvP hZ w3 (args := #[]))
  have wi' : (Cond.instantiable y.cls kk).before args s = true := mvT hZ wi
  obtain ⟨cc, kc, i1, i2, -, i4, -⟩ := Cond.instantiable_spec wi'
  have hsel : (Cond.selects y.cls y y).before args s = true := selects_self_of_private i1 i2 (by simp at i4; exact i4.1) hp (mvT hZ w2) hy
  obtain ⟨cq, q, q'⟩ := (H.exa hi).cell
  obtain ⟨v, _, ⟨T', L', k', n'⟩, -, X', ⟨Lc, hQ, l', y', z'⟩, st⟩ := X.privateBack hx (y := y) hown (mvT hZ w1) (mvT hZ w2) hsel hp (mvT hZ w4) hy (backOf (W := W) (K [] T.heap H) hZ w4 w5 hf hl) hg hsize (Steps.refl _) (a := a) q q' (argsL := argsL) (rest := rest) hlen hstack hW hd (fun _ _ => ⟨rfl, rfl, hc, hs⟩)
  dsimp only [Pt.U, Pt.locs, Pt.cells, Pt.slots] at X' l' y' z' st hQ
  subst l' y' z'
  obtain ⟨D', hP, N', H'⟩ := hQ
  exact Rn.to st (k T' v D' hP ⟨_, X', Fr.app N N', H'⟩)
theorem On.insY (Y : On p l e R s m args below meth c Z n0 T cells slots D) (hx : p.tables.exec = Jvm.exec) (hZ : Z.Warmed39 s.vm) {own : String} {index : Nat} (hown : s.vm.findClass own = some m.cls) (w : (Cond.classLink own index C).before a0 Z = true) (hi : D[i]? = some (ob a C fs))
    {g : JFrame} (hg : g.method = m) {rest : List Value} (hs : g.stack = .ref a :: rest) (hd : decode c.code g.pc = .ok (.instanceof index, 3)) (k : ∀ T', On p l e R s m args below meth c Z n0 T' cells slots D → Rn p e below F T' { g with pc := g.pc + 3, stack := .int 1 :: rest }) : Rn p e below F T g := by
  obtain ⟨locs, X, N, H⟩ := Y
  obtain ⟨T', X', e', st⟩ := instY X hx hZ hown w rfl (Ins.self (H.exa hi)) hg hs hd
  exact Rn.go st (k T' ⟨locs, X', N, by rw [e']; exact H⟩)
theorem On.castS (Y : On p l e R s m args below meth c Z n0 T cells slots D) (hx : p.tables.exec = Jvm.exec) (hZ : Z.Warmed39 s.vm) {own : String} {index : Nat} (hown : s.vm.findClass own = some m.cls) (w : (Cond.classLink own index C).before a0 Z = true) (hi : D[i]? = some (ob a C fs))
    {g : JFrame} (hg : g.method = m) {rest : List Value} (hs : g.stack = .ref a :: rest) (hd : decode c.code g.pc = .ok (.checkcast index, 3)) (k : ∀ T', On p l e R s m args below meth c Z n0 T' cells slots D → Rn p e below F T' { g with pc := g.pc + 3 }) : Rn p e below F T g := by
  obtain ⟨locs, X, N, H⟩ := Y
  obtain ⟨T', X', e', st⟩ := castY X hx hZ hown w rfl (Ins.self (H.exa hi)) hg hs hd
  exact Rn.go st (k T' ⟨locs, X', N, by rw [e']; exact H⟩)
theorem On.insN (Y : On p l e R s m args below meth c Z n0 T cells slots D) (hx : p.tables.exec = Jvm.exec) (hZ : Z.Warmed39 s.vm) {own K : String} {index kk : Nat} (hown : s.vm.findClass own = some m.cls) (w : (Cond.classLink own index K).before a0 Z = true) (hi : D[i]? = some (ob a C fs)) (wi : (Cond.instantiable K kk).before a0 Z = true) {ch : List String} (hw : ∀ w ∈ Cond.chainWords (C :: ch), w.before a0 Z = true) (hn : K ∉ C :: ch)
    {g : JFrame} (hg : g.method = m) {rest : List Value} (hs : g.stack = .ref a :: rest) (hd : decode c.code g.pc = .ok (.instanceof index, 3)) (k : ∀ T', On p l e R s m args below meth c Z n0 T' cells slots D → Rn p e below F T' { g with pc := g.pc + 3, stack := .int 0 :: rest }) : Rn p e below F T g := by
  obtain ⟨locs, X, N, H⟩ := Y
  obtain ⟨cy, ky, i1, i2, i3, i4, -⟩ := Cond.instantiable_spec wi
  obtain ⟨cx, kx, j1, -⟩ := Cond.chain_head hw
  obtain ⟨T', X', e', st⟩ := instNo X hx hZ hown w rfl (H.exa hi) ⟨cx, cy, j1, i1, Vm.notAssignable_of_chain j1 i1 i2 i3 (by simp at i4; exact i4.1) hw hn⟩ hg hs hd
  exact Rn.go st (k T' ⟨locs, X', N, by rw [e']; exact H⟩)
theorem On.insNull (Y : On p l e R s m args below meth c Z n0 T cells slots D) (hx : p.tables.exec = Jvm.exec) {index : Nat}
    {g : JFrame} (hg : g.method = m) {rest : List Value} (hs : g.stack = .null :: rest) (hd : decode c.code g.pc = .ok (.instanceof index, 3)) (k : Rn p e below F T { g with pc := g.pc + 3, stack := .int 0 :: rest }) : Rn p e below F T g := by
  obtain ⟨locs, X, N, H⟩ := Y
  exact Rn.go (fun t kt => X.instanceofNull hx hg hs hd t kt) k
end Base
/-! ## E2. Old objects, statics, arrays of references -/
section Extra
variable {p : Program} {l : Launch} {e : Env} {R : Room} {s : State} {m : MethodId} {args : Array Value} {below : List Frame} {meth : Method} {c : Code} {T T' : State} {locs : List Loc} {cells slots : Nat} {Z : State} {a0 : Array Value} {F : State → Prop} {g g' : JFrame} {n0 : Nat} {h h' : Heap} {a b : Addr} {C n d : String} {v w : Value} {D : List (Addr × Itm)} {i j : Nat} {vs : List Value} {ty : FieldType} {z : Int32}
variable {y : MethodName} {bytes : ByteArray} {maxL : Nat} {ret : Option FieldType} {rm : Room} {P : Option Value → List (Addr × Itm) → Prop}
theorem On.old (Y : On p l e R s m args below meth c Z n0 T cells slots D) : Ext Z.heap T.heap := by obtain ⟨_, _, _, H⟩ := Y; exact H.1.2
theorem On.gets (Y : On p l e R s m args below meth c Z n0 T cells slots D) (hx : p.tables.exec = Jvm.exec) (hZ : Z.Warmed39 s.vm) {own : String} {index : Nat} (hown : s.vm.findClass own = some m.cls) (w : (Cond.fieldLink own index C n d).before a0 Z = true) (S : Sta Z Z.heap C n d v)
    {g : JFrame} (hg : g.method = m) (hd : decode c.code g.pc = .ok (.getstatic index, 3)) (k : ∀ T', On p l e R s m args below meth c Z n0 T' cells slots D → Rn p e below F T' { g with pc := g.pc + 3, stack := v :: g.stack }) : Rn p e below F T g := by
  have E := Y.old
  obtain ⟨locs, X, N, H⟩ := Y
  obtain ⟨T', X', e', st⟩ := getS2 X hx hZ hown (host := "") (Or.inl w) Via.refl rfl (S.ext E) hg hd
  exact Rn.go st (k T' ⟨locs, X', N, by rw [e']; exact H⟩)
theorem On.rsto (Y : On p l e R s m args below meth c Z n0 T cells slots D) (hx : p.tables.exec = Jvm.exec) (hZ : Z.Warmed39 s.vm) (hi : D[i]? = some (ar a (.object C) z vs)) {k : Int32} {b : Addr} (hk : ¬ k < 0) (hl : k.toNatClampNeg < vs.length) (E : Exa Z T.heap b C)
    {g : JFrame} (hg : g.method = m) {rest : List Value} (hs : g.stack = .ref b :: .int k :: .ref a :: rest) (hd : decode c.code g.pc = .ok (.aastore, 1))
    (kk : ∀ T', On p l e R s m args below meth c Z n0 T' cells slots (D.set i (ar a (.object C) z (vs.set k.toNatClampNeg (.ref b)))) → Rn p e below F T' { g with pc := g.pc + 1, stack := rest }) : Rn p e below F T g := by
  obtain ⟨locs, X, N, H⟩ := Y
  obtain ⟨⟨kc, ⟨cl, A, q1, S, q3, Hh, G⟩, u⟩, q⟩ := H.ary hi
  obtain ⟨T', h', X', e', W, st⟩ := stR X hx hZ rfl A (fun r => r.elim hk fun r => absurd hl (by rw [q, ← S]; exact Nat.not_lt.mpr r)) rfl (Sto.of A (by rw [q1]; exact u C rfl) (Ins.self E)) hg hs hd
  have hfr := (H.get hi).1.arr hl
  refine Rn.go st (kk T' ⟨_, X', Fr.snoc X' N hfr, ?_⟩)
  rw [e']
  exact H.upd hi hfr W fun O => Ary.put hk hl rfl W O
theorem On.rld (Y : On p l e R s m args below meth c Z n0 T cells slots D) (hx : p.tables.exec = Jvm.exec) (hZ : Z.Warmed39 s.vm) (hi : D[i]? = some (ar a (.object C) z vs)) {k : Int32} (hk : ¬ k < 0) (hv : vs[k.toNatClampNeg]? = some v)
    {g : JFrame} (hg : g.method = m) {rest : List Value} (hs : g.stack = .int k :: .ref a :: rest) (hd : decode c.code g.pc = .ok (.aaload, 1))
    (kk : Rn p e below F T { g with pc := g.pc + 1, stack := v :: rest }) : Rn p e below F T g := by
  obtain ⟨locs, X, N, H⟩ := Y
  obtain ⟨cl, A, h1, h2⟩ := (H.ary hi).at hk hv
  exact Rn.go (fun t kt => X.aaload hx A.1 (State.isArrayOf_alike hZ.alike A.2.1) rfl A.2.2 h1 h2 hg hs hd t kt) kk
theorem On.acmp (Y : On p l e R s m args below meth c Z n0 T cells slots D) (hx : p.tables.exec = Jvm.exec) {g : JFrame} (hg : g.method = m) {cd : ACond} {x y : Value} (h1 : x.isRef = true) (h2 : y.isRef = true) {rest : List Value} {o : Int} {pc0 pc' : Nat} {same : Bool} (hpc : g.pc = pc0)
    (hd : decode c.code g.pc = .ok (.if_acmp cd o, 3)) (hs : g.stack = y :: x :: rest) (hq : decide (x = y) = same) (ho : 0 ≤ (pc0 : Int) + o) (hp : pc' = if acV cd same = true then ((pc0 : Int) + o).toNat else pc0 + 3)
    (kk : Rn p e below F T { g with pc := pc', stack := rest }) : Rn p e below F T g := by
  obtain ⟨locs, X, N, H⟩ := Y
  exact Rn.go (fun t kt => Jvm.RoadKit.acmp X hx hg h1 h2 hpc hd hs hq ho hp kt) kk
theorem On.virtualE (Y : On p l e R s m args below meth c Z n0 T cells slots D) (hx : p.tables.exec = Jvm.exec) (hZ : Z.Warmed39 s.vm) {own : String} {index : Nat} (hown : s.vm.findClass own = some m.cls) (w1 : (Cond.methodLink own index y).before a0 Z = true) (w2 : (Cond.declares y).before a0 Z = true) (w3 : (Cond.instanceMethod y).before a0 Z = true) (w4 : (Cond.selects C y y).before a0 Z = true) (w5 : (Cond.code y bytes maxL ret).before a0 Z = true) (w6 : (Cond.initialized y.cls).before a0 Z = true)
    (hy : y.cls ≠ "java/lang/invoke/MethodHandle" ∧ y.cls ≠ "java/lang/invoke/VarHandle") {a : Addr} {argsL rest : List Value} (E : Exa Z T.heap a C) (K : Con l Z n0 y bytes maxL ret rm (.ref a :: argsL).toArray D P)
    {W : Nat} (hf : rm.frames + 1 ≤ R.frames) (hl : W + (maxL + 11) + rm.locals ≤ R.locals) (hc : cells + rm.cells ≤ R.cells) (hs : slots + rm.slots ≤ R.slots)
    {g : JFrame} (hg : g.method = m) (hsize : g.locals.size = c.maxLocals) (hlen : ∀ sig, parseMethodDescriptor y.desc = some sig → argsL.length = sig.parameters.length) (hstack : g.stack = argsL.reverse ++ .ref a :: rest) (hW : 2 * g.monitorRoom + (rest.map fun v => v.category).sum ≤ W) (hd : decode c.code g.pc = .ok (.invokevirtual index, 3))
    (k : ∀ T' v D', P v D' → On p l e R s m args below meth c Z n0 T' (cells + rm.cells) (slots + rm.slots) D' → Rn p e below F T' { g with pc := g.pc + 3, stack := v.toList ++ rest }) : Rn p e below F T g := by
  obtain ⟨locs, X, N, H⟩ := Y
  obtain ⟨cq, kq, qa, qb, qc⟩ := isOf hZ rfl E
  obtain ⟨v, _, ⟨T', L', k', n'⟩, -, X', ⟨Lc, hQ, l', y', z'⟩, st⟩ := X.virtualBack hx (y := y) (z := y) hown (mvT hZ w1) (mvT hZ w2) (notFace_of_selects (args := #[]) (mvT hZ w4)) (mvT hZ w4) (mvT hZ w3) hy (backOf (W := W) (K [] T.heap H) hZ w5 w6 hf hl) qa qc hg hsize (Steps.refl _) (argsL := argsL) (rest := rest) hlen hstack hW hd (fun _ _ => ⟨rfl, rfl, hc, hs⟩)
  dsimp only [Pt.U, Pt.locs, Pt.cells, Pt.slots] at X' l' y' z' st hQ
  subst l' y' z'
  obtain ⟨D', hP, N', H'⟩ := hQ
  exact Rn.to st (k T' v D' hP ⟨_, X', Fr.app N N', H'⟩)
theorem own_fact {s : State} {args : Array Value} {C n d K : String} (hx : (Jvm.Cond.exactly (Jvm.Term.static C n d) K).value args s none s [] = some true) {a0 : Array Value} (w1 : (Jvm.Cond.initialized C).before a0 s = true) (w2 : (Jvm.Cond.laysStatic C n d).before a0 s = true) :
    ∃ a, (Jvm.Term.static C n d).eval args s none [] s = some (.ref a) ∧ Sta s s.heap C n d (.ref a) ∧ Exa s s.heap a K := by
  have hx' : (Jvm.Cond.exactly (Jvm.Term.static C n d) K).before args s = true := Cond.before_iff.mpr hx
  obtain ⟨a, c', cell, k, e1, -⟩ := Cond.exactly_spec hx'
  have w1' : (Jvm.Cond.initialized C).before args s = true := mvT (State.Warmed39.refl s) w1
  have w2' : (Jvm.Cond.laysStatic C n d).before args s = true := w2
  exact ⟨a, e1, Sta.start e1 (Or.inr ⟨w1', w2'⟩), Exa.start e1 hx⟩
theorem own_fe {s : State} {args : Array Value} {t : Jvm.Term} {K f d : String} {a : Addr} (e : t.eval args s none [] s = some (.ref a)) : (Jvm.Term.field t K f d).eval args s none [] s = s.fieldOf? a K f d := by
  simp only [Term.eval, e]; rfl
theorem own_le {s : State} {args : Array Value} {t : Jvm.Term} {a : Addr} {c : Cell} (e : t.eval args s none [] s = some (.ref a)) (hA : s.arrayAt? a = some c) : (Jvm.Term.length t).eval args s none [] s = if c.slots.size < 2 ^ 31 then some (.int c.slots.size.toInt32) else none := by
  simp only [Term.eval, e]
  show (do let d ← s.arrayAt? a; if d.slots.size < 2 ^ 31 then pure (Value.int d.slots.size.toInt32) else none) = _
  rw [hA]; rfl
theorem own_ne {s : State} {args : Array Value} {t t' : Jvm.Term} {K f d : String} {a b : Addr} {k k' : Int32} (e : t.eval args s none [] s = some (.ref a)) (e' : t'.eval args s none [] s = some (.ref b)) (h : (Jvm.Cond.eq (Jvm.Term.field t K f d) (Jvm.Term.int k)).value args s none s [] = some true) (h' : (Jvm.Cond.eq (Jvm.Term.field t' K f d) (Jvm.Term.int k')).value args s none s [] = some true) (hk : k ≠ k') : a ≠ b := fun q => by
  subst q
  have e1 := eqv_i (y := k) rfl h
  have e2 := eqv_i (y := k') rfl h'
  rw [own_fe e] at e1; rw [own_fe e'] at e2
  exact hk (Value.int.inj (Option.some.inj (e1.symm.trans e2)))
end Extra
theorem own_le19 {v : Int32} (h1 : 0 ≤ v.toInt) (h2 : v.toInt ≤ 19) : v = 0 ∨ v = 1 ∨ v = 2 ∨ v = 3 ∨ v = 4 ∨ v = 5 ∨ v = 6 ∨ v = 7 ∨ v = 8 ∨ v = 9 ∨ v = 10 ∨ v = 11 ∨ v = 12 ∨ v = 13 ∨ v = 14 ∨ v = 15 ∨ v = 16 ∨ v = 17 ∨ v = 18 ∨ v = 19 := by
  have : v.toInt = 0 ∨ v.toInt = 1 ∨ v.toInt = 2 ∨ v.toInt = 3 ∨ v.toInt = 4 ∨ v.toInt = 5 ∨ v.toInt = 6 ∨ v.toInt = 7 ∨ v.toInt = 8 ∨ v.toInt = 9 ∨ v.toInt = 10 ∨ v.toInt = 11 ∨ v.toInt = 12 ∨ v.toInt = 13 ∨ v.toInt = 14 ∨ v.toInt = 15 ∨ v.toInt = 16 ∨ v.toInt = 17 ∨ v.toInt = 18 ∨ v.toInt = 19 := by omega
  rcases this with h | h | h | h | h | h | h | h | h | h | h | h | h | h | h | h | h | h | h | h
  · exact Or.inl (Int32.toInt_inj.mp (h.trans rfl))
  · exact Or.inr (Or.inl (Int32.toInt_inj.mp (h.trans rfl)))
  · exact Or.inr (Or.inr (Or.inl (Int32.toInt_inj.mp (h.trans rfl))))
  · exact Or.inr (Or.inr (Or.inr (Or.inl (Int32.toInt_inj.mp (h.trans rfl)))))
  · exact Or.inr (Or.inr (Or.inr (Or.inr (Or.inl (Int32.toInt_inj.mp (h.trans rfl))))))
  · exact Or.inr (Or.inr (Or.inr (Or.inr (Or.inr (Or.inl (Int32.toInt_inj.mp (h.trans rfl)))))))
  · exact Or.inr (Or.inr (Or.inr (Or.inr (Or.inr (Or.inr (Or.inl (Int32.toInt_inj.mp (h.trans rfl))))))))
  · exact Or.inr (Or.inr (Or.inr (Or.inr (Or.inr (Or.inr (Or.inr (Or.inl (Int32.toInt_inj.mp (h.trans rfl)))))))))
  · exact Or.inr (Or.inr (Or.inr (Or.inr (Or.inr (Or.inr (Or.inr (Or.inr (Or.inl (Int32.toInt_inj.mp (h.trans rfl))))))))))
  · exact Or.inr (Or.inr (Or.inr (Or.inr (Or.inr (Or.inr (Or.inr (Or.inr (Or.inr (Or.inl (Int32.toInt_inj.mp (h.trans rfl)))))))))))
  · exact Or.inr (Or.inr (Or.inr (Or.inr (Or.inr (Or.inr (Or.inr (Or.inr (Or.inr (Or.inr (Or.inl (Int32.toInt_inj.mp (h.trans rfl))))))))))))
  · exact Or.inr (Or.inr (Or.inr (Or.inr (Or.inr (Or.inr (Or.inr (Or.inr (Or.inr (Or.inr (Or.inr (Or.inl (Int32.toInt_inj.mp (h.trans rfl)))))))))))))
  · exact Or.inr (Or.inr (Or.inr (Or.inr (Or.inr (Or.inr (Or.inr (Or.inr (Or.inr (Or.inr (Or.inr (Or.inr (Or.inl (Int32.toInt_inj.mp (h.trans rfl))))))))))))))
  · exact Or.inr (Or.inr (Or.inr (Or.inr (Or.inr (Or.inr (Or.inr (Or.inr (Or.inr (Or.inr (Or.inr (Or.inr (Or.inr (Or.inl (Int32.toInt_inj.mp (h.trans rfl)))))))))))))))
  · exact Or.inr (Or.inr (Or.inr (Or.inr (Or.inr (Or.inr (Or.inr (Or.inr (Or.inr (Or.inr (Or.inr (Or.inr (Or.inr (Or.inr (Or.inl (Int32.toInt_inj.mp (h.trans rfl))))))))))))))))
  · exact Or.inr (Or.inr (Or.inr (Or.inr (Or.inr (Or.inr (Or.inr (Or.inr (Or.inr (Or.inr (Or.inr (Or.inr (Or.inr (Or.inr (Or.inr (Or.inl (Int32.toInt_inj.mp (h.trans rfl)))))))))))))))))
  · exact Or.inr (Or.inr (Or.inr (Or.inr (Or.inr (Or.inr (Or.inr (Or.inr (Or.inr (Or.inr (Or.inr (Or.inr (Or.inr (Or.inr (Or.inr (Or.inr (Or.inl (Int32.toInt_inj.mp (h.trans rfl))))))))))))))))))
  · exact Or.inr (Or.inr (Or.inr (Or.inr (Or.inr (Or.inr (Or.inr (Or.inr (Or.inr (Or.inr (Or.inr (Or.inr (Or.inr (Or.inr (Or.inr (Or.inr (Or.inr (Or.inl (Int32.toInt_inj.mp (h.trans rfl)))))))))))))))))))
  · exact Or.inr (Or.inr (Or.inr (Or.inr (Or.inr (Or.inr (Or.inr (Or.inr (Or.inr (Or.inr (Or.inr (Or.inr (Or.inr (Or.inr (Or.inr (Or.inr (Or.inr (Or.inr (Or.inl (Int32.toInt_inj.mp (h.trans rfl))))))))))))))))))))
  · exact Or.inr (Or.inr (Or.inr (Or.inr (Or.inr (Or.inr (Or.inr (Or.inr (Or.inr (Or.inr (Or.inr (Or.inr (Or.inr (Or.inr (Or.inr (Or.inr (Or.inr (Or.inr (Or.inr (Int32.toInt_inj.mp (h.trans rfl))))))))))))))))))))
abbrev own_M : String := "com/example/vistrace/vistrace/checker/Model"
abbrev own_De : String := "Lcom/example/vistrace/vistrace/checker/Model;"
theorem own_20 (x : Int32) : 0 ≤ ((x &&& (2147483647 : Int32)) % (20 : Int32)).toInt ∧ ((x &&& (2147483647 : Int32)) % (20 : Int32)).toInt ≤ 19 := by
  have h := Jvm.Kit.i32_mask x 2147483647 (k := 31) (by decide) (by decide)
  rw [own_remI (k := 20) rfl (by omega)]; omega
/-! ## F. The words, the instructions, the names -/
theorem w0 {Z : State} {a0 : Array Value} (hw : ∀ d ∈ tables_1, d.before a0 Z = true) : (Jvm.Cond.classLink "com/example/vistrace/vistrace/checker/ModelNeedsTimesPinLaw" (7 : Nat) "com/example/vistrace/vistrace/checker/Model").before a0 Z = true := hw _ (List.mem_of_getElem? (i := 0) rfl)
theorem w1 {Z : State} {a0 : Array Value} (hw : ∀ d ∈ tables_1, d.before a0 Z = true) : (Jvm.Cond.arrayOver (Jvm.ClassFile.FieldType.object "com/example/vistrace/vistrace/checker/Model")).before a0 Z = true := hw _ (List.mem_of_getElem? (i := 1) rfl)
theorem w2 {Z : State} {a0 : Array Value} (hw : ∀ d ∈ tables_1, d.before a0 Z = true) : (Jvm.Cond.fieldLink "com/example/vistrace/vistrace/checker/ModelNeedsTimesPinLaw" (9 : Nat) "com/example/vistrace/vistrace/checker/Model" "LINEARIZABLE" "Lcom/example/vistrace/vistrace/checker/Model;").before a0 Z = true := hw _ (List.mem_of_getElem? (i := 2) rfl)
theorem w3 {Z : State} {a0 : Array Value} (hw : ∀ d ∈ tables_1, d.before a0 Z = true) : (Jvm.Cond.initialized "com/example/vistrace/vistrace/checker/Model").before a0 Z = true := hw _ (List.mem_of_getElem? (i := 3) rfl)
theorem w4 {Z : State} {a0 : Array Value} (hw : ∀ d ∈ tables_1, d.before a0 Z = true) : (Jvm.Cond.laysStatic "com/example/vistrace/vistrace/checker/Model" "LINEARIZABLE" "Lcom/example/vistrace/vistrace/checker/Model;").before a0 Z = true := hw _ (List.mem_of_getElem? (i := 4) rfl)
theorem w6 {Z : State} {a0 : Array Value} (hw : ∀ d ∈ tables_1, d.before a0 Z = true) : (Jvm.Cond.fieldLink "com/example/vistrace/vistrace/checker/ModelNeedsTimesPinLaw" (13 : Nat) "com/example/vistrace/vistrace/checker/Model" "SEQUENTIAL" "Lcom/example/vistrace/vistrace/checker/Model;").before a0 Z = true := hw _ (List.mem_of_getElem? (i := 6) rfl)
theorem w7 {Z : State} {a0 : Array Value} (hw : ∀ d ∈ tables_1, d.before a0 Z = true) : (Jvm.Cond.laysStatic "com/example/vistrace/vistrace/checker/Model" "SEQUENTIAL" "Lcom/example/vistrace/vistrace/checker/Model;").before a0 Z = true := hw _ (List.mem_of_getElem? (i := 7) rfl)
theorem w8 {Z : State} {a0 : Array Value} (hw : ∀ d ∈ tables_1, d.before a0 Z = true) : (Jvm.Cond.fieldLink "com/example/vistrace/vistrace/checker/ModelNeedsTimesPinLaw" (16 : Nat) "com/example/vistrace/vistrace/checker/Model" "CONVERGENT_CAUSAL" "Lcom/example/vistrace/vistrace/checker/Model;").before a0 Z = true := hw _ (List.mem_of_getElem? (i := 8) rfl)
theorem w9 {Z : State} {a0 : Array Value} (hw : ∀ d ∈ tables_1, d.before a0 Z = true) : (Jvm.Cond.laysStatic "com/example/vistrace/vistrace/checker/Model" "CONVERGENT_CAUSAL" "Lcom/example/vistrace/vistrace/checker/Model;").before a0 Z = true := hw _ (List.mem_of_getElem? (i := 9) rfl)
theorem w10 {Z : State} {a0 : Array Value} (hw : ∀ d ∈ tables_1, d.before a0 Z = true) : (Jvm.Cond.fieldLink "com/example/vistrace/vistrace/checker/ModelNeedsTimesPinLaw" (19 : Nat) "com/example/vistrace/vistrace/checker/Model" "CAUSAL" "Lcom/example/vistrace/vistrace/checker/Model;").before a0 Z = true := hw _ (List.mem_of_getElem? (i := 10) rfl)
theorem w11 {Z : State} {a0 : Array Value} (hw : ∀ d ∈ tables_1, d.before a0 Z = true) : (Jvm.Cond.laysStatic "com/example/vistrace/vistrace/checker/Model" "CAUSAL" "Lcom/example/vistrace/vistrace/checker/Model;").before a0 Z = true := hw _ (List.mem_of_getElem? (i := 11) rfl)
theorem w12 {Z : State} {a0 : Array Value} (hw : ∀ d ∈ tables_1, d.before a0 Z = true) : (Jvm.Cond.fieldLink "com/example/vistrace/vistrace/checker/ModelNeedsTimesPinLaw" (22 : Nat) "com/example/vistrace/vistrace/checker/Model" "CAUSAL_PREFIX" "Lcom/example/vistrace/vistrace/checker/Model;").before a0 Z = true := hw _ (List.mem_of_getElem? (i := 12) rfl)
theorem w13 {Z : State} {a0 : Array Value} (hw : ∀ d ∈ tables_1, d.before a0 Z = true) : (Jvm.Cond.laysStatic "com/example/vistrace/vistrace/checker/Model" "CAUSAL_PREFIX" "Lcom/example/vistrace/vistrace/checker/Model;").before a0 Z = true := hw _ (List.mem_of_getElem? (i := 13) rfl)
theorem w14 {Z : State} {a0 : Array Value} (hw : ∀ d ∈ tables_1, d.before a0 Z = true) : (Jvm.Cond.fieldLink "com/example/vistrace/vistrace/checker/ModelNeedsTimesPinLaw" (25 : Nat) "com/example/vistrace/vistrace/checker/Model" "CAUSAL_REPLAY" "Lcom/example/vistrace/vistrace/checker/Model;").before a0 Z = true := hw _ (List.mem_of_getElem? (i := 14) rfl)
theorem w15 {Z : State} {a0 : Array Value} (hw : ∀ d ∈ tables_1, d.before a0 Z = true) : (Jvm.Cond.laysStatic "com/example/vistrace/vistrace/checker/Model" "CAUSAL_REPLAY" "Lcom/example/vistrace/vistrace/checker/Model;").before a0 Z = true := hw _ (List.mem_of_getElem? (i := 15) rfl)
theorem w16 {Z : State} {a0 : Array Value} (hw : ∀ d ∈ tables_1, d.before a0 Z = true) : (Jvm.Cond.fieldLink "com/example/vistrace/vistrace/checker/ModelNeedsTimesPinLaw" (28 : Nat) "com/example/vistrace/vistrace/checker/Model" "PIPELINED" "Lcom/example/vistrace/vistrace/checker/Model;").before a0 Z = true := hw _ (List.mem_of_getElem? (i := 16) rfl)
theorem w17 {Z : State} {a0 : Array Value} (hw : ∀ d ∈ tables_1, d.before a0 Z = true) : (Jvm.Cond.laysStatic "com/example/vistrace/vistrace/checker/Model" "PIPELINED" "Lcom/example/vistrace/vistrace/checker/Model;").before a0 Z = true := hw _ (List.mem_of_getElem? (i := 17) rfl)
theorem w18 {Z : State} {a0 : Array Value} (hw : ∀ d ∈ tables_1, d.before a0 Z = true) : (Jvm.Cond.fieldLink "com/example/vistrace/vistrace/checker/ModelNeedsTimesPinLaw" (31 : Nat) "com/example/vistrace/vistrace/checker/Model" "PIPELINED_PREFIX" "Lcom/example/vistrace/vistrace/checker/Model;").before a0 Z = true := hw _ (List.mem_of_getElem? (i := 18) rfl)
theorem w19 {Z : State} {a0 : Array Value} (hw : ∀ d ∈ tables_1, d.before a0 Z = true) : (Jvm.Cond.laysStatic "com/example/vistrace/vistrace/checker/Model" "PIPELINED_PREFIX" "Lcom/example/vistrace/vistrace/checker/Model;").before a0 Z = true := hw _ (List.mem_of_getElem? (i := 19) rfl)
theorem w20 {Z : State} {a0 : Array Value} (hw : ∀ d ∈ tables_1, d.before a0 Z = true) : (Jvm.Cond.fieldLink "com/example/vistrace/vistrace/checker/ModelNeedsTimesPinLaw" (34 : Nat) "com/example/vistrace/vistrace/checker/Model" "PIPELINED_REPLAY" "Lcom/example/vistrace/vistrace/checker/Model;").before a0 Z = true := hw _ (List.mem_of_getElem? (i := 20) rfl)
theorem w21 {Z : State} {a0 : Array Value} (hw : ∀ d ∈ tables_1, d.before a0 Z = true) : (Jvm.Cond.laysStatic "com/example/vistrace/vistrace/checker/Model" "PIPELINED_REPLAY" "Lcom/example/vistrace/vistrace/checker/Model;").before a0 Z = true := hw _ (List.mem_of_getElem? (i := 21) rfl)
theorem w22 {Z : State} {a0 : Array Value} (hw : ∀ d ∈ tables_1, d.before a0 Z = true) : (Jvm.Cond.fieldLink "com/example/vistrace/vistrace/checker/ModelNeedsTimesPinLaw" (37 : Nat) "com/example/vistrace/vistrace/checker/Model" "SERIAL" "Lcom/example/vistrace/vistrace/checker/Model;").before a0 Z = true := hw _ (List.mem_of_getElem? (i := 22) rfl)
theorem w23 {Z : State} {a0 : Array Value} (hw : ∀ d ∈ tables_1, d.before a0 Z = true) : (Jvm.Cond.laysStatic "com/example/vistrace/vistrace/checker/Model" "SERIAL" "Lcom/example/vistrace/vistrace/checker/Model;").before a0 Z = true := hw _ (List.mem_of_getElem? (i := 23) rfl)
theorem w24 {Z : State} {a0 : Array Value} (hw : ∀ d ∈ tables_1, d.before a0 Z = true) : (Jvm.Cond.fieldLink "com/example/vistrace/vistrace/checker/ModelNeedsTimesPinLaw" (40 : Nat) "com/example/vistrace/vistrace/checker/Model" "PREFIX" "Lcom/example/vistrace/vistrace/checker/Model;").before a0 Z = true := hw _ (List.mem_of_getElem? (i := 24) rfl)
theorem w25 {Z : State} {a0 : Array Value} (hw : ∀ d ∈ tables_1, d.before a0 Z = true) : (Jvm.Cond.laysStatic "com/example/vistrace/vistrace/checker/Model" "PREFIX" "Lcom/example/vistrace/vistrace/checker/Model;").before a0 Z = true := hw _ (List.mem_of_getElem? (i := 25) rfl)
theorem w26 {Z : State} {a0 : Array Value} (hw : ∀ d ∈ tables_1, d.before a0 Z = true) : (Jvm.Cond.fieldLink "com/example/vistrace/vistrace/checker/ModelNeedsTimesPinLaw" (43 : Nat) "com/example/vistrace/vistrace/checker/Model" "REPLAY" "Lcom/example/vistrace/vistrace/checker/Model;").before a0 Z = true := hw _ (List.mem_of_getElem? (i := 26) rfl)
theorem w27 {Z : State} {a0 : Array Value} (hw : ∀ d ∈ tables_1, d.before a0 Z = true) : (Jvm.Cond.laysStatic "com/example/vistrace/vistrace/checker/Model" "REPLAY" "Lcom/example/vistrace/vistrace/checker/Model;").before a0 Z = true := hw _ (List.mem_of_getElem? (i := 27) rfl)
theorem w28 {Z : State} {a0 : Array Value} (hw : ∀ d ∈ tables_1, d.before a0 Z = true) : (Jvm.Cond.fieldLink "com/example/vistrace/vistrace/checker/ModelNeedsTimesPinLaw" (46 : Nat) "com/example/vistrace/vistrace/checker/Model" "CAUSALITY" "Lcom/example/vistrace/vistrace/checker/Model;").before a0 Z = true := hw _ (List.mem_of_getElem? (i := 28) rfl)
theorem w29 {Z : State} {a0 : Array Value} (hw : ∀ d ∈ tables_1, d.before a0 Z = true) : (Jvm.Cond.laysStatic "com/example/vistrace/vistrace/checker/Model" "CAUSALITY" "Lcom/example/vistrace/vistrace/checker/Model;").before a0 Z = true := hw _ (List.mem_of_getElem? (i := 29) rfl)
theorem w30 {Z : State} {a0 : Array Value} (hw : ∀ d ∈ tables_1, d.before a0 Z = true) : (Jvm.Cond.fieldLink "com/example/vistrace/vistrace/checker/ModelNeedsTimesPinLaw" (49 : Nat) "com/example/vistrace/vistrace/checker/Model" "PIPELINING" "Lcom/example/vistrace/vistrace/checker/Model;").before a0 Z = true := hw _ (List.mem_of_getElem? (i := 30) rfl)
theorem w31 {Z : State} {a0 : Array Value} (hw : ∀ d ∈ tables_1, d.before a0 Z = true) : (Jvm.Cond.laysStatic "com/example/vistrace/vistrace/checker/Model" "PIPELINING" "Lcom/example/vistrace/vistrace/checker/Model;").before a0 Z = true := hw _ (List.mem_of_getElem? (i := 31) rfl)
theorem w32 {Z : State} {a0 : Array Value} (hw : ∀ d ∈ tables_1, d.before a0 Z = true) : (Jvm.Cond.fieldLink "com/example/vistrace/vistrace/checker/ModelNeedsTimesPinLaw" (52 : Nat) "com/example/vistrace/vistrace/checker/Model" "ARBITRATION" "Lcom/example/vistrace/vistrace/checker/Model;").before a0 Z = true := hw _ (List.mem_of_getElem? (i := 32) rfl)
theorem w33 {Z : State} {a0 : Array Value} (hw : ∀ d ∈ tables_1, d.before a0 Z = true) : (Jvm.Cond.laysStatic "com/example/vistrace/vistrace/checker/Model" "ARBITRATION" "Lcom/example/vistrace/vistrace/checker/Model;").before a0 Z = true := hw _ (List.mem_of_getElem? (i := 33) rfl)
theorem w34 {Z : State} {a0 : Array Value} (hw : ∀ d ∈ tables_1, d.before a0 Z = true) : (Jvm.Cond.fieldLink "com/example/vistrace/vistrace/checker/ModelNeedsTimesPinLaw" (55 : Nat) "com/example/vistrace/vistrace/checker/Model" "CONVERGENCE" "Lcom/example/vistrace/vistrace/checker/Model;").before a0 Z = true := hw _ (List.mem_of_getElem? (i := 34) rfl)
theorem w35 {Z : State} {a0 : Array Value} (hw : ∀ d ∈ tables_1, d.before a0 Z = true) : (Jvm.Cond.laysStatic "com/example/vistrace/vistrace/checker/Model" "CONVERGENCE" "Lcom/example/vistrace/vistrace/checker/Model;").before a0 Z = true := hw _ (List.mem_of_getElem? (i := 35) rfl)
theorem w36 {Z : State} {a0 : Array Value} (hw : ∀ d ∈ tables_1, d.before a0 Z = true) : (Jvm.Cond.fieldLink "com/example/vistrace/vistrace/checker/ModelNeedsTimesPinLaw" (58 : Nat) "com/example/vistrace/vistrace/checker/Model" "CLOSED_PAST" "Lcom/example/vistrace/vistrace/checker/Model;").before a0 Z = true := hw _ (List.mem_of_getElem? (i := 36) rfl)
theorem w37 {Z : State} {a0 : Array Value} (hw : ∀ d ∈ tables_1, d.before a0 Z = true) : (Jvm.Cond.laysStatic "com/example/vistrace/vistrace/checker/Model" "CLOSED_PAST" "Lcom/example/vistrace/vistrace/checker/Model;").before a0 Z = true := hw _ (List.mem_of_getElem? (i := 37) rfl)
theorem w38 {Z : State} {a0 : Array Value} (hw : ∀ d ∈ tables_1, d.before a0 Z = true) : (Jvm.Cond.fieldLink "com/example/vistrace/vistrace/checker/ModelNeedsTimesPinLaw" (61 : Nat) "com/example/vistrace/vistrace/checker/Model" "LOCAL_VISIBILITY" "Lcom/example/vistrace/vistrace/checker/Model;").before a0 Z = true := hw _ (List.mem_of_getElem? (i := 38) rfl)
theorem w39 {Z : State} {a0 : Array Value} (hw : ∀ d ∈ tables_1, d.before a0 Z = true) : (Jvm.Cond.laysStatic "com/example/vistrace/vistrace/checker/Model" "LOCAL_VISIBILITY" "Lcom/example/vistrace/vistrace/checker/Model;").before a0 Z = true := hw _ (List.mem_of_getElem? (i := 39) rfl)
theorem w40 {Z : State} {a0 : Array Value} (hw : ∀ d ∈ tables_1, d.before a0 Z = true) : (Jvm.Cond.fieldLink "com/example/vistrace/vistrace/checker/ModelNeedsTimesPinLaw" (64 : Nat) "com/example/vistrace/vistrace/checker/Model" "MONOTONIC_VISIBILITY" "Lcom/example/vistrace/vistrace/checker/Model;").before a0 Z = true := hw _ (List.mem_of_getElem? (i := 40) rfl)
theorem w41 {Z : State} {a0 : Array Value} (hw : ∀ d ∈ tables_1, d.before a0 Z = true) : (Jvm.Cond.laysStatic "com/example/vistrace/vistrace/checker/Model" "MONOTONIC_VISIBILITY" "Lcom/example/vistrace/vistrace/checker/Model;").before a0 Z = true := hw _ (List.mem_of_getElem? (i := 41) rfl)
theorem w42 {Z : State} {a0 : Array Value} (hw : ∀ d ∈ tables_1, d.before a0 Z = true) : (Jvm.Cond.fieldLink "com/example/vistrace/vistrace/checker/ModelNeedsTimesPinLaw" (67 : Nat) "com/example/vistrace/vistrace/checker/Model" "VALID" "Lcom/example/vistrace/vistrace/checker/Model;").before a0 Z = true := hw _ (List.mem_of_getElem? (i := 42) rfl)
theorem w43 {Z : State} {a0 : Array Value} (hw : ∀ d ∈ tables_1, d.before a0 Z = true) : (Jvm.Cond.laysStatic "com/example/vistrace/vistrace/checker/Model" "VALID" "Lcom/example/vistrace/vistrace/checker/Model;").before a0 Z = true := hw _ (List.mem_of_getElem? (i := 43) rfl)
theorem w44 {Z : State} {a0 : Array Value} (hw : ∀ d ∈ tables_1, d.before a0 Z = true) : (Jvm.Cond.constant "com/example/vistrace/vistrace/checker/ModelNeedsTimesPinLaw" (70 : Nat) (2147483647 : Int32)).before a0 Z = true := hw _ (List.mem_of_getElem? (i := 44) rfl)
theorem w45 {Z : State} {a0 : Array Value} (hw : ∀ d ∈ tables_1, d.before a0 Z = true) : (Jvm.Cond.methodLink "com/example/vistrace/vistrace/checker/ModelNeedsTimesPinLaw" (71 : Nat) ({ cls := "com/example/vistrace/vistrace/checker/Model", name := "needsTimes", desc := "()Z" } : Jvm.MethodName)).before a0 Z = true := hw _ (List.mem_of_getElem? (i := 45) rfl)
theorem w46 {Z : State} {a0 : Array Value} (hw : ∀ d ∈ tables_1, d.before a0 Z = true) : (Jvm.Cond.declares ({ cls := "com/example/vistrace/vistrace/checker/Model", name := "needsTimes", desc := "()Z" } : Jvm.MethodName)).before a0 Z = true := hw _ (List.mem_of_getElem? (i := 46) rfl)
theorem w47 {Z : State} {a0 : Array Value} (hw : ∀ d ∈ tables_1, d.before a0 Z = true) : (Jvm.Cond.instanceMethod ({ cls := "com/example/vistrace/vistrace/checker/Model", name := "needsTimes", desc := "()Z" } : Jvm.MethodName)).before a0 Z = true := hw _ (List.mem_of_getElem? (i := 47) rfl)
theorem w48 {Z : State} {a0 : Array Value} (hw : ∀ d ∈ tables_1, d.before a0 Z = true) : (Jvm.Cond.selects "com/example/vistrace/vistrace/checker/Model" ({ cls := "com/example/vistrace/vistrace/checker/Model", name := "needsTimes", desc := "()Z" } : Jvm.MethodName) ({ cls := "com/example/vistrace/vistrace/checker/Model", name := "needsTimes", desc := "()Z" } : Jvm.MethodName)).before a0 Z = true := hw _ (List.mem_of_getElem? (i := 48) rfl)
theorem w49 {Z : State} {a0 : Array Value} (hw : ∀ d ∈ tables_1, d.before a0 Z = true) : (Jvm.Cond.code ({ cls := "com/example/vistrace/vistrace/checker/Model", name := "needsTimes", desc := "()Z" } : Jvm.MethodName) prog_7_method_5_code (1 : Nat) (Option.some Jvm.ClassFile.FieldType.boolean)).before a0 Z = true := hw _ (List.mem_of_getElem? (i := 49) rfl)
theorem w50 {Z : State} {a0 : Array Value} (hw : ∀ d ∈ tables_1, d.before a0 Z = true) : (Jvm.Cond.fieldLink "com/example/vistrace/vistrace/checker/Model" (3 : Nat) "com/example/vistrace/vistrace/checker/Model" "LINEARIZABLE" "Lcom/example/vistrace/vistrace/checker/Model;").before a0 Z = true := hw _ (List.mem_of_getElem? (i := 50) rfl)
theorem d1_0 : decode prog_7_method_5_code 0 = .ok (.aload_n 0, 1) := by decide +kernel
theorem d1_1 : decode prog_7_method_5_code 1 = .ok (.getstatic 3, 3) := by decide +kernel
theorem d1_4 : decode prog_7_method_5_code 4 = .ok (.if_acmp .ne 7, 3) := by decide +kernel
theorem d1_7 : decode prog_7_method_5_code 7 = .ok (.iconst 1, 1) := by decide +kernel
theorem d1_8 : decode prog_7_method_5_code 8 = .ok (.goto 4, 3) := by decide +kernel
theorem d1_11 : decode prog_7_method_5_code 11 = .ok (.iconst 0, 1) := by decide +kernel
theorem d1_12 : decode prog_7_method_5_code 12 = .ok (.ireturn, 1) := by decide +kernel
theorem pd0 : parseMethodDescriptor "()Z" = some ⟨[], some .boolean⟩ := by decide +kernel
theorem pn0 : plainName "com/example/vistrace/vistrace/checker/Model" = true := by first | (simp [plainName, overriddenIn]; done) | decide +kernel
theorem pn1 : plainName "com/example/vistrace/vistrace/checker/ModelNeedsTimesPinLaw" = true := by first | (simp [plainName, overriddenIn]; done) | decide +kernel
theorem ef_rmS (m : MethodId) (a : Addr) : entryFrame m #[(.ref a)] 1 = (mkF m 0 #[.val (.ref a)] []) := by first | (simp [entryFrame, mkF, argsToLocals, Value.category]; done) | rfl
set_option maxRecDepth 65536 in
set_option maxHeartbeats 40000000 in
theorem rmS (l : Launch) (Z : State) (a0 : Array Value) (hw : ∀ d ∈ tables_1, d.before a0 Z = true) (n0 : Nat) (a : Addr) (Dr : List (Addr × Itm)) (S0 : Sta Z Z.heap own_M "LINEARIZABLE" own_De (.ref a)) :
    Con l Z n0 (⟨"com/example/vistrace/vistrace/checker/Model", "needsTimes", "()Z"⟩ : MethodName) prog_7_method_5_code 1 (some .boolean) ({ frames := 0, cells := 0, slots := 0, locals := 0 } : Room) #[(.ref a)] Dr (fun v D' => v = some (.int (1 : Int32)) ∧ D' = Dr) := by
  refine Con.of (plainFor_of_name pn0) ?_
  intro p e s m below meth c T cx Y
  obtain ⟨hx, hby, hml, hown, hnm, hret, hlk, hZ⟩ := cx
  rw [ef_rmS]
  generalize hF : Fi Z n0 below s _ _ _ = F
  refine Rn.go (T' := T) (g' := (mkF m 1 #[.val (.ref a)] [(.ref a)])) (fun t k => ?_) ?_
  · show Steps p.tables e below (T.setTop (mkF m 0 #[.val (.ref a)] [])) t
    refine XS.aloadN Y.here hx rfl (hb hby d1_0) rfl rfl ?_
    show Steps p.tables e below (T.setTop (mkF m 1 #[.val (.ref a)] [(.ref a)])) t
    exact k
  refine On.gets Y hx hZ hown (w50 hw) S0 (g := (mkF m 1 #[.val (.ref a)] [(.ref a)])) rfl (hb hby d1_1) fun T1 Y2 => ?_
  show Rn p e below F T1 (mkF m 4 #[.val (.ref a)] [(.ref a), (.ref a)])
  refine On.acmp Y2 hx (g := (mkF m 4 #[.val (.ref a)] [(.ref a), (.ref a)])) rfl rfl rfl (pc0 := 4) (pc' := 7) (same := true) rfl (hb hby d1_4) rfl (decide_eq_true rfl) (by decide) (by decide) ?_
  show Rn p e below F T1 (mkF m 7 #[.val (.ref a)] [])
  refine Rn.go (T' := T1) (g' := (mkF m 12 #[.val (.ref a)] [(.int (1 : Int32))])) (fun t k => ?_) ?_
  · show Steps p.tables e below (T1.setTop (mkF m 7 #[.val (.ref a)] [])) t
    refine XS.iconst Y2.here hx rfl (hb hby d1_7) ?_
    show Steps p.tables e below (T1.setTop (mkF m 8 #[.val (.ref a)] [(.int (1 : Int32))])) t
    refine XS.goto Y2.here hx rfl (pc0 := 8) (pc' := 12) rfl (hb hby d1_8) (by decide) (by decide) ?_
    show Steps p.tables e below (T1.setTop (mkF m 12 #[.val (.ref a)] [(.int (1 : Int32))])) t
    exact k
  rw [← hF]; exact On.retn Y2 hx hret (by simp) hlk (z' := (1 : Int32)) (by decide) (hb hby d1_12) (by decide) (by decide) ⟨rfl, rfl⟩
theorem ef_rmD (m : MethodId) (a : Addr) : entryFrame m #[(.ref a)] 1 = (mkF m 0 #[.val (.ref a)] []) := by first | (simp [entryFrame, mkF, argsToLocals, Value.category]; done) | rfl
set_option maxRecDepth 65536 in
set_option maxHeartbeats 40000000 in
theorem rmD (l : Launch) (Z : State) (a0 : Array Value) (hw : ∀ d ∈ tables_1, d.before a0 Z = true) (n0 : Nat) (a : Addr) (m0 : Addr) (Dr : List (Addr × Itm)) (S0 : Sta Z Z.heap own_M "LINEARIZABLE" own_De (.ref m0)) (hne : a ≠ m0) :
    Con l Z n0 (⟨"com/example/vistrace/vistrace/checker/Model", "needsTimes", "()Z"⟩ : MethodName) prog_7_method_5_code 1 (some .boolean) ({ frames := 0, cells := 0, slots := 0, locals := 0 } : Room) #[(.ref a)] Dr (fun v D' => v = some (.int (0 : Int32)) ∧ D' = Dr) := by
  refine Con.of (plainFor_of_name pn0) ?_
  intro p e s m below meth c T cx Y
  obtain ⟨hx, hby, hml, hown, hnm, hret, hlk, hZ⟩ := cx
  rw [ef_rmD]
  generalize hF : Fi Z n0 below s _ _ _ = F
  refine Rn.go (T' := T) (g' := (mkF m 1 #[.val (.ref a)] [(.ref a)])) (fun t k => ?_) ?_
  · show Steps p.tables e below (T.setTop (mkF m 0 #[.val (.ref a)] [])) t
    refine XS.aloadN Y.here hx rfl (hb hby d1_0) rfl rfl ?_
    show Steps p.tables e below (T.setTop (mkF m 1 #[.val (.ref a)] [(.ref a)])) t
    exact k
  refine On.gets Y hx hZ hown (w50 hw) S0 (g := (mkF m 1 #[.val (.ref a)] [(.ref a)])) rfl (hb hby d1_1) fun T1 Y2 => ?_
  show Rn p e below F T1 (mkF m 4 #[.val (.ref a)] [(.ref m0), (.ref a)])
  refine On.acmp Y2 hx (g := (mkF m 4 #[.val (.ref a)] [(.ref m0), (.ref a)])) rfl rfl rfl (pc0 := 4) (pc' := 11) (same := false) rfl (hb hby d1_4) rfl (decide_eq_false fun q => hne (Value.ref.inj q)) (by decide) (by decide) ?_
  show Rn p e below F T1 (mkF m 11 #[.val (.ref a)] [])
  refine Rn.go (T' := T1) (g' := (mkF m 12 #[.val (.ref a)] [(.int (0 : Int32))])) (fun t k => ?_) ?_
  · show Steps p.tables e below (T1.setTop (mkF m 11 #[.val (.ref a)] [])) t
    refine XS.iconst Y2.here hx rfl (hb hby d1_11) ?_
    show Steps p.tables e below (T1.setTop (mkF m 12 #[.val (.ref a)] [(.int (0 : Int32))])) t
    exact k
  rw [← hF]; exact On.retn Y2 hx hret (by simp) hlk (z' := (0 : Int32)) (by decide) (hb hby d1_12) (by decide) (by decide) ⟨rfl, rfl⟩
theorem ef_rm0 (m : MethodId) (p0 : Int32) : entryFrame m #[(.int p0)] maxLocals = (mkF m 0 #[.val (.int p0), .unset, .unset, .unset, .unset] []) := by first | (simp [entryFrame, mkF, argsToLocals, Value.category, maxLocals]; done) | rfl
set_option maxRecDepth 65536 in
set_option maxHeartbeats 40000000 in
theorem rm0 (l : Launch) (Z : State) (a0 : Array Value) (hw : ∀ d ∈ tables_1, d.before a0 Z = true) (n0 : Nat) (p0 : Int32) (m0 : Addr) (m1 : Addr) (m2 : Addr) (m3 : Addr) (m4 : Addr) (m5 : Addr) (m6 : Addr) (m7 : Addr) (m8 : Addr) (m9 : Addr) (m10 : Addr) (m11 : Addr) (m12 : Addr) (m13 : Addr) (m14 : Addr) (m15 : Addr) (m16 : Addr) (m17 : Addr) (m18 : Addr) (m19 : Addr) (S0 : Sta Z Z.heap own_M "LINEARIZABLE" own_De (.ref m0)) (S1 : Sta Z Z.heap own_M "SEQUENTIAL" own_De (.ref m1)) (S2 : Sta Z Z.heap own_M "CONVERGENT_CAUSAL" own_De (.ref m2)) (S3 : Sta Z Z.heap own_M "CAUSAL" own_De (.ref m3)) (S4 : Sta Z Z.heap own_M "CAUSAL_PREFIX" own_De (.ref m4)) (S5 : Sta Z Z.heap own_M "CAUSAL_REPLAY" own_De (.ref m5)) (S6 : Sta Z Z.heap own_M "PIPELINED" own_De (.ref m6)) (S7 : Sta Z Z.heap own_M "PIPELINED_PREFIX" own_De (.ref m7)) (S8 : Sta Z Z.heap own_M "PIPELINED_REPLAY" own_De (.ref m8)) (S9 : Sta Z Z.heap own_M "SERIAL" own_De (.ref m9)) (S10 : Sta Z Z.heap own_M "PREFIX" own_De (.ref m10)) (S11 : Sta Z Z.heap own_M "REPLAY" own_De (.ref m11)) (S12 : Sta Z Z.heap own_M "CAUSALITY" own_De (.ref m12)) (S13 : Sta Z Z.heap own_M "PIPELINING" own_De (.ref m13)) (S14 : Sta Z Z.heap own_M "ARBITRATION" own_De (.ref m14)) (S15 : Sta Z Z.heap own_M "CONVERGENCE" own_De (.ref m15)) (S16 : Sta Z Z.heap own_M "CLOSED_PAST" own_De (.ref m16)) (S17 : Sta Z Z.heap own_M "LOCAL_VISIBILITY" own_De (.ref m17)) (S18 : Sta Z Z.heap own_M "MONOTONIC_VISIBILITY" own_De (.ref m18)) (S19 : Sta Z Z.heap own_M "VALID" own_De (.ref m19)) (E0 : Exa Z Z.heap m0 own_M) (E1 : Exa Z Z.heap m1 own_M) (E2 : Exa Z Z.heap m2 own_M) (E3 : Exa Z Z.heap m3 own_M) (E4 : Exa Z Z.heap m4 own_M) (E5 : Exa Z Z.heap m5 own_M) (E6 : Exa Z Z.heap m6 own_M) (E7 : Exa Z Z.heap m7 own_M) (E8 : Exa Z Z.heap m8 own_M) (E9 : Exa Z Z.heap m9 own_M) (E10 : Exa Z Z.heap m10 own_M) (E11 : Exa Z Z.heap m11 own_M) (E12 : Exa Z Z.heap m12 own_M) (E13 : Exa Z Z.heap m13 own_M) (E14 : Exa Z Z.heap m14 own_M) (E15 : Exa Z Z.heap m15 own_M) (E16 : Exa Z Z.heap m16 own_M) (E17 : Exa Z Z.heap m17 own_M) (E18 : Exa Z Z.heap m18 own_M) (E19 : Exa Z Z.heap m19 own_M) (N1 : m1 ≠ m0) (N2 : m2 ≠ m0) (N3 : m3 ≠ m0) (N4 : m4 ≠ m0) (N5 : m5 ≠ m0) (N6 : m6 ≠ m0) (N7 : m7 ≠ m0) (N8 : m8 ≠ m0) (N9 : m9 ≠ m0) (N10 : m10 ≠ m0) (N11 : m11 ≠ m0) (N12 : m12 ≠ m0) (N13 : m13 ≠ m0) (N14 : m14 ≠ m0) (N15 : m15 ≠ m0) (N16 : m16 ≠ m0) (N17 : m17 ≠ m0) (N18 : m18 ≠ m0) (N19 : m19 ≠ m0) :
    Con l Z n0 x code maxLocals ret room_1 #[(.int p0)] [] (fun v _ => v = some (.int 1)) := by
  refine Con.of (plainFor_of_name pn1) ?_
  intro p e s m below meth c T cx Y
  obtain ⟨hx, hby, hml, hown, hnm, hret, hlk, hZ⟩ := cx
  rw [ef_rm0]
  generalize hF : Fi Z n0 below s _ _ _ = F
  refine Rn.go (T' := T) (g' := (mkF m 2 #[.val (.int p0), .unset, .unset, .unset, .unset] [(.int (20 : Int32))])) (fun t k => ?_) ?_
  · show Steps p.tables e below (T.setTop (mkF m 0 #[.val (.int p0), .unset, .unset, .unset, .unset] [])) t
    refine XS.bipush Y.here hx rfl (hb hby at_0) ?_
    show Steps p.tables e below (T.setTop (mkF m 2 #[.val (.int p0), .unset, .unset, .unset, .unset] [(.int (20 : Int32))])) t
    exact k
  refine On.newr Y hx hZ hown (w0 hw) (w1 hw) (g := (mkF m 2 #[.val (.int p0), .unset, .unset, .unset, .unset] [(.int (20 : Int32))])) rfl (hb hby at_2) rfl (by decide) (N := 20) (cap := 20) rfl (by decide) (by decide) (by decide) (by decide) fun T1 a3 Y2 => ?_
  replace Y2 : On p l e _ s m _ below meth c Z n0 T1 1 20 [ar a3 (.object "com/example/vistrace/vistrace/checker/Model") (20 : Int32) [.null, .null, .null, .null, .null, .null, .null, .null, .null, .null, .null, .null, .null, .null, .null, .null, .null, .null, .null, .null]] := Y2
  show Rn p e below F T1 (mkF m 5 #[.val (.int p0), .unset, .unset, .unset, .unset] [(.ref a3)])
  refine Rn.go (T' := T1) (g' := (mkF m 7 #[.val (.int p0), .unset, .unset, .unset, .unset] [(.int (0 : Int32)), (.ref a3), (.ref a3)])) (fun t k => ?_) ?_
  · show Steps p.tables e below (T1.setTop (mkF m 5 #[.val (.int p0), .unset, .unset, .unset, .unset] [(.ref a3)])) t
    refine XS.dup Y2.here hx rfl (hb hby at_5) rfl rfl ?_
    show Steps p.tables e below (T1.setTop (mkF m 6 #[.val (.int p0), .unset, .unset, .unset, .unset] [(.ref a3), (.ref a3)])) t
    refine XS.iconst Y2.here hx rfl (hb hby at_6) ?_
    show Steps p.tables e below (T1.setTop (mkF m 7 #[.val (.int p0), .unset, .unset, .unset, .unset] [(.int (0 : Int32)), (.ref a3), (.ref a3)])) t
    exact k
  refine On.gets Y2 hx hZ hown (w2 hw) S0 (g := (mkF m 7 #[.val (.int p0), .unset, .unset, .unset, .unset] [(.int (0 : Int32)), (.ref a3), (.ref a3)])) rfl (hb hby at_7) fun T4 Y5 => ?_
  show Rn p e below F T4 (mkF m 10 #[.val (.int p0), .unset, .unset, .unset, .unset] [(.ref m0), (.int (0 : Int32)), (.ref a3), (.ref a3)])
  refine On.rsto Y5 hx hZ (i := 0) rfl (by decide) (by show 0 < 20; decide) (E0.ext (On.old Y5)) (g := (mkF m 10 #[.val (.int p0), .unset, .unset, .unset, .unset] [(.ref m0), (.int (0 : Int32)), (.ref a3), (.ref a3)])) rfl rfl (hb hby at_10) fun T6 Y7 => ?_
  replace Y7 : On p l e _ s m _ below meth c Z n0 T6 1 20 [ar a3 (.object "com/example/vistrace/vistrace/checker/Model") (20 : Int32) [(.ref m0), .null, .null, .null, .null, .null, .null, .null, .null, .null, .null, .null, .null, .null, .null, .null, .null, .null, .null, .null]] := Y7
  show Rn p e below F T6 (mkF m 11 #[.val (.int p0), .unset, .unset, .unset, .unset] [(.ref a3)])
  refine Rn.go (T' := T6) (g' := (mkF m 13 #[.val (.int p0), .unset, .unset, .unset, .unset] [(.int (1 : Int32)), (.ref a3), (.ref a3)])) (fun t k => ?_) ?_
  · show Steps p.tables e below (T6.setTop (mkF m 11 #[.val (.int p0), .unset, .unset, .unset, .unset] [(.ref a3)])) t
    refine XS.dup Y7.here hx rfl (hb hby at_11) rfl rfl ?_
    show Steps p.tables e below (T6.setTop (mkF m 12 #[.val (.int p0), .unset, .unset, .unset, .unset] [(.ref a3), (.ref a3)])) t
    refine XS.iconst Y7.here hx rfl (hb hby at_12) ?_
    show Steps p.tables e below (T6.setTop (mkF m 13 #[.val (.int p0), .unset, .unset, .unset, .unset] [(.int (1 : Int32)), (.ref a3), (.ref a3)])) t
    exact k
  refine On.gets Y7 hx hZ hown (w6 hw) S1 (g := (mkF m 13 #[.val (.int p0), .unset, .unset, .unset, .unset] [(.int (1 : Int32)), (.ref a3), (.ref a3)])) rfl (hb hby at_13) fun T8 Y9 => ?_
  show Rn p e below F T8 (mkF m 16 #[.val (.int p0), .unset, .unset, .unset, .unset] [(.ref m1), (.int (1 : Int32)), (.ref a3), (.ref a3)])
  refine On.rsto Y9 hx hZ (i := 0) rfl (by decide) (by show 1 < 20; decide) (E1.ext (On.old Y9)) (g := (mkF m 16 #[.val (.int p0), .unset, .unset, .unset, .unset] [(.ref m1), (.int (1 : Int32)), (.ref a3), (.ref a3)])) rfl rfl (hb hby at_16) fun T10 Y11 => ?_
  replace Y11 : On p l e _ s m _ below meth c Z n0 T10 1 20 [ar a3 (.object "com/example/vistrace/vistrace/checker/Model") (20 : Int32) [(.ref m0), (.ref m1), .null, .null, .null, .null, .null, .null, .null, .null, .null, .null, .null, .null, .null, .null, .null, .null, .null, .null]] := Y11
  show Rn p e below F T10 (mkF m 17 #[.val (.int p0), .unset, .unset, .unset, .unset] [(.ref a3)])
  refine Rn.go (T' := T10) (g' := (mkF m 19 #[.val (.int p0), .unset, .unset, .unset, .unset] [(.int (2 : Int32)), (.ref a3), (.ref a3)])) (fun t k => ?_) ?_
  · show Steps p.tables e below (T10.setTop (mkF m 17 #[.val (.int p0), .unset, .unset, .unset, .unset] [(.ref a3)])) t
    refine XS.dup Y11.here hx rfl (hb hby at_17) rfl rfl ?_
    show Steps p.tables e below (T10.setTop (mkF m 18 #[.val (.int p0), .unset, .unset, .unset, .unset] [(.ref a3), (.ref a3)])) t
    refine XS.iconst Y11.here hx rfl (hb hby at_18) ?_
    show Steps p.tables e below (T10.setTop (mkF m 19 #[.val (.int p0), .unset, .unset, .unset, .unset] [(.int (2 : Int32)), (.ref a3), (.ref a3)])) t
    exact k
  refine On.gets Y11 hx hZ hown (w8 hw) S2 (g := (mkF m 19 #[.val (.int p0), .unset, .unset, .unset, .unset] [(.int (2 : Int32)), (.ref a3), (.ref a3)])) rfl (hb hby at_19) fun T12 Y13 => ?_
  show Rn p e below F T12 (mkF m 22 #[.val (.int p0), .unset, .unset, .unset, .unset] [(.ref m2), (.int (2 : Int32)), (.ref a3), (.ref a3)])
  refine On.rsto Y13 hx hZ (i := 0) rfl (by decide) (by show 2 < 20; decide) (E2.ext (On.old Y13)) (g := (mkF m 22 #[.val (.int p0), .unset, .unset, .unset, .unset] [(.ref m2), (.int (2 : Int32)), (.ref a3), (.ref a3)])) rfl rfl (hb hby at_22) fun T14 Y15 => ?_
  replace Y15 : On p l e _ s m _ below meth c Z n0 T14 1 20 [ar a3 (.object "com/example/vistrace/vistrace/checker/Model") (20 : Int32) [(.ref m0), (.ref m1), (.ref m2), .null, .null, .null, .null, .null, .null, .null, .null, .null, .null, .null, .null, .null, .null, .null, .null, .null]] := Y15
  show Rn p e below F T14 (mkF m 23 #[.val (.int p0), .unset, .unset, .unset, .unset] [(.ref a3)])
  refine Rn.go (T' := T14) (g' := (mkF m 25 #[.val (.int p0), .unset, .unset, .unset, .unset] [(.int (3 : Int32)), (.ref a3), (.ref a3)])) (fun t k => ?_) ?_
  · show Steps p.tables e below (T14.setTop (mkF m 23 #[.val (.int p0), .unset, .unset, .unset, .unset] [(.ref a3)])) t
    refine XS.dup Y15.here hx rfl (hb hby at_23) rfl rfl ?_
    show Steps p.tables e below (T14.setTop (mkF m 24 #[.val (.int p0), .unset, .unset, .unset, .unset] [(.ref a3), (.ref a3)])) t
    refine XS.iconst Y15.here hx rfl (hb hby at_24) ?_
    show Steps p.tables e below (T14.setTop (mkF m 25 #[.val (.int p0), .unset, .unset, .unset, .unset] [(.int (3 : Int32)), (.ref a3), (.ref a3)])) t
    exact k
  refine On.gets Y15 hx hZ hown (w10 hw) S3 (g := (mkF m 25 #[.val (.int p0), .unset, .unset, .unset, .unset] [(.int (3 : Int32)), (.ref a3), (.ref a3)])) rfl (hb hby at_25) fun T16 Y17 => ?_
  show Rn p e below F T16 (mkF m 28 #[.val (.int p0), .unset, .unset, .unset, .unset] [(.ref m3), (.int (3 : Int32)), (.ref a3), (.ref a3)])
  refine On.rsto Y17 hx hZ (i := 0) rfl (by decide) (by show 3 < 20; decide) (E3.ext (On.old Y17)) (g := (mkF m 28 #[.val (.int p0), .unset, .unset, .unset, .unset] [(.ref m3), (.int (3 : Int32)), (.ref a3), (.ref a3)])) rfl rfl (hb hby at_28) fun T18 Y19 => ?_
  replace Y19 : On p l e _ s m _ below meth c Z n0 T18 1 20 [ar a3 (.object "com/example/vistrace/vistrace/checker/Model") (20 : Int32) [(.ref m0), (.ref m1), (.ref m2), (.ref m3), .null, .null, .null, .null, .null, .null, .null, .null, .null, .null, .null, .null, .null, .null, .null, .null]] := Y19
  show Rn p e below F T18 (mkF m 29 #[.val (.int p0), .unset, .unset, .unset, .unset] [(.ref a3)])
  refine Rn.go (T' := T18) (g' := (mkF m 31 #[.val (.int p0), .unset, .unset, .unset, .unset] [(.int (4 : Int32)), (.ref a3), (.ref a3)])) (fun t k => ?_) ?_
  · show Steps p.tables e below (T18.setTop (mkF m 29 #[.val (.int p0), .unset, .unset, .unset, .unset] [(.ref a3)])) t
    refine XS.dup Y19.here hx rfl (hb hby at_29) rfl rfl ?_
    show Steps p.tables e below (T18.setTop (mkF m 30 #[.val (.int p0), .unset, .unset, .unset, .unset] [(.ref a3), (.ref a3)])) t
    refine XS.iconst Y19.here hx rfl (hb hby at_30) ?_
    show Steps p.tables e below (T18.setTop (mkF m 31 #[.val (.int p0), .unset, .unset, .unset, .unset] [(.int (4 : Int32)), (.ref a3), (.ref a3)])) t
    exact k
  refine On.gets Y19 hx hZ hown (w12 hw) S4 (g := (mkF m 31 #[.val (.int p0), .unset, .unset, .unset, .unset] [(.int (4 : Int32)), (.ref a3), (.ref a3)])) rfl (hb hby at_31) fun T20 Y21 => ?_
  show Rn p e below F T20 (mkF m 34 #[.val (.int p0), .unset, .unset, .unset, .unset] [(.ref m4), (.int (4 : Int32)), (.ref a3), (.ref a3)])
  refine On.rsto Y21 hx hZ (i := 0) rfl (by decide) (by show 4 < 20; decide) (E4.ext (On.old Y21)) (g := (mkF m 34 #[.val (.int p0), .unset, .unset, .unset, .unset] [(.ref m4), (.int (4 : Int32)), (.ref a3), (.ref a3)])) rfl rfl (hb hby at_34) fun T22 Y23 => ?_
  replace Y23 : On p l e _ s m _ below meth c Z n0 T22 1 20 [ar a3 (.object "com/example/vistrace/vistrace/checker/Model") (20 : Int32) [(.ref m0), (.ref m1), (.ref m2), (.ref m3), (.ref m4), .null, .null, .null, .null, .null, .null, .null, .null, .null, .null, .null, .null, .null, .null, .null]] := Y23
  show Rn p e below F T22 (mkF m 35 #[.val (.int p0), .unset, .unset, .unset, .unset] [(.ref a3)])
  refine Rn.go (T' := T22) (g' := (mkF m 37 #[.val (.int p0), .unset, .unset, .unset, .unset] [(.int (5 : Int32)), (.ref a3), (.ref a3)])) (fun t k => ?_) ?_
  · show Steps p.tables e below (T22.setTop (mkF m 35 #[.val (.int p0), .unset, .unset, .unset, .unset] [(.ref a3)])) t
    refine XS.dup Y23.here hx rfl (hb hby at_35) rfl rfl ?_
    show Steps p.tables e below (T22.setTop (mkF m 36 #[.val (.int p0), .unset, .unset, .unset, .unset] [(.ref a3), (.ref a3)])) t
    refine XS.iconst Y23.here hx rfl (hb hby at_36) ?_
    show Steps p.tables e below (T22.setTop (mkF m 37 #[.val (.int p0), .unset, .unset, .unset, .unset] [(.int (5 : Int32)), (.ref a3), (.ref a3)])) t
    exact k
  refine On.gets Y23 hx hZ hown (w14 hw) S5 (g := (mkF m 37 #[.val (.int p0), .unset, .unset, .unset, .unset] [(.int (5 : Int32)), (.ref a3), (.ref a3)])) rfl (hb hby at_37) fun T24 Y25 => ?_
  show Rn p e below F T24 (mkF m 40 #[.val (.int p0), .unset, .unset, .unset, .unset] [(.ref m5), (.int (5 : Int32)), (.ref a3), (.ref a3)])
  refine On.rsto Y25 hx hZ (i := 0) rfl (by decide) (by show 5 < 20; decide) (E5.ext (On.old Y25)) (g := (mkF m 40 #[.val (.int p0), .unset, .unset, .unset, .unset] [(.ref m5), (.int (5 : Int32)), (.ref a3), (.ref a3)])) rfl rfl (hb hby at_40) fun T26 Y27 => ?_
  replace Y27 : On p l e _ s m _ below meth c Z n0 T26 1 20 [ar a3 (.object "com/example/vistrace/vistrace/checker/Model") (20 : Int32) [(.ref m0), (.ref m1), (.ref m2), (.ref m3), (.ref m4), (.ref m5), .null, .null, .null, .null, .null, .null, .null, .null, .null, .null, .null, .null, .null, .null]] := Y27
  show Rn p e below F T26 (mkF m 41 #[.val (.int p0), .unset, .unset, .unset, .unset] [(.ref a3)])
  refine Rn.go (T' := T26) (g' := (mkF m 44 #[.val (.int p0), .unset, .unset, .unset, .unset] [(.int (6 : Int32)), (.ref a3), (.ref a3)])) (fun t k => ?_) ?_
  · show Steps p.tables e below (T26.setTop (mkF m 41 #[.val (.int p0), .unset, .unset, .unset, .unset] [(.ref a3)])) t
    refine XS.dup Y27.here hx rfl (hb hby at_41) rfl rfl ?_
    show Steps p.tables e below (T26.setTop (mkF m 42 #[.val (.int p0), .unset, .unset, .unset, .unset] [(.ref a3), (.ref a3)])) t
    refine XS.bipush Y27.here hx rfl (hb hby at_42) ?_
    show Steps p.tables e below (T26.setTop (mkF m 44 #[.val (.int p0), .unset, .unset, .unset, .unset] [(.int (6 : Int32)), (.ref a3), (.ref a3)])) t
    exact k
  refine On.gets Y27 hx hZ hown (w16 hw) S6 (g := (mkF m 44 #[.val (.int p0), .unset, .unset, .unset, .unset] [(.int (6 : Int32)), (.ref a3), (.ref a3)])) rfl (hb hby at_44) fun T28 Y29 => ?_
  show Rn p e below F T28 (mkF m 47 #[.val (.int p0), .unset, .unset, .unset, .unset] [(.ref m6), (.int (6 : Int32)), (.ref a3), (.ref a3)])
  refine On.rsto Y29 hx hZ (i := 0) rfl (by decide) (by show 6 < 20; decide) (E6.ext (On.old Y29)) (g := (mkF m 47 #[.val (.int p0), .unset, .unset, .unset, .unset] [(.ref m6), (.int (6 : Int32)), (.ref a3), (.ref a3)])) rfl rfl (hb hby at_47) fun T30 Y31 => ?_
  replace Y31 : On p l e _ s m _ below meth c Z n0 T30 1 20 [ar a3 (.object "com/example/vistrace/vistrace/checker/Model") (20 : Int32) [(.ref m0), (.ref m1), (.ref m2), (.ref m3), (.ref m4), (.ref m5), (.ref m6), .null, .null, .null, .null, .null, .null, .null, .null, .null, .null, .null, .null, .null]] := Y31
  show Rn p e below F T30 (mkF m 48 #[.val (.int p0), .unset, .unset, .unset, .unset] [(.ref a3)])
  refine Rn.go (T' := T30) (g' := (mkF m 51 #[.val (.int p0), .unset, .unset, .unset, .unset] [(.int (7 : Int32)), (.ref a3), (.ref a3)])) (fun t k => ?_) ?_
  · show Steps p.tables e below (T30.setTop (mkF m 48 #[.val (.int p0), .unset, .unset, .unset, .unset] [(.ref a3)])) t
    refine XS.dup Y31.here hx rfl (hb hby at_48) rfl rfl ?_
    show Steps p.tables e below (T30.setTop (mkF m 49 #[.val (.int p0), .unset, .unset, .unset, .unset] [(.ref a3), (.ref a3)])) t
    refine XS.bipush Y31.here hx rfl (hb hby at_49) ?_
    show Steps p.tables e below (T30.setTop (mkF m 51 #[.val (.int p0), .unset, .unset, .unset, .unset] [(.int (7 : Int32)), (.ref a3), (.ref a3)])) t
    exact k
  refine On.gets Y31 hx hZ hown (w18 hw) S7 (g := (mkF m 51 #[.val (.int p0), .unset, .unset, .unset, .unset] [(.int (7 : Int32)), (.ref a3), (.ref a3)])) rfl (hb hby at_51) fun T32 Y33 => ?_
  show Rn p e below F T32 (mkF m 54 #[.val (.int p0), .unset, .unset, .unset, .unset] [(.ref m7), (.int (7 : Int32)), (.ref a3), (.ref a3)])
  refine On.rsto Y33 hx hZ (i := 0) rfl (by decide) (by show 7 < 20; decide) (E7.ext (On.old Y33)) (g := (mkF m 54 #[.val (.int p0), .unset, .unset, .unset, .unset] [(.ref m7), (.int (7 : Int32)), (.ref a3), (.ref a3)])) rfl rfl (hb hby at_54) fun T34 Y35 => ?_
  replace Y35 : On p l e _ s m _ below meth c Z n0 T34 1 20 [ar a3 (.object "com/example/vistrace/vistrace/checker/Model") (20 : Int32) [(.ref m0), (.ref m1), (.ref m2), (.ref m3), (.ref m4), (.ref m5), (.ref m6), (.ref m7), .null, .null, .null, .null, .null, .null, .null, .null, .null, .null, .null, .null]] := Y35
  show Rn p e below F T34 (mkF m 55 #[.val (.int p0), .unset, .unset, .unset, .unset] [(.ref a3)])
  refine Rn.go (T' := T34) (g' := (mkF m 58 #[.val (.int p0), .unset, .unset, .unset, .unset] [(.int (8 : Int32)), (.ref a3), (.ref a3)])) (fun t k => ?_) ?_
  · show Steps p.tables e below (T34.setTop (mkF m 55 #[.val (.int p0), .unset, .unset, .unset, .unset] [(.ref a3)])) t
    refine XS.dup Y35.here hx rfl (hb hby at_55) rfl rfl ?_
    show Steps p.tables e below (T34.setTop (mkF m 56 #[.val (.int p0), .unset, .unset, .unset, .unset] [(.ref a3), (.ref a3)])) t
    refine XS.bipush Y35.here hx rfl (hb hby at_56) ?_
    show Steps p.tables e below (T34.setTop (mkF m 58 #[.val (.int p0), .unset, .unset, .unset, .unset] [(.int (8 : Int32)), (.ref a3), (.ref a3)])) t
    exact k
  refine On.gets Y35 hx hZ hown (w20 hw) S8 (g := (mkF m 58 #[.val (.int p0), .unset, .unset, .unset, .unset] [(.int (8 : Int32)), (.ref a3), (.ref a3)])) rfl (hb hby at_58) fun T36 Y37 => ?_
  show Rn p e below F T36 (mkF m 61 #[.val (.int p0), .unset, .unset, .unset, .unset] [(.ref m8), (.int (8 : Int32)), (.ref a3), (.ref a3)])
  refine On.rsto Y37 hx hZ (i := 0) rfl (by decide) (by show 8 < 20; decide) (E8.ext (On.old Y37)) (g := (mkF m 61 #[.val (.int p0), .unset, .unset, .unset, .unset] [(.ref m8), (.int (8 : Int32)), (.ref a3), (.ref a3)])) rfl rfl (hb hby at_61) fun T38 Y39 => ?_
  replace Y39 : On p l e _ s m _ below meth c Z n0 T38 1 20 [ar a3 (.object "com/example/vistrace/vistrace/checker/Model") (20 : Int32) [(.ref m0), (.ref m1), (.ref m2), (.ref m3), (.ref m4), (.ref m5), (.ref m6), (.ref m7), (.ref m8), .null, .null, .null, .null, .null, .null, .null, .null, .null, .null, .null]] := Y39
  show Rn p e below F T38 (mkF m 62 #[.val (.int p0), .unset, .unset, .unset, .unset] [(.ref a3)])
  refine Rn.go (T' := T38) (g' := (mkF m 65 #[.val (.int p0), .unset, .unset, .unset, .unset] [(.int (9 : Int32)), (.ref a3), (.ref a3)])) (fun t k => ?_) ?_
  · show Steps p.tables e below (T38.setTop (mkF m 62 #[.val (.int p0), .unset, .unset, .unset, .unset] [(.ref a3)])) t
    refine XS.dup Y39.here hx rfl (hb hby at_62) rfl rfl ?_
    show Steps p.tables e below (T38.setTop (mkF m 63 #[.val (.int p0), .unset, .unset, .unset, .unset] [(.ref a3), (.ref a3)])) t
    refine XS.bipush Y39.here hx rfl (hb hby at_63) ?_
    show Steps p.tables e below (T38.setTop (mkF m 65 #[.val (.int p0), .unset, .unset, .unset, .unset] [(.int (9 : Int32)), (.ref a3), (.ref a3)])) t
    exact k
  refine On.gets Y39 hx hZ hown (w22 hw) S9 (g := (mkF m 65 #[.val (.int p0), .unset, .unset, .unset, .unset] [(.int (9 : Int32)), (.ref a3), (.ref a3)])) rfl (hb hby at_65) fun T40 Y41 => ?_
  show Rn p e below F T40 (mkF m 68 #[.val (.int p0), .unset, .unset, .unset, .unset] [(.ref m9), (.int (9 : Int32)), (.ref a3), (.ref a3)])
  refine On.rsto Y41 hx hZ (i := 0) rfl (by decide) (by show 9 < 20; decide) (E9.ext (On.old Y41)) (g := (mkF m 68 #[.val (.int p0), .unset, .unset, .unset, .unset] [(.ref m9), (.int (9 : Int32)), (.ref a3), (.ref a3)])) rfl rfl (hb hby at_68) fun T42 Y43 => ?_
  replace Y43 : On p l e _ s m _ below meth c Z n0 T42 1 20 [ar a3 (.object "com/example/vistrace/vistrace/checker/Model") (20 : Int32) [(.ref m0), (.ref m1), (.ref m2), (.ref m3), (.ref m4), (.ref m5), (.ref m6), (.ref m7), (.ref m8), (.ref m9), .null, .null, .null, .null, .null, .null, .null, .null, .null, .null]] := Y43
  show Rn p e below F T42 (mkF m 69 #[.val (.int p0), .unset, .unset, .unset, .unset] [(.ref a3)])
  refine Rn.go (T' := T42) (g' := (mkF m 72 #[.val (.int p0), .unset, .unset, .unset, .unset] [(.int (10 : Int32)), (.ref a3), (.ref a3)])) (fun t k => ?_) ?_
  · show Steps p.tables e below (T42.setTop (mkF m 69 #[.val (.int p0), .unset, .unset, .unset, .unset] [(.ref a3)])) t
    refine XS.dup Y43.here hx rfl (hb hby at_69) rfl rfl ?_
    show Steps p.tables e below (T42.setTop (mkF m 70 #[.val (.int p0), .unset, .unset, .unset, .unset] [(.ref a3), (.ref a3)])) t
    refine XS.bipush Y43.here hx rfl (hb hby at_70) ?_
    show Steps p.tables e below (T42.setTop (mkF m 72 #[.val (.int p0), .unset, .unset, .unset, .unset] [(.int (10 : Int32)), (.ref a3), (.ref a3)])) t
    exact k
  refine On.gets Y43 hx hZ hown (w24 hw) S10 (g := (mkF m 72 #[.val (.int p0), .unset, .unset, .unset, .unset] [(.int (10 : Int32)), (.ref a3), (.ref a3)])) rfl (hb hby at_72) fun T44 Y45 => ?_
  show Rn p e below F T44 (mkF m 75 #[.val (.int p0), .unset, .unset, .unset, .unset] [(.ref m10), (.int (10 : Int32)), (.ref a3), (.ref a3)])
  refine On.rsto Y45 hx hZ (i := 0) rfl (by decide) (by show 10 < 20; decide) (E10.ext (On.old Y45)) (g := (mkF m 75 #[.val (.int p0), .unset, .unset, .unset, .unset] [(.ref m10), (.int (10 : Int32)), (.ref a3), (.ref a3)])) rfl rfl (hb hby at_75) fun T46 Y47 => ?_
  replace Y47 : On p l e _ s m _ below meth c Z n0 T46 1 20 [ar a3 (.object "com/example/vistrace/vistrace/checker/Model") (20 : Int32) [(.ref m0), (.ref m1), (.ref m2), (.ref m3), (.ref m4), (.ref m5), (.ref m6), (.ref m7), (.ref m8), (.ref m9), (.ref m10), .null, .null, .null, .null, .null, .null, .null, .null, .null]] := Y47
  show Rn p e below F T46 (mkF m 76 #[.val (.int p0), .unset, .unset, .unset, .unset] [(.ref a3)])
  refine Rn.go (T' := T46) (g' := (mkF m 79 #[.val (.int p0), .unset, .unset, .unset, .unset] [(.int (11 : Int32)), (.ref a3), (.ref a3)])) (fun t k => ?_) ?_
  · show Steps p.tables e below (T46.setTop (mkF m 76 #[.val (.int p0), .unset, .unset, .unset, .unset] [(.ref a3)])) t
    refine XS.dup Y47.here hx rfl (hb hby at_76) rfl rfl ?_
    show Steps p.tables e below (T46.setTop (mkF m 77 #[.val (.int p0), .unset, .unset, .unset, .unset] [(.ref a3), (.ref a3)])) t
    refine XS.bipush Y47.here hx rfl (hb hby at_77) ?_
    show Steps p.tables e below (T46.setTop (mkF m 79 #[.val (.int p0), .unset, .unset, .unset, .unset] [(.int (11 : Int32)), (.ref a3), (.ref a3)])) t
    exact k
  refine On.gets Y47 hx hZ hown (w26 hw) S11 (g := (mkF m 79 #[.val (.int p0), .unset, .unset, .unset, .unset] [(.int (11 : Int32)), (.ref a3), (.ref a3)])) rfl (hb hby at_79) fun T48 Y49 => ?_
  show Rn p e below F T48 (mkF m 82 #[.val (.int p0), .unset, .unset, .unset, .unset] [(.ref m11), (.int (11 : Int32)), (.ref a3), (.ref a3)])
  refine On.rsto Y49 hx hZ (i := 0) rfl (by decide) (by show 11 < 20; decide) (E11.ext (On.old Y49)) (g := (mkF m 82 #[.val (.int p0), .unset, .unset, .unset, .unset] [(.ref m11), (.int (11 : Int32)), (.ref a3), (.ref a3)])) rfl rfl (hb hby at_82) fun T50 Y51 => ?_
  replace Y51 : On p l e _ s m _ below meth c Z n0 T50 1 20 [ar a3 (.object "com/example/vistrace/vistrace/checker/Model") (20 : Int32) [(.ref m0), (.ref m1), (.ref m2), (.ref m3), (.ref m4), (.ref m5), (.ref m6), (.ref m7), (.ref m8), (.ref m9), (.ref m10), (.ref m11), .null, .null, .null, .null, .null, .null, .null, .null]] := Y51
  show Rn p e below F T50 (mkF m 83 #[.val (.int p0), .unset, .unset, .unset, .unset] [(.ref a3)])
  refine Rn.go (T' := T50) (g' := (mkF m 86 #[.val (.int p0), .unset, .unset, .unset, .unset] [(.int (12 : Int32)), (.ref a3), (.ref a3)])) (fun t k => ?_) ?_
  · show Steps p.tables e below (T50.setTop (mkF m 83 #[.val (.int p0), .unset, .unset, .unset, .unset] [(.ref a3)])) t
    refine XS.dup Y51.here hx rfl (hb hby at_83) rfl rfl ?_
    show Steps p.tables e below (T50.setTop (mkF m 84 #[.val (.int p0), .unset, .unset, .unset, .unset] [(.ref a3), (.ref a3)])) t
    refine XS.bipush Y51.here hx rfl (hb hby at_84) ?_
    show Steps p.tables e below (T50.setTop (mkF m 86 #[.val (.int p0), .unset, .unset, .unset, .unset] [(.int (12 : Int32)), (.ref a3), (.ref a3)])) t
    exact k
  refine On.gets Y51 hx hZ hown (w28 hw) S12 (g := (mkF m 86 #[.val (.int p0), .unset, .unset, .unset, .unset] [(.int (12 : Int32)), (.ref a3), (.ref a3)])) rfl (hb hby at_86) fun T52 Y53 => ?_
  show Rn p e below F T52 (mkF m 89 #[.val (.int p0), .unset, .unset, .unset, .unset] [(.ref m12), (.int (12 : Int32)), (.ref a3), (.ref a3)])
  refine On.rsto Y53 hx hZ (i := 0) rfl (by decide) (by show 12 < 20; decide) (E12.ext (On.old Y53)) (g := (mkF m 89 #[.val (.int p0), .unset, .unset, .unset, .unset] [(.ref m12), (.int (12 : Int32)), (.ref a3), (.ref a3)])) rfl rfl (hb hby at_89) fun T54 Y55 => ?_
  replace Y55 : On p l e _ s m _ below meth c Z n0 T54 1 20 [ar a3 (.object "com/example/vistrace/vistrace/checker/Model") (20 : Int32) [(.ref m0), (.ref m1), (.ref m2), (.ref m3), (.ref m4), (.ref m5), (.ref m6), (.ref m7), (.ref m8), (.ref m9), (.ref m10), (.ref m11), (.ref m12), .null, .null, .null, .null, .null, .null, .null]] := Y55
  show Rn p e below F T54 (mkF m 90 #[.val (.int p0), .unset, .unset, .unset, .unset] [(.ref a3)])
  refine Rn.go (T' := T54) (g' := (mkF m 93 #[.val (.int p0), .unset, .unset, .unset, .unset] [(.int (13 : Int32)), (.ref a3), (.ref a3)])) (fun t k => ?_) ?_
  · show Steps p.tables e below (T54.setTop (mkF m 90 #[.val (.int p0), .unset, .unset, .unset, .unset] [(.ref a3)])) t
    refine XS.dup Y55.here hx rfl (hb hby at_90) rfl rfl ?_
    show Steps p.tables e below (T54.setTop (mkF m 91 #[.val (.int p0), .unset, .unset, .unset, .unset] [(.ref a3), (.ref a3)])) t
    refine XS.bipush Y55.here hx rfl (hb hby at_91) ?_
    show Steps p.tables e below (T54.setTop (mkF m 93 #[.val (.int p0), .unset, .unset, .unset, .unset] [(.int (13 : Int32)), (.ref a3), (.ref a3)])) t
    exact k
  refine On.gets Y55 hx hZ hown (w30 hw) S13 (g := (mkF m 93 #[.val (.int p0), .unset, .unset, .unset, .unset] [(.int (13 : Int32)), (.ref a3), (.ref a3)])) rfl (hb hby at_93) fun T56 Y57 => ?_
  show Rn p e below F T56 (mkF m 96 #[.val (.int p0), .unset, .unset, .unset, .unset] [(.ref m13), (.int (13 : Int32)), (.ref a3), (.ref a3)])
  refine On.rsto Y57 hx hZ (i := 0) rfl (by decide) (by show 13 < 20; decide) (E13.ext (On.old Y57)) (g := (mkF m 96 #[.val (.int p0), .unset, .unset, .unset, .unset] [(.ref m13), (.int (13 : Int32)), (.ref a3), (.ref a3)])) rfl rfl (hb hby at_96) fun T58 Y59 => ?_
  replace Y59 : On p l e _ s m _ below meth c Z n0 T58 1 20 [ar a3 (.object "com/example/vistrace/vistrace/checker/Model") (20 : Int32) [(.ref m0), (.ref m1), (.ref m2), (.ref m3), (.ref m4), (.ref m5), (.ref m6), (.ref m7), (.ref m8), (.ref m9), (.ref m10), (.ref m11), (.ref m12), (.ref m13), .null, .null, .null, .null, .null, .null]] := Y59
  show Rn p e below F T58 (mkF m 97 #[.val (.int p0), .unset, .unset, .unset, .unset] [(.ref a3)])
  refine Rn.go (T' := T58) (g' := (mkF m 100 #[.val (.int p0), .unset, .unset, .unset, .unset] [(.int (14 : Int32)), (.ref a3), (.ref a3)])) (fun t k => ?_) ?_
  · show Steps p.tables e below (T58.setTop (mkF m 97 #[.val (.int p0), .unset, .unset, .unset, .unset] [(.ref a3)])) t
    refine XS.dup Y59.here hx rfl (hb hby at_97) rfl rfl ?_
    show Steps p.tables e below (T58.setTop (mkF m 98 #[.val (.int p0), .unset, .unset, .unset, .unset] [(.ref a3), (.ref a3)])) t
    refine XS.bipush Y59.here hx rfl (hb hby at_98) ?_
    show Steps p.tables e below (T58.setTop (mkF m 100 #[.val (.int p0), .unset, .unset, .unset, .unset] [(.int (14 : Int32)), (.ref a3), (.ref a3)])) t
    exact k
  refine On.gets Y59 hx hZ hown (w32 hw) S14 (g := (mkF m 100 #[.val (.int p0), .unset, .unset, .unset, .unset] [(.int (14 : Int32)), (.ref a3), (.ref a3)])) rfl (hb hby at_100) fun T60 Y61 => ?_
  show Rn p e below F T60 (mkF m 103 #[.val (.int p0), .unset, .unset, .unset, .unset] [(.ref m14), (.int (14 : Int32)), (.ref a3), (.ref a3)])
  refine On.rsto Y61 hx hZ (i := 0) rfl (by decide) (by show 14 < 20; decide) (E14.ext (On.old Y61)) (g := (mkF m 103 #[.val (.int p0), .unset, .unset, .unset, .unset] [(.ref m14), (.int (14 : Int32)), (.ref a3), (.ref a3)])) rfl rfl (hb hby at_103) fun T62 Y63 => ?_
  replace Y63 : On p l e _ s m _ below meth c Z n0 T62 1 20 [ar a3 (.object "com/example/vistrace/vistrace/checker/Model") (20 : Int32) [(.ref m0), (.ref m1), (.ref m2), (.ref m3), (.ref m4), (.ref m5), (.ref m6), (.ref m7), (.ref m8), (.ref m9), (.ref m10), (.ref m11), (.ref m12), (.ref m13), (.ref m14), .null, .null, .null, .null, .null]] := Y63
  show Rn p e below F T62 (mkF m 104 #[.val (.int p0), .unset, .unset, .unset, .unset] [(.ref a3)])
  refine Rn.go (T' := T62) (g' := (mkF m 107 #[.val (.int p0), .unset, .unset, .unset, .unset] [(.int (15 : Int32)), (.ref a3), (.ref a3)])) (fun t k => ?_) ?_
  · show Steps p.tables e below (T62.setTop (mkF m 104 #[.val (.int p0), .unset, .unset, .unset, .unset] [(.ref a3)])) t
    refine XS.dup Y63.here hx rfl (hb hby at_104) rfl rfl ?_
    show Steps p.tables e below (T62.setTop (mkF m 105 #[.val (.int p0), .unset, .unset, .unset, .unset] [(.ref a3), (.ref a3)])) t
    refine XS.bipush Y63.here hx rfl (hb hby at_105) ?_
    show Steps p.tables e below (T62.setTop (mkF m 107 #[.val (.int p0), .unset, .unset, .unset, .unset] [(.int (15 : Int32)), (.ref a3), (.ref a3)])) t
    exact k
  refine On.gets Y63 hx hZ hown (w34 hw) S15 (g := (mkF m 107 #[.val (.int p0), .unset, .unset, .unset, .unset] [(.int (15 : Int32)), (.ref a3), (.ref a3)])) rfl (hb hby at_107) fun T64 Y65 => ?_
  show Rn p e below F T64 (mkF m 110 #[.val (.int p0), .unset, .unset, .unset, .unset] [(.ref m15), (.int (15 : Int32)), (.ref a3), (.ref a3)])
  refine On.rsto Y65 hx hZ (i := 0) rfl (by decide) (by show 15 < 20; decide) (E15.ext (On.old Y65)) (g := (mkF m 110 #[.val (.int p0), .unset, .unset, .unset, .unset] [(.ref m15), (.int (15 : Int32)), (.ref a3), (.ref a3)])) rfl rfl (hb hby at_110) fun T66 Y67 => ?_
  replace Y67 : On p l e _ s m _ below meth c Z n0 T66 1 20 [ar a3 (.object "com/example/vistrace/vistrace/checker/Model") (20 : Int32) [(.ref m0), (.ref m1), (.ref m2), (.ref m3), (.ref m4), (.ref m5), (.ref m6), (.ref m7), (.ref m8), (.ref m9), (.ref m10), (.ref m11), (.ref m12), (.ref m13), (.ref m14), (.ref m15), .null, .null, .null, .null]] := Y67
  show Rn p e below F T66 (mkF m 111 #[.val (.int p0), .unset, .unset, .unset, .unset] [(.ref a3)])
  refine Rn.go (T' := T66) (g' := (mkF m 114 #[.val (.int p0), .unset, .unset, .unset, .unset] [(.int (16 : Int32)), (.ref a3), (.ref a3)])) (fun t k => ?_) ?_
  · show Steps p.tables e below (T66.setTop (mkF m 111 #[.val (.int p0), .unset, .unset, .unset, .unset] [(.ref a3)])) t
    refine XS.dup Y67.here hx rfl (hb hby at_111) rfl rfl ?_
    show Steps p.tables e below (T66.setTop (mkF m 112 #[.val (.int p0), .unset, .unset, .unset, .unset] [(.ref a3), (.ref a3)])) t
    refine XS.bipush Y67.here hx rfl (hb hby at_112) ?_
    show Steps p.tables e below (T66.setTop (mkF m 114 #[.val (.int p0), .unset, .unset, .unset, .unset] [(.int (16 : Int32)), (.ref a3), (.ref a3)])) t
    exact k
  refine On.gets Y67 hx hZ hown (w36 hw) S16 (g := (mkF m 114 #[.val (.int p0), .unset, .unset, .unset, .unset] [(.int (16 : Int32)), (.ref a3), (.ref a3)])) rfl (hb hby at_114) fun T68 Y69 => ?_
  show Rn p e below F T68 (mkF m 117 #[.val (.int p0), .unset, .unset, .unset, .unset] [(.ref m16), (.int (16 : Int32)), (.ref a3), (.ref a3)])
  refine On.rsto Y69 hx hZ (i := 0) rfl (by decide) (by show 16 < 20; decide) (E16.ext (On.old Y69)) (g := (mkF m 117 #[.val (.int p0), .unset, .unset, .unset, .unset] [(.ref m16), (.int (16 : Int32)), (.ref a3), (.ref a3)])) rfl rfl (hb hby at_117) fun T70 Y71 => ?_
  replace Y71 : On p l e _ s m _ below meth c Z n0 T70 1 20 [ar a3 (.object "com/example/vistrace/vistrace/checker/Model") (20 : Int32) [(.ref m0), (.ref m1), (.ref m2), (.ref m3), (.ref m4), (.ref m5), (.ref m6), (.ref m7), (.ref m8), (.ref m9), (.ref m10), (.ref m11), (.ref m12), (.ref m13), (.ref m14), (.ref m15), (.ref m16), .null, .null, .null]] := Y71
  show Rn p e below F T70 (mkF m 118 #[.val (.int p0), .unset, .unset, .unset, .unset] [(.ref a3)])
  refine Rn.go (T' := T70) (g' := (mkF m 121 #[.val (.int p0), .unset, .unset, .unset, .unset] [(.int (17 : Int32)), (.ref a3), (.ref a3)])) (fun t k => ?_) ?_
  · show Steps p.tables e below (T70.setTop (mkF m 118 #[.val (.int p0), .unset, .unset, .unset, .unset] [(.ref a3)])) t
    refine XS.dup Y71.here hx rfl (hb hby at_118) rfl rfl ?_
    show Steps p.tables e below (T70.setTop (mkF m 119 #[.val (.int p0), .unset, .unset, .unset, .unset] [(.ref a3), (.ref a3)])) t
    refine XS.bipush Y71.here hx rfl (hb hby at_119) ?_
    show Steps p.tables e below (T70.setTop (mkF m 121 #[.val (.int p0), .unset, .unset, .unset, .unset] [(.int (17 : Int32)), (.ref a3), (.ref a3)])) t
    exact k
  refine On.gets Y71 hx hZ hown (w38 hw) S17 (g := (mkF m 121 #[.val (.int p0), .unset, .unset, .unset, .unset] [(.int (17 : Int32)), (.ref a3), (.ref a3)])) rfl (hb hby at_121) fun T72 Y73 => ?_
  show Rn p e below F T72 (mkF m 124 #[.val (.int p0), .unset, .unset, .unset, .unset] [(.ref m17), (.int (17 : Int32)), (.ref a3), (.ref a3)])
  refine On.rsto Y73 hx hZ (i := 0) rfl (by decide) (by show 17 < 20; decide) (E17.ext (On.old Y73)) (g := (mkF m 124 #[.val (.int p0), .unset, .unset, .unset, .unset] [(.ref m17), (.int (17 : Int32)), (.ref a3), (.ref a3)])) rfl rfl (hb hby at_124) fun T74 Y75 => ?_
  replace Y75 : On p l e _ s m _ below meth c Z n0 T74 1 20 [ar a3 (.object "com/example/vistrace/vistrace/checker/Model") (20 : Int32) [(.ref m0), (.ref m1), (.ref m2), (.ref m3), (.ref m4), (.ref m5), (.ref m6), (.ref m7), (.ref m8), (.ref m9), (.ref m10), (.ref m11), (.ref m12), (.ref m13), (.ref m14), (.ref m15), (.ref m16), (.ref m17), .null, .null]] := Y75
  show Rn p e below F T74 (mkF m 125 #[.val (.int p0), .unset, .unset, .unset, .unset] [(.ref a3)])
  refine Rn.go (T' := T74) (g' := (mkF m 128 #[.val (.int p0), .unset, .unset, .unset, .unset] [(.int (18 : Int32)), (.ref a3), (.ref a3)])) (fun t k => ?_) ?_
  · show Steps p.tables e below (T74.setTop (mkF m 125 #[.val (.int p0), .unset, .unset, .unset, .unset] [(.ref a3)])) t
    refine XS.dup Y75.here hx rfl (hb hby at_125) rfl rfl ?_
    show Steps p.tables e below (T74.setTop (mkF m 126 #[.val (.int p0), .unset, .unset, .unset, .unset] [(.ref a3), (.ref a3)])) t
    refine XS.bipush Y75.here hx rfl (hb hby at_126) ?_
    show Steps p.tables e below (T74.setTop (mkF m 128 #[.val (.int p0), .unset, .unset, .unset, .unset] [(.int (18 : Int32)), (.ref a3), (.ref a3)])) t
    exact k
  refine On.gets Y75 hx hZ hown (w40 hw) S18 (g := (mkF m 128 #[.val (.int p0), .unset, .unset, .unset, .unset] [(.int (18 : Int32)), (.ref a3), (.ref a3)])) rfl (hb hby at_128) fun T76 Y77 => ?_
  show Rn p e below F T76 (mkF m 131 #[.val (.int p0), .unset, .unset, .unset, .unset] [(.ref m18), (.int (18 : Int32)), (.ref a3), (.ref a3)])
  refine On.rsto Y77 hx hZ (i := 0) rfl (by decide) (by show 18 < 20; decide) (E18.ext (On.old Y77)) (g := (mkF m 131 #[.val (.int p0), .unset, .unset, .unset, .unset] [(.ref m18), (.int (18 : Int32)), (.ref a3), (.ref a3)])) rfl rfl (hb hby at_131) fun T78 Y79 => ?_
  replace Y79 : On p l e _ s m _ below meth c Z n0 T78 1 20 [ar a3 (.object "com/example/vistrace/vistrace/checker/Model") (20 : Int32) [(.ref m0), (.ref m1), (.ref m2), (.ref m3), (.ref m4), (.ref m5), (.ref m6), (.ref m7), (.ref m8), (.ref m9), (.ref m10), (.ref m11), (.ref m12), (.ref m13), (.ref m14), (.ref m15), (.ref m16), (.ref m17), (.ref m18), .null]] := Y79
  show Rn p e below F T78 (mkF m 132 #[.val (.int p0), .unset, .unset, .unset, .unset] [(.ref a3)])
  refine Rn.go (T' := T78) (g' := (mkF m 135 #[.val (.int p0), .unset, .unset, .unset, .unset] [(.int (19 : Int32)), (.ref a3), (.ref a3)])) (fun t k => ?_) ?_
  · show Steps p.tables e below (T78.setTop (mkF m 132 #[.val (.int p0), .unset, .unset, .unset, .unset] [(.ref a3)])) t
    refine XS.dup Y79.here hx rfl (hb hby at_132) rfl rfl ?_
    show Steps p.tables e below (T78.setTop (mkF m 133 #[.val (.int p0), .unset, .unset, .unset, .unset] [(.ref a3), (.ref a3)])) t
    refine XS.bipush Y79.here hx rfl (hb hby at_133) ?_
    show Steps p.tables e below (T78.setTop (mkF m 135 #[.val (.int p0), .unset, .unset, .unset, .unset] [(.int (19 : Int32)), (.ref a3), (.ref a3)])) t
    exact k
  refine On.gets Y79 hx hZ hown (w42 hw) S19 (g := (mkF m 135 #[.val (.int p0), .unset, .unset, .unset, .unset] [(.int (19 : Int32)), (.ref a3), (.ref a3)])) rfl (hb hby at_135) fun T80 Y81 => ?_
  show Rn p e below F T80 (mkF m 138 #[.val (.int p0), .unset, .unset, .unset, .unset] [(.ref m19), (.int (19 : Int32)), (.ref a3), (.ref a3)])
  refine On.rsto Y81 hx hZ (i := 0) rfl (by decide) (by show 19 < 20; decide) (E19.ext (On.old Y81)) (g := (mkF m 138 #[.val (.int p0), .unset, .unset, .unset, .unset] [(.ref m19), (.int (19 : Int32)), (.ref a3), (.ref a3)])) rfl rfl (hb hby at_138) fun T82 Y83 => ?_
  replace Y83 : On p l e _ s m _ below meth c Z n0 T82 1 20 [ar a3 (.object "com/example/vistrace/vistrace/checker/Model") (20 : Int32) [(.ref m0), (.ref m1), (.ref m2), (.ref m3), (.ref m4), (.ref m5), (.ref m6), (.ref m7), (.ref m8), (.ref m9), (.ref m10), (.ref m11), (.ref m12), (.ref m13), (.ref m14), (.ref m15), (.ref m16), (.ref m17), (.ref m18), (.ref m19)]] := Y83
  show Rn p e below F T82 (mkF m 139 #[.val (.int p0), .unset, .unset, .unset, .unset] [(.ref a3)])
  refine Rn.go (T' := T82) (g' := (mkF m 148 #[.val (.int p0), .val (.ref a3), .val (.int ((p0 &&& (2147483647 : Int32)) % (20 : Int32))), .unset, .unset] [])) (fun t k => ?_) ?_
  · show Steps p.tables e below (T82.setTop (mkF m 139 #[.val (.int p0), .unset, .unset, .unset, .unset] [(.ref a3)])) t
    refine XS.astoreN Y83.here hx rfl (hb hby at_139) rfl rfl (l' := #[.val (.int p0), .val (.ref a3), .unset, .unset, .unset]) rfl ?_
    show Steps p.tables e below (T82.setTop (mkF m 140 #[.val (.int p0), .val (.ref a3), .unset, .unset, .unset] [])) t
    refine XS.iloadN Y83.here hx rfl (hb hby at_140) rfl ?_
    show Steps p.tables e below (T82.setTop (mkF m 141 #[.val (.int p0), .val (.ref a3), .unset, .unset, .unset] [(.int p0)])) t
    refine On.sldcI Y83 hx hZ hown (w44 hw) (g := (mkF m 141 #[.val (.int p0), .val (.ref a3), .unset, .unset, .unset] [(.int p0)])) rfl (hb hby at_141) _ ?_
    show Steps p.tables e below (T82.setTop (mkF m 143 #[.val (.int p0), .val (.ref a3), .unset, .unset, .unset] [(.int (2147483647 : Int32)), (.int p0)])) t
    refine XS.iand Y83.here hx rfl (hb hby at_143) rfl ?_
    show Steps p.tables e below (T82.setTop (mkF m 144 #[.val (.int p0), .val (.ref a3), .unset, .unset, .unset] [(.int (p0 &&& (2147483647 : Int32)))])) t
    refine XS.bipush Y83.here hx rfl (hb hby at_144) ?_
    show Steps p.tables e below (T82.setTop (mkF m 146 #[.val (.int p0), .val (.ref a3), .unset, .unset, .unset] [(.int (20 : Int32)), (.int (p0 &&& (2147483647 : Int32)))])) t
    refine own_irem Y83.here hx rfl (hb hby at_146) rfl (by decide) ?_
    show Steps p.tables e below (T82.setTop (mkF m 147 #[.val (.int p0), .val (.ref a3), .unset, .unset, .unset] [(.int ((p0 &&& (2147483647 : Int32)) % (20 : Int32)))])) t
    refine XS.istoreN Y83.here hx rfl (hb hby at_147) rfl (l' := #[.val (.int p0), .val (.ref a3), .val (.int ((p0 &&& (2147483647 : Int32)) % (20 : Int32))), .unset, .unset]) rfl ?_
    show Steps p.tables e below (T82.setTop (mkF m 148 #[.val (.int p0), .val (.ref a3), .val (.int ((p0 &&& (2147483647 : Int32)) % (20 : Int32))), .unset, .unset] [])) t
    exact k
  obtain ⟨o, ho⟩ : ∃ z : Int32, z = ((p0 &&& (2147483647 : Int32)) % (20 : Int32)) := ⟨_, rfl⟩
  have hbo : 0 ≤ o.toInt ∧ o.toInt ≤ 19 := by rw [ho]; exact own_20 _
  rw [← ho]
  rcases own_le19 hbo.1 hbo.2 with eo | eo | eo | eo | eo | eo | eo | eo | eo | eo | eo | eo | eo | eo | eo | eo | eo | eo | eo | eo
  · subst eo
    show Rn p e below F T82 (mkF m 148 #[.val (.int p0), .val (.ref a3), .val (.int (0 : Int32)), .unset, .unset] [])
    refine Rn.go (T' := T82) (g' := (mkF m 150 #[.val (.int p0), .val (.ref a3), .val (.int (0 : Int32)), .unset, .unset] [(.int (0 : Int32)), (.ref a3)])) (fun t k => ?_) ?_
    · show Steps p.tables e below (T82.setTop (mkF m 148 #[.val (.int p0), .val (.ref a3), .val (.int (0 : Int32)), .unset, .unset] [])) t
      refine XS.aloadN Y83.here hx rfl (hb hby at_148) rfl rfl ?_
      show Steps p.tables e below (T82.setTop (mkF m 149 #[.val (.int p0), .val (.ref a3), .val (.int (0 : Int32)), .unset, .unset] [(.ref a3)])) t
      refine XS.iloadN Y83.here hx rfl (hb hby at_149) rfl ?_
      show Steps p.tables e below (T82.setTop (mkF m 150 #[.val (.int p0), .val (.ref a3), .val (.int (0 : Int32)), .unset, .unset] [(.int (0 : Int32)), (.ref a3)])) t
      exact k
    refine On.rld Y83 hx hZ (i := 0) rfl (k := (0 : Int32)) (v := (.ref m0)) (by decide) rfl (g := (mkF m 150 #[.val (.int p0), .val (.ref a3), .val (.int (0 : Int32)), .unset, .unset] [(.int (0 : Int32)), (.ref a3)])) rfl rfl (hb hby at_150) ?_
    show Rn p e below F T82 (mkF m 151 #[.val (.int p0), .val (.ref a3), .val (.int (0 : Int32)), .unset, .unset] [(.ref m0)])
    refine Rn.go (T' := T82) (g' := (mkF m 153 #[.val (.int p0), .val (.ref a3), .val (.int (0 : Int32)), .val (.ref m0), .unset] [(.int (0 : Int32))])) (fun t k => ?_) ?_
    · show Steps p.tables e below (T82.setTop (mkF m 151 #[.val (.int p0), .val (.ref a3), .val (.int (0 : Int32)), .unset, .unset] [(.ref m0)])) t
      refine XS.astoreN Y83.here hx rfl (hb hby at_151) rfl rfl (l' := #[.val (.int p0), .val (.ref a3), .val (.int (0 : Int32)), .val (.ref m0), .unset]) rfl ?_
      show Steps p.tables e below (T82.setTop (mkF m 152 #[.val (.int p0), .val (.ref a3), .val (.int (0 : Int32)), .val (.ref m0), .unset] [])) t
      refine XS.iloadN Y83.here hx rfl (hb hby at_152) rfl ?_
      show Steps p.tables e below (T82.setTop (mkF m 153 #[.val (.int p0), .val (.ref a3), .val (.int (0 : Int32)), .val (.ref m0), .unset] [(.int (0 : Int32))])) t
      exact k
    refine Rn.go (T' := T82) (g' := (mkF m 156 #[.val (.int p0), .val (.ref a3), .val (.int (0 : Int32)), .val (.ref m0), .unset] [])) (fun t k => XS.ifNo Y83.here hx rfl (hb hby at_153) rfl ((if0 _ _).trans (teq (by decide)).2) k) ?_
    refine Rn.go (T' := T82) (g' := (mkF m 164 #[.val (.int p0), .val (.ref a3), .val (.int (0 : Int32)), .val (.ref m0), .val (.int (1 : Int32))] [(.ref m0)])) (fun t k => ?_) ?_
    · show Steps p.tables e below (T82.setTop (mkF m 156 #[.val (.int p0), .val (.ref a3), .val (.int (0 : Int32)), .val (.ref m0), .unset] [])) t
      refine XS.iconst Y83.here hx rfl (hb hby at_156) ?_
      show Steps p.tables e below (T82.setTop (mkF m 157 #[.val (.int p0), .val (.ref a3), .val (.int (0 : Int32)), .val (.ref m0), .unset] [(.int (1 : Int32))])) t
      refine XS.goto Y83.here hx rfl (pc0 := 157) (pc' := 161) rfl (hb hby at_157) (by decide) (by decide) ?_
      show Steps p.tables e below (T82.setTop (mkF m 161 #[.val (.int p0), .val (.ref a3), .val (.int (0 : Int32)), .val (.ref m0), .unset] [(.int (1 : Int32))])) t
      refine XS.istore Y83.here hx rfl (hb hby at_161) rfl (l' := #[.val (.int p0), .val (.ref a3), .val (.int (0 : Int32)), .val (.ref m0), .val (.int (1 : Int32))]) rfl ?_
      show Steps p.tables e below (T82.setTop (mkF m 163 #[.val (.int p0), .val (.ref a3), .val (.int (0 : Int32)), .val (.ref m0), .val (.int (1 : Int32))] [])) t
      refine XS.aloadN Y83.here hx rfl (hb hby at_163) rfl rfl ?_
      show Steps p.tables e below (T82.setTop (mkF m 164 #[.val (.int p0), .val (.ref a3), .val (.int (0 : Int32)), .val (.ref m0), .val (.int (1 : Int32))] [(.ref m0)])) t
      exact k
    refine On.virtualE Y83 hx hZ (y := (⟨"com/example/vistrace/vistrace/checker/Model", "needsTimes", "()Z"⟩ : MethodName)) (C := "com/example/vistrace/vistrace/checker/Model") hown (w45 hw) (w46 hw) (w47 hw) (w48 hw) (w49 hw) (w3 hw) (by decide) (a := m0) (argsL := []) (rest := []) (E0.ext (On.old Y83)) (rmS l Z a0 hw n0 m0 [ar a3 (.object "com/example/vistrace/vistrace/checker/Model") (20 : Int32) [(.ref m0), (.ref m1), (.ref m2), (.ref m3), (.ref m4), (.ref m5), (.ref m6), (.ref m7), (.ref m8), (.ref m9), (.ref m10), (.ref m11), (.ref m12), (.ref m13), (.ref m14), (.ref m15), (.ref m16), (.ref m17), (.ref m18), (.ref m19)]] S0) (W := 0) (by decide) (by decide) (by decide) (by decide) (g := (mkF m 164 #[.val (.int p0), .val (.ref a3), .val (.int (0 : Int32)), .val (.ref m0), .val (.int (1 : Int32))] [(.ref m0)])) rfl (by rw [hml]; rfl) (lenOf pd0 rfl) rfl (by show 2 * 0 + _ ≤ _; exact Nat.le_of_eq rfl) (hb hby at_164) ?_
    intro T84 u86 D87 hp88 Y85
    obtain ⟨rfl, rfl⟩ := hp88
    replace Y85 : On p l e _ s m _ below meth c Z n0 T84 1 20 [ar a3 (.object "com/example/vistrace/vistrace/checker/Model") (20 : Int32) [(.ref m0), (.ref m1), (.ref m2), (.ref m3), (.ref m4), (.ref m5), (.ref m6), (.ref m7), (.ref m8), (.ref m9), (.ref m10), (.ref m11), (.ref m12), (.ref m13), (.ref m14), (.ref m15), (.ref m16), (.ref m17), (.ref m18), (.ref m19)]] := Y85
    show Rn p e below F T84 (mkF m 167 #[.val (.int p0), .val (.ref a3), .val (.int (0 : Int32)), .val (.ref m0), .val (.int (1 : Int32))] [(.int (1 : Int32))])
    refine Rn.go (T' := T84) (g' := (mkF m 169 #[.val (.int p0), .val (.ref a3), .val (.int (0 : Int32)), .val (.ref m0), .val (.int (1 : Int32))] [(.int (1 : Int32)), (.int (1 : Int32))])) (fun t k => ?_) ?_
    · show Steps p.tables e below (T84.setTop (mkF m 167 #[.val (.int p0), .val (.ref a3), .val (.int (0 : Int32)), .val (.ref m0), .val (.int (1 : Int32))] [(.int (1 : Int32))])) t
      refine XS.iload Y85.here hx rfl (hb hby at_167) rfl ?_
      show Steps p.tables e below (T84.setTop (mkF m 169 #[.val (.int p0), .val (.ref a3), .val (.int (0 : Int32)), .val (.ref m0), .val (.int (1 : Int32))] [(.int (1 : Int32)), (.int (1 : Int32))])) t
      exact k
    refine Rn.go (T' := T84) (g' := (mkF m 172 #[.val (.int p0), .val (.ref a3), .val (.int (0 : Int32)), .val (.ref m0), .val (.int (1 : Int32))] [])) (fun t k => XS.icmpNo Y85.here hx rfl (hb hby at_169) rfl (teq (by decide)).2 k) ?_
    refine Rn.go (T' := T84) (g' := (mkF m 177 #[.val (.int p0), .val (.ref a3), .val (.int (0 : Int32)), .val (.ref m0), .val (.int (1 : Int32))] [(.int (1 : Int32))])) (fun t k => ?_) ?_
    · show Steps p.tables e below (T84.setTop (mkF m 172 #[.val (.int p0), .val (.ref a3), .val (.int (0 : Int32)), .val (.ref m0), .val (.int (1 : Int32))] [])) t
      refine XS.iconst Y85.here hx rfl (hb hby at_172) ?_
      show Steps p.tables e below (T84.setTop (mkF m 173 #[.val (.int p0), .val (.ref a3), .val (.int (0 : Int32)), .val (.ref m0), .val (.int (1 : Int32))] [(.int (1 : Int32))])) t
      refine XS.goto Y85.here hx rfl (pc0 := 173) (pc' := 177) rfl (hb hby at_173) (by decide) (by decide) ?_
      show Steps p.tables e below (T84.setTop (mkF m 177 #[.val (.int p0), .val (.ref a3), .val (.int (0 : Int32)), .val (.ref m0), .val (.int (1 : Int32))] [(.int (1 : Int32))])) t
      exact k
    rw [← hF]; exact On.retn Y85 hx hret (by simp) hlk (z' := (1 : Int32)) (by decide) (hb hby at_177) (by decide) (by decide) rfl
  · subst eo
    show Rn p e below F T82 (mkF m 148 #[.val (.int p0), .val (.ref a3), .val (.int (1 : Int32)), .unset, .unset] [])
    refine Rn.go (T' := T82) (g' := (mkF m 150 #[.val (.int p0), .val (.ref a3), .val (.int (1 : Int32)), .unset, .unset] [(.int (1 : Int32)), (.ref a3)])) (fun t k => ?_) ?_
    · show Steps p.tables e below (T82.setTop (mkF m 148 #[.val (.int p0), .val (.ref a3), .val (.int (1 : Int32)), .unset, .unset] [])) t
      refine XS.aloadN Y83.here hx rfl (hb hby at_148) rfl rfl ?_
      show Steps p.tables e below (T82.setTop (mkF m 149 #[.val (.int p0), .val (.ref a3), .val (.int (1 : Int32)), .unset, .unset] [(.ref a3)])) t
      refine XS.iloadN Y83.here hx rfl (hb hby at_149) rfl ?_
      show Steps p.tables e below (T82.setTop (mkF m 150 #[.val (.int p0), .val (.ref a3), .val (.int (1 : Int32)), .unset, .unset] [(.int (1 : Int32)), (.ref a3)])) t
      exact k
    refine On.rld Y83 hx hZ (i := 0) rfl (k := (1 : Int32)) (v := (.ref m1)) (by decide) rfl (g := (mkF m 150 #[.val (.int p0), .val (.ref a3), .val (.int (1 : Int32)), .unset, .unset] [(.int (1 : Int32)), (.ref a3)])) rfl rfl (hb hby at_150) ?_
    show Rn p e below F T82 (mkF m 151 #[.val (.int p0), .val (.ref a3), .val (.int (1 : Int32)), .unset, .unset] [(.ref m1)])
    refine Rn.go (T' := T82) (g' := (mkF m 153 #[.val (.int p0), .val (.ref a3), .val (.int (1 : Int32)), .val (.ref m1), .unset] [(.int (1 : Int32))])) (fun t k => ?_) ?_
    · show Steps p.tables e below (T82.setTop (mkF m 151 #[.val (.int p0), .val (.ref a3), .val (.int (1 : Int32)), .unset, .unset] [(.ref m1)])) t
      refine XS.astoreN Y83.here hx rfl (hb hby at_151) rfl rfl (l' := #[.val (.int p0), .val (.ref a3), .val (.int (1 : Int32)), .val (.ref m1), .unset]) rfl ?_
      show Steps p.tables e below (T82.setTop (mkF m 152 #[.val (.int p0), .val (.ref a3), .val (.int (1 : Int32)), .val (.ref m1), .unset] [])) t
      refine XS.iloadN Y83.here hx rfl (hb hby at_152) rfl ?_
      show Steps p.tables e below (T82.setTop (mkF m 153 #[.val (.int p0), .val (.ref a3), .val (.int (1 : Int32)), .val (.ref m1), .unset] [(.int (1 : Int32))])) t
      exact k
    refine Rn.go (T' := T82) (g' := (mkF m 160 #[.val (.int p0), .val (.ref a3), .val (.int (1 : Int32)), .val (.ref m1), .unset] [])) (fun t k => XS.ifYes Y83.here hx rfl (pc0 := 153) (pc' := 160) rfl (hb hby at_153) rfl ((if0 _ _).trans (feq (by decide)).2) (by decide) (by decide) k) ?_
    refine Rn.go (T' := T82) (g' := (mkF m 164 #[.val (.int p0), .val (.ref a3), .val (.int (1 : Int32)), .val (.ref m1), .val (.int (0 : Int32))] [(.ref m1)])) (fun t k => ?_) ?_
    · show Steps p.tables e below (T82.setTop (mkF m 160 #[.val (.int p0), .val (.ref a3), .val (.int (1 : Int32)), .val (.ref m1), .unset] [])) t
      refine XS.iconst Y83.here hx rfl (hb hby at_160) ?_
      show Steps p.tables e below (T82.setTop (mkF m 161 #[.val (.int p0), .val (.ref a3), .val (.int (1 : Int32)), .val (.ref m1), .unset] [(.int (0 : Int32))])) t
      refine XS.istore Y83.here hx rfl (hb hby at_161) rfl (l' := #[.val (.int p0), .val (.ref a3), .val (.int (1 : Int32)), .val (.ref m1), .val (.int (0 : Int32))]) rfl ?_
      show Steps p.tables e below (T82.setTop (mkF m 163 #[.val (.int p0), .val (.ref a3), .val (.int (1 : Int32)), .val (.ref m1), .val (.int (0 : Int32))] [])) t
      refine XS.aloadN Y83.here hx rfl (hb hby at_163) rfl rfl ?_
      show Steps p.tables e below (T82.setTop (mkF m 164 #[.val (.int p0), .val (.ref a3), .val (.int (1 : Int32)), .val (.ref m1), .val (.int (0 : Int32))] [(.ref m1)])) t
      exact k
    refine On.virtualE Y83 hx hZ (y := (⟨"com/example/vistrace/vistrace/checker/Model", "needsTimes", "()Z"⟩ : MethodName)) (C := "com/example/vistrace/vistrace/checker/Model") hown (w45 hw) (w46 hw) (w47 hw) (w48 hw) (w49 hw) (w3 hw) (by decide) (a := m1) (argsL := []) (rest := []) (E1.ext (On.old Y83)) (rmD l Z a0 hw n0 m1 m0 [ar a3 (.object "com/example/vistrace/vistrace/checker/Model") (20 : Int32) [(.ref m0), (.ref m1), (.ref m2), (.ref m3), (.ref m4), (.ref m5), (.ref m6), (.ref m7), (.ref m8), (.ref m9), (.ref m10), (.ref m11), (.ref m12), (.ref m13), (.ref m14), (.ref m15), (.ref m16), (.ref m17), (.ref m18), (.ref m19)]] S0 N1) (W := 0) (by decide) (by decide) (by decide) (by decide) (g := (mkF m 164 #[.val (.int p0), .val (.ref a3), .val (.int (1 : Int32)), .val (.ref m1), .val (.int (0 : Int32))] [(.ref m1)])) rfl (by rw [hml]; rfl) (lenOf pd0 rfl) rfl (by show 2 * 0 + _ ≤ _; exact Nat.le_of_eq rfl) (hb hby at_164) ?_
    intro T89 u91 D92 hp93 Y90
    obtain ⟨rfl, rfl⟩ := hp93
    replace Y90 : On p l e _ s m _ below meth c Z n0 T89 1 20 [ar a3 (.object "com/example/vistrace/vistrace/checker/Model") (20 : Int32) [(.ref m0), (.ref m1), (.ref m2), (.ref m3), (.ref m4), (.ref m5), (.ref m6), (.ref m7), (.ref m8), (.ref m9), (.ref m10), (.ref m11), (.ref m12), (.ref m13), (.ref m14), (.ref m15), (.ref m16), (.ref m17), (.ref m18), (.ref m19)]] := Y90
    show Rn p e below F T89 (mkF m 167 #[.val (.int p0), .val (.ref a3), .val (.int (1 : Int32)), .val (.ref m1), .val (.int (0 : Int32))] [(.int (0 : Int32))])
    refine Rn.go (T' := T89) (g' := (mkF m 169 #[.val (.int p0), .val (.ref a3), .val (.int (1 : Int32)), .val (.ref m1), .val (.int (0 : Int32))] [(.int (0 : Int32)), (.int (0 : Int32))])) (fun t k => ?_) ?_
    · show Steps p.tables e below (T89.setTop (mkF m 167 #[.val (.int p0), .val (.ref a3), .val (.int (1 : Int32)), .val (.ref m1), .val (.int (0 : Int32))] [(.int (0 : Int32))])) t
      refine XS.iload Y90.here hx rfl (hb hby at_167) rfl ?_
      show Steps p.tables e below (T89.setTop (mkF m 169 #[.val (.int p0), .val (.ref a3), .val (.int (1 : Int32)), .val (.ref m1), .val (.int (0 : Int32))] [(.int (0 : Int32)), (.int (0 : Int32))])) t
      exact k
    refine Rn.go (T' := T89) (g' := (mkF m 172 #[.val (.int p0), .val (.ref a3), .val (.int (1 : Int32)), .val (.ref m1), .val (.int (0 : Int32))] [])) (fun t k => XS.icmpNo Y90.here hx rfl (hb hby at_169) rfl (teq (by decide)).2 k) ?_
    refine Rn.go (T' := T89) (g' := (mkF m 177 #[.val (.int p0), .val (.ref a3), .val (.int (1 : Int32)), .val (.ref m1), .val (.int (0 : Int32))] [(.int (1 : Int32))])) (fun t k => ?_) ?_
    · show Steps p.tables e below (T89.setTop (mkF m 172 #[.val (.int p0), .val (.ref a3), .val (.int (1 : Int32)), .val (.ref m1), .val (.int (0 : Int32))] [])) t
      refine XS.iconst Y90.here hx rfl (hb hby at_172) ?_
      show Steps p.tables e below (T89.setTop (mkF m 173 #[.val (.int p0), .val (.ref a3), .val (.int (1 : Int32)), .val (.ref m1), .val (.int (0 : Int32))] [(.int (1 : Int32))])) t
      refine XS.goto Y90.here hx rfl (pc0 := 173) (pc' := 177) rfl (hb hby at_173) (by decide) (by decide) ?_
      show Steps p.tables e below (T89.setTop (mkF m 177 #[.val (.int p0), .val (.ref a3), .val (.int (1 : Int32)), .val (.ref m1), .val (.int (0 : Int32))] [(.int (1 : Int32))])) t
      exact k
    rw [← hF]; exact On.retn Y90 hx hret (by simp) hlk (z' := (1 : Int32)) (by decide) (hb hby at_177) (by decide) (by decide) rfl
  · subst eo
    show Rn p e below F T82 (mkF m 148 #[.val (.int p0), .val (.ref a3), .val (.int (2 : Int32)), .unset, .unset] [])
    refine Rn.go (T' := T82) (g' := (mkF m 150 #[.val (.int p0), .val (.ref a3), .val (.int (2 : Int32)), .unset, .unset] [(.int (2 : Int32)), (.ref a3)])) (fun t k => ?_) ?_
    · show Steps p.tables e below (T82.setTop (mkF m 148 #[.val (.int p0), .val (.ref a3), .val (.int (2 : Int32)), .unset, .unset] [])) t
      refine XS.aloadN Y83.here hx rfl (hb hby at_148) rfl rfl ?_
      show Steps p.tables e below (T82.setTop (mkF m 149 #[.val (.int p0), .val (.ref a3), .val (.int (2 : Int32)), .unset, .unset] [(.ref a3)])) t
      refine XS.iloadN Y83.here hx rfl (hb hby at_149) rfl ?_
      show Steps p.tables e below (T82.setTop (mkF m 150 #[.val (.int p0), .val (.ref a3), .val (.int (2 : Int32)), .unset, .unset] [(.int (2 : Int32)), (.ref a3)])) t
      exact k
    refine On.rld Y83 hx hZ (i := 0) rfl (k := (2 : Int32)) (v := (.ref m2)) (by decide) rfl (g := (mkF m 150 #[.val (.int p0), .val (.ref a3), .val (.int (2 : Int32)), .unset, .unset] [(.int (2 : Int32)), (.ref a3)])) rfl rfl (hb hby at_150) ?_
    show Rn p e below F T82 (mkF m 151 #[.val (.int p0), .val (.ref a3), .val (.int (2 : Int32)), .unset, .unset] [(.ref m2)])
    refine Rn.go (T' := T82) (g' := (mkF m 153 #[.val (.int p0), .val (.ref a3), .val (.int (2 : Int32)), .val (.ref m2), .unset] [(.int (2 : Int32))])) (fun t k => ?_) ?_
    · show Steps p.tables e below (T82.setTop (mkF m 151 #[.val (.int p0), .val (.ref a3), .val (.int (2 : Int32)), .unset, .unset] [(.ref m2)])) t
      refine XS.astoreN Y83.here hx rfl (hb hby at_151) rfl rfl (l' := #[.val (.int p0), .val (.ref a3), .val (.int (2 : Int32)), .val (.ref m2), .unset]) rfl ?_
      show Steps p.tables e below (T82.setTop (mkF m 152 #[.val (.int p0), .val (.ref a3), .val (.int (2 : Int32)), .val (.ref m2), .unset] [])) t
      refine XS.iloadN Y83.here hx rfl (hb hby at_152) rfl ?_
      show Steps p.tables e below (T82.setTop (mkF m 153 #[.val (.int p0), .val (.ref a3), .val (.int (2 : Int32)), .val (.ref m2), .unset] [(.int (2 : Int32))])) t
      exact k
    refine Rn.go (T' := T82) (g' := (mkF m 160 #[.val (.int p0), .val (.ref a3), .val (.int (2 : Int32)), .val (.ref m2), .unset] [])) (fun t k => XS.ifYes Y83.here hx rfl (pc0 := 153) (pc' := 160) rfl (hb hby at_153) rfl ((if0 _ _).trans (feq (by decide)).2) (by decide) (by decide) k) ?_
    refine Rn.go (T' := T82) (g' := (mkF m 164 #[.val (.int p0), .val (.ref a3), .val (.int (2 : Int32)), .val (.ref m2), .val (.int (0 : Int32))] [(.ref m2)])) (fun t k => ?_) ?_
    · show Steps p.tables e below (T82.setTop (mkF m 160 #[.val (.int p0), .val (.ref a3), .val (.int (2 : Int32)), .val (.ref m2), .unset] [])) t
      refine XS.iconst Y83.here hx rfl (hb hby at_160) ?_
      show Steps p.tables e below (T82.setTop (mkF m 161 #[.val (.int p0), .val (.ref a3), .val (.int (2 : Int32)), .val (.ref m2), .unset] [(.int (0 : Int32))])) t
      refine XS.istore Y83.here hx rfl (hb hby at_161) rfl (l' := #[.val (.int p0), .val (.ref a3), .val (.int (2 : Int32)), .val (.ref m2), .val (.int (0 : Int32))]) rfl ?_
      show Steps p.tables e below (T82.setTop (mkF m 163 #[.val (.int p0), .val (.ref a3), .val (.int (2 : Int32)), .val (.ref m2), .val (.int (0 : Int32))] [])) t
      refine XS.aloadN Y83.here hx rfl (hb hby at_163) rfl rfl ?_
      show Steps p.tables e below (T82.setTop (mkF m 164 #[.val (.int p0), .val (.ref a3), .val (.int (2 : Int32)), .val (.ref m2), .val (.int (0 : Int32))] [(.ref m2)])) t
      exact k
    refine On.virtualE Y83 hx hZ (y := (⟨"com/example/vistrace/vistrace/checker/Model", "needsTimes", "()Z"⟩ : MethodName)) (C := "com/example/vistrace/vistrace/checker/Model") hown (w45 hw) (w46 hw) (w47 hw) (w48 hw) (w49 hw) (w3 hw) (by decide) (a := m2) (argsL := []) (rest := []) (E2.ext (On.old Y83)) (rmD l Z a0 hw n0 m2 m0 [ar a3 (.object "com/example/vistrace/vistrace/checker/Model") (20 : Int32) [(.ref m0), (.ref m1), (.ref m2), (.ref m3), (.ref m4), (.ref m5), (.ref m6), (.ref m7), (.ref m8), (.ref m9), (.ref m10), (.ref m11), (.ref m12), (.ref m13), (.ref m14), (.ref m15), (.ref m16), (.ref m17), (.ref m18), (.ref m19)]] S0 N2) (W := 0) (by decide) (by decide) (by decide) (by decide) (g := (mkF m 164 #[.val (.int p0), .val (.ref a3), .val (.int (2 : Int32)), .val (.ref m2), .val (.int (0 : Int32))] [(.ref m2)])) rfl (by rw [hml]; rfl) (lenOf pd0 rfl) rfl (by show 2 * 0 + _ ≤ _; exact Nat.le_of_eq rfl) (hb hby at_164) ?_
    intro T94 u96 D97 hp98 Y95
    obtain ⟨rfl, rfl⟩ := hp98
    replace Y95 : On p l e _ s m _ below meth c Z n0 T94 1 20 [ar a3 (.object "com/example/vistrace/vistrace/checker/Model") (20 : Int32) [(.ref m0), (.ref m1), (.ref m2), (.ref m3), (.ref m4), (.ref m5), (.ref m6), (.ref m7), (.ref m8), (.ref m9), (.ref m10), (.ref m11), (.ref m12), (.ref m13), (.ref m14), (.ref m15), (.ref m16), (.ref m17), (.ref m18), (.ref m19)]] := Y95
    show Rn p e below F T94 (mkF m 167 #[.val (.int p0), .val (.ref a3), .val (.int (2 : Int32)), .val (.ref m2), .val (.int (0 : Int32))] [(.int (0 : Int32))])
    refine Rn.go (T' := T94) (g' := (mkF m 169 #[.val (.int p0), .val (.ref a3), .val (.int (2 : Int32)), .val (.ref m2), .val (.int (0 : Int32))] [(.int (0 : Int32)), (.int (0 : Int32))])) (fun t k => ?_) ?_
    · show Steps p.tables e below (T94.setTop (mkF m 167 #[.val (.int p0), .val (.ref a3), .val (.int (2 : Int32)), .val (.ref m2), .val (.int (0 : Int32))] [(.int (0 : Int32))])) t
      refine XS.iload Y95.here hx rfl (hb hby at_167) rfl ?_
      show Steps p.tables e below (T94.setTop (mkF m 169 #[.val (.int p0), .val (.ref a3), .val (.int (2 : Int32)), .val (.ref m2), .val (.int (0 : Int32))] [(.int (0 : Int32)), (.int (0 : Int32))])) t
      exact k
    refine Rn.go (T' := T94) (g' := (mkF m 172 #[.val (.int p0), .val (.ref a3), .val (.int (2 : Int32)), .val (.ref m2), .val (.int (0 : Int32))] [])) (fun t k => XS.icmpNo Y95.here hx rfl (hb hby at_169) rfl (teq (by decide)).2 k) ?_
    refine Rn.go (T' := T94) (g' := (mkF m 177 #[.val (.int p0), .val (.ref a3), .val (.int (2 : Int32)), .val (.ref m2), .val (.int (0 : Int32))] [(.int (1 : Int32))])) (fun t k => ?_) ?_
    · show Steps p.tables e below (T94.setTop (mkF m 172 #[.val (.int p0), .val (.ref a3), .val (.int (2 : Int32)), .val (.ref m2), .val (.int (0 : Int32))] [])) t
      refine XS.iconst Y95.here hx rfl (hb hby at_172) ?_
      show Steps p.tables e below (T94.setTop (mkF m 173 #[.val (.int p0), .val (.ref a3), .val (.int (2 : Int32)), .val (.ref m2), .val (.int (0 : Int32))] [(.int (1 : Int32))])) t
      refine XS.goto Y95.here hx rfl (pc0 := 173) (pc' := 177) rfl (hb hby at_173) (by decide) (by decide) ?_
      show Steps p.tables e below (T94.setTop (mkF m 177 #[.val (.int p0), .val (.ref a3), .val (.int (2 : Int32)), .val (.ref m2), .val (.int (0 : Int32))] [(.int (1 : Int32))])) t
      exact k
    rw [← hF]; exact On.retn Y95 hx hret (by simp) hlk (z' := (1 : Int32)) (by decide) (hb hby at_177) (by decide) (by decide) rfl
  · subst eo
    show Rn p e below F T82 (mkF m 148 #[.val (.int p0), .val (.ref a3), .val (.int (3 : Int32)), .unset, .unset] [])
    refine Rn.go (T' := T82) (g' := (mkF m 150 #[.val (.int p0), .val (.ref a3), .val (.int (3 : Int32)), .unset, .unset] [(.int (3 : Int32)), (.ref a3)])) (fun t k => ?_) ?_
    · show Steps p.tables e below (T82.setTop (mkF m 148 #[.val (.int p0), .val (.ref a3), .val (.int (3 : Int32)), .unset, .unset] [])) t
      refine XS.aloadN Y83.here hx rfl (hb hby at_148) rfl rfl ?_
      show Steps p.tables e below (T82.setTop (mkF m 149 #[.val (.int p0), .val (.ref a3), .val (.int (3 : Int32)), .unset, .unset] [(.ref a3)])) t
      refine XS.iloadN Y83.here hx rfl (hb hby at_149) rfl ?_
      show Steps p.tables e below (T82.setTop (mkF m 150 #[.val (.int p0), .val (.ref a3), .val (.int (3 : Int32)), .unset, .unset] [(.int (3 : Int32)), (.ref a3)])) t
      exact k
    refine On.rld Y83 hx hZ (i := 0) rfl (k := (3 : Int32)) (v := (.ref m3)) (by decide) rfl (g := (mkF m 150 #[.val (.int p0), .val (.ref a3), .val (.int (3 : Int32)), .unset, .unset] [(.int (3 : Int32)), (.ref a3)])) rfl rfl (hb hby at_150) ?_
    show Rn p e below F T82 (mkF m 151 #[.val (.int p0), .val (.ref a3), .val (.int (3 : Int32)), .unset, .unset] [(.ref m3)])
    refine Rn.go (T' := T82) (g' := (mkF m 153 #[.val (.int p0), .val (.ref a3), .val (.int (3 : Int32)), .val (.ref m3), .unset] [(.int (3 : Int32))])) (fun t k => ?_) ?_
    · show Steps p.tables e below (T82.setTop (mkF m 151 #[.val (.int p0), .val (.ref a3), .val (.int (3 : Int32)), .unset, .unset] [(.ref m3)])) t
      refine XS.astoreN Y83.here hx rfl (hb hby at_151) rfl rfl (l' := #[.val (.int p0), .val (.ref a3), .val (.int (3 : Int32)), .val (.ref m3), .unset]) rfl ?_
      show Steps p.tables e below (T82.setTop (mkF m 152 #[.val (.int p0), .val (.ref a3), .val (.int (3 : Int32)), .val (.ref m3), .unset] [])) t
      refine XS.iloadN Y83.here hx rfl (hb hby at_152) rfl ?_
      show Steps p.tables e below (T82.setTop (mkF m 153 #[.val (.int p0), .val (.ref a3), .val (.int (3 : Int32)), .val (.ref m3), .unset] [(.int (3 : Int32))])) t
      exact k
    refine Rn.go (T' := T82) (g' := (mkF m 160 #[.val (.int p0), .val (.ref a3), .val (.int (3 : Int32)), .val (.ref m3), .unset] [])) (fun t k => XS.ifYes Y83.here hx rfl (pc0 := 153) (pc' := 160) rfl (hb hby at_153) rfl ((if0 _ _).trans (feq (by decide)).2) (by decide) (by decide) k) ?_
    refine Rn.go (T' := T82) (g' := (mkF m 164 #[.val (.int p0), .val (.ref a3), .val (.int (3 : Int32)), .val (.ref m3), .val (.int (0 : Int32))] [(.ref m3)])) (fun t k => ?_) ?_
    · show Steps p.tables e below (T82.setTop (mkF m 160 #[.val (.int p0), .val (.ref a3), .val (.int (3 : Int32)), .val (.ref m3), .unset] [])) t
      refine XS.iconst Y83.here hx rfl (hb hby at_160) ?_
      show Steps p.tables e below (T82.setTop (mkF m 161 #[.val (.int p0), .val (.ref a3), .val (.int (3 : Int32)), .val (.ref m3), .unset] [(.int (0 : Int32))])) t
      refine XS.istore Y83.here hx rfl (hb hby at_161) rfl (l' := #[.val (.int p0), .val (.ref a3), .val (.int (3 : Int32)), .val (.ref m3), .val (.int (0 : Int32))]) rfl ?_
      show Steps p.tables e below (T82.setTop (mkF m 163 #[.val (.int p0), .val (.ref a3), .val (.int (3 : Int32)), .val (.ref m3), .val (.int (0 : Int32))] [])) t
      refine XS.aloadN Y83.here hx rfl (hb hby at_163) rfl rfl ?_
      show Steps p.tables e below (T82.setTop (mkF m 164 #[.val (.int p0), .val (.ref a3), .val (.int (3 : Int32)), .val (.ref m3), .val (.int (0 : Int32))] [(.ref m3)])) t
      exact k
    refine On.virtualE Y83 hx hZ (y := (⟨"com/example/vistrace/vistrace/checker/Model", "needsTimes", "()Z"⟩ : MethodName)) (C := "com/example/vistrace/vistrace/checker/Model") hown (w45 hw) (w46 hw) (w47 hw) (w48 hw) (w49 hw) (w3 hw) (by decide) (a := m3) (argsL := []) (rest := []) (E3.ext (On.old Y83)) (rmD l Z a0 hw n0 m3 m0 [ar a3 (.object "com/example/vistrace/vistrace/checker/Model") (20 : Int32) [(.ref m0), (.ref m1), (.ref m2), (.ref m3), (.ref m4), (.ref m5), (.ref m6), (.ref m7), (.ref m8), (.ref m9), (.ref m10), (.ref m11), (.ref m12), (.ref m13), (.ref m14), (.ref m15), (.ref m16), (.ref m17), (.ref m18), (.ref m19)]] S0 N3) (W := 0) (by decide) (by decide) (by decide) (by decide) (g := (mkF m 164 #[.val (.int p0), .val (.ref a3), .val (.int (3 : Int32)), .val (.ref m3), .val (.int (0 : Int32))] [(.ref m3)])) rfl (by rw [hml]; rfl) (lenOf pd0 rfl) rfl (by show 2 * 0 + _ ≤ _; exact Nat.le_of_eq rfl) (hb hby at_164) ?_
    intro T99 u101 D102 hp103 Y100
    obtain ⟨rfl, rfl⟩ := hp103
    replace Y100 : On p l e _ s m _ below meth c Z n0 T99 1 20 [ar a3 (.object "com/example/vistrace/vistrace/checker/Model") (20 : Int32) [(.ref m0), (.ref m1), (.ref m2), (.ref m3), (.ref m4), (.ref m5), (.ref m6), (.ref m7), (.ref m8), (.ref m9), (.ref m10), (.ref m11), (.ref m12), (.ref m13), (.ref m14), (.ref m15), (.ref m16), (.ref m17), (.ref m18), (.ref m19)]] := Y100
    show Rn p e below F T99 (mkF m 167 #[.val (.int p0), .val (.ref a3), .val (.int (3 : Int32)), .val (.ref m3), .val (.int (0 : Int32))] [(.int (0 : Int32))])
    refine Rn.go (T' := T99) (g' := (mkF m 169 #[.val (.int p0), .val (.ref a3), .val (.int (3 : Int32)), .val (.ref m3), .val (.int (0 : Int32))] [(.int (0 : Int32)), (.int (0 : Int32))])) (fun t k => ?_) ?_
    · show Steps p.tables e below (T99.setTop (mkF m 167 #[.val (.int p0), .val (.ref a3), .val (.int (3 : Int32)), .val (.ref m3), .val (.int (0 : Int32))] [(.int (0 : Int32))])) t
      refine XS.iload Y100.here hx rfl (hb hby at_167) rfl ?_
      show Steps p.tables e below (T99.setTop (mkF m 169 #[.val (.int p0), .val (.ref a3), .val (.int (3 : Int32)), .val (.ref m3), .val (.int (0 : Int32))] [(.int (0 : Int32)), (.int (0 : Int32))])) t
      exact k
    refine Rn.go (T' := T99) (g' := (mkF m 172 #[.val (.int p0), .val (.ref a3), .val (.int (3 : Int32)), .val (.ref m3), .val (.int (0 : Int32))] [])) (fun t k => XS.icmpNo Y100.here hx rfl (hb hby at_169) rfl (teq (by decide)).2 k) ?_
    refine Rn.go (T' := T99) (g' := (mkF m 177 #[.val (.int p0), .val (.ref a3), .val (.int (3 : Int32)), .val (.ref m3), .val (.int (0 : Int32))] [(.int (1 : Int32))])) (fun t k => ?_) ?_
    · show Steps p.tables e below (T99.setTop (mkF m 172 #[.val (.int p0), .val (.ref a3), .val (.int (3 : Int32)), .val (.ref m3), .val (.int (0 : Int32))] [])) t
      refine XS.iconst Y100.here hx rfl (hb hby at_172) ?_
      show Steps p.tables e below (T99.setTop (mkF m 173 #[.val (.int p0), .val (.ref a3), .val (.int (3 : Int32)), .val (.ref m3), .val (.int (0 : Int32))] [(.int (1 : Int32))])) t
      refine XS.goto Y100.here hx rfl (pc0 := 173) (pc' := 177) rfl (hb hby at_173) (by decide) (by decide) ?_
      show Steps p.tables e below (T99.setTop (mkF m 177 #[.val (.int p0), .val (.ref a3), .val (.int (3 : Int32)), .val (.ref m3), .val (.int (0 : Int32))] [(.int (1 : Int32))])) t
      exact k
    rw [← hF]; exact On.retn Y100 hx hret (by simp) hlk (z' := (1 : Int32)) (by decide) (hb hby at_177) (by decide) (by decide) rfl
  · subst eo
    show Rn p e below F T82 (mkF m 148 #[.val (.int p0), .val (.ref a3), .val (.int (4 : Int32)), .unset, .unset] [])
    refine Rn.go (T' := T82) (g' := (mkF m 150 #[.val (.int p0), .val (.ref a3), .val (.int (4 : Int32)), .unset, .unset] [(.int (4 : Int32)), (.ref a3)])) (fun t k => ?_) ?_
    · show Steps p.tables e below (T82.setTop (mkF m 148 #[.val (.int p0), .val (.ref a3), .val (.int (4 : Int32)), .unset, .unset] [])) t
      refine XS.aloadN Y83.here hx rfl (hb hby at_148) rfl rfl ?_
      show Steps p.tables e below (T82.setTop (mkF m 149 #[.val (.int p0), .val (.ref a3), .val (.int (4 : Int32)), .unset, .unset] [(.ref a3)])) t
      refine XS.iloadN Y83.here hx rfl (hb hby at_149) rfl ?_
      show Steps p.tables e below (T82.setTop (mkF m 150 #[.val (.int p0), .val (.ref a3), .val (.int (4 : Int32)), .unset, .unset] [(.int (4 : Int32)), (.ref a3)])) t
      exact k
    refine On.rld Y83 hx hZ (i := 0) rfl (k := (4 : Int32)) (v := (.ref m4)) (by decide) rfl (g := (mkF m 150 #[.val (.int p0), .val (.ref a3), .val (.int (4 : Int32)), .unset, .unset] [(.int (4 : Int32)), (.ref a3)])) rfl rfl (hb hby at_150) ?_
    show Rn p e below F T82 (mkF m 151 #[.val (.int p0), .val (.ref a3), .val (.int (4 : Int32)), .unset, .unset] [(.ref m4)])
    refine Rn.go (T' := T82) (g' := (mkF m 153 #[.val (.int p0), .val (.ref a3), .val (.int (4 : Int32)), .val (.ref m4), .unset] [(.int (4 : Int32))])) (fun t k => ?_) ?_
    · show Steps p.tables e below (T82.setTop (mkF m 151 #[.val (.int p0), .val (.ref a3), .val (.int (4 : Int32)), .unset, .unset] [(.ref m4)])) t
      refine XS.astoreN Y83.here hx rfl (hb hby at_151) rfl rfl (l' := #[.val (.int p0), .val (.ref a3), .val (.int (4 : Int32)), .val (.ref m4), .unset]) rfl ?_
      show Steps p.tables e below (T82.setTop (mkF m 152 #[.val (.int p0), .val (.ref a3), .val (.int (4 : Int32)), .val (.ref m4), .unset] [])) t
      refine XS.iloadN Y83.here hx rfl (hb hby at_152) rfl ?_
      show Steps p.tables e below (T82.setTop (mkF m 153 #[.val (.int p0), .val (.ref a3), .val (.int (4 : Int32)), .val (.ref m4), .unset] [(.int (4 : Int32))])) t
      exact k
    refine Rn.go (T' := T82) (g' := (mkF m 160 #[.val (.int p0), .val (.ref a3), .val (.int (4 : Int32)), .val (.ref m4), .unset] [])) (fun t k => XS.ifYes Y83.here hx rfl (pc0 := 153) (pc' := 160) rfl (hb hby at_153) rfl ((if0 _ _).trans (feq (by decide)).2) (by decide) (by decide) k) ?_
    refine Rn.go (T' := T82) (g' := (mkF m 164 #[.val (.int p0), .val (.ref a3), .val (.int (4 : Int32)), .val (.ref m4), .val (.int (0 : Int32))] [(.ref m4)])) (fun t k => ?_) ?_
    · show Steps p.tables e below (T82.setTop (mkF m 160 #[.val (.int p0), .val (.ref a3), .val (.int (4 : Int32)), .val (.ref m4), .unset] [])) t
      refine XS.iconst Y83.here hx rfl (hb hby at_160) ?_
      show Steps p.tables e below (T82.setTop (mkF m 161 #[.val (.int p0), .val (.ref a3), .val (.int (4 : Int32)), .val (.ref m4), .unset] [(.int (0 : Int32))])) t
      refine XS.istore Y83.here hx rfl (hb hby at_161) rfl (l' := #[.val (.int p0), .val (.ref a3), .val (.int (4 : Int32)), .val (.ref m4), .val (.int (0 : Int32))]) rfl ?_
      show Steps p.tables e below (T82.setTop (mkF m 163 #[.val (.int p0), .val (.ref a3), .val (.int (4 : Int32)), .val (.ref m4), .val (.int (0 : Int32))] [])) t
      refine XS.aloadN Y83.here hx rfl (hb hby at_163) rfl rfl ?_
      show Steps p.tables e below (T82.setTop (mkF m 164 #[.val (.int p0), .val (.ref a3), .val (.int (4 : Int32)), .val (.ref m4), .val (.int (0 : Int32))] [(.ref m4)])) t
      exact k
    refine On.virtualE Y83 hx hZ (y := (⟨"com/example/vistrace/vistrace/checker/Model", "needsTimes", "()Z"⟩ : MethodName)) (C := "com/example/vistrace/vistrace/checker/Model") hown (w45 hw) (w46 hw) (w47 hw) (w48 hw) (w49 hw) (w3 hw) (by decide) (a := m4) (argsL := []) (rest := []) (E4.ext (On.old Y83)) (rmD l Z a0 hw n0 m4 m0 [ar a3 (.object "com/example/vistrace/vistrace/checker/Model") (20 : Int32) [(.ref m0), (.ref m1), (.ref m2), (.ref m3), (.ref m4), (.ref m5), (.ref m6), (.ref m7), (.ref m8), (.ref m9), (.ref m10), (.ref m11), (.ref m12), (.ref m13), (.ref m14), (.ref m15), (.ref m16), (.ref m17), (.ref m18), (.ref m19)]] S0 N4) (W := 0) (by decide) (by decide) (by decide) (by decide) (g := (mkF m 164 #[.val (.int p0), .val (.ref a3), .val (.int (4 : Int32)), .val (.ref m4), .val (.int (0 : Int32))] [(.ref m4)])) rfl (by rw [hml]; rfl) (lenOf pd0 rfl) rfl (by show 2 * 0 + _ ≤ _; exact Nat.le_of_eq rfl) (hb hby at_164) ?_
    intro T104 u106 D107 hp108 Y105
    obtain ⟨rfl, rfl⟩ := hp108
    replace Y105 : On p l e _ s m _ below meth c Z n0 T104 1 20 [ar a3 (.object "com/example/vistrace/vistrace/checker/Model") (20 : Int32) [(.ref m0), (.ref m1), (.ref m2), (.ref m3), (.ref m4), (.ref m5), (.ref m6), (.ref m7), (.ref m8), (.ref m9), (.ref m10), (.ref m11), (.ref m12), (.ref m13), (.ref m14), (.ref m15), (.ref m16), (.ref m17), (.ref m18), (.ref m19)]] := Y105
    show Rn p e below F T104 (mkF m 167 #[.val (.int p0), .val (.ref a3), .val (.int (4 : Int32)), .val (.ref m4), .val (.int (0 : Int32))] [(.int (0 : Int32))])
    refine Rn.go (T' := T104) (g' := (mkF m 169 #[.val (.int p0), .val (.ref a3), .val (.int (4 : Int32)), .val (.ref m4), .val (.int (0 : Int32))] [(.int (0 : Int32)), (.int (0 : Int32))])) (fun t k => ?_) ?_
    · show Steps p.tables e below (T104.setTop (mkF m 167 #[.val (.int p0), .val (.ref a3), .val (.int (4 : Int32)), .val (.ref m4), .val (.int (0 : Int32))] [(.int (0 : Int32))])) t
      refine XS.iload Y105.here hx rfl (hb hby at_167) rfl ?_
      show Steps p.tables e below (T104.setTop (mkF m 169 #[.val (.int p0), .val (.ref a3), .val (.int (4 : Int32)), .val (.ref m4), .val (.int (0 : Int32))] [(.int (0 : Int32)), (.int (0 : Int32))])) t
      exact k
    refine Rn.go (T' := T104) (g' := (mkF m 172 #[.val (.int p0), .val (.ref a3), .val (.int (4 : Int32)), .val (.ref m4), .val (.int (0 : Int32))] [])) (fun t k => XS.icmpNo Y105.here hx rfl (hb hby at_169) rfl (teq (by decide)).2 k) ?_
    refine Rn.go (T' := T104) (g' := (mkF m 177 #[.val (.int p0), .val (.ref a3), .val (.int (4 : Int32)), .val (.ref m4), .val (.int (0 : Int32))] [(.int (1 : Int32))])) (fun t k => ?_) ?_
    · show Steps p.tables e below (T104.setTop (mkF m 172 #[.val (.int p0), .val (.ref a3), .val (.int (4 : Int32)), .val (.ref m4), .val (.int (0 : Int32))] [])) t
      refine XS.iconst Y105.here hx rfl (hb hby at_172) ?_
      show Steps p.tables e below (T104.setTop (mkF m 173 #[.val (.int p0), .val (.ref a3), .val (.int (4 : Int32)), .val (.ref m4), .val (.int (0 : Int32))] [(.int (1 : Int32))])) t
      refine XS.goto Y105.here hx rfl (pc0 := 173) (pc' := 177) rfl (hb hby at_173) (by decide) (by decide) ?_
      show Steps p.tables e below (T104.setTop (mkF m 177 #[.val (.int p0), .val (.ref a3), .val (.int (4 : Int32)), .val (.ref m4), .val (.int (0 : Int32))] [(.int (1 : Int32))])) t
      exact k
    rw [← hF]; exact On.retn Y105 hx hret (by simp) hlk (z' := (1 : Int32)) (by decide) (hb hby at_177) (by decide) (by decide) rfl
  · subst eo
    show Rn p e below F T82 (mkF m 148 #[.val (.int p0), .val (.ref a3), .val (.int (5 : Int32)), .unset, .unset] [])
    refine Rn.go (T' := T82) (g' := (mkF m 150 #[.val (.int p0), .val (.ref a3), .val (.int (5 : Int32)), .unset, .unset] [(.int (5 : Int32)), (.ref a3)])) (fun t k => ?_) ?_
    · show Steps p.tables e below (T82.setTop (mkF m 148 #[.val (.int p0), .val (.ref a3), .val (.int (5 : Int32)), .unset, .unset] [])) t
      refine XS.aloadN Y83.here hx rfl (hb hby at_148) rfl rfl ?_
      show Steps p.tables e below (T82.setTop (mkF m 149 #[.val (.int p0), .val (.ref a3), .val (.int (5 : Int32)), .unset, .unset] [(.ref a3)])) t
      refine XS.iloadN Y83.here hx rfl (hb hby at_149) rfl ?_
      show Steps p.tables e below (T82.setTop (mkF m 150 #[.val (.int p0), .val (.ref a3), .val (.int (5 : Int32)), .unset, .unset] [(.int (5 : Int32)), (.ref a3)])) t
      exact k
    refine On.rld Y83 hx hZ (i := 0) rfl (k := (5 : Int32)) (v := (.ref m5)) (by decide) rfl (g := (mkF m 150 #[.val (.int p0), .val (.ref a3), .val (.int (5 : Int32)), .unset, .unset] [(.int (5 : Int32)), (.ref a3)])) rfl rfl (hb hby at_150) ?_
    show Rn p e below F T82 (mkF m 151 #[.val (.int p0), .val (.ref a3), .val (.int (5 : Int32)), .unset, .unset] [(.ref m5)])
    refine Rn.go (T' := T82) (g' := (mkF m 153 #[.val (.int p0), .val (.ref a3), .val (.int (5 : Int32)), .val (.ref m5), .unset] [(.int (5 : Int32))])) (fun t k => ?_) ?_
    · show Steps p.tables e below (T82.setTop (mkF m 151 #[.val (.int p0), .val (.ref a3), .val (.int (5 : Int32)), .unset, .unset] [(.ref m5)])) t
      refine XS.astoreN Y83.here hx rfl (hb hby at_151) rfl rfl (l' := #[.val (.int p0), .val (.ref a3), .val (.int (5 : Int32)), .val (.ref m5), .unset]) rfl ?_
      show Steps p.tables e below (T82.setTop (mkF m 152 #[.val (.int p0), .val (.ref a3), .val (.int (5 : Int32)), .val (.ref m5), .unset] [])) t
      refine XS.iloadN Y83.here hx rfl (hb hby at_152) rfl ?_
      show Steps p.tables e below (T82.setTop (mkF m 153 #[.val (.int p0), .val (.ref a3), .val (.int (5 : Int32)), .val (.ref m5), .unset] [(.int (5 : Int32))])) t
      exact k
    refine Rn.go (T' := T82) (g' := (mkF m 160 #[.val (.int p0), .val (.ref a3), .val (.int (5 : Int32)), .val (.ref m5), .unset] [])) (fun t k => XS.ifYes Y83.here hx rfl (pc0 := 153) (pc' := 160) rfl (hb hby at_153) rfl ((if0 _ _).trans (feq (by decide)).2) (by decide) (by decide) k) ?_
    refine Rn.go (T' := T82) (g' := (mkF m 164 #[.val (.int p0), .val (.ref a3), .val (.int (5 : Int32)), .val (.ref m5), .val (.int (0 : Int32))] [(.ref m5)])) (fun t k => ?_) ?_
    · show Steps p.tables e below (T82.setTop (mkF m 160 #[.val (.int p0), .val (.ref a3), .val (.int (5 : Int32)), .val (.ref m5), .unset] [])) t
      refine XS.iconst Y83.here hx rfl (hb hby at_160) ?_
      show Steps p.tables e below (T82.setTop (mkF m 161 #[.val (.int p0), .val (.ref a3), .val (.int (5 : Int32)), .val (.ref m5), .unset] [(.int (0 : Int32))])) t
      refine XS.istore Y83.here hx rfl (hb hby at_161) rfl (l' := #[.val (.int p0), .val (.ref a3), .val (.int (5 : Int32)), .val (.ref m5), .val (.int (0 : Int32))]) rfl ?_
      show Steps p.tables e below (T82.setTop (mkF m 163 #[.val (.int p0), .val (.ref a3), .val (.int (5 : Int32)), .val (.ref m5), .val (.int (0 : Int32))] [])) t
      refine XS.aloadN Y83.here hx rfl (hb hby at_163) rfl rfl ?_
      show Steps p.tables e below (T82.setTop (mkF m 164 #[.val (.int p0), .val (.ref a3), .val (.int (5 : Int32)), .val (.ref m5), .val (.int (0 : Int32))] [(.ref m5)])) t
      exact k
    refine On.virtualE Y83 hx hZ (y := (⟨"com/example/vistrace/vistrace/checker/Model", "needsTimes", "()Z"⟩ : MethodName)) (C := "com/example/vistrace/vistrace/checker/Model") hown (w45 hw) (w46 hw) (w47 hw) (w48 hw) (w49 hw) (w3 hw) (by decide) (a := m5) (argsL := []) (rest := []) (E5.ext (On.old Y83)) (rmD l Z a0 hw n0 m5 m0 [ar a3 (.object "com/example/vistrace/vistrace/checker/Model") (20 : Int32) [(.ref m0), (.ref m1), (.ref m2), (.ref m3), (.ref m4), (.ref m5), (.ref m6), (.ref m7), (.ref m8), (.ref m9), (.ref m10), (.ref m11), (.ref m12), (.ref m13), (.ref m14), (.ref m15), (.ref m16), (.ref m17), (.ref m18), (.ref m19)]] S0 N5) (W := 0) (by decide) (by decide) (by decide) (by decide) (g := (mkF m 164 #[.val (.int p0), .val (.ref a3), .val (.int (5 : Int32)), .val (.ref m5), .val (.int (0 : Int32))] [(.ref m5)])) rfl (by rw [hml]; rfl) (lenOf pd0 rfl) rfl (by show 2 * 0 + _ ≤ _; exact Nat.le_of_eq rfl) (hb hby at_164) ?_
    intro T109 u111 D112 hp113 Y110
    obtain ⟨rfl, rfl⟩ := hp113
    replace Y110 : On p l e _ s m _ below meth c Z n0 T109 1 20 [ar a3 (.object "com/example/vistrace/vistrace/checker/Model") (20 : Int32) [(.ref m0), (.ref m1), (.ref m2), (.ref m3), (.ref m4), (.ref m5), (.ref m6), (.ref m7), (.ref m8), (.ref m9), (.ref m10), (.ref m11), (.ref m12), (.ref m13), (.ref m14), (.ref m15), (.ref m16), (.ref m17), (.ref m18), (.ref m19)]] := Y110
    show Rn p e below F T109 (mkF m 167 #[.val (.int p0), .val (.ref a3), .val (.int (5 : Int32)), .val (.ref m5), .val (.int (0 : Int32))] [(.int (0 : Int32))])
    refine Rn.go (T' := T109) (g' := (mkF m 169 #[.val (.int p0), .val (.ref a3), .val (.int (5 : Int32)), .val (.ref m5), .val (.int (0 : Int32))] [(.int (0 : Int32)), (.int (0 : Int32))])) (fun t k => ?_) ?_
    · show Steps p.tables e below (T109.setTop (mkF m 167 #[.val (.int p0), .val (.ref a3), .val (.int (5 : Int32)), .val (.ref m5), .val (.int (0 : Int32))] [(.int (0 : Int32))])) t
      refine XS.iload Y110.here hx rfl (hb hby at_167) rfl ?_
      show Steps p.tables e below (T109.setTop (mkF m 169 #[.val (.int p0), .val (.ref a3), .val (.int (5 : Int32)), .val (.ref m5), .val (.int (0 : Int32))] [(.int (0 : Int32)), (.int (0 : Int32))])) t
      exact k
    refine Rn.go (T' := T109) (g' := (mkF m 172 #[.val (.int p0), .val (.ref a3), .val (.int (5 : Int32)), .val (.ref m5), .val (.int (0 : Int32))] [])) (fun t k => XS.icmpNo Y110.here hx rfl (hb hby at_169) rfl (teq (by decide)).2 k) ?_
    refine Rn.go (T' := T109) (g' := (mkF m 177 #[.val (.int p0), .val (.ref a3), .val (.int (5 : Int32)), .val (.ref m5), .val (.int (0 : Int32))] [(.int (1 : Int32))])) (fun t k => ?_) ?_
    · show Steps p.tables e below (T109.setTop (mkF m 172 #[.val (.int p0), .val (.ref a3), .val (.int (5 : Int32)), .val (.ref m5), .val (.int (0 : Int32))] [])) t
      refine XS.iconst Y110.here hx rfl (hb hby at_172) ?_
      show Steps p.tables e below (T109.setTop (mkF m 173 #[.val (.int p0), .val (.ref a3), .val (.int (5 : Int32)), .val (.ref m5), .val (.int (0 : Int32))] [(.int (1 : Int32))])) t
      refine XS.goto Y110.here hx rfl (pc0 := 173) (pc' := 177) rfl (hb hby at_173) (by decide) (by decide) ?_
      show Steps p.tables e below (T109.setTop (mkF m 177 #[.val (.int p0), .val (.ref a3), .val (.int (5 : Int32)), .val (.ref m5), .val (.int (0 : Int32))] [(.int (1 : Int32))])) t
      exact k
    rw [← hF]; exact On.retn Y110 hx hret (by simp) hlk (z' := (1 : Int32)) (by decide) (hb hby at_177) (by decide) (by decide) rfl
  · subst eo
    show Rn p e below F T82 (mkF m 148 #[.val (.int p0), .val (.ref a3), .val (.int (6 : Int32)), .unset, .unset] [])
    refine Rn.go (T' := T82) (g' := (mkF m 150 #[.val (.int p0), .val (.ref a3), .val (.int (6 : Int32)), .unset, .unset] [(.int (6 : Int32)), (.ref a3)])) (fun t k => ?_) ?_
    · show Steps p.tables e below (T82.setTop (mkF m 148 #[.val (.int p0), .val (.ref a3), .val (.int (6 : Int32)), .unset, .unset] [])) t
      refine XS.aloadN Y83.here hx rfl (hb hby at_148) rfl rfl ?_
      show Steps p.tables e below (T82.setTop (mkF m 149 #[.val (.int p0), .val (.ref a3), .val (.int (6 : Int32)), .unset, .unset] [(.ref a3)])) t
      refine XS.iloadN Y83.here hx rfl (hb hby at_149) rfl ?_
      show Steps p.tables e below (T82.setTop (mkF m 150 #[.val (.int p0), .val (.ref a3), .val (.int (6 : Int32)), .unset, .unset] [(.int (6 : Int32)), (.ref a3)])) t
      exact k
    refine On.rld Y83 hx hZ (i := 0) rfl (k := (6 : Int32)) (v := (.ref m6)) (by decide) rfl (g := (mkF m 150 #[.val (.int p0), .val (.ref a3), .val (.int (6 : Int32)), .unset, .unset] [(.int (6 : Int32)), (.ref a3)])) rfl rfl (hb hby at_150) ?_
    show Rn p e below F T82 (mkF m 151 #[.val (.int p0), .val (.ref a3), .val (.int (6 : Int32)), .unset, .unset] [(.ref m6)])
    refine Rn.go (T' := T82) (g' := (mkF m 153 #[.val (.int p0), .val (.ref a3), .val (.int (6 : Int32)), .val (.ref m6), .unset] [(.int (6 : Int32))])) (fun t k => ?_) ?_
    · show Steps p.tables e below (T82.setTop (mkF m 151 #[.val (.int p0), .val (.ref a3), .val (.int (6 : Int32)), .unset, .unset] [(.ref m6)])) t
      refine XS.astoreN Y83.here hx rfl (hb hby at_151) rfl rfl (l' := #[.val (.int p0), .val (.ref a3), .val (.int (6 : Int32)), .val (.ref m6), .unset]) rfl ?_
      show Steps p.tables e below (T82.setTop (mkF m 152 #[.val (.int p0), .val (.ref a3), .val (.int (6 : Int32)), .val (.ref m6), .unset] [])) t
      refine XS.iloadN Y83.here hx rfl (hb hby at_152) rfl ?_
      show Steps p.tables e below (T82.setTop (mkF m 153 #[.val (.int p0), .val (.ref a3), .val (.int (6 : Int32)), .val (.ref m6), .unset] [(.int (6 : Int32))])) t
      exact k
    refine Rn.go (T' := T82) (g' := (mkF m 160 #[.val (.int p0), .val (.ref a3), .val (.int (6 : Int32)), .val (.ref m6), .unset] [])) (fun t k => XS.ifYes Y83.here hx rfl (pc0 := 153) (pc' := 160) rfl (hb hby at_153) rfl ((if0 _ _).trans (feq (by decide)).2) (by decide) (by decide) k) ?_
    refine Rn.go (T' := T82) (g' := (mkF m 164 #[.val (.int p0), .val (.ref a3), .val (.int (6 : Int32)), .val (.ref m6), .val (.int (0 : Int32))] [(.ref m6)])) (fun t k => ?_) ?_
    · show Steps p.tables e below (T82.setTop (mkF m 160 #[.val (.int p0), .val (.ref a3), .val (.int (6 : Int32)), .val (.ref m6), .unset] [])) t
      refine XS.iconst Y83.here hx rfl (hb hby at_160) ?_
      show Steps p.tables e below (T82.setTop (mkF m 161 #[.val (.int p0), .val (.ref a3), .val (.int (6 : Int32)), .val (.ref m6), .unset] [(.int (0 : Int32))])) t
      refine XS.istore Y83.here hx rfl (hb hby at_161) rfl (l' := #[.val (.int p0), .val (.ref a3), .val (.int (6 : Int32)), .val (.ref m6), .val (.int (0 : Int32))]) rfl ?_
      show Steps p.tables e below (T82.setTop (mkF m 163 #[.val (.int p0), .val (.ref a3), .val (.int (6 : Int32)), .val (.ref m6), .val (.int (0 : Int32))] [])) t
      refine XS.aloadN Y83.here hx rfl (hb hby at_163) rfl rfl ?_
      show Steps p.tables e below (T82.setTop (mkF m 164 #[.val (.int p0), .val (.ref a3), .val (.int (6 : Int32)), .val (.ref m6), .val (.int (0 : Int32))] [(.ref m6)])) t
      exact k
    refine On.virtualE Y83 hx hZ (y := (⟨"com/example/vistrace/vistrace/checker/Model", "needsTimes", "()Z"⟩ : MethodName)) (C := "com/example/vistrace/vistrace/checker/Model") hown (w45 hw) (w46 hw) (w47 hw) (w48 hw) (w49 hw) (w3 hw) (by decide) (a := m6) (argsL := []) (rest := []) (E6.ext (On.old Y83)) (rmD l Z a0 hw n0 m6 m0 [ar a3 (.object "com/example/vistrace/vistrace/checker/Model") (20 : Int32) [(.ref m0), (.ref m1), (.ref m2), (.ref m3), (.ref m4), (.ref m5), (.ref m6), (.ref m7), (.ref m8), (.ref m9), (.ref m10), (.ref m11), (.ref m12), (.ref m13), (.ref m14), (.ref m15), (.ref m16), (.ref m17), (.ref m18), (.ref m19)]] S0 N6) (W := 0) (by decide) (by decide) (by decide) (by decide) (g := (mkF m 164 #[.val (.int p0), .val (.ref a3), .val (.int (6 : Int32)), .val (.ref m6), .val (.int (0 : Int32))] [(.ref m6)])) rfl (by rw [hml]; rfl) (lenOf pd0 rfl) rfl (by show 2 * 0 + _ ≤ _; exact Nat.le_of_eq rfl) (hb hby at_164) ?_
    intro T114 u116 D117 hp118 Y115
    obtain ⟨rfl, rfl⟩ := hp118
    replace Y115 : On p l e _ s m _ below meth c Z n0 T114 1 20 [ar a3 (.object "com/example/vistrace/vistrace/checker/Model") (20 : Int32) [(.ref m0), (.ref m1), (.ref m2), (.ref m3), (.ref m4), (.ref m5), (.ref m6), (.ref m7), (.ref m8), (.ref m9), (.ref m10), (.ref m11), (.ref m12), (.ref m13), (.ref m14), (.ref m15), (.ref m16), (.ref m17), (.ref m18), (.ref m19)]] := Y115
    show Rn p e below F T114 (mkF m 167 #[.val (.int p0), .val (.ref a3), .val (.int (6 : Int32)), .val (.ref m6), .val (.int (0 : Int32))] [(.int (0 : Int32))])
    refine Rn.go (T' := T114) (g' := (mkF m 169 #[.val (.int p0), .val (.ref a3), .val (.int (6 : Int32)), .val (.ref m6), .val (.int (0 : Int32))] [(.int (0 : Int32)), (.int (0 : Int32))])) (fun t k => ?_) ?_
    · show Steps p.tables e below (T114.setTop (mkF m 167 #[.val (.int p0), .val (.ref a3), .val (.int (6 : Int32)), .val (.ref m6), .val (.int (0 : Int32))] [(.int (0 : Int32))])) t
      refine XS.iload Y115.here hx rfl (hb hby at_167) rfl ?_
      show Steps p.tables e below (T114.setTop (mkF m 169 #[.val (.int p0), .val (.ref a3), .val (.int (6 : Int32)), .val (.ref m6), .val (.int (0 : Int32))] [(.int (0 : Int32)), (.int (0 : Int32))])) t
      exact k
    refine Rn.go (T' := T114) (g' := (mkF m 172 #[.val (.int p0), .val (.ref a3), .val (.int (6 : Int32)), .val (.ref m6), .val (.int (0 : Int32))] [])) (fun t k => XS.icmpNo Y115.here hx rfl (hb hby at_169) rfl (teq (by decide)).2 k) ?_
    refine Rn.go (T' := T114) (g' := (mkF m 177 #[.val (.int p0), .val (.ref a3), .val (.int (6 : Int32)), .val (.ref m6), .val (.int (0 : Int32))] [(.int (1 : Int32))])) (fun t k => ?_) ?_
    · show Steps p.tables e below (T114.setTop (mkF m 172 #[.val (.int p0), .val (.ref a3), .val (.int (6 : Int32)), .val (.ref m6), .val (.int (0 : Int32))] [])) t
      refine XS.iconst Y115.here hx rfl (hb hby at_172) ?_
      show Steps p.tables e below (T114.setTop (mkF m 173 #[.val (.int p0), .val (.ref a3), .val (.int (6 : Int32)), .val (.ref m6), .val (.int (0 : Int32))] [(.int (1 : Int32))])) t
      refine XS.goto Y115.here hx rfl (pc0 := 173) (pc' := 177) rfl (hb hby at_173) (by decide) (by decide) ?_
      show Steps p.tables e below (T114.setTop (mkF m 177 #[.val (.int p0), .val (.ref a3), .val (.int (6 : Int32)), .val (.ref m6), .val (.int (0 : Int32))] [(.int (1 : Int32))])) t
      exact k
    rw [← hF]; exact On.retn Y115 hx hret (by simp) hlk (z' := (1 : Int32)) (by decide) (hb hby at_177) (by decide) (by decide) rfl
  · subst eo
    show Rn p e below F T82 (mkF m 148 #[.val (.int p0), .val (.ref a3), .val (.int (7 : Int32)), .unset, .unset] [])
    refine Rn.go (T' := T82) (g' := (mkF m 150 #[.val (.int p0), .val (.ref a3), .val (.int (7 : Int32)), .unset, .unset] [(.int (7 : Int32)), (.ref a3)])) (fun t k => ?_) ?_
    · show Steps p.tables e below (T82.setTop (mkF m 148 #[.val (.int p0), .val (.ref a3), .val (.int (7 : Int32)), .unset, .unset] [])) t
      refine XS.aloadN Y83.here hx rfl (hb hby at_148) rfl rfl ?_
      show Steps p.tables e below (T82.setTop (mkF m 149 #[.val (.int p0), .val (.ref a3), .val (.int (7 : Int32)), .unset, .unset] [(.ref a3)])) t
      refine XS.iloadN Y83.here hx rfl (hb hby at_149) rfl ?_
      show Steps p.tables e below (T82.setTop (mkF m 150 #[.val (.int p0), .val (.ref a3), .val (.int (7 : Int32)), .unset, .unset] [(.int (7 : Int32)), (.ref a3)])) t
      exact k
    refine On.rld Y83 hx hZ (i := 0) rfl (k := (7 : Int32)) (v := (.ref m7)) (by decide) rfl (g := (mkF m 150 #[.val (.int p0), .val (.ref a3), .val (.int (7 : Int32)), .unset, .unset] [(.int (7 : Int32)), (.ref a3)])) rfl rfl (hb hby at_150) ?_
    show Rn p e below F T82 (mkF m 151 #[.val (.int p0), .val (.ref a3), .val (.int (7 : Int32)), .unset, .unset] [(.ref m7)])
    refine Rn.go (T' := T82) (g' := (mkF m 153 #[.val (.int p0), .val (.ref a3), .val (.int (7 : Int32)), .val (.ref m7), .unset] [(.int (7 : Int32))])) (fun t k => ?_) ?_
    · show Steps p.tables e below (T82.setTop (mkF m 151 #[.val (.int p0), .val (.ref a3), .val (.int (7 : Int32)), .unset, .unset] [(.ref m7)])) t
      refine XS.astoreN Y83.here hx rfl (hb hby at_151) rfl rfl (l' := #[.val (.int p0), .val (.ref a3), .val (.int (7 : Int32)), .val (.ref m7), .unset]) rfl ?_
      show Steps p.tables e below (T82.setTop (mkF m 152 #[.val (.int p0), .val (.ref a3), .val (.int (7 : Int32)), .val (.ref m7), .unset] [])) t
      refine XS.iloadN Y83.here hx rfl (hb hby at_152) rfl ?_
      show Steps p.tables e below (T82.setTop (mkF m 153 #[.val (.int p0), .val (.ref a3), .val (.int (7 : Int32)), .val (.ref m7), .unset] [(.int (7 : Int32))])) t
      exact k
    refine Rn.go (T' := T82) (g' := (mkF m 160 #[.val (.int p0), .val (.ref a3), .val (.int (7 : Int32)), .val (.ref m7), .unset] [])) (fun t k => XS.ifYes Y83.here hx rfl (pc0 := 153) (pc' := 160) rfl (hb hby at_153) rfl ((if0 _ _).trans (feq (by decide)).2) (by decide) (by decide) k) ?_
    refine Rn.go (T' := T82) (g' := (mkF m 164 #[.val (.int p0), .val (.ref a3), .val (.int (7 : Int32)), .val (.ref m7), .val (.int (0 : Int32))] [(.ref m7)])) (fun t k => ?_) ?_
    · show Steps p.tables e below (T82.setTop (mkF m 160 #[.val (.int p0), .val (.ref a3), .val (.int (7 : Int32)), .val (.ref m7), .unset] [])) t
      refine XS.iconst Y83.here hx rfl (hb hby at_160) ?_
      show Steps p.tables e below (T82.setTop (mkF m 161 #[.val (.int p0), .val (.ref a3), .val (.int (7 : Int32)), .val (.ref m7), .unset] [(.int (0 : Int32))])) t
      refine XS.istore Y83.here hx rfl (hb hby at_161) rfl (l' := #[.val (.int p0), .val (.ref a3), .val (.int (7 : Int32)), .val (.ref m7), .val (.int (0 : Int32))]) rfl ?_
      show Steps p.tables e below (T82.setTop (mkF m 163 #[.val (.int p0), .val (.ref a3), .val (.int (7 : Int32)), .val (.ref m7), .val (.int (0 : Int32))] [])) t
      refine XS.aloadN Y83.here hx rfl (hb hby at_163) rfl rfl ?_
      show Steps p.tables e below (T82.setTop (mkF m 164 #[.val (.int p0), .val (.ref a3), .val (.int (7 : Int32)), .val (.ref m7), .val (.int (0 : Int32))] [(.ref m7)])) t
      exact k
    refine On.virtualE Y83 hx hZ (y := (⟨"com/example/vistrace/vistrace/checker/Model", "needsTimes", "()Z"⟩ : MethodName)) (C := "com/example/vistrace/vistrace/checker/Model") hown (w45 hw) (w46 hw) (w47 hw) (w48 hw) (w49 hw) (w3 hw) (by decide) (a := m7) (argsL := []) (rest := []) (E7.ext (On.old Y83)) (rmD l Z a0 hw n0 m7 m0 [ar a3 (.object "com/example/vistrace/vistrace/checker/Model") (20 : Int32) [(.ref m0), (.ref m1), (.ref m2), (.ref m3), (.ref m4), (.ref m5), (.ref m6), (.ref m7), (.ref m8), (.ref m9), (.ref m10), (.ref m11), (.ref m12), (.ref m13), (.ref m14), (.ref m15), (.ref m16), (.ref m17), (.ref m18), (.ref m19)]] S0 N7) (W := 0) (by decide) (by decide) (by decide) (by decide) (g := (mkF m 164 #[.val (.int p0), .val (.ref a3), .val (.int (7 : Int32)), .val (.ref m7), .val (.int (0 : Int32))] [(.ref m7)])) rfl (by rw [hml]; rfl) (lenOf pd0 rfl) rfl (by show 2 * 0 + _ ≤ _; exact Nat.le_of_eq rfl) (hb hby at_164) ?_
    intro T119 u121 D122 hp123 Y120
    obtain ⟨rfl, rfl⟩ := hp123
    replace Y120 : On p l e _ s m _ below meth c Z n0 T119 1 20 [ar a3 (.object "com/example/vistrace/vistrace/checker/Model") (20 : Int32) [(.ref m0), (.ref m1), (.ref m2), (.ref m3), (.ref m4), (.ref m5), (.ref m6), (.ref m7), (.ref m8), (.ref m9), (.ref m10), (.ref m11), (.ref m12), (.ref m13), (.ref m14), (.ref m15), (.ref m16), (.ref m17), (.ref m18), (.ref m19)]] := Y120
    show Rn p e below F T119 (mkF m 167 #[.val (.int p0), .val (.ref a3), .val (.int (7 : Int32)), .val (.ref m7), .val (.int (0 : Int32))] [(.int (0 : Int32))])
    refine Rn.go (T' := T119) (g' := (mkF m 169 #[.val (.int p0), .val (.ref a3), .val (.int (7 : Int32)), .val (.ref m7), .val (.int (0 : Int32))] [(.int (0 : Int32)), (.int (0 : Int32))])) (fun t k => ?_) ?_
    · show Steps p.tables e below (T119.setTop (mkF m 167 #[.val (.int p0), .val (.ref a3), .val (.int (7 : Int32)), .val (.ref m7), .val (.int (0 : Int32))] [(.int (0 : Int32))])) t
      refine XS.iload Y120.here hx rfl (hb hby at_167) rfl ?_
      show Steps p.tables e below (T119.setTop (mkF m 169 #[.val (.int p0), .val (.ref a3), .val (.int (7 : Int32)), .val (.ref m7), .val (.int (0 : Int32))] [(.int (0 : Int32)), (.int (0 : Int32))])) t
      exact k
    refine Rn.go (T' := T119) (g' := (mkF m 172 #[.val (.int p0), .val (.ref a3), .val (.int (7 : Int32)), .val (.ref m7), .val (.int (0 : Int32))] [])) (fun t k => XS.icmpNo Y120.here hx rfl (hb hby at_169) rfl (teq (by decide)).2 k) ?_
    refine Rn.go (T' := T119) (g' := (mkF m 177 #[.val (.int p0), .val (.ref a3), .val (.int (7 : Int32)), .val (.ref m7), .val (.int (0 : Int32))] [(.int (1 : Int32))])) (fun t k => ?_) ?_
    · show Steps p.tables e below (T119.setTop (mkF m 172 #[.val (.int p0), .val (.ref a3), .val (.int (7 : Int32)), .val (.ref m7), .val (.int (0 : Int32))] [])) t
      refine XS.iconst Y120.here hx rfl (hb hby at_172) ?_
      show Steps p.tables e below (T119.setTop (mkF m 173 #[.val (.int p0), .val (.ref a3), .val (.int (7 : Int32)), .val (.ref m7), .val (.int (0 : Int32))] [(.int (1 : Int32))])) t
      refine XS.goto Y120.here hx rfl (pc0 := 173) (pc' := 177) rfl (hb hby at_173) (by decide) (by decide) ?_
      show Steps p.tables e below (T119.setTop (mkF m 177 #[.val (.int p0), .val (.ref a3), .val (.int (7 : Int32)), .val (.ref m7), .val (.int (0 : Int32))] [(.int (1 : Int32))])) t
      exact k
    rw [← hF]; exact On.retn Y120 hx hret (by simp) hlk (z' := (1 : Int32)) (by decide) (hb hby at_177) (by decide) (by decide) rfl
  · subst eo
    show Rn p e below F T82 (mkF m 148 #[.val (.int p0), .val (.ref a3), .val (.int (8 : Int32)), .unset, .unset] [])
    refine Rn.go (T' := T82) (g' := (mkF m 150 #[.val (.int p0), .val (.ref a3), .val (.int (8 : Int32)), .unset, .unset] [(.int (8 : Int32)), (.ref a3)])) (fun t k => ?_) ?_
    · show Steps p.tables e below (T82.setTop (mkF m 148 #[.val (.int p0), .val (.ref a3), .val (.int (8 : Int32)), .unset, .unset] [])) t
      refine XS.aloadN Y83.here hx rfl (hb hby at_148) rfl rfl ?_
      show Steps p.tables e below (T82.setTop (mkF m 149 #[.val (.int p0), .val (.ref a3), .val (.int (8 : Int32)), .unset, .unset] [(.ref a3)])) t
      refine XS.iloadN Y83.here hx rfl (hb hby at_149) rfl ?_
      show Steps p.tables e below (T82.setTop (mkF m 150 #[.val (.int p0), .val (.ref a3), .val (.int (8 : Int32)), .unset, .unset] [(.int (8 : Int32)), (.ref a3)])) t
      exact k
    refine On.rld Y83 hx hZ (i := 0) rfl (k := (8 : Int32)) (v := (.ref m8)) (by decide) rfl (g := (mkF m 150 #[.val (.int p0), .val (.ref a3), .val (.int (8 : Int32)), .unset, .unset] [(.int (8 : Int32)), (.ref a3)])) rfl rfl (hb hby at_150) ?_
    show Rn p e below F T82 (mkF m 151 #[.val (.int p0), .val (.ref a3), .val (.int (8 : Int32)), .unset, .unset] [(.ref m8)])
    refine Rn.go (T' := T82) (g' := (mkF m 153 #[.val (.int p0), .val (.ref a3), .val (.int (8 : Int32)), .val (.ref m8), .unset] [(.int (8 : Int32))])) (fun t k => ?_) ?_
    · show Steps p.tables e below (T82.setTop (mkF m 151 #[.val (.int p0), .val (.ref a3), .val (.int (8 : Int32)), .unset, .unset] [(.ref m8)])) t
      refine XS.astoreN Y83.here hx rfl (hb hby at_151) rfl rfl (l' := #[.val (.int p0), .val (.ref a3), .val (.int (8 : Int32)), .val (.ref m8), .unset]) rfl ?_
      show Steps p.tables e below (T82.setTop (mkF m 152 #[.val (.int p0), .val (.ref a3), .val (.int (8 : Int32)), .val (.ref m8), .unset] [])) t
      refine XS.iloadN Y83.here hx rfl (hb hby at_152) rfl ?_
      show Steps p.tables e below (T82.setTop (mkF m 153 #[.val (.int p0), .val (.ref a3), .val (.int (8 : Int32)), .val (.ref m8), .unset] [(.int (8 : Int32))])) t
      exact k
    refine Rn.go (T' := T82) (g' := (mkF m 160 #[.val (.int p0), .val (.ref a3), .val (.int (8 : Int32)), .val (.ref m8), .unset] [])) (fun t k => XS.ifYes Y83.here hx rfl (pc0 := 153) (pc' := 160) rfl (hb hby at_153) rfl ((if0 _ _).trans (feq (by decide)).2) (by decide) (by decide) k) ?_
    refine Rn.go (T' := T82) (g' := (mkF m 164 #[.val (.int p0), .val (.ref a3), .val (.int (8 : Int32)), .val (.ref m8), .val (.int (0 : Int32))] [(.ref m8)])) (fun t k => ?_) ?_
    · show Steps p.tables e below (T82.setTop (mkF m 160 #[.val (.int p0), .val (.ref a3), .val (.int (8 : Int32)), .val (.ref m8), .unset] [])) t
      refine XS.iconst Y83.here hx rfl (hb hby at_160) ?_
      show Steps p.tables e below (T82.setTop (mkF m 161 #[.val (.int p0), .val (.ref a3), .val (.int (8 : Int32)), .val (.ref m8), .unset] [(.int (0 : Int32))])) t
      refine XS.istore Y83.here hx rfl (hb hby at_161) rfl (l' := #[.val (.int p0), .val (.ref a3), .val (.int (8 : Int32)), .val (.ref m8), .val (.int (0 : Int32))]) rfl ?_
      show Steps p.tables e below (T82.setTop (mkF m 163 #[.val (.int p0), .val (.ref a3), .val (.int (8 : Int32)), .val (.ref m8), .val (.int (0 : Int32))] [])) t
      refine XS.aloadN Y83.here hx rfl (hb hby at_163) rfl rfl ?_
      show Steps p.tables e below (T82.setTop (mkF m 164 #[.val (.int p0), .val (.ref a3), .val (.int (8 : Int32)), .val (.ref m8), .val (.int (0 : Int32))] [(.ref m8)])) t
      exact k
    refine On.virtualE Y83 hx hZ (y := (⟨"com/example/vistrace/vistrace/checker/Model", "needsTimes", "()Z"⟩ : MethodName)) (C := "com/example/vistrace/vistrace/checker/Model") hown (w45 hw) (w46 hw) (w47 hw) (w48 hw) (w49 hw) (w3 hw) (by decide) (a := m8) (argsL := []) (rest := []) (E8.ext (On.old Y83)) (rmD l Z a0 hw n0 m8 m0 [ar a3 (.object "com/example/vistrace/vistrace/checker/Model") (20 : Int32) [(.ref m0), (.ref m1), (.ref m2), (.ref m3), (.ref m4), (.ref m5), (.ref m6), (.ref m7), (.ref m8), (.ref m9), (.ref m10), (.ref m11), (.ref m12), (.ref m13), (.ref m14), (.ref m15), (.ref m16), (.ref m17), (.ref m18), (.ref m19)]] S0 N8) (W := 0) (by decide) (by decide) (by decide) (by decide) (g := (mkF m 164 #[.val (.int p0), .val (.ref a3), .val (.int (8 : Int32)), .val (.ref m8), .val (.int (0 : Int32))] [(.ref m8)])) rfl (by rw [hml]; rfl) (lenOf pd0 rfl) rfl (by show 2 * 0 + _ ≤ _; exact Nat.le_of_eq rfl) (hb hby at_164) ?_
    intro T124 u126 D127 hp128 Y125
    obtain ⟨rfl, rfl⟩ := hp128
    replace Y125 : On p l e _ s m _ below meth c Z n0 T124 1 20 [ar a3 (.object "com/example/vistrace/vistrace/checker/Model") (20 : Int32) [(.ref m0), (.ref m1), (.ref m2), (.ref m3), (.ref m4), (.ref m5), (.ref m6), (.ref m7), (.ref m8), (.ref m9), (.ref m10), (.ref m11), (.ref m12), (.ref m13), (.ref m14), (.ref m15), (.ref m16), (.ref m17), (.ref m18), (.ref m19)]] := Y125
    show Rn p e below F T124 (mkF m 167 #[.val (.int p0), .val (.ref a3), .val (.int (8 : Int32)), .val (.ref m8), .val (.int (0 : Int32))] [(.int (0 : Int32))])
    refine Rn.go (T' := T124) (g' := (mkF m 169 #[.val (.int p0), .val (.ref a3), .val (.int (8 : Int32)), .val (.ref m8), .val (.int (0 : Int32))] [(.int (0 : Int32)), (.int (0 : Int32))])) (fun t k => ?_) ?_
    · show Steps p.tables e below (T124.setTop (mkF m 167 #[.val (.int p0), .val (.ref a3), .val (.int (8 : Int32)), .val (.ref m8), .val (.int (0 : Int32))] [(.int (0 : Int32))])) t
      refine XS.iload Y125.here hx rfl (hb hby at_167) rfl ?_
      show Steps p.tables e below (T124.setTop (mkF m 169 #[.val (.int p0), .val (.ref a3), .val (.int (8 : Int32)), .val (.ref m8), .val (.int (0 : Int32))] [(.int (0 : Int32)), (.int (0 : Int32))])) t
      exact k
    refine Rn.go (T' := T124) (g' := (mkF m 172 #[.val (.int p0), .val (.ref a3), .val (.int (8 : Int32)), .val (.ref m8), .val (.int (0 : Int32))] [])) (fun t k => XS.icmpNo Y125.here hx rfl (hb hby at_169) rfl (teq (by decide)).2 k) ?_
    refine Rn.go (T' := T124) (g' := (mkF m 177 #[.val (.int p0), .val (.ref a3), .val (.int (8 : Int32)), .val (.ref m8), .val (.int (0 : Int32))] [(.int (1 : Int32))])) (fun t k => ?_) ?_
    · show Steps p.tables e below (T124.setTop (mkF m 172 #[.val (.int p0), .val (.ref a3), .val (.int (8 : Int32)), .val (.ref m8), .val (.int (0 : Int32))] [])) t
      refine XS.iconst Y125.here hx rfl (hb hby at_172) ?_
      show Steps p.tables e below (T124.setTop (mkF m 173 #[.val (.int p0), .val (.ref a3), .val (.int (8 : Int32)), .val (.ref m8), .val (.int (0 : Int32))] [(.int (1 : Int32))])) t
      refine XS.goto Y125.here hx rfl (pc0 := 173) (pc' := 177) rfl (hb hby at_173) (by decide) (by decide) ?_
      show Steps p.tables e below (T124.setTop (mkF m 177 #[.val (.int p0), .val (.ref a3), .val (.int (8 : Int32)), .val (.ref m8), .val (.int (0 : Int32))] [(.int (1 : Int32))])) t
      exact k
    rw [← hF]; exact On.retn Y125 hx hret (by simp) hlk (z' := (1 : Int32)) (by decide) (hb hby at_177) (by decide) (by decide) rfl
  · subst eo
    show Rn p e below F T82 (mkF m 148 #[.val (.int p0), .val (.ref a3), .val (.int (9 : Int32)), .unset, .unset] [])
    refine Rn.go (T' := T82) (g' := (mkF m 150 #[.val (.int p0), .val (.ref a3), .val (.int (9 : Int32)), .unset, .unset] [(.int (9 : Int32)), (.ref a3)])) (fun t k => ?_) ?_
    · show Steps p.tables e below (T82.setTop (mkF m 148 #[.val (.int p0), .val (.ref a3), .val (.int (9 : Int32)), .unset, .unset] [])) t
      refine XS.aloadN Y83.here hx rfl (hb hby at_148) rfl rfl ?_
      show Steps p.tables e below (T82.setTop (mkF m 149 #[.val (.int p0), .val (.ref a3), .val (.int (9 : Int32)), .unset, .unset] [(.ref a3)])) t
      refine XS.iloadN Y83.here hx rfl (hb hby at_149) rfl ?_
      show Steps p.tables e below (T82.setTop (mkF m 150 #[.val (.int p0), .val (.ref a3), .val (.int (9 : Int32)), .unset, .unset] [(.int (9 : Int32)), (.ref a3)])) t
      exact k
    refine On.rld Y83 hx hZ (i := 0) rfl (k := (9 : Int32)) (v := (.ref m9)) (by decide) rfl (g := (mkF m 150 #[.val (.int p0), .val (.ref a3), .val (.int (9 : Int32)), .unset, .unset] [(.int (9 : Int32)), (.ref a3)])) rfl rfl (hb hby at_150) ?_
    show Rn p e below F T82 (mkF m 151 #[.val (.int p0), .val (.ref a3), .val (.int (9 : Int32)), .unset, .unset] [(.ref m9)])
    refine Rn.go (T' := T82) (g' := (mkF m 153 #[.val (.int p0), .val (.ref a3), .val (.int (9 : Int32)), .val (.ref m9), .unset] [(.int (9 : Int32))])) (fun t k => ?_) ?_
    · show Steps p.tables e below (T82.setTop (mkF m 151 #[.val (.int p0), .val (.ref a3), .val (.int (9 : Int32)), .unset, .unset] [(.ref m9)])) t
      refine XS.astoreN Y83.here hx rfl (hb hby at_151) rfl rfl (l' := #[.val (.int p0), .val (.ref a3), .val (.int (9 : Int32)), .val (.ref m9), .unset]) rfl ?_
      show Steps p.tables e below (T82.setTop (mkF m 152 #[.val (.int p0), .val (.ref a3), .val (.int (9 : Int32)), .val (.ref m9), .unset] [])) t
      refine XS.iloadN Y83.here hx rfl (hb hby at_152) rfl ?_
      show Steps p.tables e below (T82.setTop (mkF m 153 #[.val (.int p0), .val (.ref a3), .val (.int (9 : Int32)), .val (.ref m9), .unset] [(.int (9 : Int32))])) t
      exact k
    refine Rn.go (T' := T82) (g' := (mkF m 160 #[.val (.int p0), .val (.ref a3), .val (.int (9 : Int32)), .val (.ref m9), .unset] [])) (fun t k => XS.ifYes Y83.here hx rfl (pc0 := 153) (pc' := 160) rfl (hb hby at_153) rfl ((if0 _ _).trans (feq (by decide)).2) (by decide) (by decide) k) ?_
    refine Rn.go (T' := T82) (g' := (mkF m 164 #[.val (.int p0), .val (.ref a3), .val (.int (9 : Int32)), .val (.ref m9), .val (.int (0 : Int32))] [(.ref m9)])) (fun t k => ?_) ?_
    · show Steps p.tables e below (T82.setTop (mkF m 160 #[.val (.int p0), .val (.ref a3), .val (.int (9 : Int32)), .val (.ref m9), .unset] [])) t
      refine XS.iconst Y83.here hx rfl (hb hby at_160) ?_
      show Steps p.tables e below (T82.setTop (mkF m 161 #[.val (.int p0), .val (.ref a3), .val (.int (9 : Int32)), .val (.ref m9), .unset] [(.int (0 : Int32))])) t
      refine XS.istore Y83.here hx rfl (hb hby at_161) rfl (l' := #[.val (.int p0), .val (.ref a3), .val (.int (9 : Int32)), .val (.ref m9), .val (.int (0 : Int32))]) rfl ?_
      show Steps p.tables e below (T82.setTop (mkF m 163 #[.val (.int p0), .val (.ref a3), .val (.int (9 : Int32)), .val (.ref m9), .val (.int (0 : Int32))] [])) t
      refine XS.aloadN Y83.here hx rfl (hb hby at_163) rfl rfl ?_
      show Steps p.tables e below (T82.setTop (mkF m 164 #[.val (.int p0), .val (.ref a3), .val (.int (9 : Int32)), .val (.ref m9), .val (.int (0 : Int32))] [(.ref m9)])) t
      exact k
    refine On.virtualE Y83 hx hZ (y := (⟨"com/example/vistrace/vistrace/checker/Model", "needsTimes", "()Z"⟩ : MethodName)) (C := "com/example/vistrace/vistrace/checker/Model") hown (w45 hw) (w46 hw) (w47 hw) (w48 hw) (w49 hw) (w3 hw) (by decide) (a := m9) (argsL := []) (rest := []) (E9.ext (On.old Y83)) (rmD l Z a0 hw n0 m9 m0 [ar a3 (.object "com/example/vistrace/vistrace/checker/Model") (20 : Int32) [(.ref m0), (.ref m1), (.ref m2), (.ref m3), (.ref m4), (.ref m5), (.ref m6), (.ref m7), (.ref m8), (.ref m9), (.ref m10), (.ref m11), (.ref m12), (.ref m13), (.ref m14), (.ref m15), (.ref m16), (.ref m17), (.ref m18), (.ref m19)]] S0 N9) (W := 0) (by decide) (by decide) (by decide) (by decide) (g := (mkF m 164 #[.val (.int p0), .val (.ref a3), .val (.int (9 : Int32)), .val (.ref m9), .val (.int (0 : Int32))] [(.ref m9)])) rfl (by rw [hml]; rfl) (lenOf pd0 rfl) rfl (by show 2 * 0 + _ ≤ _; exact Nat.le_of_eq rfl) (hb hby at_164) ?_
    intro T129 u131 D132 hp133 Y130
    obtain ⟨rfl, rfl⟩ := hp133
    replace Y130 : On p l e _ s m _ below meth c Z n0 T129 1 20 [ar a3 (.object "com/example/vistrace/vistrace/checker/Model") (20 : Int32) [(.ref m0), (.ref m1), (.ref m2), (.ref m3), (.ref m4), (.ref m5), (.ref m6), (.ref m7), (.ref m8), (.ref m9), (.ref m10), (.ref m11), (.ref m12), (.ref m13), (.ref m14), (.ref m15), (.ref m16), (.ref m17), (.ref m18), (.ref m19)]] := Y130
    show Rn p e below F T129 (mkF m 167 #[.val (.int p0), .val (.ref a3), .val (.int (9 : Int32)), .val (.ref m9), .val (.int (0 : Int32))] [(.int (0 : Int32))])
    refine Rn.go (T' := T129) (g' := (mkF m 169 #[.val (.int p0), .val (.ref a3), .val (.int (9 : Int32)), .val (.ref m9), .val (.int (0 : Int32))] [(.int (0 : Int32)), (.int (0 : Int32))])) (fun t k => ?_) ?_
    · show Steps p.tables e below (T129.setTop (mkF m 167 #[.val (.int p0), .val (.ref a3), .val (.int (9 : Int32)), .val (.ref m9), .val (.int (0 : Int32))] [(.int (0 : Int32))])) t
      refine XS.iload Y130.here hx rfl (hb hby at_167) rfl ?_
      show Steps p.tables e below (T129.setTop (mkF m 169 #[.val (.int p0), .val (.ref a3), .val (.int (9 : Int32)), .val (.ref m9), .val (.int (0 : Int32))] [(.int (0 : Int32)), (.int (0 : Int32))])) t
      exact k
    refine Rn.go (T' := T129) (g' := (mkF m 172 #[.val (.int p0), .val (.ref a3), .val (.int (9 : Int32)), .val (.ref m9), .val (.int (0 : Int32))] [])) (fun t k => XS.icmpNo Y130.here hx rfl (hb hby at_169) rfl (teq (by decide)).2 k) ?_
    refine Rn.go (T' := T129) (g' := (mkF m 177 #[.val (.int p0), .val (.ref a3), .val (.int (9 : Int32)), .val (.ref m9), .val (.int (0 : Int32))] [(.int (1 : Int32))])) (fun t k => ?_) ?_
    · show Steps p.tables e below (T129.setTop (mkF m 172 #[.val (.int p0), .val (.ref a3), .val (.int (9 : Int32)), .val (.ref m9), .val (.int (0 : Int32))] [])) t
      refine XS.iconst Y130.here hx rfl (hb hby at_172) ?_
      show Steps p.tables e below (T129.setTop (mkF m 173 #[.val (.int p0), .val (.ref a3), .val (.int (9 : Int32)), .val (.ref m9), .val (.int (0 : Int32))] [(.int (1 : Int32))])) t
      refine XS.goto Y130.here hx rfl (pc0 := 173) (pc' := 177) rfl (hb hby at_173) (by decide) (by decide) ?_
      show Steps p.tables e below (T129.setTop (mkF m 177 #[.val (.int p0), .val (.ref a3), .val (.int (9 : Int32)), .val (.ref m9), .val (.int (0 : Int32))] [(.int (1 : Int32))])) t
      exact k
    rw [← hF]; exact On.retn Y130 hx hret (by simp) hlk (z' := (1 : Int32)) (by decide) (hb hby at_177) (by decide) (by decide) rfl
  · subst eo
    show Rn p e below F T82 (mkF m 148 #[.val (.int p0), .val (.ref a3), .val (.int (10 : Int32)), .unset, .unset] [])
    refine Rn.go (T' := T82) (g' := (mkF m 150 #[.val (.int p0), .val (.ref a3), .val (.int (10 : Int32)), .unset, .unset] [(.int (10 : Int32)), (.ref a3)])) (fun t k => ?_) ?_
    · show Steps p.tables e below (T82.setTop (mkF m 148 #[.val (.int p0), .val (.ref a3), .val (.int (10 : Int32)), .unset, .unset] [])) t
      refine XS.aloadN Y83.here hx rfl (hb hby at_148) rfl rfl ?_
      show Steps p.tables e below (T82.setTop (mkF m 149 #[.val (.int p0), .val (.ref a3), .val (.int (10 : Int32)), .unset, .unset] [(.ref a3)])) t
      refine XS.iloadN Y83.here hx rfl (hb hby at_149) rfl ?_
      show Steps p.tables e below (T82.setTop (mkF m 150 #[.val (.int p0), .val (.ref a3), .val (.int (10 : Int32)), .unset, .unset] [(.int (10 : Int32)), (.ref a3)])) t
      exact k
    refine On.rld Y83 hx hZ (i := 0) rfl (k := (10 : Int32)) (v := (.ref m10)) (by decide) rfl (g := (mkF m 150 #[.val (.int p0), .val (.ref a3), .val (.int (10 : Int32)), .unset, .unset] [(.int (10 : Int32)), (.ref a3)])) rfl rfl (hb hby at_150) ?_
    show Rn p e below F T82 (mkF m 151 #[.val (.int p0), .val (.ref a3), .val (.int (10 : Int32)), .unset, .unset] [(.ref m10)])
    refine Rn.go (T' := T82) (g' := (mkF m 153 #[.val (.int p0), .val (.ref a3), .val (.int (10 : Int32)), .val (.ref m10), .unset] [(.int (10 : Int32))])) (fun t k => ?_) ?_
    · show Steps p.tables e below (T82.setTop (mkF m 151 #[.val (.int p0), .val (.ref a3), .val (.int (10 : Int32)), .unset, .unset] [(.ref m10)])) t
      refine XS.astoreN Y83.here hx rfl (hb hby at_151) rfl rfl (l' := #[.val (.int p0), .val (.ref a3), .val (.int (10 : Int32)), .val (.ref m10), .unset]) rfl ?_
      show Steps p.tables e below (T82.setTop (mkF m 152 #[.val (.int p0), .val (.ref a3), .val (.int (10 : Int32)), .val (.ref m10), .unset] [])) t
      refine XS.iloadN Y83.here hx rfl (hb hby at_152) rfl ?_
      show Steps p.tables e below (T82.setTop (mkF m 153 #[.val (.int p0), .val (.ref a3), .val (.int (10 : Int32)), .val (.ref m10), .unset] [(.int (10 : Int32))])) t
      exact k
    refine Rn.go (T' := T82) (g' := (mkF m 160 #[.val (.int p0), .val (.ref a3), .val (.int (10 : Int32)), .val (.ref m10), .unset] [])) (fun t k => XS.ifYes Y83.here hx rfl (pc0 := 153) (pc' := 160) rfl (hb hby at_153) rfl ((if0 _ _).trans (feq (by decide)).2) (by decide) (by decide) k) ?_
    refine Rn.go (T' := T82) (g' := (mkF m 164 #[.val (.int p0), .val (.ref a3), .val (.int (10 : Int32)), .val (.ref m10), .val (.int (0 : Int32))] [(.ref m10)])) (fun t k => ?_) ?_
    · show Steps p.tables e below (T82.setTop (mkF m 160 #[.val (.int p0), .val (.ref a3), .val (.int (10 : Int32)), .val (.ref m10), .unset] [])) t
      refine XS.iconst Y83.here hx rfl (hb hby at_160) ?_
      show Steps p.tables e below (T82.setTop (mkF m 161 #[.val (.int p0), .val (.ref a3), .val (.int (10 : Int32)), .val (.ref m10), .unset] [(.int (0 : Int32))])) t
      refine XS.istore Y83.here hx rfl (hb hby at_161) rfl (l' := #[.val (.int p0), .val (.ref a3), .val (.int (10 : Int32)), .val (.ref m10), .val (.int (0 : Int32))]) rfl ?_
      show Steps p.tables e below (T82.setTop (mkF m 163 #[.val (.int p0), .val (.ref a3), .val (.int (10 : Int32)), .val (.ref m10), .val (.int (0 : Int32))] [])) t
      refine XS.aloadN Y83.here hx rfl (hb hby at_163) rfl rfl ?_
      show Steps p.tables e below (T82.setTop (mkF m 164 #[.val (.int p0), .val (.ref a3), .val (.int (10 : Int32)), .val (.ref m10), .val (.int (0 : Int32))] [(.ref m10)])) t
      exact k
    refine On.virtualE Y83 hx hZ (y := (⟨"com/example/vistrace/vistrace/checker/Model", "needsTimes", "()Z"⟩ : MethodName)) (C := "com/example/vistrace/vistrace/checker/Model") hown (w45 hw) (w46 hw) (w47 hw) (w48 hw) (w49 hw) (w3 hw) (by decide) (a := m10) (argsL := []) (rest := []) (E10.ext (On.old Y83)) (rmD l Z a0 hw n0 m10 m0 [ar a3 (.object "com/example/vistrace/vistrace/checker/Model") (20 : Int32) [(.ref m0), (.ref m1), (.ref m2), (.ref m3), (.ref m4), (.ref m5), (.ref m6), (.ref m7), (.ref m8), (.ref m9), (.ref m10), (.ref m11), (.ref m12), (.ref m13), (.ref m14), (.ref m15), (.ref m16), (.ref m17), (.ref m18), (.ref m19)]] S0 N10) (W := 0) (by decide) (by decide) (by decide) (by decide) (g := (mkF m 164 #[.val (.int p0), .val (.ref a3), .val (.int (10 : Int32)), .val (.ref m10), .val (.int (0 : Int32))] [(.ref m10)])) rfl (by rw [hml]; rfl) (lenOf pd0 rfl) rfl (by show 2 * 0 + _ ≤ _; exact Nat.le_of_eq rfl) (hb hby at_164) ?_
    intro T134 u136 D137 hp138 Y135
    obtain ⟨rfl, rfl⟩ := hp138
    replace Y135 : On p l e _ s m _ below meth c Z n0 T134 1 20 [ar a3 (.object "com/example/vistrace/vistrace/checker/Model") (20 : Int32) [(.ref m0), (.ref m1), (.ref m2), (.ref m3), (.ref m4), (.ref m5), (.ref m6), (.ref m7), (.ref m8), (.ref m9), (.ref m10), (.ref m11), (.ref m12), (.ref m13), (.ref m14), (.ref m15), (.ref m16), (.ref m17), (.ref m18), (.ref m19)]] := Y135
    show Rn p e below F T134 (mkF m 167 #[.val (.int p0), .val (.ref a3), .val (.int (10 : Int32)), .val (.ref m10), .val (.int (0 : Int32))] [(.int (0 : Int32))])
    refine Rn.go (T' := T134) (g' := (mkF m 169 #[.val (.int p0), .val (.ref a3), .val (.int (10 : Int32)), .val (.ref m10), .val (.int (0 : Int32))] [(.int (0 : Int32)), (.int (0 : Int32))])) (fun t k => ?_) ?_
    · show Steps p.tables e below (T134.setTop (mkF m 167 #[.val (.int p0), .val (.ref a3), .val (.int (10 : Int32)), .val (.ref m10), .val (.int (0 : Int32))] [(.int (0 : Int32))])) t
      refine XS.iload Y135.here hx rfl (hb hby at_167) rfl ?_
      show Steps p.tables e below (T134.setTop (mkF m 169 #[.val (.int p0), .val (.ref a3), .val (.int (10 : Int32)), .val (.ref m10), .val (.int (0 : Int32))] [(.int (0 : Int32)), (.int (0 : Int32))])) t
      exact k
    refine Rn.go (T' := T134) (g' := (mkF m 172 #[.val (.int p0), .val (.ref a3), .val (.int (10 : Int32)), .val (.ref m10), .val (.int (0 : Int32))] [])) (fun t k => XS.icmpNo Y135.here hx rfl (hb hby at_169) rfl (teq (by decide)).2 k) ?_
    refine Rn.go (T' := T134) (g' := (mkF m 177 #[.val (.int p0), .val (.ref a3), .val (.int (10 : Int32)), .val (.ref m10), .val (.int (0 : Int32))] [(.int (1 : Int32))])) (fun t k => ?_) ?_
    · show Steps p.tables e below (T134.setTop (mkF m 172 #[.val (.int p0), .val (.ref a3), .val (.int (10 : Int32)), .val (.ref m10), .val (.int (0 : Int32))] [])) t
      refine XS.iconst Y135.here hx rfl (hb hby at_172) ?_
      show Steps p.tables e below (T134.setTop (mkF m 173 #[.val (.int p0), .val (.ref a3), .val (.int (10 : Int32)), .val (.ref m10), .val (.int (0 : Int32))] [(.int (1 : Int32))])) t
      refine XS.goto Y135.here hx rfl (pc0 := 173) (pc' := 177) rfl (hb hby at_173) (by decide) (by decide) ?_
      show Steps p.tables e below (T134.setTop (mkF m 177 #[.val (.int p0), .val (.ref a3), .val (.int (10 : Int32)), .val (.ref m10), .val (.int (0 : Int32))] [(.int (1 : Int32))])) t
      exact k
    rw [← hF]; exact On.retn Y135 hx hret (by simp) hlk (z' := (1 : Int32)) (by decide) (hb hby at_177) (by decide) (by decide) rfl
  · subst eo
    show Rn p e below F T82 (mkF m 148 #[.val (.int p0), .val (.ref a3), .val (.int (11 : Int32)), .unset, .unset] [])
    refine Rn.go (T' := T82) (g' := (mkF m 150 #[.val (.int p0), .val (.ref a3), .val (.int (11 : Int32)), .unset, .unset] [(.int (11 : Int32)), (.ref a3)])) (fun t k => ?_) ?_
    · show Steps p.tables e below (T82.setTop (mkF m 148 #[.val (.int p0), .val (.ref a3), .val (.int (11 : Int32)), .unset, .unset] [])) t
      refine XS.aloadN Y83.here hx rfl (hb hby at_148) rfl rfl ?_
      show Steps p.tables e below (T82.setTop (mkF m 149 #[.val (.int p0), .val (.ref a3), .val (.int (11 : Int32)), .unset, .unset] [(.ref a3)])) t
      refine XS.iloadN Y83.here hx rfl (hb hby at_149) rfl ?_
      show Steps p.tables e below (T82.setTop (mkF m 150 #[.val (.int p0), .val (.ref a3), .val (.int (11 : Int32)), .unset, .unset] [(.int (11 : Int32)), (.ref a3)])) t
      exact k
    refine On.rld Y83 hx hZ (i := 0) rfl (k := (11 : Int32)) (v := (.ref m11)) (by decide) rfl (g := (mkF m 150 #[.val (.int p0), .val (.ref a3), .val (.int (11 : Int32)), .unset, .unset] [(.int (11 : Int32)), (.ref a3)])) rfl rfl (hb hby at_150) ?_
    show Rn p e below F T82 (mkF m 151 #[.val (.int p0), .val (.ref a3), .val (.int (11 : Int32)), .unset, .unset] [(.ref m11)])
    refine Rn.go (T' := T82) (g' := (mkF m 153 #[.val (.int p0), .val (.ref a3), .val (.int (11 : Int32)), .val (.ref m11), .unset] [(.int (11 : Int32))])) (fun t k => ?_) ?_
    · show Steps p.tables e below (T82.setTop (mkF m 151 #[.val (.int p0), .val (.ref a3), .val (.int (11 : Int32)), .unset, .unset] [(.ref m11)])) t
      refine XS.astoreN Y83.here hx rfl (hb hby at_151) rfl rfl (l' := #[.val (.int p0), .val (.ref a3), .val (.int (11 : Int32)), .val (.ref m11), .unset]) rfl ?_
      show Steps p.tables e below (T82.setTop (mkF m 152 #[.val (.int p0), .val (.ref a3), .val (.int (11 : Int32)), .val (.ref m11), .unset] [])) t
      refine XS.iloadN Y83.here hx rfl (hb hby at_152) rfl ?_
      show Steps p.tables e below (T82.setTop (mkF m 153 #[.val (.int p0), .val (.ref a3), .val (.int (11 : Int32)), .val (.ref m11), .unset] [(.int (11 : Int32))])) t
      exact k
    refine Rn.go (T' := T82) (g' := (mkF m 160 #[.val (.int p0), .val (.ref a3), .val (.int (11 : Int32)), .val (.ref m11), .unset] [])) (fun t k => XS.ifYes Y83.here hx rfl (pc0 := 153) (pc' := 160) rfl (hb hby at_153) rfl ((if0 _ _).trans (feq (by decide)).2) (by decide) (by decide) k) ?_
    refine Rn.go (T' := T82) (g' := (mkF m 164 #[.val (.int p0), .val (.ref a3), .val (.int (11 : Int32)), .val (.ref m11), .val (.int (0 : Int32))] [(.ref m11)])) (fun t k => ?_) ?_
    · show Steps p.tables e below (T82.setTop (mkF m 160 #[.val (.int p0), .val (.ref a3), .val (.int (11 : Int32)), .val (.ref m11), .unset] [])) t
      refine XS.iconst Y83.here hx rfl (hb hby at_160) ?_
      show Steps p.tables e below (T82.setTop (mkF m 161 #[.val (.int p0), .val (.ref a3), .val (.int (11 : Int32)), .val (.ref m11), .unset] [(.int (0 : Int32))])) t
      refine XS.istore Y83.here hx rfl (hb hby at_161) rfl (l' := #[.val (.int p0), .val (.ref a3), .val (.int (11 : Int32)), .val (.ref m11), .val (.int (0 : Int32))]) rfl ?_
      show Steps p.tables e below (T82.setTop (mkF m 163 #[.val (.int p0), .val (.ref a3), .val (.int (11 : Int32)), .val (.ref m11), .val (.int (0 : Int32))] [])) t
      refine XS.aloadN Y83.here hx rfl (hb hby at_163) rfl rfl ?_
      show Steps p.tables e below (T82.setTop (mkF m 164 #[.val (.int p0), .val (.ref a3), .val (.int (11 : Int32)), .val (.ref m11), .val (.int (0 : Int32))] [(.ref m11)])) t
      exact k
    refine On.virtualE Y83 hx hZ (y := (⟨"com/example/vistrace/vistrace/checker/Model", "needsTimes", "()Z"⟩ : MethodName)) (C := "com/example/vistrace/vistrace/checker/Model") hown (w45 hw) (w46 hw) (w47 hw) (w48 hw) (w49 hw) (w3 hw) (by decide) (a := m11) (argsL := []) (rest := []) (E11.ext (On.old Y83)) (rmD l Z a0 hw n0 m11 m0 [ar a3 (.object "com/example/vistrace/vistrace/checker/Model") (20 : Int32) [(.ref m0), (.ref m1), (.ref m2), (.ref m3), (.ref m4), (.ref m5), (.ref m6), (.ref m7), (.ref m8), (.ref m9), (.ref m10), (.ref m11), (.ref m12), (.ref m13), (.ref m14), (.ref m15), (.ref m16), (.ref m17), (.ref m18), (.ref m19)]] S0 N11) (W := 0) (by decide) (by decide) (by decide) (by decide) (g := (mkF m 164 #[.val (.int p0), .val (.ref a3), .val (.int (11 : Int32)), .val (.ref m11), .val (.int (0 : Int32))] [(.ref m11)])) rfl (by rw [hml]; rfl) (lenOf pd0 rfl) rfl (by show 2 * 0 + _ ≤ _; exact Nat.le_of_eq rfl) (hb hby at_164) ?_
    intro T139 u141 D142 hp143 Y140
    obtain ⟨rfl, rfl⟩ := hp143
    replace Y140 : On p l e _ s m _ below meth c Z n0 T139 1 20 [ar a3 (.object "com/example/vistrace/vistrace/checker/Model") (20 : Int32) [(.ref m0), (.ref m1), (.ref m2), (.ref m3), (.ref m4), (.ref m5), (.ref m6), (.ref m7), (.ref m8), (.ref m9), (.ref m10), (.ref m11), (.ref m12), (.ref m13), (.ref m14), (.ref m15), (.ref m16), (.ref m17), (.ref m18), (.ref m19)]] := Y140
    show Rn p e below F T139 (mkF m 167 #[.val (.int p0), .val (.ref a3), .val (.int (11 : Int32)), .val (.ref m11), .val (.int (0 : Int32))] [(.int (0 : Int32))])
    refine Rn.go (T' := T139) (g' := (mkF m 169 #[.val (.int p0), .val (.ref a3), .val (.int (11 : Int32)), .val (.ref m11), .val (.int (0 : Int32))] [(.int (0 : Int32)), (.int (0 : Int32))])) (fun t k => ?_) ?_
    · show Steps p.tables e below (T139.setTop (mkF m 167 #[.val (.int p0), .val (.ref a3), .val (.int (11 : Int32)), .val (.ref m11), .val (.int (0 : Int32))] [(.int (0 : Int32))])) t
      refine XS.iload Y140.here hx rfl (hb hby at_167) rfl ?_
      show Steps p.tables e below (T139.setTop (mkF m 169 #[.val (.int p0), .val (.ref a3), .val (.int (11 : Int32)), .val (.ref m11), .val (.int (0 : Int32))] [(.int (0 : Int32)), (.int (0 : Int32))])) t
      exact k
    refine Rn.go (T' := T139) (g' := (mkF m 172 #[.val (.int p0), .val (.ref a3), .val (.int (11 : Int32)), .val (.ref m11), .val (.int (0 : Int32))] [])) (fun t k => XS.icmpNo Y140.here hx rfl (hb hby at_169) rfl (teq (by decide)).2 k) ?_
    refine Rn.go (T' := T139) (g' := (mkF m 177 #[.val (.int p0), .val (.ref a3), .val (.int (11 : Int32)), .val (.ref m11), .val (.int (0 : Int32))] [(.int (1 : Int32))])) (fun t k => ?_) ?_
    · show Steps p.tables e below (T139.setTop (mkF m 172 #[.val (.int p0), .val (.ref a3), .val (.int (11 : Int32)), .val (.ref m11), .val (.int (0 : Int32))] [])) t
      refine XS.iconst Y140.here hx rfl (hb hby at_172) ?_
      show Steps p.tables e below (T139.setTop (mkF m 173 #[.val (.int p0), .val (.ref a3), .val (.int (11 : Int32)), .val (.ref m11), .val (.int (0 : Int32))] [(.int (1 : Int32))])) t
      refine XS.goto Y140.here hx rfl (pc0 := 173) (pc' := 177) rfl (hb hby at_173) (by decide) (by decide) ?_
      show Steps p.tables e below (T139.setTop (mkF m 177 #[.val (.int p0), .val (.ref a3), .val (.int (11 : Int32)), .val (.ref m11), .val (.int (0 : Int32))] [(.int (1 : Int32))])) t
      exact k
    rw [← hF]; exact On.retn Y140 hx hret (by simp) hlk (z' := (1 : Int32)) (by decide) (hb hby at_177) (by decide) (by decide) rfl
  · subst eo
    show Rn p e below F T82 (mkF m 148 #[.val (.int p0), .val (.ref a3), .val (.int (12 : Int32)), .unset, .unset] [])
    refine Rn.go (T' := T82) (g' := (mkF m 150 #[.val (.int p0), .val (.ref a3), .val (.int (12 : Int32)), .unset, .unset] [(.int (12 : Int32)), (.ref a3)])) (fun t k => ?_) ?_
    · show Steps p.tables e below (T82.setTop (mkF m 148 #[.val (.int p0), .val (.ref a3), .val (.int (12 : Int32)), .unset, .unset] [])) t
      refine XS.aloadN Y83.here hx rfl (hb hby at_148) rfl rfl ?_
      show Steps p.tables e below (T82.setTop (mkF m 149 #[.val (.int p0), .val (.ref a3), .val (.int (12 : Int32)), .unset, .unset] [(.ref a3)])) t
      refine XS.iloadN Y83.here hx rfl (hb hby at_149) rfl ?_
      show Steps p.tables e below (T82.setTop (mkF m 150 #[.val (.int p0), .val (.ref a3), .val (.int (12 : Int32)), .unset, .unset] [(.int (12 : Int32)), (.ref a3)])) t
      exact k
    refine On.rld Y83 hx hZ (i := 0) rfl (k := (12 : Int32)) (v := (.ref m12)) (by decide) rfl (g := (mkF m 150 #[.val (.int p0), .val (.ref a3), .val (.int (12 : Int32)), .unset, .unset] [(.int (12 : Int32)), (.ref a3)])) rfl rfl (hb hby at_150) ?_
    show Rn p e below F T82 (mkF m 151 #[.val (.int p0), .val (.ref a3), .val (.int (12 : Int32)), .unset, .unset] [(.ref m12)])
    refine Rn.go (T' := T82) (g' := (mkF m 153 #[.val (.int p0), .val (.ref a3), .val (.int (12 : Int32)), .val (.ref m12), .unset] [(.int (12 : Int32))])) (fun t k => ?_) ?_
    · show Steps p.tables e below (T82.setTop (mkF m 151 #[.val (.int p0), .val (.ref a3), .val (.int (12 : Int32)), .unset, .unset] [(.ref m12)])) t
      refine XS.astoreN Y83.here hx rfl (hb hby at_151) rfl rfl (l' := #[.val (.int p0), .val (.ref a3), .val (.int (12 : Int32)), .val (.ref m12), .unset]) rfl ?_
      show Steps p.tables e below (T82.setTop (mkF m 152 #[.val (.int p0), .val (.ref a3), .val (.int (12 : Int32)), .val (.ref m12), .unset] [])) t
      refine XS.iloadN Y83.here hx rfl (hb hby at_152) rfl ?_
      show Steps p.tables e below (T82.setTop (mkF m 153 #[.val (.int p0), .val (.ref a3), .val (.int (12 : Int32)), .val (.ref m12), .unset] [(.int (12 : Int32))])) t
      exact k
    refine Rn.go (T' := T82) (g' := (mkF m 160 #[.val (.int p0), .val (.ref a3), .val (.int (12 : Int32)), .val (.ref m12), .unset] [])) (fun t k => XS.ifYes Y83.here hx rfl (pc0 := 153) (pc' := 160) rfl (hb hby at_153) rfl ((if0 _ _).trans (feq (by decide)).2) (by decide) (by decide) k) ?_
    refine Rn.go (T' := T82) (g' := (mkF m 164 #[.val (.int p0), .val (.ref a3), .val (.int (12 : Int32)), .val (.ref m12), .val (.int (0 : Int32))] [(.ref m12)])) (fun t k => ?_) ?_
    · show Steps p.tables e below (T82.setTop (mkF m 160 #[.val (.int p0), .val (.ref a3), .val (.int (12 : Int32)), .val (.ref m12), .unset] [])) t
      refine XS.iconst Y83.here hx rfl (hb hby at_160) ?_
      show Steps p.tables e below (T82.setTop (mkF m 161 #[.val (.int p0), .val (.ref a3), .val (.int (12 : Int32)), .val (.ref m12), .unset] [(.int (0 : Int32))])) t
      refine XS.istore Y83.here hx rfl (hb hby at_161) rfl (l' := #[.val (.int p0), .val (.ref a3), .val (.int (12 : Int32)), .val (.ref m12), .val (.int (0 : Int32))]) rfl ?_
      show Steps p.tables e below (T82.setTop (mkF m 163 #[.val (.int p0), .val (.ref a3), .val (.int (12 : Int32)), .val (.ref m12), .val (.int (0 : Int32))] [])) t
      refine XS.aloadN Y83.here hx rfl (hb hby at_163) rfl rfl ?_
      show Steps p.tables e below (T82.setTop (mkF m 164 #[.val (.int p0), .val (.ref a3), .val (.int (12 : Int32)), .val (.ref m12), .val (.int (0 : Int32))] [(.ref m12)])) t
      exact k
    refine On.virtualE Y83 hx hZ (y := (⟨"com/example/vistrace/vistrace/checker/Model", "needsTimes", "()Z"⟩ : MethodName)) (C := "com/example/vistrace/vistrace/checker/Model") hown (w45 hw) (w46 hw) (w47 hw) (w48 hw) (w49 hw) (w3 hw) (by decide) (a := m12) (argsL := []) (rest := []) (E12.ext (On.old Y83)) (rmD l Z a0 hw n0 m12 m0 [ar a3 (.object "com/example/vistrace/vistrace/checker/Model") (20 : Int32) [(.ref m0), (.ref m1), (.ref m2), (.ref m3), (.ref m4), (.ref m5), (.ref m6), (.ref m7), (.ref m8), (.ref m9), (.ref m10), (.ref m11), (.ref m12), (.ref m13), (.ref m14), (.ref m15), (.ref m16), (.ref m17), (.ref m18), (.ref m19)]] S0 N12) (W := 0) (by decide) (by decide) (by decide) (by decide) (g := (mkF m 164 #[.val (.int p0), .val (.ref a3), .val (.int (12 : Int32)), .val (.ref m12), .val (.int (0 : Int32))] [(.ref m12)])) rfl (by rw [hml]; rfl) (lenOf pd0 rfl) rfl (by show 2 * 0 + _ ≤ _; exact Nat.le_of_eq rfl) (hb hby at_164) ?_
    intro T144 u146 D147 hp148 Y145
    obtain ⟨rfl, rfl⟩ := hp148
    replace Y145 : On p l e _ s m _ below meth c Z n0 T144 1 20 [ar a3 (.object "com/example/vistrace/vistrace/checker/Model") (20 : Int32) [(.ref m0), (.ref m1), (.ref m2), (.ref m3), (.ref m4), (.ref m5), (.ref m6), (.ref m7), (.ref m8), (.ref m9), (.ref m10), (.ref m11), (.ref m12), (.ref m13), (.ref m14), (.ref m15), (.ref m16), (.ref m17), (.ref m18), (.ref m19)]] := Y145
    show Rn p e below F T144 (mkF m 167 #[.val (.int p0), .val (.ref a3), .val (.int (12 : Int32)), .val (.ref m12), .val (.int (0 : Int32))] [(.int (0 : Int32))])
    refine Rn.go (T' := T144) (g' := (mkF m 169 #[.val (.int p0), .val (.ref a3), .val (.int (12 : Int32)), .val (.ref m12), .val (.int (0 : Int32))] [(.int (0 : Int32)), (.int (0 : Int32))])) (fun t k => ?_) ?_
    · show Steps p.tables e below (T144.setTop (mkF m 167 #[.val (.int p0), .val (.ref a3), .val (.int (12 : Int32)), .val (.ref m12), .val (.int (0 : Int32))] [(.int (0 : Int32))])) t
      refine XS.iload Y145.here hx rfl (hb hby at_167) rfl ?_
      show Steps p.tables e below (T144.setTop (mkF m 169 #[.val (.int p0), .val (.ref a3), .val (.int (12 : Int32)), .val (.ref m12), .val (.int (0 : Int32))] [(.int (0 : Int32)), (.int (0 : Int32))])) t
      exact k
    refine Rn.go (T' := T144) (g' := (mkF m 172 #[.val (.int p0), .val (.ref a3), .val (.int (12 : Int32)), .val (.ref m12), .val (.int (0 : Int32))] [])) (fun t k => XS.icmpNo Y145.here hx rfl (hb hby at_169) rfl (teq (by decide)).2 k) ?_
    refine Rn.go (T' := T144) (g' := (mkF m 177 #[.val (.int p0), .val (.ref a3), .val (.int (12 : Int32)), .val (.ref m12), .val (.int (0 : Int32))] [(.int (1 : Int32))])) (fun t k => ?_) ?_
    · show Steps p.tables e below (T144.setTop (mkF m 172 #[.val (.int p0), .val (.ref a3), .val (.int (12 : Int32)), .val (.ref m12), .val (.int (0 : Int32))] [])) t
      refine XS.iconst Y145.here hx rfl (hb hby at_172) ?_
      show Steps p.tables e below (T144.setTop (mkF m 173 #[.val (.int p0), .val (.ref a3), .val (.int (12 : Int32)), .val (.ref m12), .val (.int (0 : Int32))] [(.int (1 : Int32))])) t
      refine XS.goto Y145.here hx rfl (pc0 := 173) (pc' := 177) rfl (hb hby at_173) (by decide) (by decide) ?_
      show Steps p.tables e below (T144.setTop (mkF m 177 #[.val (.int p0), .val (.ref a3), .val (.int (12 : Int32)), .val (.ref m12), .val (.int (0 : Int32))] [(.int (1 : Int32))])) t
      exact k
    rw [← hF]; exact On.retn Y145 hx hret (by simp) hlk (z' := (1 : Int32)) (by decide) (hb hby at_177) (by decide) (by decide) rfl
  · subst eo
    show Rn p e below F T82 (mkF m 148 #[.val (.int p0), .val (.ref a3), .val (.int (13 : Int32)), .unset, .unset] [])
    refine Rn.go (T' := T82) (g' := (mkF m 150 #[.val (.int p0), .val (.ref a3), .val (.int (13 : Int32)), .unset, .unset] [(.int (13 : Int32)), (.ref a3)])) (fun t k => ?_) ?_
    · show Steps p.tables e below (T82.setTop (mkF m 148 #[.val (.int p0), .val (.ref a3), .val (.int (13 : Int32)), .unset, .unset] [])) t
      refine XS.aloadN Y83.here hx rfl (hb hby at_148) rfl rfl ?_
      show Steps p.tables e below (T82.setTop (mkF m 149 #[.val (.int p0), .val (.ref a3), .val (.int (13 : Int32)), .unset, .unset] [(.ref a3)])) t
      refine XS.iloadN Y83.here hx rfl (hb hby at_149) rfl ?_
      show Steps p.tables e below (T82.setTop (mkF m 150 #[.val (.int p0), .val (.ref a3), .val (.int (13 : Int32)), .unset, .unset] [(.int (13 : Int32)), (.ref a3)])) t
      exact k
    refine On.rld Y83 hx hZ (i := 0) rfl (k := (13 : Int32)) (v := (.ref m13)) (by decide) rfl (g := (mkF m 150 #[.val (.int p0), .val (.ref a3), .val (.int (13 : Int32)), .unset, .unset] [(.int (13 : Int32)), (.ref a3)])) rfl rfl (hb hby at_150) ?_
    show Rn p e below F T82 (mkF m 151 #[.val (.int p0), .val (.ref a3), .val (.int (13 : Int32)), .unset, .unset] [(.ref m13)])
    refine Rn.go (T' := T82) (g' := (mkF m 153 #[.val (.int p0), .val (.ref a3), .val (.int (13 : Int32)), .val (.ref m13), .unset] [(.int (13 : Int32))])) (fun t k => ?_) ?_
    · show Steps p.tables e below (T82.setTop (mkF m 151 #[.val (.int p0), .val (.ref a3), .val (.int (13 : Int32)), .unset, .unset] [(.ref m13)])) t
      refine XS.astoreN Y83.here hx rfl (hb hby at_151) rfl rfl (l' := #[.val (.int p0), .val (.ref a3), .val (.int (13 : Int32)), .val (.ref m13), .unset]) rfl ?_
      show Steps p.tables e below (T82.setTop (mkF m 152 #[.val (.int p0), .val (.ref a3), .val (.int (13 : Int32)), .val (.ref m13), .unset] [])) t
      refine XS.iloadN Y83.here hx rfl (hb hby at_152) rfl ?_
      show Steps p.tables e below (T82.setTop (mkF m 153 #[.val (.int p0), .val (.ref a3), .val (.int (13 : Int32)), .val (.ref m13), .unset] [(.int (13 : Int32))])) t
      exact k
    refine Rn.go (T' := T82) (g' := (mkF m 160 #[.val (.int p0), .val (.ref a3), .val (.int (13 : Int32)), .val (.ref m13), .unset] [])) (fun t k => XS.ifYes Y83.here hx rfl (pc0 := 153) (pc' := 160) rfl (hb hby at_153) rfl ((if0 _ _).trans (feq (by decide)).2) (by decide) (by decide) k) ?_
    refine Rn.go (T' := T82) (g' := (mkF m 164 #[.val (.int p0), .val (.ref a3), .val (.int (13 : Int32)), .val (.ref m13), .val (.int (0 : Int32))] [(.ref m13)])) (fun t k => ?_) ?_
    · show Steps p.tables e below (T82.setTop (mkF m 160 #[.val (.int p0), .val (.ref a3), .val (.int (13 : Int32)), .val (.ref m13), .unset] [])) t
      refine XS.iconst Y83.here hx rfl (hb hby at_160) ?_
      show Steps p.tables e below (T82.setTop (mkF m 161 #[.val (.int p0), .val (.ref a3), .val (.int (13 : Int32)), .val (.ref m13), .unset] [(.int (0 : Int32))])) t
      refine XS.istore Y83.here hx rfl (hb hby at_161) rfl (l' := #[.val (.int p0), .val (.ref a3), .val (.int (13 : Int32)), .val (.ref m13), .val (.int (0 : Int32))]) rfl ?_
      show Steps p.tables e below (T82.setTop (mkF m 163 #[.val (.int p0), .val (.ref a3), .val (.int (13 : Int32)), .val (.ref m13), .val (.int (0 : Int32))] [])) t
      refine XS.aloadN Y83.here hx rfl (hb hby at_163) rfl rfl ?_
      show Steps p.tables e below (T82.setTop (mkF m 164 #[.val (.int p0), .val (.ref a3), .val (.int (13 : Int32)), .val (.ref m13), .val (.int (0 : Int32))] [(.ref m13)])) t
      exact k
    refine On.virtualE Y83 hx hZ (y := (⟨"com/example/vistrace/vistrace/checker/Model", "needsTimes", "()Z"⟩ : MethodName)) (C := "com/example/vistrace/vistrace/checker/Model") hown (w45 hw) (w46 hw) (w47 hw) (w48 hw) (w49 hw) (w3 hw) (by decide) (a := m13) (argsL := []) (rest := []) (E13.ext (On.old Y83)) (rmD l Z a0 hw n0 m13 m0 [ar a3 (.object "com/example/vistrace/vistrace/checker/Model") (20 : Int32) [(.ref m0), (.ref m1), (.ref m2), (.ref m3), (.ref m4), (.ref m5), (.ref m6), (.ref m7), (.ref m8), (.ref m9), (.ref m10), (.ref m11), (.ref m12), (.ref m13), (.ref m14), (.ref m15), (.ref m16), (.ref m17), (.ref m18), (.ref m19)]] S0 N13) (W := 0) (by decide) (by decide) (by decide) (by decide) (g := (mkF m 164 #[.val (.int p0), .val (.ref a3), .val (.int (13 : Int32)), .val (.ref m13), .val (.int (0 : Int32))] [(.ref m13)])) rfl (by rw [hml]; rfl) (lenOf pd0 rfl) rfl (by show 2 * 0 + _ ≤ _; exact Nat.le_of_eq rfl) (hb hby at_164) ?_
    intro T149 u151 D152 hp153 Y150
    obtain ⟨rfl, rfl⟩ := hp153
    replace Y150 : On p l e _ s m _ below meth c Z n0 T149 1 20 [ar a3 (.object "com/example/vistrace/vistrace/checker/Model") (20 : Int32) [(.ref m0), (.ref m1), (.ref m2), (.ref m3), (.ref m4), (.ref m5), (.ref m6), (.ref m7), (.ref m8), (.ref m9), (.ref m10), (.ref m11), (.ref m12), (.ref m13), (.ref m14), (.ref m15), (.ref m16), (.ref m17), (.ref m18), (.ref m19)]] := Y150
    show Rn p e below F T149 (mkF m 167 #[.val (.int p0), .val (.ref a3), .val (.int (13 : Int32)), .val (.ref m13), .val (.int (0 : Int32))] [(.int (0 : Int32))])
    refine Rn.go (T' := T149) (g' := (mkF m 169 #[.val (.int p0), .val (.ref a3), .val (.int (13 : Int32)), .val (.ref m13), .val (.int (0 : Int32))] [(.int (0 : Int32)), (.int (0 : Int32))])) (fun t k => ?_) ?_
    · show Steps p.tables e below (T149.setTop (mkF m 167 #[.val (.int p0), .val (.ref a3), .val (.int (13 : Int32)), .val (.ref m13), .val (.int (0 : Int32))] [(.int (0 : Int32))])) t
      refine XS.iload Y150.here hx rfl (hb hby at_167) rfl ?_
      show Steps p.tables e below (T149.setTop (mkF m 169 #[.val (.int p0), .val (.ref a3), .val (.int (13 : Int32)), .val (.ref m13), .val (.int (0 : Int32))] [(.int (0 : Int32)), (.int (0 : Int32))])) t
      exact k
    refine Rn.go (T' := T149) (g' := (mkF m 172 #[.val (.int p0), .val (.ref a3), .val (.int (13 : Int32)), .val (.ref m13), .val (.int (0 : Int32))] [])) (fun t k => XS.icmpNo Y150.here hx rfl (hb hby at_169) rfl (teq (by decide)).2 k) ?_
    refine Rn.go (T' := T149) (g' := (mkF m 177 #[.val (.int p0), .val (.ref a3), .val (.int (13 : Int32)), .val (.ref m13), .val (.int (0 : Int32))] [(.int (1 : Int32))])) (fun t k => ?_) ?_
    · show Steps p.tables e below (T149.setTop (mkF m 172 #[.val (.int p0), .val (.ref a3), .val (.int (13 : Int32)), .val (.ref m13), .val (.int (0 : Int32))] [])) t
      refine XS.iconst Y150.here hx rfl (hb hby at_172) ?_
      show Steps p.tables e below (T149.setTop (mkF m 173 #[.val (.int p0), .val (.ref a3), .val (.int (13 : Int32)), .val (.ref m13), .val (.int (0 : Int32))] [(.int (1 : Int32))])) t
      refine XS.goto Y150.here hx rfl (pc0 := 173) (pc' := 177) rfl (hb hby at_173) (by decide) (by decide) ?_
      show Steps p.tables e below (T149.setTop (mkF m 177 #[.val (.int p0), .val (.ref a3), .val (.int (13 : Int32)), .val (.ref m13), .val (.int (0 : Int32))] [(.int (1 : Int32))])) t
      exact k
    rw [← hF]; exact On.retn Y150 hx hret (by simp) hlk (z' := (1 : Int32)) (by decide) (hb hby at_177) (by decide) (by decide) rfl
  · subst eo
    show Rn p e below F T82 (mkF m 148 #[.val (.int p0), .val (.ref a3), .val (.int (14 : Int32)), .unset, .unset] [])
    refine Rn.go (T' := T82) (g' := (mkF m 150 #[.val (.int p0), .val (.ref a3), .val (.int (14 : Int32)), .unset, .unset] [(.int (14 : Int32)), (.ref a3)])) (fun t k => ?_) ?_
    · show Steps p.tables e below (T82.setTop (mkF m 148 #[.val (.int p0), .val (.ref a3), .val (.int (14 : Int32)), .unset, .unset] [])) t
      refine XS.aloadN Y83.here hx rfl (hb hby at_148) rfl rfl ?_
      show Steps p.tables e below (T82.setTop (mkF m 149 #[.val (.int p0), .val (.ref a3), .val (.int (14 : Int32)), .unset, .unset] [(.ref a3)])) t
      refine XS.iloadN Y83.here hx rfl (hb hby at_149) rfl ?_
      show Steps p.tables e below (T82.setTop (mkF m 150 #[.val (.int p0), .val (.ref a3), .val (.int (14 : Int32)), .unset, .unset] [(.int (14 : Int32)), (.ref a3)])) t
      exact k
    refine On.rld Y83 hx hZ (i := 0) rfl (k := (14 : Int32)) (v := (.ref m14)) (by decide) rfl (g := (mkF m 150 #[.val (.int p0), .val (.ref a3), .val (.int (14 : Int32)), .unset, .unset] [(.int (14 : Int32)), (.ref a3)])) rfl rfl (hb hby at_150) ?_
    show Rn p e below F T82 (mkF m 151 #[.val (.int p0), .val (.ref a3), .val (.int (14 : Int32)), .unset, .unset] [(.ref m14)])
    refine Rn.go (T' := T82) (g' := (mkF m 153 #[.val (.int p0), .val (.ref a3), .val (.int (14 : Int32)), .val (.ref m14), .unset] [(.int (14 : Int32))])) (fun t k => ?_) ?_
    · show Steps p.tables e below (T82.setTop (mkF m 151 #[.val (.int p0), .val (.ref a3), .val (.int (14 : Int32)), .unset, .unset] [(.ref m14)])) t
      refine XS.astoreN Y83.here hx rfl (hb hby at_151) rfl rfl (l' := #[.val (.int p0), .val (.ref a3), .val (.int (14 : Int32)), .val (.ref m14), .unset]) rfl ?_
      show Steps p.tables e below (T82.setTop (mkF m 152 #[.val (.int p0), .val (.ref a3), .val (.int (14 : Int32)), .val (.ref m14), .unset] [])) t
      refine XS.iloadN Y83.here hx rfl (hb hby at_152) rfl ?_
      show Steps p.tables e below (T82.setTop (mkF m 153 #[.val (.int p0), .val (.ref a3), .val (.int (14 : Int32)), .val (.ref m14), .unset] [(.int (14 : Int32))])) t
      exact k
    refine Rn.go (T' := T82) (g' := (mkF m 160 #[.val (.int p0), .val (.ref a3), .val (.int (14 : Int32)), .val (.ref m14), .unset] [])) (fun t k => XS.ifYes Y83.here hx rfl (pc0 := 153) (pc' := 160) rfl (hb hby at_153) rfl ((if0 _ _).trans (feq (by decide)).2) (by decide) (by decide) k) ?_
    refine Rn.go (T' := T82) (g' := (mkF m 164 #[.val (.int p0), .val (.ref a3), .val (.int (14 : Int32)), .val (.ref m14), .val (.int (0 : Int32))] [(.ref m14)])) (fun t k => ?_) ?_
    · show Steps p.tables e below (T82.setTop (mkF m 160 #[.val (.int p0), .val (.ref a3), .val (.int (14 : Int32)), .val (.ref m14), .unset] [])) t
      refine XS.iconst Y83.here hx rfl (hb hby at_160) ?_
      show Steps p.tables e below (T82.setTop (mkF m 161 #[.val (.int p0), .val (.ref a3), .val (.int (14 : Int32)), .val (.ref m14), .unset] [(.int (0 : Int32))])) t
      refine XS.istore Y83.here hx rfl (hb hby at_161) rfl (l' := #[.val (.int p0), .val (.ref a3), .val (.int (14 : Int32)), .val (.ref m14), .val (.int (0 : Int32))]) rfl ?_
      show Steps p.tables e below (T82.setTop (mkF m 163 #[.val (.int p0), .val (.ref a3), .val (.int (14 : Int32)), .val (.ref m14), .val (.int (0 : Int32))] [])) t
      refine XS.aloadN Y83.here hx rfl (hb hby at_163) rfl rfl ?_
      show Steps p.tables e below (T82.setTop (mkF m 164 #[.val (.int p0), .val (.ref a3), .val (.int (14 : Int32)), .val (.ref m14), .val (.int (0 : Int32))] [(.ref m14)])) t
      exact k
    refine On.virtualE Y83 hx hZ (y := (⟨"com/example/vistrace/vistrace/checker/Model", "needsTimes", "()Z"⟩ : MethodName)) (C := "com/example/vistrace/vistrace/checker/Model") hown (w45 hw) (w46 hw) (w47 hw) (w48 hw) (w49 hw) (w3 hw) (by decide) (a := m14) (argsL := []) (rest := []) (E14.ext (On.old Y83)) (rmD l Z a0 hw n0 m14 m0 [ar a3 (.object "com/example/vistrace/vistrace/checker/Model") (20 : Int32) [(.ref m0), (.ref m1), (.ref m2), (.ref m3), (.ref m4), (.ref m5), (.ref m6), (.ref m7), (.ref m8), (.ref m9), (.ref m10), (.ref m11), (.ref m12), (.ref m13), (.ref m14), (.ref m15), (.ref m16), (.ref m17), (.ref m18), (.ref m19)]] S0 N14) (W := 0) (by decide) (by decide) (by decide) (by decide) (g := (mkF m 164 #[.val (.int p0), .val (.ref a3), .val (.int (14 : Int32)), .val (.ref m14), .val (.int (0 : Int32))] [(.ref m14)])) rfl (by rw [hml]; rfl) (lenOf pd0 rfl) rfl (by show 2 * 0 + _ ≤ _; exact Nat.le_of_eq rfl) (hb hby at_164) ?_
    intro T154 u156 D157 hp158 Y155
    obtain ⟨rfl, rfl⟩ := hp158
    replace Y155 : On p l e _ s m _ below meth c Z n0 T154 1 20 [ar a3 (.object "com/example/vistrace/vistrace/checker/Model") (20 : Int32) [(.ref m0), (.ref m1), (.ref m2), (.ref m3), (.ref m4), (.ref m5), (.ref m6), (.ref m7), (.ref m8), (.ref m9), (.ref m10), (.ref m11), (.ref m12), (.ref m13), (.ref m14), (.ref m15), (.ref m16), (.ref m17), (.ref m18), (.ref m19)]] := Y155
    show Rn p e below F T154 (mkF m 167 #[.val (.int p0), .val (.ref a3), .val (.int (14 : Int32)), .val (.ref m14), .val (.int (0 : Int32))] [(.int (0 : Int32))])
    refine Rn.go (T' := T154) (g' := (mkF m 169 #[.val (.int p0), .val (.ref a3), .val (.int (14 : Int32)), .val (.ref m14), .val (.int (0 : Int32))] [(.int (0 : Int32)), (.int (0 : Int32))])) (fun t k => ?_) ?_
    · show Steps p.tables e below (T154.setTop (mkF m 167 #[.val (.int p0), .val (.ref a3), .val (.int (14 : Int32)), .val (.ref m14), .val (.int (0 : Int32))] [(.int (0 : Int32))])) t
      refine XS.iload Y155.here hx rfl (hb hby at_167) rfl ?_
      show Steps p.tables e below (T154.setTop (mkF m 169 #[.val (.int p0), .val (.ref a3), .val (.int (14 : Int32)), .val (.ref m14), .val (.int (0 : Int32))] [(.int (0 : Int32)), (.int (0 : Int32))])) t
      exact k
    refine Rn.go (T' := T154) (g' := (mkF m 172 #[.val (.int p0), .val (.ref a3), .val (.int (14 : Int32)), .val (.ref m14), .val (.int (0 : Int32))] [])) (fun t k => XS.icmpNo Y155.here hx rfl (hb hby at_169) rfl (teq (by decide)).2 k) ?_
    refine Rn.go (T' := T154) (g' := (mkF m 177 #[.val (.int p0), .val (.ref a3), .val (.int (14 : Int32)), .val (.ref m14), .val (.int (0 : Int32))] [(.int (1 : Int32))])) (fun t k => ?_) ?_
    · show Steps p.tables e below (T154.setTop (mkF m 172 #[.val (.int p0), .val (.ref a3), .val (.int (14 : Int32)), .val (.ref m14), .val (.int (0 : Int32))] [])) t
      refine XS.iconst Y155.here hx rfl (hb hby at_172) ?_
      show Steps p.tables e below (T154.setTop (mkF m 173 #[.val (.int p0), .val (.ref a3), .val (.int (14 : Int32)), .val (.ref m14), .val (.int (0 : Int32))] [(.int (1 : Int32))])) t
      refine XS.goto Y155.here hx rfl (pc0 := 173) (pc' := 177) rfl (hb hby at_173) (by decide) (by decide) ?_
      show Steps p.tables e below (T154.setTop (mkF m 177 #[.val (.int p0), .val (.ref a3), .val (.int (14 : Int32)), .val (.ref m14), .val (.int (0 : Int32))] [(.int (1 : Int32))])) t
      exact k
    rw [← hF]; exact On.retn Y155 hx hret (by simp) hlk (z' := (1 : Int32)) (by decide) (hb hby at_177) (by decide) (by decide) rfl
  · subst eo
    show Rn p e below F T82 (mkF m 148 #[.val (.int p0), .val (.ref a3), .val (.int (15 : Int32)), .unset, .unset] [])
    refine Rn.go (T' := T82) (g' := (mkF m 150 #[.val (.int p0), .val (.ref a3), .val (.int (15 : Int32)), .unset, .unset] [(.int (15 : Int32)), (.ref a3)])) (fun t k => ?_) ?_
    · show Steps p.tables e below (T82.setTop (mkF m 148 #[.val (.int p0), .val (.ref a3), .val (.int (15 : Int32)), .unset, .unset] [])) t
      refine XS.aloadN Y83.here hx rfl (hb hby at_148) rfl rfl ?_
      show Steps p.tables e below (T82.setTop (mkF m 149 #[.val (.int p0), .val (.ref a3), .val (.int (15 : Int32)), .unset, .unset] [(.ref a3)])) t
      refine XS.iloadN Y83.here hx rfl (hb hby at_149) rfl ?_
      show Steps p.tables e below (T82.setTop (mkF m 150 #[.val (.int p0), .val (.ref a3), .val (.int (15 : Int32)), .unset, .unset] [(.int (15 : Int32)), (.ref a3)])) t
      exact k
    refine On.rld Y83 hx hZ (i := 0) rfl (k := (15 : Int32)) (v := (.ref m15)) (by decide) rfl (g := (mkF m 150 #[.val (.int p0), .val (.ref a3), .val (.int (15 : Int32)), .unset, .unset] [(.int (15 : Int32)), (.ref a3)])) rfl rfl (hb hby at_150) ?_
    show Rn p e below F T82 (mkF m 151 #[.val (.int p0), .val (.ref a3), .val (.int (15 : Int32)), .unset, .unset] [(.ref m15)])
    refine Rn.go (T' := T82) (g' := (mkF m 153 #[.val (.int p0), .val (.ref a3), .val (.int (15 : Int32)), .val (.ref m15), .unset] [(.int (15 : Int32))])) (fun t k => ?_) ?_
    · show Steps p.tables e below (T82.setTop (mkF m 151 #[.val (.int p0), .val (.ref a3), .val (.int (15 : Int32)), .unset, .unset] [(.ref m15)])) t
      refine XS.astoreN Y83.here hx rfl (hb hby at_151) rfl rfl (l' := #[.val (.int p0), .val (.ref a3), .val (.int (15 : Int32)), .val (.ref m15), .unset]) rfl ?_
      show Steps p.tables e below (T82.setTop (mkF m 152 #[.val (.int p0), .val (.ref a3), .val (.int (15 : Int32)), .val (.ref m15), .unset] [])) t
      refine XS.iloadN Y83.here hx rfl (hb hby at_152) rfl ?_
      show Steps p.tables e below (T82.setTop (mkF m 153 #[.val (.int p0), .val (.ref a3), .val (.int (15 : Int32)), .val (.ref m15), .unset] [(.int (15 : Int32))])) t
      exact k
    refine Rn.go (T' := T82) (g' := (mkF m 160 #[.val (.int p0), .val (.ref a3), .val (.int (15 : Int32)), .val (.ref m15), .unset] [])) (fun t k => XS.ifYes Y83.here hx rfl (pc0 := 153) (pc' := 160) rfl (hb hby at_153) rfl ((if0 _ _).trans (feq (by decide)).2) (by decide) (by decide) k) ?_
    refine Rn.go (T' := T82) (g' := (mkF m 164 #[.val (.int p0), .val (.ref a3), .val (.int (15 : Int32)), .val (.ref m15), .val (.int (0 : Int32))] [(.ref m15)])) (fun t k => ?_) ?_
    · show Steps p.tables e below (T82.setTop (mkF m 160 #[.val (.int p0), .val (.ref a3), .val (.int (15 : Int32)), .val (.ref m15), .unset] [])) t
      refine XS.iconst Y83.here hx rfl (hb hby at_160) ?_
      show Steps p.tables e below (T82.setTop (mkF m 161 #[.val (.int p0), .val (.ref a3), .val (.int (15 : Int32)), .val (.ref m15), .unset] [(.int (0 : Int32))])) t
      refine XS.istore Y83.here hx rfl (hb hby at_161) rfl (l' := #[.val (.int p0), .val (.ref a3), .val (.int (15 : Int32)), .val (.ref m15), .val (.int (0 : Int32))]) rfl ?_
      show Steps p.tables e below (T82.setTop (mkF m 163 #[.val (.int p0), .val (.ref a3), .val (.int (15 : Int32)), .val (.ref m15), .val (.int (0 : Int32))] [])) t
      refine XS.aloadN Y83.here hx rfl (hb hby at_163) rfl rfl ?_
      show Steps p.tables e below (T82.setTop (mkF m 164 #[.val (.int p0), .val (.ref a3), .val (.int (15 : Int32)), .val (.ref m15), .val (.int (0 : Int32))] [(.ref m15)])) t
      exact k
    refine On.virtualE Y83 hx hZ (y := (⟨"com/example/vistrace/vistrace/checker/Model", "needsTimes", "()Z"⟩ : MethodName)) (C := "com/example/vistrace/vistrace/checker/Model") hown (w45 hw) (w46 hw) (w47 hw) (w48 hw) (w49 hw) (w3 hw) (by decide) (a := m15) (argsL := []) (rest := []) (E15.ext (On.old Y83)) (rmD l Z a0 hw n0 m15 m0 [ar a3 (.object "com/example/vistrace/vistrace/checker/Model") (20 : Int32) [(.ref m0), (.ref m1), (.ref m2), (.ref m3), (.ref m4), (.ref m5), (.ref m6), (.ref m7), (.ref m8), (.ref m9), (.ref m10), (.ref m11), (.ref m12), (.ref m13), (.ref m14), (.ref m15), (.ref m16), (.ref m17), (.ref m18), (.ref m19)]] S0 N15) (W := 0) (by decide) (by decide) (by decide) (by decide) (g := (mkF m 164 #[.val (.int p0), .val (.ref a3), .val (.int (15 : Int32)), .val (.ref m15), .val (.int (0 : Int32))] [(.ref m15)])) rfl (by rw [hml]; rfl) (lenOf pd0 rfl) rfl (by show 2 * 0 + _ ≤ _; exact Nat.le_of_eq rfl) (hb hby at_164) ?_
    intro T159 u161 D162 hp163 Y160
    obtain ⟨rfl, rfl⟩ := hp163
    replace Y160 : On p l e _ s m _ below meth c Z n0 T159 1 20 [ar a3 (.object "com/example/vistrace/vistrace/checker/Model") (20 : Int32) [(.ref m0), (.ref m1), (.ref m2), (.ref m3), (.ref m4), (.ref m5), (.ref m6), (.ref m7), (.ref m8), (.ref m9), (.ref m10), (.ref m11), (.ref m12), (.ref m13), (.ref m14), (.ref m15), (.ref m16), (.ref m17), (.ref m18), (.ref m19)]] := Y160
    show Rn p e below F T159 (mkF m 167 #[.val (.int p0), .val (.ref a3), .val (.int (15 : Int32)), .val (.ref m15), .val (.int (0 : Int32))] [(.int (0 : Int32))])
    refine Rn.go (T' := T159) (g' := (mkF m 169 #[.val (.int p0), .val (.ref a3), .val (.int (15 : Int32)), .val (.ref m15), .val (.int (0 : Int32))] [(.int (0 : Int32)), (.int (0 : Int32))])) (fun t k => ?_) ?_
    · show Steps p.tables e below (T159.setTop (mkF m 167 #[.val (.int p0), .val (.ref a3), .val (.int (15 : Int32)), .val (.ref m15), .val (.int (0 : Int32))] [(.int (0 : Int32))])) t
      refine XS.iload Y160.here hx rfl (hb hby at_167) rfl ?_
      show Steps p.tables e below (T159.setTop (mkF m 169 #[.val (.int p0), .val (.ref a3), .val (.int (15 : Int32)), .val (.ref m15), .val (.int (0 : Int32))] [(.int (0 : Int32)), (.int (0 : Int32))])) t
      exact k
    refine Rn.go (T' := T159) (g' := (mkF m 172 #[.val (.int p0), .val (.ref a3), .val (.int (15 : Int32)), .val (.ref m15), .val (.int (0 : Int32))] [])) (fun t k => XS.icmpNo Y160.here hx rfl (hb hby at_169) rfl (teq (by decide)).2 k) ?_
    refine Rn.go (T' := T159) (g' := (mkF m 177 #[.val (.int p0), .val (.ref a3), .val (.int (15 : Int32)), .val (.ref m15), .val (.int (0 : Int32))] [(.int (1 : Int32))])) (fun t k => ?_) ?_
    · show Steps p.tables e below (T159.setTop (mkF m 172 #[.val (.int p0), .val (.ref a3), .val (.int (15 : Int32)), .val (.ref m15), .val (.int (0 : Int32))] [])) t
      refine XS.iconst Y160.here hx rfl (hb hby at_172) ?_
      show Steps p.tables e below (T159.setTop (mkF m 173 #[.val (.int p0), .val (.ref a3), .val (.int (15 : Int32)), .val (.ref m15), .val (.int (0 : Int32))] [(.int (1 : Int32))])) t
      refine XS.goto Y160.here hx rfl (pc0 := 173) (pc' := 177) rfl (hb hby at_173) (by decide) (by decide) ?_
      show Steps p.tables e below (T159.setTop (mkF m 177 #[.val (.int p0), .val (.ref a3), .val (.int (15 : Int32)), .val (.ref m15), .val (.int (0 : Int32))] [(.int (1 : Int32))])) t
      exact k
    rw [← hF]; exact On.retn Y160 hx hret (by simp) hlk (z' := (1 : Int32)) (by decide) (hb hby at_177) (by decide) (by decide) rfl
  · subst eo
    show Rn p e below F T82 (mkF m 148 #[.val (.int p0), .val (.ref a3), .val (.int (16 : Int32)), .unset, .unset] [])
    refine Rn.go (T' := T82) (g' := (mkF m 150 #[.val (.int p0), .val (.ref a3), .val (.int (16 : Int32)), .unset, .unset] [(.int (16 : Int32)), (.ref a3)])) (fun t k => ?_) ?_
    · show Steps p.tables e below (T82.setTop (mkF m 148 #[.val (.int p0), .val (.ref a3), .val (.int (16 : Int32)), .unset, .unset] [])) t
      refine XS.aloadN Y83.here hx rfl (hb hby at_148) rfl rfl ?_
      show Steps p.tables e below (T82.setTop (mkF m 149 #[.val (.int p0), .val (.ref a3), .val (.int (16 : Int32)), .unset, .unset] [(.ref a3)])) t
      refine XS.iloadN Y83.here hx rfl (hb hby at_149) rfl ?_
      show Steps p.tables e below (T82.setTop (mkF m 150 #[.val (.int p0), .val (.ref a3), .val (.int (16 : Int32)), .unset, .unset] [(.int (16 : Int32)), (.ref a3)])) t
      exact k
    refine On.rld Y83 hx hZ (i := 0) rfl (k := (16 : Int32)) (v := (.ref m16)) (by decide) rfl (g := (mkF m 150 #[.val (.int p0), .val (.ref a3), .val (.int (16 : Int32)), .unset, .unset] [(.int (16 : Int32)), (.ref a3)])) rfl rfl (hb hby at_150) ?_
    show Rn p e below F T82 (mkF m 151 #[.val (.int p0), .val (.ref a3), .val (.int (16 : Int32)), .unset, .unset] [(.ref m16)])
    refine Rn.go (T' := T82) (g' := (mkF m 153 #[.val (.int p0), .val (.ref a3), .val (.int (16 : Int32)), .val (.ref m16), .unset] [(.int (16 : Int32))])) (fun t k => ?_) ?_
    · show Steps p.tables e below (T82.setTop (mkF m 151 #[.val (.int p0), .val (.ref a3), .val (.int (16 : Int32)), .unset, .unset] [(.ref m16)])) t
      refine XS.astoreN Y83.here hx rfl (hb hby at_151) rfl rfl (l' := #[.val (.int p0), .val (.ref a3), .val (.int (16 : Int32)), .val (.ref m16), .unset]) rfl ?_
      show Steps p.tables e below (T82.setTop (mkF m 152 #[.val (.int p0), .val (.ref a3), .val (.int (16 : Int32)), .val (.ref m16), .unset] [])) t
      refine XS.iloadN Y83.here hx rfl (hb hby at_152) rfl ?_
      show Steps p.tables e below (T82.setTop (mkF m 153 #[.val (.int p0), .val (.ref a3), .val (.int (16 : Int32)), .val (.ref m16), .unset] [(.int (16 : Int32))])) t
      exact k
    refine Rn.go (T' := T82) (g' := (mkF m 160 #[.val (.int p0), .val (.ref a3), .val (.int (16 : Int32)), .val (.ref m16), .unset] [])) (fun t k => XS.ifYes Y83.here hx rfl (pc0 := 153) (pc' := 160) rfl (hb hby at_153) rfl ((if0 _ _).trans (feq (by decide)).2) (by decide) (by decide) k) ?_
    refine Rn.go (T' := T82) (g' := (mkF m 164 #[.val (.int p0), .val (.ref a3), .val (.int (16 : Int32)), .val (.ref m16), .val (.int (0 : Int32))] [(.ref m16)])) (fun t k => ?_) ?_
    · show Steps p.tables e below (T82.setTop (mkF m 160 #[.val (.int p0), .val (.ref a3), .val (.int (16 : Int32)), .val (.ref m16), .unset] [])) t
      refine XS.iconst Y83.here hx rfl (hb hby at_160) ?_
      show Steps p.tables e below (T82.setTop (mkF m 161 #[.val (.int p0), .val (.ref a3), .val (.int (16 : Int32)), .val (.ref m16), .unset] [(.int (0 : Int32))])) t
      refine XS.istore Y83.here hx rfl (hb hby at_161) rfl (l' := #[.val (.int p0), .val (.ref a3), .val (.int (16 : Int32)), .val (.ref m16), .val (.int (0 : Int32))]) rfl ?_
      show Steps p.tables e below (T82.setTop (mkF m 163 #[.val (.int p0), .val (.ref a3), .val (.int (16 : Int32)), .val (.ref m16), .val (.int (0 : Int32))] [])) t
      refine XS.aloadN Y83.here hx rfl (hb hby at_163) rfl rfl ?_
      show Steps p.tables e below (T82.setTop (mkF m 164 #[.val (.int p0), .val (.ref a3), .val (.int (16 : Int32)), .val (.ref m16), .val (.int (0 : Int32))] [(.ref m16)])) t
      exact k
    refine On.virtualE Y83 hx hZ (y := (⟨"com/example/vistrace/vistrace/checker/Model", "needsTimes", "()Z"⟩ : MethodName)) (C := "com/example/vistrace/vistrace/checker/Model") hown (w45 hw) (w46 hw) (w47 hw) (w48 hw) (w49 hw) (w3 hw) (by decide) (a := m16) (argsL := []) (rest := []) (E16.ext (On.old Y83)) (rmD l Z a0 hw n0 m16 m0 [ar a3 (.object "com/example/vistrace/vistrace/checker/Model") (20 : Int32) [(.ref m0), (.ref m1), (.ref m2), (.ref m3), (.ref m4), (.ref m5), (.ref m6), (.ref m7), (.ref m8), (.ref m9), (.ref m10), (.ref m11), (.ref m12), (.ref m13), (.ref m14), (.ref m15), (.ref m16), (.ref m17), (.ref m18), (.ref m19)]] S0 N16) (W := 0) (by decide) (by decide) (by decide) (by decide) (g := (mkF m 164 #[.val (.int p0), .val (.ref a3), .val (.int (16 : Int32)), .val (.ref m16), .val (.int (0 : Int32))] [(.ref m16)])) rfl (by rw [hml]; rfl) (lenOf pd0 rfl) rfl (by show 2 * 0 + _ ≤ _; exact Nat.le_of_eq rfl) (hb hby at_164) ?_
    intro T164 u166 D167 hp168 Y165
    obtain ⟨rfl, rfl⟩ := hp168
    replace Y165 : On p l e _ s m _ below meth c Z n0 T164 1 20 [ar a3 (.object "com/example/vistrace/vistrace/checker/Model") (20 : Int32) [(.ref m0), (.ref m1), (.ref m2), (.ref m3), (.ref m4), (.ref m5), (.ref m6), (.ref m7), (.ref m8), (.ref m9), (.ref m10), (.ref m11), (.ref m12), (.ref m13), (.ref m14), (.ref m15), (.ref m16), (.ref m17), (.ref m18), (.ref m19)]] := Y165
    show Rn p e below F T164 (mkF m 167 #[.val (.int p0), .val (.ref a3), .val (.int (16 : Int32)), .val (.ref m16), .val (.int (0 : Int32))] [(.int (0 : Int32))])
    refine Rn.go (T' := T164) (g' := (mkF m 169 #[.val (.int p0), .val (.ref a3), .val (.int (16 : Int32)), .val (.ref m16), .val (.int (0 : Int32))] [(.int (0 : Int32)), (.int (0 : Int32))])) (fun t k => ?_) ?_
    · show Steps p.tables e below (T164.setTop (mkF m 167 #[.val (.int p0), .val (.ref a3), .val (.int (16 : Int32)), .val (.ref m16), .val (.int (0 : Int32))] [(.int (0 : Int32))])) t
      refine XS.iload Y165.here hx rfl (hb hby at_167) rfl ?_
      show Steps p.tables e below (T164.setTop (mkF m 169 #[.val (.int p0), .val (.ref a3), .val (.int (16 : Int32)), .val (.ref m16), .val (.int (0 : Int32))] [(.int (0 : Int32)), (.int (0 : Int32))])) t
      exact k
    refine Rn.go (T' := T164) (g' := (mkF m 172 #[.val (.int p0), .val (.ref a3), .val (.int (16 : Int32)), .val (.ref m16), .val (.int (0 : Int32))] [])) (fun t k => XS.icmpNo Y165.here hx rfl (hb hby at_169) rfl (teq (by decide)).2 k) ?_
    refine Rn.go (T' := T164) (g' := (mkF m 177 #[.val (.int p0), .val (.ref a3), .val (.int (16 : Int32)), .val (.ref m16), .val (.int (0 : Int32))] [(.int (1 : Int32))])) (fun t k => ?_) ?_
    · show Steps p.tables e below (T164.setTop (mkF m 172 #[.val (.int p0), .val (.ref a3), .val (.int (16 : Int32)), .val (.ref m16), .val (.int (0 : Int32))] [])) t
      refine XS.iconst Y165.here hx rfl (hb hby at_172) ?_
      show Steps p.tables e below (T164.setTop (mkF m 173 #[.val (.int p0), .val (.ref a3), .val (.int (16 : Int32)), .val (.ref m16), .val (.int (0 : Int32))] [(.int (1 : Int32))])) t
      refine XS.goto Y165.here hx rfl (pc0 := 173) (pc' := 177) rfl (hb hby at_173) (by decide) (by decide) ?_
      show Steps p.tables e below (T164.setTop (mkF m 177 #[.val (.int p0), .val (.ref a3), .val (.int (16 : Int32)), .val (.ref m16), .val (.int (0 : Int32))] [(.int (1 : Int32))])) t
      exact k
    rw [← hF]; exact On.retn Y165 hx hret (by simp) hlk (z' := (1 : Int32)) (by decide) (hb hby at_177) (by decide) (by decide) rfl
  · subst eo
    show Rn p e below F T82 (mkF m 148 #[.val (.int p0), .val (.ref a3), .val (.int (17 : Int32)), .unset, .unset] [])
    refine Rn.go (T' := T82) (g' := (mkF m 150 #[.val (.int p0), .val (.ref a3), .val (.int (17 : Int32)), .unset, .unset] [(.int (17 : Int32)), (.ref a3)])) (fun t k => ?_) ?_
    · show Steps p.tables e below (T82.setTop (mkF m 148 #[.val (.int p0), .val (.ref a3), .val (.int (17 : Int32)), .unset, .unset] [])) t
      refine XS.aloadN Y83.here hx rfl (hb hby at_148) rfl rfl ?_
      show Steps p.tables e below (T82.setTop (mkF m 149 #[.val (.int p0), .val (.ref a3), .val (.int (17 : Int32)), .unset, .unset] [(.ref a3)])) t
      refine XS.iloadN Y83.here hx rfl (hb hby at_149) rfl ?_
      show Steps p.tables e below (T82.setTop (mkF m 150 #[.val (.int p0), .val (.ref a3), .val (.int (17 : Int32)), .unset, .unset] [(.int (17 : Int32)), (.ref a3)])) t
      exact k
    refine On.rld Y83 hx hZ (i := 0) rfl (k := (17 : Int32)) (v := (.ref m17)) (by decide) rfl (g := (mkF m 150 #[.val (.int p0), .val (.ref a3), .val (.int (17 : Int32)), .unset, .unset] [(.int (17 : Int32)), (.ref a3)])) rfl rfl (hb hby at_150) ?_
    show Rn p e below F T82 (mkF m 151 #[.val (.int p0), .val (.ref a3), .val (.int (17 : Int32)), .unset, .unset] [(.ref m17)])
    refine Rn.go (T' := T82) (g' := (mkF m 153 #[.val (.int p0), .val (.ref a3), .val (.int (17 : Int32)), .val (.ref m17), .unset] [(.int (17 : Int32))])) (fun t k => ?_) ?_
    · show Steps p.tables e below (T82.setTop (mkF m 151 #[.val (.int p0), .val (.ref a3), .val (.int (17 : Int32)), .unset, .unset] [(.ref m17)])) t
      refine XS.astoreN Y83.here hx rfl (hb hby at_151) rfl rfl (l' := #[.val (.int p0), .val (.ref a3), .val (.int (17 : Int32)), .val (.ref m17), .unset]) rfl ?_
      show Steps p.tables e below (T82.setTop (mkF m 152 #[.val (.int p0), .val (.ref a3), .val (.int (17 : Int32)), .val (.ref m17), .unset] [])) t
      refine XS.iloadN Y83.here hx rfl (hb hby at_152) rfl ?_
      show Steps p.tables e below (T82.setTop (mkF m 153 #[.val (.int p0), .val (.ref a3), .val (.int (17 : Int32)), .val (.ref m17), .unset] [(.int (17 : Int32))])) t
      exact k
    refine Rn.go (T' := T82) (g' := (mkF m 160 #[.val (.int p0), .val (.ref a3), .val (.int (17 : Int32)), .val (.ref m17), .unset] [])) (fun t k => XS.ifYes Y83.here hx rfl (pc0 := 153) (pc' := 160) rfl (hb hby at_153) rfl ((if0 _ _).trans (feq (by decide)).2) (by decide) (by decide) k) ?_
    refine Rn.go (T' := T82) (g' := (mkF m 164 #[.val (.int p0), .val (.ref a3), .val (.int (17 : Int32)), .val (.ref m17), .val (.int (0 : Int32))] [(.ref m17)])) (fun t k => ?_) ?_
    · show Steps p.tables e below (T82.setTop (mkF m 160 #[.val (.int p0), .val (.ref a3), .val (.int (17 : Int32)), .val (.ref m17), .unset] [])) t
      refine XS.iconst Y83.here hx rfl (hb hby at_160) ?_
      show Steps p.tables e below (T82.setTop (mkF m 161 #[.val (.int p0), .val (.ref a3), .val (.int (17 : Int32)), .val (.ref m17), .unset] [(.int (0 : Int32))])) t
      refine XS.istore Y83.here hx rfl (hb hby at_161) rfl (l' := #[.val (.int p0), .val (.ref a3), .val (.int (17 : Int32)), .val (.ref m17), .val (.int (0 : Int32))]) rfl ?_
      show Steps p.tables e below (T82.setTop (mkF m 163 #[.val (.int p0), .val (.ref a3), .val (.int (17 : Int32)), .val (.ref m17), .val (.int (0 : Int32))] [])) t
      refine XS.aloadN Y83.here hx rfl (hb hby at_163) rfl rfl ?_
      show Steps p.tables e below (T82.setTop (mkF m 164 #[.val (.int p0), .val (.ref a3), .val (.int (17 : Int32)), .val (.ref m17), .val (.int (0 : Int32))] [(.ref m17)])) t
      exact k
    refine On.virtualE Y83 hx hZ (y := (⟨"com/example/vistrace/vistrace/checker/Model", "needsTimes", "()Z"⟩ : MethodName)) (C := "com/example/vistrace/vistrace/checker/Model") hown (w45 hw) (w46 hw) (w47 hw) (w48 hw) (w49 hw) (w3 hw) (by decide) (a := m17) (argsL := []) (rest := []) (E17.ext (On.old Y83)) (rmD l Z a0 hw n0 m17 m0 [ar a3 (.object "com/example/vistrace/vistrace/checker/Model") (20 : Int32) [(.ref m0), (.ref m1), (.ref m2), (.ref m3), (.ref m4), (.ref m5), (.ref m6), (.ref m7), (.ref m8), (.ref m9), (.ref m10), (.ref m11), (.ref m12), (.ref m13), (.ref m14), (.ref m15), (.ref m16), (.ref m17), (.ref m18), (.ref m19)]] S0 N17) (W := 0) (by decide) (by decide) (by decide) (by decide) (g := (mkF m 164 #[.val (.int p0), .val (.ref a3), .val (.int (17 : Int32)), .val (.ref m17), .val (.int (0 : Int32))] [(.ref m17)])) rfl (by rw [hml]; rfl) (lenOf pd0 rfl) rfl (by show 2 * 0 + _ ≤ _; exact Nat.le_of_eq rfl) (hb hby at_164) ?_
    intro T169 u171 D172 hp173 Y170
    obtain ⟨rfl, rfl⟩ := hp173
    replace Y170 : On p l e _ s m _ below meth c Z n0 T169 1 20 [ar a3 (.object "com/example/vistrace/vistrace/checker/Model") (20 : Int32) [(.ref m0), (.ref m1), (.ref m2), (.ref m3), (.ref m4), (.ref m5), (.ref m6), (.ref m7), (.ref m8), (.ref m9), (.ref m10), (.ref m11), (.ref m12), (.ref m13), (.ref m14), (.ref m15), (.ref m16), (.ref m17), (.ref m18), (.ref m19)]] := Y170
    show Rn p e below F T169 (mkF m 167 #[.val (.int p0), .val (.ref a3), .val (.int (17 : Int32)), .val (.ref m17), .val (.int (0 : Int32))] [(.int (0 : Int32))])
    refine Rn.go (T' := T169) (g' := (mkF m 169 #[.val (.int p0), .val (.ref a3), .val (.int (17 : Int32)), .val (.ref m17), .val (.int (0 : Int32))] [(.int (0 : Int32)), (.int (0 : Int32))])) (fun t k => ?_) ?_
    · show Steps p.tables e below (T169.setTop (mkF m 167 #[.val (.int p0), .val (.ref a3), .val (.int (17 : Int32)), .val (.ref m17), .val (.int (0 : Int32))] [(.int (0 : Int32))])) t
      refine XS.iload Y170.here hx rfl (hb hby at_167) rfl ?_
      show Steps p.tables e below (T169.setTop (mkF m 169 #[.val (.int p0), .val (.ref a3), .val (.int (17 : Int32)), .val (.ref m17), .val (.int (0 : Int32))] [(.int (0 : Int32)), (.int (0 : Int32))])) t
      exact k
    refine Rn.go (T' := T169) (g' := (mkF m 172 #[.val (.int p0), .val (.ref a3), .val (.int (17 : Int32)), .val (.ref m17), .val (.int (0 : Int32))] [])) (fun t k => XS.icmpNo Y170.here hx rfl (hb hby at_169) rfl (teq (by decide)).2 k) ?_
    refine Rn.go (T' := T169) (g' := (mkF m 177 #[.val (.int p0), .val (.ref a3), .val (.int (17 : Int32)), .val (.ref m17), .val (.int (0 : Int32))] [(.int (1 : Int32))])) (fun t k => ?_) ?_
    · show Steps p.tables e below (T169.setTop (mkF m 172 #[.val (.int p0), .val (.ref a3), .val (.int (17 : Int32)), .val (.ref m17), .val (.int (0 : Int32))] [])) t
      refine XS.iconst Y170.here hx rfl (hb hby at_172) ?_
      show Steps p.tables e below (T169.setTop (mkF m 173 #[.val (.int p0), .val (.ref a3), .val (.int (17 : Int32)), .val (.ref m17), .val (.int (0 : Int32))] [(.int (1 : Int32))])) t
      refine XS.goto Y170.here hx rfl (pc0 := 173) (pc' := 177) rfl (hb hby at_173) (by decide) (by decide) ?_
      show Steps p.tables e below (T169.setTop (mkF m 177 #[.val (.int p0), .val (.ref a3), .val (.int (17 : Int32)), .val (.ref m17), .val (.int (0 : Int32))] [(.int (1 : Int32))])) t
      exact k
    rw [← hF]; exact On.retn Y170 hx hret (by simp) hlk (z' := (1 : Int32)) (by decide) (hb hby at_177) (by decide) (by decide) rfl
  · subst eo
    show Rn p e below F T82 (mkF m 148 #[.val (.int p0), .val (.ref a3), .val (.int (18 : Int32)), .unset, .unset] [])
    refine Rn.go (T' := T82) (g' := (mkF m 150 #[.val (.int p0), .val (.ref a3), .val (.int (18 : Int32)), .unset, .unset] [(.int (18 : Int32)), (.ref a3)])) (fun t k => ?_) ?_
    · show Steps p.tables e below (T82.setTop (mkF m 148 #[.val (.int p0), .val (.ref a3), .val (.int (18 : Int32)), .unset, .unset] [])) t
      refine XS.aloadN Y83.here hx rfl (hb hby at_148) rfl rfl ?_
      show Steps p.tables e below (T82.setTop (mkF m 149 #[.val (.int p0), .val (.ref a3), .val (.int (18 : Int32)), .unset, .unset] [(.ref a3)])) t
      refine XS.iloadN Y83.here hx rfl (hb hby at_149) rfl ?_
      show Steps p.tables e below (T82.setTop (mkF m 150 #[.val (.int p0), .val (.ref a3), .val (.int (18 : Int32)), .unset, .unset] [(.int (18 : Int32)), (.ref a3)])) t
      exact k
    refine On.rld Y83 hx hZ (i := 0) rfl (k := (18 : Int32)) (v := (.ref m18)) (by decide) rfl (g := (mkF m 150 #[.val (.int p0), .val (.ref a3), .val (.int (18 : Int32)), .unset, .unset] [(.int (18 : Int32)), (.ref a3)])) rfl rfl (hb hby at_150) ?_
    show Rn p e below F T82 (mkF m 151 #[.val (.int p0), .val (.ref a3), .val (.int (18 : Int32)), .unset, .unset] [(.ref m18)])
    refine Rn.go (T' := T82) (g' := (mkF m 153 #[.val (.int p0), .val (.ref a3), .val (.int (18 : Int32)), .val (.ref m18), .unset] [(.int (18 : Int32))])) (fun t k => ?_) ?_
    · show Steps p.tables e below (T82.setTop (mkF m 151 #[.val (.int p0), .val (.ref a3), .val (.int (18 : Int32)), .unset, .unset] [(.ref m18)])) t
      refine XS.astoreN Y83.here hx rfl (hb hby at_151) rfl rfl (l' := #[.val (.int p0), .val (.ref a3), .val (.int (18 : Int32)), .val (.ref m18), .unset]) rfl ?_
      show Steps p.tables e below (T82.setTop (mkF m 152 #[.val (.int p0), .val (.ref a3), .val (.int (18 : Int32)), .val (.ref m18), .unset] [])) t
      refine XS.iloadN Y83.here hx rfl (hb hby at_152) rfl ?_
      show Steps p.tables e below (T82.setTop (mkF m 153 #[.val (.int p0), .val (.ref a3), .val (.int (18 : Int32)), .val (.ref m18), .unset] [(.int (18 : Int32))])) t
      exact k
    refine Rn.go (T' := T82) (g' := (mkF m 160 #[.val (.int p0), .val (.ref a3), .val (.int (18 : Int32)), .val (.ref m18), .unset] [])) (fun t k => XS.ifYes Y83.here hx rfl (pc0 := 153) (pc' := 160) rfl (hb hby at_153) rfl ((if0 _ _).trans (feq (by decide)).2) (by decide) (by decide) k) ?_
    refine Rn.go (T' := T82) (g' := (mkF m 164 #[.val (.int p0), .val (.ref a3), .val (.int (18 : Int32)), .val (.ref m18), .val (.int (0 : Int32))] [(.ref m18)])) (fun t k => ?_) ?_
    · show Steps p.tables e below (T82.setTop (mkF m 160 #[.val (.int p0), .val (.ref a3), .val (.int (18 : Int32)), .val (.ref m18), .unset] [])) t
      refine XS.iconst Y83.here hx rfl (hb hby at_160) ?_
      show Steps p.tables e below (T82.setTop (mkF m 161 #[.val (.int p0), .val (.ref a3), .val (.int (18 : Int32)), .val (.ref m18), .unset] [(.int (0 : Int32))])) t
      refine XS.istore Y83.here hx rfl (hb hby at_161) rfl (l' := #[.val (.int p0), .val (.ref a3), .val (.int (18 : Int32)), .val (.ref m18), .val (.int (0 : Int32))]) rfl ?_
      show Steps p.tables e below (T82.setTop (mkF m 163 #[.val (.int p0), .val (.ref a3), .val (.int (18 : Int32)), .val (.ref m18), .val (.int (0 : Int32))] [])) t
      refine XS.aloadN Y83.here hx rfl (hb hby at_163) rfl rfl ?_
      show Steps p.tables e below (T82.setTop (mkF m 164 #[.val (.int p0), .val (.ref a3), .val (.int (18 : Int32)), .val (.ref m18), .val (.int (0 : Int32))] [(.ref m18)])) t
      exact k
    refine On.virtualE Y83 hx hZ (y := (⟨"com/example/vistrace/vistrace/checker/Model", "needsTimes", "()Z"⟩ : MethodName)) (C := "com/example/vistrace/vistrace/checker/Model") hown (w45 hw) (w46 hw) (w47 hw) (w48 hw) (w49 hw) (w3 hw) (by decide) (a := m18) (argsL := []) (rest := []) (E18.ext (On.old Y83)) (rmD l Z a0 hw n0 m18 m0 [ar a3 (.object "com/example/vistrace/vistrace/checker/Model") (20 : Int32) [(.ref m0), (.ref m1), (.ref m2), (.ref m3), (.ref m4), (.ref m5), (.ref m6), (.ref m7), (.ref m8), (.ref m9), (.ref m10), (.ref m11), (.ref m12), (.ref m13), (.ref m14), (.ref m15), (.ref m16), (.ref m17), (.ref m18), (.ref m19)]] S0 N18) (W := 0) (by decide) (by decide) (by decide) (by decide) (g := (mkF m 164 #[.val (.int p0), .val (.ref a3), .val (.int (18 : Int32)), .val (.ref m18), .val (.int (0 : Int32))] [(.ref m18)])) rfl (by rw [hml]; rfl) (lenOf pd0 rfl) rfl (by show 2 * 0 + _ ≤ _; exact Nat.le_of_eq rfl) (hb hby at_164) ?_
    intro T174 u176 D177 hp178 Y175
    obtain ⟨rfl, rfl⟩ := hp178
    replace Y175 : On p l e _ s m _ below meth c Z n0 T174 1 20 [ar a3 (.object "com/example/vistrace/vistrace/checker/Model") (20 : Int32) [(.ref m0), (.ref m1), (.ref m2), (.ref m3), (.ref m4), (.ref m5), (.ref m6), (.ref m7), (.ref m8), (.ref m9), (.ref m10), (.ref m11), (.ref m12), (.ref m13), (.ref m14), (.ref m15), (.ref m16), (.ref m17), (.ref m18), (.ref m19)]] := Y175
    show Rn p e below F T174 (mkF m 167 #[.val (.int p0), .val (.ref a3), .val (.int (18 : Int32)), .val (.ref m18), .val (.int (0 : Int32))] [(.int (0 : Int32))])
    refine Rn.go (T' := T174) (g' := (mkF m 169 #[.val (.int p0), .val (.ref a3), .val (.int (18 : Int32)), .val (.ref m18), .val (.int (0 : Int32))] [(.int (0 : Int32)), (.int (0 : Int32))])) (fun t k => ?_) ?_
    · show Steps p.tables e below (T174.setTop (mkF m 167 #[.val (.int p0), .val (.ref a3), .val (.int (18 : Int32)), .val (.ref m18), .val (.int (0 : Int32))] [(.int (0 : Int32))])) t
      refine XS.iload Y175.here hx rfl (hb hby at_167) rfl ?_
      show Steps p.tables e below (T174.setTop (mkF m 169 #[.val (.int p0), .val (.ref a3), .val (.int (18 : Int32)), .val (.ref m18), .val (.int (0 : Int32))] [(.int (0 : Int32)), (.int (0 : Int32))])) t
      exact k
    refine Rn.go (T' := T174) (g' := (mkF m 172 #[.val (.int p0), .val (.ref a3), .val (.int (18 : Int32)), .val (.ref m18), .val (.int (0 : Int32))] [])) (fun t k => XS.icmpNo Y175.here hx rfl (hb hby at_169) rfl (teq (by decide)).2 k) ?_
    refine Rn.go (T' := T174) (g' := (mkF m 177 #[.val (.int p0), .val (.ref a3), .val (.int (18 : Int32)), .val (.ref m18), .val (.int (0 : Int32))] [(.int (1 : Int32))])) (fun t k => ?_) ?_
    · show Steps p.tables e below (T174.setTop (mkF m 172 #[.val (.int p0), .val (.ref a3), .val (.int (18 : Int32)), .val (.ref m18), .val (.int (0 : Int32))] [])) t
      refine XS.iconst Y175.here hx rfl (hb hby at_172) ?_
      show Steps p.tables e below (T174.setTop (mkF m 173 #[.val (.int p0), .val (.ref a3), .val (.int (18 : Int32)), .val (.ref m18), .val (.int (0 : Int32))] [(.int (1 : Int32))])) t
      refine XS.goto Y175.here hx rfl (pc0 := 173) (pc' := 177) rfl (hb hby at_173) (by decide) (by decide) ?_
      show Steps p.tables e below (T174.setTop (mkF m 177 #[.val (.int p0), .val (.ref a3), .val (.int (18 : Int32)), .val (.ref m18), .val (.int (0 : Int32))] [(.int (1 : Int32))])) t
      exact k
    rw [← hF]; exact On.retn Y175 hx hret (by simp) hlk (z' := (1 : Int32)) (by decide) (hb hby at_177) (by decide) (by decide) rfl
  · subst eo
    show Rn p e below F T82 (mkF m 148 #[.val (.int p0), .val (.ref a3), .val (.int (19 : Int32)), .unset, .unset] [])
    refine Rn.go (T' := T82) (g' := (mkF m 150 #[.val (.int p0), .val (.ref a3), .val (.int (19 : Int32)), .unset, .unset] [(.int (19 : Int32)), (.ref a3)])) (fun t k => ?_) ?_
    · show Steps p.tables e below (T82.setTop (mkF m 148 #[.val (.int p0), .val (.ref a3), .val (.int (19 : Int32)), .unset, .unset] [])) t
      refine XS.aloadN Y83.here hx rfl (hb hby at_148) rfl rfl ?_
      show Steps p.tables e below (T82.setTop (mkF m 149 #[.val (.int p0), .val (.ref a3), .val (.int (19 : Int32)), .unset, .unset] [(.ref a3)])) t
      refine XS.iloadN Y83.here hx rfl (hb hby at_149) rfl ?_
      show Steps p.tables e below (T82.setTop (mkF m 150 #[.val (.int p0), .val (.ref a3), .val (.int (19 : Int32)), .unset, .unset] [(.int (19 : Int32)), (.ref a3)])) t
      exact k
    refine On.rld Y83 hx hZ (i := 0) rfl (k := (19 : Int32)) (v := (.ref m19)) (by decide) rfl (g := (mkF m 150 #[.val (.int p0), .val (.ref a3), .val (.int (19 : Int32)), .unset, .unset] [(.int (19 : Int32)), (.ref a3)])) rfl rfl (hb hby at_150) ?_
    show Rn p e below F T82 (mkF m 151 #[.val (.int p0), .val (.ref a3), .val (.int (19 : Int32)), .unset, .unset] [(.ref m19)])
    refine Rn.go (T' := T82) (g' := (mkF m 153 #[.val (.int p0), .val (.ref a3), .val (.int (19 : Int32)), .val (.ref m19), .unset] [(.int (19 : Int32))])) (fun t k => ?_) ?_
    · show Steps p.tables e below (T82.setTop (mkF m 151 #[.val (.int p0), .val (.ref a3), .val (.int (19 : Int32)), .unset, .unset] [(.ref m19)])) t
      refine XS.astoreN Y83.here hx rfl (hb hby at_151) rfl rfl (l' := #[.val (.int p0), .val (.ref a3), .val (.int (19 : Int32)), .val (.ref m19), .unset]) rfl ?_
      show Steps p.tables e below (T82.setTop (mkF m 152 #[.val (.int p0), .val (.ref a3), .val (.int (19 : Int32)), .val (.ref m19), .unset] [])) t
      refine XS.iloadN Y83.here hx rfl (hb hby at_152) rfl ?_
      show Steps p.tables e below (T82.setTop (mkF m 153 #[.val (.int p0), .val (.ref a3), .val (.int (19 : Int32)), .val (.ref m19), .unset] [(.int (19 : Int32))])) t
      exact k
    refine Rn.go (T' := T82) (g' := (mkF m 160 #[.val (.int p0), .val (.ref a3), .val (.int (19 : Int32)), .val (.ref m19), .unset] [])) (fun t k => XS.ifYes Y83.here hx rfl (pc0 := 153) (pc' := 160) rfl (hb hby at_153) rfl ((if0 _ _).trans (feq (by decide)).2) (by decide) (by decide) k) ?_
    refine Rn.go (T' := T82) (g' := (mkF m 164 #[.val (.int p0), .val (.ref a3), .val (.int (19 : Int32)), .val (.ref m19), .val (.int (0 : Int32))] [(.ref m19)])) (fun t k => ?_) ?_
    · show Steps p.tables e below (T82.setTop (mkF m 160 #[.val (.int p0), .val (.ref a3), .val (.int (19 : Int32)), .val (.ref m19), .unset] [])) t
      refine XS.iconst Y83.here hx rfl (hb hby at_160) ?_
      show Steps p.tables e below (T82.setTop (mkF m 161 #[.val (.int p0), .val (.ref a3), .val (.int (19 : Int32)), .val (.ref m19), .unset] [(.int (0 : Int32))])) t
      refine XS.istore Y83.here hx rfl (hb hby at_161) rfl (l' := #[.val (.int p0), .val (.ref a3), .val (.int (19 : Int32)), .val (.ref m19), .val (.int (0 : Int32))]) rfl ?_
      show Steps p.tables e below (T82.setTop (mkF m 163 #[.val (.int p0), .val (.ref a3), .val (.int (19 : Int32)), .val (.ref m19), .val (.int (0 : Int32))] [])) t
      refine XS.aloadN Y83.here hx rfl (hb hby at_163) rfl rfl ?_
      show Steps p.tables e below (T82.setTop (mkF m 164 #[.val (.int p0), .val (.ref a3), .val (.int (19 : Int32)), .val (.ref m19), .val (.int (0 : Int32))] [(.ref m19)])) t
      exact k
    refine On.virtualE Y83 hx hZ (y := (⟨"com/example/vistrace/vistrace/checker/Model", "needsTimes", "()Z"⟩ : MethodName)) (C := "com/example/vistrace/vistrace/checker/Model") hown (w45 hw) (w46 hw) (w47 hw) (w48 hw) (w49 hw) (w3 hw) (by decide) (a := m19) (argsL := []) (rest := []) (E19.ext (On.old Y83)) (rmD l Z a0 hw n0 m19 m0 [ar a3 (.object "com/example/vistrace/vistrace/checker/Model") (20 : Int32) [(.ref m0), (.ref m1), (.ref m2), (.ref m3), (.ref m4), (.ref m5), (.ref m6), (.ref m7), (.ref m8), (.ref m9), (.ref m10), (.ref m11), (.ref m12), (.ref m13), (.ref m14), (.ref m15), (.ref m16), (.ref m17), (.ref m18), (.ref m19)]] S0 N19) (W := 0) (by decide) (by decide) (by decide) (by decide) (g := (mkF m 164 #[.val (.int p0), .val (.ref a3), .val (.int (19 : Int32)), .val (.ref m19), .val (.int (0 : Int32))] [(.ref m19)])) rfl (by rw [hml]; rfl) (lenOf pd0 rfl) rfl (by show 2 * 0 + _ ≤ _; exact Nat.le_of_eq rfl) (hb hby at_164) ?_
    intro T179 u181 D182 hp183 Y180
    obtain ⟨rfl, rfl⟩ := hp183
    replace Y180 : On p l e _ s m _ below meth c Z n0 T179 1 20 [ar a3 (.object "com/example/vistrace/vistrace/checker/Model") (20 : Int32) [(.ref m0), (.ref m1), (.ref m2), (.ref m3), (.ref m4), (.ref m5), (.ref m6), (.ref m7), (.ref m8), (.ref m9), (.ref m10), (.ref m11), (.ref m12), (.ref m13), (.ref m14), (.ref m15), (.ref m16), (.ref m17), (.ref m18), (.ref m19)]] := Y180
    show Rn p e below F T179 (mkF m 167 #[.val (.int p0), .val (.ref a3), .val (.int (19 : Int32)), .val (.ref m19), .val (.int (0 : Int32))] [(.int (0 : Int32))])
    refine Rn.go (T' := T179) (g' := (mkF m 169 #[.val (.int p0), .val (.ref a3), .val (.int (19 : Int32)), .val (.ref m19), .val (.int (0 : Int32))] [(.int (0 : Int32)), (.int (0 : Int32))])) (fun t k => ?_) ?_
    · show Steps p.tables e below (T179.setTop (mkF m 167 #[.val (.int p0), .val (.ref a3), .val (.int (19 : Int32)), .val (.ref m19), .val (.int (0 : Int32))] [(.int (0 : Int32))])) t
      refine XS.iload Y180.here hx rfl (hb hby at_167) rfl ?_
      show Steps p.tables e below (T179.setTop (mkF m 169 #[.val (.int p0), .val (.ref a3), .val (.int (19 : Int32)), .val (.ref m19), .val (.int (0 : Int32))] [(.int (0 : Int32)), (.int (0 : Int32))])) t
      exact k
    refine Rn.go (T' := T179) (g' := (mkF m 172 #[.val (.int p0), .val (.ref a3), .val (.int (19 : Int32)), .val (.ref m19), .val (.int (0 : Int32))] [])) (fun t k => XS.icmpNo Y180.here hx rfl (hb hby at_169) rfl (teq (by decide)).2 k) ?_
    refine Rn.go (T' := T179) (g' := (mkF m 177 #[.val (.int p0), .val (.ref a3), .val (.int (19 : Int32)), .val (.ref m19), .val (.int (0 : Int32))] [(.int (1 : Int32))])) (fun t k => ?_) ?_
    · show Steps p.tables e below (T179.setTop (mkF m 172 #[.val (.int p0), .val (.ref a3), .val (.int (19 : Int32)), .val (.ref m19), .val (.int (0 : Int32))] [])) t
      refine XS.iconst Y180.here hx rfl (hb hby at_172) ?_
      show Steps p.tables e below (T179.setTop (mkF m 173 #[.val (.int p0), .val (.ref a3), .val (.int (19 : Int32)), .val (.ref m19), .val (.int (0 : Int32))] [(.int (1 : Int32))])) t
      refine XS.goto Y180.here hx rfl (pc0 := 173) (pc' := 177) rfl (hb hby at_173) (by decide) (by decide) ?_
      show Steps p.tables e below (T179.setTop (mkF m 177 #[.val (.int p0), .val (.ref a3), .val (.int (19 : Int32)), .val (.ref m19), .val (.int (0 : Int32))] [(.int (1 : Int32))])) t
      exact k
    rw [← hF]; exact On.retn Y180 hx hret (by simp) hlk (z' := (1 : Int32)) (by decide) (hb hby at_177) (by decide) (by decide) rfl
set_option maxRecDepth 65536 in
set_option maxHeartbeats 40000000 in
theorem comes_1 {Post : Tables → Env → Array Value → State → Outcome → State → Prop} (hpost : ∀ tb e args s v u, (limb_1_1.after args s (.returned v) u = true ∧ limb_1_2.after args s (.returned v) u = true ∧ True) → FrameEnd s (.returned v) u (Jvm.fieldLocs frame_1_writes args s ++ Jvm.arrayLocs frame_1_arrays args s ++ Jvm.staticLocs frame_1_statics s) 16 128 → Post tb e args s (.returned v) u) :
    ArmFor flags0 classFile x code maxLocals ret World_1 tables_1 room_1 Calls_1 rest_1 Pre_1 Post := by
  intro l hfl _ _ p e ha hc hk s m args below hf hA hF happ hP
  obtain ⟨hcalls, hrest, hpre⟩ := hP
  obtain ⟨-, -, -, hnamed, -, -, -, hat⟩ := (Spec.applies_iff hf).mp happ
  obtain ⟨hg, hn⟩ := and_e (Cond.before_iff.mp (show (Jvm.Cond.and given_1 narrow_1).before args s = true from hpre))
  obtain ⟨g1, g2⟩ := and_e hg
  obtain ⟨w0, rfl⟩ : ∃ w0 : Value, args = #[w0] := by
    have hs : args.size = 1 := by simpa [Cond.value, given_1] using g1
    obtain ⟨L⟩ := args
    match L, hs with
    | [w0], _ => exact ⟨w0, rfl⟩
  have hw := fun d (hd : d ∈ tables_1) => atoms_spec (ws := Jvm.Cond.code x code maxLocals ret :: tables_1) hat d (List.mem_cons_of_mem _ hd)
  obtain ⟨i0, ei0⟩ := is_v g2
  obtain rfl : w0 = (.int i0) := Option.some.inj ei0
  obtain ⟨u1, u2⟩ := and_e hn
  obtain ⟨u3, u4⟩ := and_e u2
  obtain ⟨u5, u6⟩ := and_e u4
  obtain ⟨u7, u8⟩ := and_e u6
  obtain ⟨u9, u10⟩ := and_e u8
  obtain ⟨u11, u12⟩ := and_e u10
  obtain ⟨u13, u14⟩ := and_e u12
  obtain ⟨u15, u16⟩ := and_e u14
  obtain ⟨u17, u18⟩ := and_e u16
  obtain ⟨u19, u20⟩ := and_e u18
  obtain ⟨u21, u22⟩ := and_e u20
  obtain ⟨u23, u24⟩ := and_e u22
  obtain ⟨u25, u26⟩ := and_e u24
  obtain ⟨u27, u28⟩ := and_e u26
  obtain ⟨u29, u30⟩ := and_e u28
  obtain ⟨u31, u32⟩ := and_e u30
  obtain ⟨u33, u34⟩ := and_e u32
  obtain ⟨u35, u36⟩ := and_e u34
  obtain ⟨u37, u38⟩ := and_e u36
  obtain ⟨u39, u40⟩ := and_e u38
  obtain ⟨u41, u42⟩ := and_e u40
  obtain ⟨u43, u44⟩ := and_e u42
  obtain ⟨u45, u46⟩ := and_e u44
  obtain ⟨u47, u48⟩ := and_e u46
  obtain ⟨u49, u50⟩ := and_e u48
  obtain ⟨u51, u52⟩ := and_e u50
  obtain ⟨u53, u54⟩ := and_e u52
  obtain ⟨u55, u56⟩ := and_e u54
  obtain ⟨u57, u58⟩ := and_e u56
  obtain ⟨u59, u60⟩ := and_e u58
  obtain ⟨u61, u62⟩ := and_e u60
  obtain ⟨u63, u64⟩ := and_e u62
  obtain ⟨u65, u66⟩ := and_e u64
  obtain ⟨u67, u68⟩ := and_e u66
  obtain ⟨u69, u70⟩ := and_e u68
  obtain ⟨u71, u72⟩ := and_e u70
  obtain ⟨u73, u74⟩ := and_e u72
  obtain ⟨u75, u76⟩ := and_e u74
  obtain ⟨u77, u78⟩ := and_e u76
  obtain ⟨m0, v0, S0, E0⟩ := own_fact u1 (w3 hw) (w4 hw)
  obtain ⟨m1, v1, S1, E1⟩ := own_fact u3 (w3 hw) (w7 hw)
  obtain ⟨m2, v2, S2, E2⟩ := own_fact u5 (w3 hw) (w9 hw)
  obtain ⟨m3, v3, S3, E3⟩ := own_fact u7 (w3 hw) (w11 hw)
  obtain ⟨m4, v4, S4, E4⟩ := own_fact u9 (w3 hw) (w13 hw)
  obtain ⟨m5, v5, S5, E5⟩ := own_fact u11 (w3 hw) (w15 hw)
  obtain ⟨m6, v6, S6, E6⟩ := own_fact u13 (w3 hw) (w17 hw)
  obtain ⟨m7, v7, S7, E7⟩ := own_fact u15 (w3 hw) (w19 hw)
  obtain ⟨m8, v8, S8, E8⟩ := own_fact u17 (w3 hw) (w21 hw)
  obtain ⟨m9, v9, S9, E9⟩ := own_fact u19 (w3 hw) (w23 hw)
  obtain ⟨m10, v10, S10, E10⟩ := own_fact u21 (w3 hw) (w25 hw)
  obtain ⟨m11, v11, S11, E11⟩ := own_fact u23 (w3 hw) (w27 hw)
  obtain ⟨m12, v12, S12, E12⟩ := own_fact u25 (w3 hw) (w29 hw)
  obtain ⟨m13, v13, S13, E13⟩ := own_fact u27 (w3 hw) (w31 hw)
  obtain ⟨m14, v14, S14, E14⟩ := own_fact u29 (w3 hw) (w33 hw)
  obtain ⟨m15, v15, S15, E15⟩ := own_fact u31 (w3 hw) (w35 hw)
  obtain ⟨m16, v16, S16, E16⟩ := own_fact u33 (w3 hw) (w37 hw)
  obtain ⟨m17, v17, S17, E17⟩ := own_fact u35 (w3 hw) (w39 hw)
  obtain ⟨m18, v18, S18, E18⟩ := own_fact u37 (w3 hw) (w41 hw)
  obtain ⟨m19, v19, S19, E19⟩ := own_fact u39 (w3 hw) (w43 hw)
  have N1 : m1 ≠ m0 := own_ne v1 v0 u57 u43 (by decide)
  have N2 : m2 ≠ m0 := own_ne v2 v0 u53 u43 (by decide)
  have N3 : m3 ≠ m0 := own_ne v3 v0 u41 u43 (by decide)
  have N4 : m4 ≠ m0 := own_ne v4 v0 u73 u43 (by decide)
  have N5 : m5 ≠ m0 := own_ne v5 v0 u71 u43 (by decide)
  have N6 : m6 ≠ m0 := own_ne v6 v0 u63 u43 (by decide)
  have N7 : m7 ≠ m0 := own_ne v7 v0 u51 u43 (by decide)
  have N8 : m8 ≠ m0 := own_ne v8 v0 u55 u43 (by decide)
  have N9 : m9 ≠ m0 := own_ne v9 v0 u75 u43 (by decide)
  have N10 : m10 ≠ m0 := own_ne v10 v0 u45 u43 (by decide)
  have N11 : m11 ≠ m0 := own_ne v11 v0 u47 u43 (by decide)
  have N12 : m12 ≠ m0 := own_ne v12 v0 u69 u43 (by decide)
  have N13 : m13 ≠ m0 := own_ne v13 v0 u77 u43 (by decide)
  have N14 : m14 ≠ m0 := own_ne v14 v0 u49 u43 (by decide)
  have N15 : m15 ≠ m0 := own_ne v15 v0 u61 u43 (by decide)
  have N16 : m16 ≠ m0 := own_ne v16 v0 u67 u43 (by decide)
  have N17 : m17 ≠ m0 := own_ne v17 v0 u65 u43 (by decide)
  have N18 : m18 ≠ m0 := own_ne v18 v0 u78 u43 (by decide)
  have N19 : m19 ≠ m0 := own_ne v19 v0 u59 u43 (by decide)
  obtain ⟨n, o, h1, h2, h3, _, L, rfl, ⟨D', rfl, N, -⟩, hq⟩ := rm0 l s _ hw s.heap.size i0 m0 m1 m2 m3 m4 m5 m6 m7 m8 m9 m10 m11 m12 m13 m14 m15 m16 m17 m18 m19 S0 S1 S2 S3 S4 S5 S6 S7 S8 S9 S10 S11 S12 S13 S14 S15 S16 S17 S18 S19 E0 E1 E2 E3 E4 E5 E6 E7 E8 E9 E10 E11 E12 E13 E14 E15 E16 E17 E18 E19 N1 N2 N3 N4 N5 N6 N7 N8 N9 N10 N11 N12 N13 N14 N15 N16 N17 N18 N19 tables_1 s.heap (Hp.nil s) p e ha hc hk s m _ below hf ((Spec.applies_iff_loose hf).mp happ).1 ⟨rfl, State.Warmed39.refl s, rfl⟩ trivial
  refine ⟨n, _, h1, h2, h3, hpost _ _ _ _ _ _ ⟨Cond.after_iff.mpr rfl, Cond.after_iff.mpr (eq_i res_at (Term.int_eval (1)) rfl), trivial⟩ ⟨hq.1, hq.2.1, (hq.2.2.sift fun y hy => Or.inr (N y hy)).mono (by decide) (by decide)⟩⟩
theorem main_1_1 : Claimed_1_1 := comes_1 fun _ _ _ _ _ _ h hF => ⟨h.1, hF⟩
theorem main_1_2 : Claimed_1_2 := comes_1 fun _ _ _ _ _ _ h hF => ⟨h.2.1, hF⟩
end Jvm.Pilot.@@N@@
namespace Jvm.Pilot.@@N@@
open Jvm Jvm.ClassFile Sem Op Lib Jvm.Free Jvm.Stand Jvm.Pilot.@@N@@.Jvm.D
/-! MADE BY PROGRAM (witnessworld.py) out of the Statement's table words and the real class files: 14 classes; the members and pool entries that the words name. The judged class is class 1, her method 1. -/
namespace start1
open Jvm.ClassFile
def u (s : String) : CpInfo := .utf8 (stringToUtf16 s)
/-- a pool by its gaps: so many unusable entries, then the entry; so many at the end -/
def gap : Nat → List CpInfo → List CpInfo
  | 0, r => r
  | n + 1, r => .unusable :: gap n r
def poolList (es : List (Nat × CpInfo)) (last : Nat) : List CpInfo := es.foldr (fun e r => gap e.1 (e.2 :: r)) (gap last [])
def pool (es : List (Nat × CpInfo)) (last : Nat) : Array CpInfo := ⟨poolList es last⟩
def fileOf (pool : Array CpInfo) (this : Nat) (attrs : Array Attribute := #[]) (ms : Array MethodInfo := #[]) (fl : Nat := 33) (sup : Nat := 0) (ifs : Array Nat := #[]) (fds : Array FieldInfo := #[]) : ClassFile where
  minorVersion := 0
  majorVersion := 65
  constantPool := pool
  accessFlags := fl
  thisClass := this
  superClass := sup
  interfaces := ifs
  fields := fds
  methods := ms
  attributes := attrs
def plain (name : String) (sup : Option ClassId) : Class where
  name := name
  kind := .ordinary
  loader := none
  accessFlags := 33
  super := sup
  interfaces := #[]
  cf := none
  fields := #[]
  methods := #[]
  instanceTypes := #[]
  staticTypes := #[]
  resolved := #[]
  callSites := []
  init := .initialized
  statics := none
  mirror := none

def pool0 : Array CpInfo := pool [(5, u "<init>"), (0, u "()V"), (1, .class_ 10), (1, u "java/lang/Object")] 113

def k0m0 : Method := { name := "<init>", desc := "()V", sig := { parameters := [], returnType := none }, accessFlags := 1, code := none }
/-- java/lang/Object -/
def k0 : Class := { plain "java/lang/Object" none with
  accessFlags := 33
  interfaces := #[]
  cf := some (fileOf pool0 8 #[] #[{ accessFlags := 1, nameIndex := 5, descriptorIndex := 6, attributes := #[] }] 33 0 #[] #[])
  fields := #[]
  methods := #[k0m0]
  instanceTypes := #[]
  staticTypes := #[]
  resolved := Array.replicate 124 none
  statics := none }

def pool1 : Array CpInfo := pool [(2, .class_ 4), (1, u "java/lang/Object"), (0, u "<init>"), (0, u "()V"), (0, .class_ 8), (0, u "com/example/vistrace/vistrace/checker/Model"), (0, .fieldref 7 10), (0, .nameAndType 11 12), (0, u "LINEARIZABLE"), (0, u "Lcom/example/vistrace/vistrace/checker/Model;"), (0, .fieldref 7 14), (0, .nameAndType 15 12), (0, u "SEQUENTIAL"), (0, .fieldref 7 17), (0, .nameAndType 18 12), (0, u "CONVERGENT_CAUSAL"), (0, .fieldref 7 20), (0, .nameAndType 21 12), (0, u "CAUSAL"), (0, .fieldref 7 23), (0, .nameAndType 24 12), (0, u "CAUSAL_PREFIX"), (0, .fieldref 7 26), (0, .nameAndType 27 12), (0, u "CAUSAL_REPLAY"), (0, .fieldref 7 29), (0, .nameAndType 30 12), (0, u "PIPELINED"), (0, .fieldref 7 32), (0, .nameAndType 33 12), (0, u "PIPELINED_PREFIX"), (0, .fieldref 7 35), (0, .nameAndType 36 12), (0, u "PIPELINED_REPLAY"), (0, .fieldref 7 38), (0, .nameAndType 39 12), (0, u "SERIAL"), (0, .fieldref 7 41), (0, .nameAndType 42 12), (0, u "PREFIX"), (0, .fieldref 7 44), (0, .nameAndType 45 12), (0, u "REPLAY"), (0, .fieldref 7 47), (0, .nameAndType 48 12), (0, u "CAUSALITY"), (0, .fieldref 7 50), (0, .nameAndType 51 12), (0, u "PIPELINING"), (0, .fieldref 7 53), (0, .nameAndType 54 12), (0, u "ARBITRATION"), (0, .fieldref 7 56), (0, .nameAndType 57 12), (0, u "CONVERGENCE"), (0, .fieldref 7 59), (0, .nameAndType 60 12), (0, u "CLOSED_PAST"), (0, .fieldref 7 62), (0, .nameAndType 63 12), (0, u "LOCAL_VISIBILITY"), (0, .fieldref 7 65), (0, .nameAndType 66 12), (0, u "MONOTONIC_VISIBILITY"), (0, .fieldref 7 68), (0, .nameAndType 69 12), (0, u "VALID"), (0, .integer 2147483647), (0, .methodref 7 72), (0, .nameAndType 73 74), (0, u "needsTimes"), (0, u "()Z"), (0, .class_ 76), (0, u "com/example/vistrace/vistrace/checker/ModelNeedsTimesPinLaw"), (2, u "law"), (0, u "(I)Z")] 5

def k1m0 : Method := { name := "<init>", desc := "()V", sig := { parameters := [], returnType := none }, accessFlags := 1, code := none }
def k1c1 : Code := { maxStack := 4, maxLocals := 5, code := code, exceptionTable := #[], attributes := #[] }
def k1m1 : Method := { name := "law", desc := "(I)Z", sig := { parameters := [.int], returnType := some .boolean }, accessFlags := 9, code := some k1c1 }
/-- com/example/vistrace/vistrace/checker/ModelNeedsTimesPinLaw -/
def k1 : Class := { plain "com/example/vistrace/vistrace/checker/ModelNeedsTimesPinLaw" (some 0) with
  accessFlags := 49
  interfaces := #[]
  cf := some (fileOf pool1 75 #[] #[{ accessFlags := 1, nameIndex := 5, descriptorIndex := 6, attributes := #[] }, { accessFlags := 9, nameIndex := 79, descriptorIndex := 80, attributes := #[] }] 49 2 #[] #[])
  fields := #[]
  methods := #[k1m0, k1m1]
  instanceTypes := #[]
  staticTypes := #[]
  resolved := Array.replicate 86 none
  statics := none }

def pool2 : Array CpInfo := pool [(1, .class_ 2), (0, u "java/lang/constant/Constable"), (0, .class_ 4), (0, u "java/lang/Object")] 6

/-- java/lang/constant/Constable -/
def k2 : Class := { plain "java/lang/constant/Constable" (some 0) with
  accessFlags := 1537
  interfaces := #[]
  cf := some (fileOf pool2 1 #[] #[] 1537 3 #[] #[])
  fields := #[]
  methods := #[]
  instanceTypes := #[]
  staticTypes := #[]
  resolved := Array.replicate 11 none
  statics := none }

def pool3 : Array CpInfo := pool [(1, .class_ 2), (0, u "java/lang/Comparable"), (0, .class_ 4), (0, u "java/lang/Object")] 7

/-- java/lang/Comparable -/
def k3 : Class := { plain "java/lang/Comparable" (some 0) with
  accessFlags := 1537
  interfaces := #[]
  cf := some (fileOf pool3 1 #[] #[] 1537 3 #[] #[])
  fields := #[]
  methods := #[]
  instanceTypes := #[]
  staticTypes := #[]
  resolved := Array.replicate 12 none
  statics := none }

def pool4 : Array CpInfo := pool [(1, .class_ 2), (0, u "java/io/Serializable"), (0, .class_ 4), (0, u "java/lang/Object")] 2

/-- java/io/Serializable -/
def k4 : Class := { plain "java/io/Serializable" (some 0) with
  accessFlags := 1537
  interfaces := #[]
  cf := some (fileOf pool4 1 #[] #[] 1537 3 #[] #[])
  fields := #[]
  methods := #[]
  instanceTypes := #[]
  staticTypes := #[]
  resolved := Array.replicate 7 none
  statics := none }

def pool5 : Array CpInfo := pool [(2, .class_ 4), (1, u "java/lang/Enum"), (0, u "name"), (0, u "Ljava/lang/String;"), (2, u "ordinal"), (0, u "I"), (1, .class_ 14), (1, u "java/lang/Object"), (4, u "hash"), (86, .class_ 108), (1, u "java/lang/Enum$EnumDesc"), (2, .class_ 112), (0, u "java/lang/constant/Constable"), (0, .class_ 114), (0, u "java/lang/Comparable"), (0, .class_ 116), (0, u "java/io/Serializable")] 87

/-- java/lang/Enum -/
def k5 : Class := { plain "java/lang/Enum" (some 0) with
  accessFlags := 1057
  interfaces := #[2, 3, 4]
  cf := some (fileOf pool5 2 #[.nestMembers #[106]] #[] 1057 12 #[111, 113, 115] #[{ accessFlags := 18, nameIndex := 5, descriptorIndex := 6, attributes := #[] }, { accessFlags := 18, nameIndex := 9, descriptorIndex := 10, attributes := #[] }, { accessFlags := 2, nameIndex := 19, descriptorIndex := 10, attributes := #[] }])
  fields := #[{ name := "name", type := (.object "java/lang/String"), accessFlags := 18, slot := 0, constantValue := 0 }, { name := "ordinal", type := .int, accessFlags := 18, slot := 1, constantValue := 0 }, { name := "hash", type := .int, accessFlags := 2, slot := 2, constantValue := 0 }]
  methods := #[]
  instanceTypes := #[(.object "java/lang/String"), .int, .int]
  staticTypes := #[]
  resolved := Array.replicate 204 none
  statics := none }

def pool6 : Array CpInfo := pool [(1, .class_ 2), (0, u "com/example/vistrace/vistrace/history/Named"), (0, .class_ 4), (0, u "java/lang/Object")] 4

/-- com/example/vistrace/vistrace/history/Named -/
def k6 : Class := { plain "com/example/vistrace/vistrace/history/Named" (some 0) with
  accessFlags := 1537
  interfaces := #[]
  cf := some (fileOf pool6 1 #[] #[] 1537 3 #[] #[])
  fields := #[]
  methods := #[]
  instanceTypes := #[]
  staticTypes := #[]
  resolved := Array.replicate 9 none
  statics := none }

def pool7 : Array CpInfo := pool [(1, .class_ 2), (0, u "com/example/vistrace/vistrace/checker/Model"), (0, .fieldref 1 4), (0, .nameAndType 5 6), (0, u "LINEARIZABLE"), (0, u "Lcom/example/vistrace/vistrace/checker/Model;"), (2, u "SEQUENTIAL"), (2, u "CONVERGENT_CAUSAL"), (2, u "CAUSAL"), (2, u "CAUSAL_PREFIX"), (2, u "CAUSAL_REPLAY"), (2, u "PIPELINED"), (2, u "PIPELINED_PREFIX"), (2, u "PIPELINED_REPLAY"), (2, u "SERIAL"), (2, u "PREFIX"), (2, u "REPLAY"), (2, u "CAUSALITY"), (2, u "PIPELINING"), (2, u "ARBITRATION"), (2, u "CONVERGENCE"), (2, u "CLOSED_PAST"), (2, u "LOCAL_VISIBILITY"), (2, u "MONOTONIC_VISIBILITY"), (2, u "VALID"), (2, u "$VALUES"), (0, u "[Lcom/example/vistrace/vistrace/checker/Model;"), (6, .class_ 76), (1, u "java/lang/Enum"), (8, u "word"), (0, u "Ljava/lang/String;"), (22, u "()Z"), (116, .class_ 227), (0, u "com/example/vistrace/vistrace/history/Named"), (8, u "needsTimes")] 10

def k7c0 : Code := { maxStack := 2, maxLocals := 1, code := prog_7_method_5_code, exceptionTable := #[], attributes := #[] }
def k7m0 : Method := { name := "needsTimes", desc := "()Z", sig := { parameters := [], returnType := some .boolean }, accessFlags := 1, code := some k7c0 }
/-- com/example/vistrace/vistrace/checker/Model -/
def k7 : Class := { plain "com/example/vistrace/vistrace/checker/Model" (some 5) with
  accessFlags := 16433
  interfaces := #[6]
  cf := some (fileOf pool7 1 #[] #[{ accessFlags := 1, nameIndex := 236, descriptorIndex := 109, attributes := #[] }] 16433 74 #[226] #[{ accessFlags := 16409, nameIndex := 5, descriptorIndex := 6, attributes := #[] }, { accessFlags := 16409, nameIndex := 9, descriptorIndex := 6, attributes := #[] }, { accessFlags := 16409, nameIndex := 12, descriptorIndex := 6, attributes := #[] }, { accessFlags := 16409, nameIndex := 15, descriptorIndex := 6, attributes := #[] }, { accessFlags := 16409, nameIndex := 18, descriptorIndex := 6, attributes := #[] }, { accessFlags := 16409, nameIndex := 21, descriptorIndex := 6, attributes := #[] }, { accessFlags := 16409, nameIndex := 24, descriptorIndex := 6, attributes := #[] }, { accessFlags := 16409, nameIndex := 27, descriptorIndex := 6, attributes := #[] }, { accessFlags := 16409, nameIndex := 30, descriptorIndex := 6, attributes := #[] }, { accessFlags := 16409, nameIndex := 33, descriptorIndex := 6, attributes := #[] }, { accessFlags := 16409, nameIndex := 36, descriptorIndex := 6, attributes := #[] }, { accessFlags := 16409, nameIndex := 39, descriptorIndex := 6, attributes := #[] }, { accessFlags := 16409, nameIndex := 42, descriptorIndex := 6, attributes := #[] }, { accessFlags := 16409, nameIndex := 45, descriptorIndex := 6, attributes := #[] }, { accessFlags := 16409, nameIndex := 48, descriptorIndex := 6, attributes := #[] }, { accessFlags := 16409, nameIndex := 51, descriptorIndex := 6, attributes := #[] }, { accessFlags := 16409, nameIndex := 54, descriptorIndex := 6, attributes := #[] }, { accessFlags := 16409, nameIndex := 57, descriptorIndex := 6, attributes := #[] }, { accessFlags := 16409, nameIndex := 60, descriptorIndex := 6, attributes := #[] }, { accessFlags := 16409, nameIndex := 63, descriptorIndex := 6, attributes := #[] }, { accessFlags := 18, nameIndex := 85, descriptorIndex := 86, attributes := #[] }, { accessFlags := 4122, nameIndex := 66, descriptorIndex := 67, attributes := #[] }])
  fields := #[{ name := "LINEARIZABLE", type := (.object "com/example/vistrace/vistrace/checker/Model"), accessFlags := 16409, slot := 0, constantValue := 0 }, { name := "SEQUENTIAL", type := (.object "com/example/vistrace/vistrace/checker/Model"), accessFlags := 16409, slot := 1, constantValue := 0 }, { name := "CONVERGENT_CAUSAL", type := (.object "com/example/vistrace/vistrace/checker/Model"), accessFlags := 16409, slot := 2, constantValue := 0 }, { name := "CAUSAL", type := (.object "com/example/vistrace/vistrace/checker/Model"), accessFlags := 16409, slot := 3, constantValue := 0 }, { name := "CAUSAL_PREFIX", type := (.object "com/example/vistrace/vistrace/checker/Model"), accessFlags := 16409, slot := 4, constantValue := 0 }, { name := "CAUSAL_REPLAY", type := (.object "com/example/vistrace/vistrace/checker/Model"), accessFlags := 16409, slot := 5, constantValue := 0 }, { name := "PIPELINED", type := (.object "com/example/vistrace/vistrace/checker/Model"), accessFlags := 16409, slot := 6, constantValue := 0 }, { name := "PIPELINED_PREFIX", type := (.object "com/example/vistrace/vistrace/checker/Model"), accessFlags := 16409, slot := 7, constantValue := 0 }, { name := "PIPELINED_REPLAY", type := (.object "com/example/vistrace/vistrace/checker/Model"), accessFlags := 16409, slot := 8, constantValue := 0 }, { name := "SERIAL", type := (.object "com/example/vistrace/vistrace/checker/Model"), accessFlags := 16409, slot := 9, constantValue := 0 }, { name := "PREFIX", type := (.object "com/example/vistrace/vistrace/checker/Model"), accessFlags := 16409, slot := 10, constantValue := 0 }, { name := "REPLAY", type := (.object "com/example/vistrace/vistrace/checker/Model"), accessFlags := 16409, slot := 11, constantValue := 0 }, { name := "CAUSALITY", type := (.object "com/example/vistrace/vistrace/checker/Model"), accessFlags := 16409, slot := 12, constantValue := 0 }, { name := "PIPELINING", type := (.object "com/example/vistrace/vistrace/checker/Model"), accessFlags := 16409, slot := 13, constantValue := 0 }, { name := "ARBITRATION", type := (.object "com/example/vistrace/vistrace/checker/Model"), accessFlags := 16409, slot := 14, constantValue := 0 }, { name := "CONVERGENCE", type := (.object "com/example/vistrace/vistrace/checker/Model"), accessFlags := 16409, slot := 15, constantValue := 0 }, { name := "CLOSED_PAST", type := (.object "com/example/vistrace/vistrace/checker/Model"), accessFlags := 16409, slot := 16, constantValue := 0 }, { name := "LOCAL_VISIBILITY", type := (.object "com/example/vistrace/vistrace/checker/Model"), accessFlags := 16409, slot := 17, constantValue := 0 }, { name := "MONOTONIC_VISIBILITY", type := (.object "com/example/vistrace/vistrace/checker/Model"), accessFlags := 16409, slot := 18, constantValue := 0 }, { name := "VALID", type := (.object "com/example/vistrace/vistrace/checker/Model"), accessFlags := 16409, slot := 19, constantValue := 0 }, { name := "word", type := (.object "java/lang/String"), accessFlags := 18, slot := 3, constantValue := 0 }, { name := "$VALUES", type := (.array (.object "com/example/vistrace/vistrace/checker/Model")), accessFlags := 4122, slot := 20, constantValue := 0 }]
  methods := #[k7m0]
  instanceTypes := #[(.object "java/lang/String"), .int, .int, (.object "java/lang/String")]
  staticTypes := #[(.object "com/example/vistrace/vistrace/checker/Model"), (.object "com/example/vistrace/vistrace/checker/Model"), (.object "com/example/vistrace/vistrace/checker/Model"), (.object "com/example/vistrace/vistrace/checker/Model"), (.object "com/example/vistrace/vistrace/checker/Model"), (.object "com/example/vistrace/vistrace/checker/Model"), (.object "com/example/vistrace/vistrace/checker/Model"), (.object "com/example/vistrace/vistrace/checker/Model"), (.object "com/example/vistrace/vistrace/checker/Model"), (.object "com/example/vistrace/vistrace/checker/Model"), (.object "com/example/vistrace/vistrace/checker/Model"), (.object "com/example/vistrace/vistrace/checker/Model"), (.object "com/example/vistrace/vistrace/checker/Model"), (.object "com/example/vistrace/vistrace/checker/Model"), (.object "com/example/vistrace/vistrace/checker/Model"), (.object "com/example/vistrace/vistrace/checker/Model"), (.object "com/example/vistrace/vistrace/checker/Model"), (.object "com/example/vistrace/vistrace/checker/Model"), (.object "com/example/vistrace/vistrace/checker/Model"), (.object "com/example/vistrace/vistrace/checker/Model"), (.array (.object "com/example/vistrace/vistrace/checker/Model"))]
  resolved := Array.replicate 247 none
  statics := some 0 }

def pool8 : Array CpInfo := pool [(1, u "java/lang/Cloneable"), (0, .class_ 1), (0, u "java/lang/Object"), (0, .class_ 3)] 3

/-- java/lang/Cloneable -/
def k8 : Class := { plain "java/lang/Cloneable" (some 0) with
  accessFlags := 1537
  interfaces := #[]
  cf := some (fileOf pool8 2 #[] #[] 1537 4 #[] #[])
  fields := #[]
  methods := #[]
  instanceTypes := #[]
  staticTypes := #[]
  resolved := Array.replicate 8 none
  statics := none }

/-- the primitive byte -/
def k9 : Class := { plain "byte" none with kind := .primitive 'B', accessFlags := 0x411 }
/-- [B -/
def k10 : Class := { plain "[B" (some 0) with kind := .array 9 .byte, interfaces := #[8, 4], accessFlags := 1041 }

/-- the primitive int -/
def k11 : Class := { plain "int" none with kind := .primitive 'I', accessFlags := 0x411 }
/-- [I -/
def k12 : Class := { plain "[I" (some 0) with kind := .array 11 .int, interfaces := #[8, 4], accessFlags := 1041 }

/-- [Lcom/example/vistrace/vistrace/checker/Model; -/
def k13 : Class := { plain "[Lcom/example/vistrace/vistrace/checker/Model;" (some 0) with kind := .array 7 (.object "com/example/vistrace/vistrace/checker/Model"), interfaces := #[8, 4], accessFlags := 1041 }

def heap : Heap := #[{ cls := 7, slots := #[.ref 2, .ref 9, .ref 7, .ref 1, .ref 17, .ref 16, .ref 12, .ref 6, .ref 8, .ref 18, .ref 3, .ref 4, .ref 15, .ref 19, .ref 5, .ref 11, .ref 14, .ref 13, .ref 20, .ref 10, .null], vm := .statics 7 },
  { cls := 7, slots := #[.null, .int 3, .int 0, .null], vm := .none },
  { cls := 7, slots := #[.null, .int 0, .int 0, .null], vm := .none },
  { cls := 7, slots := #[.null, .int 10, .int 0, .null], vm := .none },
  { cls := 7, slots := #[.null, .int 11, .int 0, .null], vm := .none },
  { cls := 7, slots := #[.null, .int 14, .int 0, .null], vm := .none },
  { cls := 7, slots := #[.null, .int 7, .int 0, .null], vm := .none },
  { cls := 7, slots := #[.null, .int 2, .int 0, .null], vm := .none },
  { cls := 7, slots := #[.null, .int 8, .int 0, .null], vm := .none },
  { cls := 7, slots := #[.null, .int 1, .int 0, .null], vm := .none },
  { cls := 7, slots := #[.null, .int 19, .int 0, .null], vm := .none },
  { cls := 7, slots := #[.null, .int 15, .int 0, .null], vm := .none },
  { cls := 7, slots := #[.null, .int 6, .int 0, .null], vm := .none },
  { cls := 7, slots := #[.null, .int 17, .int 0, .null], vm := .none },
  { cls := 7, slots := #[.null, .int 16, .int 0, .null], vm := .none },
  { cls := 7, slots := #[.null, .int 12, .int 0, .null], vm := .none },
  { cls := 7, slots := #[.null, .int 5, .int 0, .null], vm := .none },
  { cls := 7, slots := #[.null, .int 4, .int 0, .null], vm := .none },
  { cls := 7, slots := #[.null, .int 9, .int 0, .null], vm := .none },
  { cls := 7, slots := #[.null, .int 13, .int 0, .null], vm := .none },
  { cls := 7, slots := #[.null, .int 18, .int 0, .null], vm := .none }]
def classes : Array Class := #[k0, k1, k2, k3, k4, k5, k6, k7, k8, k9, k10, k11, k12, k13]
def interned : List (Array UInt16 × Addr) := []
def slotsUsed : Nat := 101
def theMethod : MethodId := ⟨1, 1⟩
def args0 : Array Value := #[.int 1]
def aboutOver (below : List Frame) : State where
  vm := { classes := classes, interned := interned.toArray }
  heap := heap
  slotsUsed := slotsUsed
  threads := #[{ frames := .invoking theMethod args0 :: below }]
def below0 : List Frame := [.native { method := ⟨0, 0⟩, args := #[] }]
def about1 : State := aboutOver below0
def p0 : Program := .bare "" "" ""
def e0 : Env := launch0.env 0 0 0
theorem w_frames : about1.frames = Frame.invoking theMethod args0 :: below0 := rfl
set_option maxRecDepth 65536 in
theorem w_args : argsFit about1.vm theMethod args0 = true := by decide +kernel
set_option maxRecDepth 65536 in
theorem w_heap : heapFits about1 = true := by decide +kernel
set_option maxRecDepth 65536 in
theorem w_runnable : about1.curStatus? = some .runnable := by decide +kernel
set_option maxRecDepth 65536 in
theorem w_alone : about1.alone = true := by decide +kernel
set_option maxRecDepth 65536 in
theorem w_named : about1.methodNamed? x = some theMethod := by decide +kernel
set_option maxRecDepth 65536 in
theorem w_hears : about1.hears theMethod below0 = true := by decide +kernel
set_option maxRecDepth 65536 in
theorem w_ripe : about1.ripe theMethod args0 below0 = true := by decide +kernel
theorem w_running : about1.status = .running := rfl
set_option maxRecDepth 65536 in
theorem w_room : about1.hasRoom e0.platform room_1 = true :=
  launch0.hasRoom_least _ room_1 (by decide +kernel) (by decide +kernel) (by decide +kernel) (by decide +kernel) (by decide +kernel) (by decide +kernel)
theorem allAtoms_all (ts : List Jvm.Cond) (a : Array Jvm.Value) (st : Jvm.State) : (allAtoms ts).before a st = ts.all (fun c => c.before a st) := by
  induction ts with
  | nil => rfl
  | cons c t ih =>
    show (Jvm.Cond.and c (allAtoms t)).before a st = _
    rw [Jvm.Cond.before_and, ih, List.all_cons]
def words1 : List Jvm.Cond := Jvm.Cond.code x code maxLocals ret :: tables_1
/-- a 'code' word, met by the world's own term for the bytes: nothing is compared byte by byte -/
theorem code_word {y : MethodName} {bytes : ByteArray} {mx : Nat} {rt : Option FieldType} {a : Array Value} {s : State} {m : MethodId} {meth : Method} {c : Code} (h1 : s.methodNamed? y = some m) (h2 : s.vm.method? m = some meth) (h3 : meth.code = some c) (h4 : c.code = bytes)
    (h5 : (c.maxLocals == mx && c.exceptionTable.isEmpty && decide (c.maxStack ≤ mostOperands) && decide (meth.sig.returnType = rt) && !meth.locks && decide (parseMethodDescriptor y.desc = some meth.sig)) = true) : (Jvm.Cond.code y bytes mx rt).before a s = true := by
  simp only [Bool.and_eq_true, beq_iff_eq, Bool.not_eq_true', decide_eq_true_eq] at h5
  obtain ⟨⟨⟨⟨⟨g1, g2⟩, g3⟩, g4⟩, g5⟩, g6⟩ := h5
  simp [Cond.before, Cond.holds, Cond.value, h1, h2, h3, h4, g1, g2, g3, g4, g5, g6]
def isCode : Jvm.Cond → Bool
  | .code _ _ _ _ => true
  | _ => false
theorem all_split {L : List Jvm.Cond} {P : Jvm.Cond → Bool} (h1 : L.all (fun c => isCode c || P c) = true) (h2 : ∀ c ∈ L.filter isCode, P c = true) : L.all P = true := by
  refine List.all_eq_true.mpr fun c hc => ?_
  have h := List.all_eq_true.mp h1 c hc
  rcases Bool.eq_false_or_eq_true (isCode c) with hi | hi
  · exact h2 c (List.mem_filter.mpr ⟨hc, hi⟩)
  · simpa [hi] using h
set_option maxRecDepth 65536 in
theorem w_c0 : (Jvm.Cond.code x code maxLocals ret).before args0 about1 = true := code_word (m := ⟨1, 1⟩) (meth := k1m1) (c := k1c1) (by decide +kernel) rfl rfl rfl (by decide +kernel)
set_option maxRecDepth 65536 in
theorem w_c1 : (Jvm.Cond.code ({ cls := "com/example/vistrace/vistrace/checker/Model", name := "needsTimes", desc := "()Z" } : Jvm.MethodName) prog_7_method_5_code (1 : Nat) (Option.some Jvm.ClassFile.FieldType.boolean)).before args0 about1 = true := code_word (m := ⟨7, 0⟩) (meth := k7m0) (c := k7c0) (by decide +kernel) rfl rfl rfl (by decide +kernel)
def codes1 : List Jvm.Cond := [Jvm.Cond.code x code maxLocals ret, Jvm.Cond.code ({ cls := "com/example/vistrace/vistrace/checker/Model", name := "needsTimes", desc := "()Z" } : Jvm.MethodName) prog_7_method_5_code (1 : Nat) (Option.some Jvm.ClassFile.FieldType.boolean)]
set_option maxRecDepth 65536 in
theorem codes_eq : words1.filter isCode = codes1 := rfl
theorem w_codes : ∀ c ∈ words1.filter isCode, c.before args0 about1 = true := by
  rw [codes_eq]
  intro c hc
  simp only [codes1, List.mem_cons, List.not_mem_nil, or_false] at hc
  rcases hc with rfl | rfl
  · exact w_c0
  · exact w_c1
set_option maxRecDepth 65536 in
theorem w_t1 : (words1.take 24).all (fun c => isCode c || c.before args0 about1) = true := by decide +kernel
set_option maxRecDepth 65536 in
theorem w_t2 : ((words1.drop 24).take 24).all (fun c => isCode c || c.before args0 about1) = true := by decide +kernel
set_option maxRecDepth 65536 in
theorem w_t3 : ((words1.drop 24).drop 24).all (fun c => isCode c || c.before args0 about1) = true := by decide +kernel
theorem w_tables : (allAtoms (Jvm.Cond.code x code maxLocals ret :: tables_1)).before args0 about1 = true := by
  rw [allAtoms_all]
  show words1.all (fun c => c.before args0 about1) = true
  refine all_split ?_ w_codes
  rw [← List.take_append_drop 24 words1, List.all_append, w_t1, ← List.take_append_drop 24 (words1.drop 24), List.all_append, w_t2, w_t3]
  rfl
set_option maxRecDepth 65536 in
theorem w_case : (Jvm.Cond.and given_1 narrow_1).before args0 about1 = true := by decide +kernel
theorem w_applies : (headSpec (Jvm.Cond.code x code maxLocals ret :: tables_1) room_1).applies x e0.platform about1 = true :=
  (Spec.applies_iff w_frames).mpr ⟨w_running, w_runnable, w_alone, w_named, w_hears, w_ripe, w_room, w_tables⟩
theorem atStart : AtStart classFile x code maxLocals ret World_1 tables_1 room_1 Calls_1 rest_1 Pre_1 launch0 p0 e0 about1 theMethod args0 below0 :=
  ⟨lists_1, trivial, launch0.admits_env _ _ _, launch0.least_env, fairChoices_fair.cas, fairChoices_fair.clock, w_frames, w_args, w_heap, w_applies, trivial, trivial, w_case⟩
end start1
theorem witness_1 : WitnessClaimed_1 := ⟨start1.p0, start1.e0, start1.about1, start1.theMethod, start1.args0, start1.below0, start1.atStart⟩
end Jvm.Pilot.@@N@@
