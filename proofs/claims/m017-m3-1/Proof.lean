import JvmDerived
import JvmDerived.Pilot.@@N@@Statement
import JvmDerived.Pilot.@@N@@Code
set_option linter.unusedVariables false
set_option linter.unusedSimpArgs false
@@BLOCK:NumsL.lean.txt@@
namespace Jvm.Pilot.@@N@@
open Jvm Jvm.ClassFile Sem Op Lib Jvm.Free Jvm.Stand Jvm.LawKit Jvm.RoadKit Bundle Jvm.Pilot.@@N@@.Jvm.D
/-! ## A. The run goes on: a walk in steps, its end left open -/
section Base
variable {p : Program} {l : Launch} {e : Env} {R : Room} {s : State} {m : MethodId} {args : Array Value} {below : List Frame} {meth : Method} {c : Code} {T T' : State} {locs : List Loc} {cells slots : Nat} {Z : State} {a0 : Array Value} {F : State → Prop} {g g' : JFrame} {n0 : Nat} {h h' : Heap} {a b : Addr} {C n d : String} {v w : Value} {sl : Nat}
/-- the run from T with the frame g on top comes to a state of which F holds -/
def Rn (p : Program) (e : Env) (below : List Frame) (F : State → Prop) (T : State) (g : JFrame) : Prop := ∃ U, Steps p.tables e below (T.setTop g) U ∧ F U
theorem Rn.go (st : ∀ t, Steps p.tables e below (T'.setTop g') t → Steps p.tables e below (T.setTop g) t) (k : Rn p e below F T' g') : Rn p e below F T g := by
  obtain ⟨U, h1, h2⟩ := k; exact ⟨U, st _ h1, h2⟩
theorem Rn.to (st : Steps p.tables e below (T.setTop g) (T'.setTop g')) (k : Rn p e below F T' g') : Rn p e below F T g := by
  obtain ⟨U, h1, h2⟩ := k; exact ⟨U, st.trans h1, h2⟩
theorem own_lcW (x y : Int64) : lcmpW x y = if x > y then 1 else if x = y then 0 else -1 := rfl
theorem own_nat (x : Int32) : x.toNatClampNeg = x.toInt.toNat := rfl
theorem own_remI {x y : Int32} {k : Int} (hy : y.toInt = k) (hx : 0 ≤ x.toInt) : (x % y).toInt = x.toInt % k := by rw [Jvm.Kit.i32_rem_nonneg hx, hy]
theorem own_irem {g : JFrame} {target : State} (h : At T m c below) (hx : p.tables.exec = Jvm.exec) (hg : g.method = m) {x y : Int32} {rest : List Value} (hd : decode c.code g.pc = .ok (.irem, 1)) (hs : g.stack = .int y :: .int x :: rest) (hy : y ≠ 0)
    (hr : Steps p.tables e below (T.setTop { g with pc := g.pc + 1, stack := .int (x % y) :: rest }) target) : Steps p.tables e below (T.setTop g) target := by
  have q : x - x / y * y = x % y := irem_eq_mod x y
  exact XS.irem h hx hg hd hs hy (by rw [q]; exact hr)
/-! ## B. What the heap holds: a list of the objects and arrays that the law has made -/
abbrev Itm : Type := (String × List (String × String × Value)) ⊕ (FieldType × Int32 × List Value)
abbrev ob (a : Addr) (C : String) (fs : List (String × String × Value)) : Addr × Itm := (a, .inl (C, fs))
abbrev ar (a : Addr) (ty : FieldType) (n : Int32) (vs : List Value) : Addr × Itm := (a, .inr (ty, n, vs))
abbrev ari (a : Addr) (ty : FieldType) (n : Int32) (xs : List Int32) : Addr × Itm := ar a ty n (xs.map Value.int)
abbrev arj (a : Addr) (n : Int32) (xs : List Int64) : Addr × Itm := ar a .long n (xs.map Value.long)
def Obj (Z : State) (h : Heap) (a : Addr) (C : String) (fs : List (String × String × Value)) : Prop := Exa Z h a C ∧ (∀ f ∈ fs, Fld Z h a C f.1 f.2.1 f.2.2) ∧ (fs.map fun f => Jvm.RoadKit.slotOf Z C f.1 f.2.1).Nodup
def Ary (Z : State) (h : Heap) (a : Addr) (ty : FieldType) (n : Int32) (vs : List Value) : Prop := (∃ k, Arv Z h a k ty n vs (defaultValue ty) ∧ ∀ C, ty = .object C → Ovr Z k C) ∧ vs.length = n.toNatClampNeg
def itm (Z : State) (h : Heap) (x : Addr × Itm) : Prop := match x.2 with
  | .inl o => Obj Z h x.1 o.1 o.2
  | .inr o => Ary Z h x.1 o.1 o.2.1 o.2.2
/-- made by the law, or an array of no places (which nobody can write) -/
def Frs (n0 : Nat) (x : Addr × Itm) : Prop := n0 ≤ x.1 ∨ ∃ ty n, x.2 = .inr (ty, n, [])
def Hp (Z : State) (n0 : Nat) (h : Heap) (D : List (Addr × Itm)) : Prop := Old Z n0 h ∧ (∀ x ∈ D, Frs n0 x ∧ itm Z h x) ∧ (D.map (·.1)).Nodup
variable {fs : List (String × String × Value)} {vs : List Value} {ty : FieldType} {z : Int32} {x : Addr × Itm} {D : List (Addr × Itm)} {I J : Itm} {i j : Nat}
theorem map_same {α β : Type} (f : α → β) (L : List α) (i : Nat) (x y : α) (h : L[i]? = some x) (q : f y = f x) : (L.set i y).map f = L.map f := by
  apply List.ext_getElem?
  intro k
  rw [List.getElem?_map, List.getElem?_map, List.getElem?_set]
  by_cases e : i = k
  · subst e
    rw [if_pos rfl, if_pos (List.getElem?_eq_some_iff.mp h).1, h]; simp [q]
  · rw [if_neg e]
theorem Obj.lt (O : Obj Z h a C fs) : a < h.size := O.1.lt
theorem Ary.lt (O : Ary Z h a ty z vs) : a < h.size := by obtain ⟨⟨k, V, -⟩, -⟩ := O; exact V.lt
theorem itm.lt (O : itm Z h x) : x.1 < h.size := by
  obtain ⟨a, I⟩ := x
  cases I with
  | inl o => exact Obj.lt (show Obj Z h a o.1 o.2 from O)
  | inr o => exact Ary.lt (show Ary Z h a o.1 o.2.1 o.2.2 from O)
theorem itm.ext (E : Ext h h') (O : itm Z h x) : itm Z h' x := by
  obtain ⟨a, I⟩ := x
  cases I with
  | inl o =>
    have O' : Obj Z h a o.1 o.2 := O
    exact (show Obj Z h' a o.1 o.2 from ⟨O'.1.ext E, fun f hf => (O'.2.1 f hf).ext E, O'.2.2⟩)
  | inr o =>
    have O' : Ary Z h a o.1 o.2.1 o.2.2 := O
    obtain ⟨⟨k, V, u⟩, q⟩ := O'
    exact (show Ary Z h' a o.1 o.2.1 o.2.2 from ⟨⟨k, V.ext E, u⟩, q⟩)
theorem itm.other (W : Wr h h' b sl v) (q : x.1 ≠ b) (O : itm Z h x) : itm Z h' x := by
  obtain ⟨a, I⟩ := x
  cases I with
  | inl o =>
    have O' : Obj Z h a o.1 o.2 := O
    exact (show Obj Z h' a o.1 o.2 from ⟨O'.1.wr W, fun f hf => (O'.2.1 f hf).other W (Or.inl q), O'.2.2⟩)
  | inr o =>
    have O' : Ary Z h a o.1 o.2.1 o.2.2 := O
    obtain ⟨⟨k, V, u⟩, r⟩ := O'
    exact (show Ary Z h' a o.1 o.2.1 o.2.2 from ⟨⟨k, V.other W q, u⟩, r⟩)
theorem Obj.put (hj : fs[j]? = some (n, d, w)) (W : Wr h h' a (Jvm.RoadKit.slotOf Z C n d) v) (O : Obj Z h a C fs) : Obj Z h' a C (fs.set j (n, d, v)) := by
  have hjl : j < fs.length := (List.getElem?_eq_some_iff.mp hj).1
  refine ⟨O.1.wr W, fun f hf => ?_, ?_⟩
  · obtain ⟨i, hi⟩ := List.mem_iff_getElem?.mp hf
    by_cases e : j = i
    · subst e
      rw [List.getElem?_set_self hjl] at hi
      cases hi
      exact (O.2.1 _ (List.mem_of_getElem? hj)).same W
    · rw [List.getElem?_set_ne e] at hi
      refine (O.2.1 f (List.mem_of_getElem? hi)).other W (Or.inr fun q => e ?_)
      have hil : i < fs.length := (List.getElem?_eq_some_iff.mp hi).1
      refine ((List.getElem?_inj (i := i) (j := j) (by simpa using hil) O.2.2).mp ?_).symm
      rw [List.getElem?_map, List.getElem?_map, hi, hj]
      simp [q]
  · rw [map_same _ fs j (n, d, w) (n, d, v) hj rfl]; exact O.2.2
theorem Ary.put {k : Int32} (hk : ¬ k < 0) (hl : k.toNatClampNeg < vs.length) (hv : fits ty v = true) (W : Wr h h' a k.toNatClampNeg v) (O : Ary Z h a ty z vs) : Ary Z h' a ty z (vs.set k.toNatClampNeg v) := by
  obtain ⟨⟨kc, ⟨cl, A, q1, S, q3, H, G⟩, u⟩, q⟩ := O
  exact ⟨⟨kc, Arv.set A q1 S q3 H G hv W _ rfl hl, u⟩, by rw [List.length_set]; exact q⟩
theorem Frs.obj (q : Frs n0 (ob a C fs)) : n0 ≤ a := q.elim id fun ⟨_, _, r⟩ => by cases r
theorem Frs.arr {k : Nat} (q : Frs n0 (ar a ty z vs)) (hl : k < vs.length) : n0 ≤ a := q.elim id fun ⟨_, _, r⟩ => by cases r; cases hl
theorem Hp.get (H : Hp Z n0 h D) (hi : D[i]? = some x) : Frs n0 x ∧ itm Z h x := H.2.1 _ (List.mem_of_getElem? hi)
theorem Hp.obj (H : Hp Z n0 h D) (hi : D[i]? = some (ob a C fs)) : Obj Z h a C fs := (H.get hi).2
theorem Hp.ary (H : Hp Z n0 h D) (hi : D[i]? = some (ar a ty z vs)) : Ary Z h a ty z vs := (H.get hi).2
theorem Hp.fld (H : Hp Z n0 h D) (hi : D[i]? = some (ob a C fs)) (hj : fs[j]? = some (n, d, v)) : Fld Z h a C n d v := (H.obj hi).2.1 _ (List.mem_of_getElem? hj)
theorem Hp.exa (H : Hp Z n0 h D) (hi : D[i]? = some (ob a C fs)) : Exa Z h a C := (H.obj hi).1
theorem Hp.upd (H : Hp Z n0 h D) (hi : D[i]? = some (a, I)) (hfr : n0 ≤ a) (W : Wr h h' a sl v) (q : itm Z h (a, I) → itm Z h' (a, J)) : Hp Z n0 h' (D.set i (a, J)) := by
  have hil : i < D.length := (List.getElem?_eq_some_iff.mp hi).1
  refine ⟨H.1.wr W hfr, fun x hx => ?_, ?_⟩
  · obtain ⟨k, hk⟩ := List.mem_iff_getElem?.mp hx
    by_cases e : i = k
    · subst e
      rw [List.getElem?_set_self hil] at hk
      cases hk
      exact ⟨Or.inl hfr, q (H.get hi).2⟩
    · rw [List.getElem?_set_ne e] at hk
      refine ⟨(H.get hk).1, (H.get hk).2.other W fun r => e ?_⟩
      refine (List.getElem?_inj (i := i) (j := k) (by simpa using hil) H.2.2).mp ?_
      rw [List.getElem?_map, List.getElem?_map, hi, hk]
      simp [r]
  · rw [map_same _ D i (a, I) (a, J) hi rfl]; exact H.2.2
theorem Hp.new (H : Hp Z n0 h D) (E : Ext h h') (q : itm Z h' (h.size, I)) : Hp Z n0 h' (D ++ [(h.size, I)]) := by
  have hsz : n0 ≤ h.size := by rw [← H.1.1]; exact H.1.2.1
  refine ⟨H.1.ext E, fun x hx => ?_, ?_⟩
  · rcases List.mem_append.mp hx with r | r
    · exact ⟨(H.2.1 x r).1, (H.2.1 x r).2.ext E⟩
    · cases List.mem_singleton.mp r; exact ⟨Or.inl hsz, q⟩
  · rw [List.map_append, List.nodup_append]
    refine ⟨H.2.2, by simp, fun y hy z hz => ?_⟩
    obtain ⟨x, hx, rfl⟩ := List.mem_map.mp hy
    have : z = h.size := by simpa using hz
    rw [this]
    exact Nat.ne_of_lt (H.2.1 x hx).2.lt
theorem Hp.nil (Z : State) : Hp Z Z.heap.size Z.heap [] := ⟨Old.start Z, (fun _ q => by cases q), List.nodup_nil⟩
theorem Hp.ext (H : Hp Z n0 h D) (E : Ext h h') : Hp Z n0 h' D := ⟨H.1.ext E, fun x hx => ⟨(H.2.1 x hx).1, (H.2.1 x hx).2.ext E⟩, H.2.2⟩
/-- a walk stands at T, has made so many cells and slots, has written nothing old, and its heap holds D -/
def On (p : Program) (l : Launch) (e : Env) (R : Room) (s : State) (m : MethodId) (args : Array Value) (below : List Frame) (meth : Method) (c : Code) (Z : State) (n0 : Nat) (T : State) (cells slots : Nat) (D : List (Addr × Itm)) : Prop := ∃ locs, Stand p l e R s m args below meth c T locs cells slots ∧ Fr n0 locs ∧ Hp Z n0 T.heap D
theorem On.here (Y : On p l e R s m args below meth c Z n0 T cells slots D) : At T m c below := by obtain ⟨_, X, -⟩ := Y; exact X.here
/-- what is known of the heap may be forgotten -/
theorem On.weak {D D' : List (Addr × Itm)} (Y : On p l e R s m args below meth c Z n0 T cells slots D) (q : D'.Sublist D) : On p l e R s m args below meth c Z n0 T cells slots D' := by
  obtain ⟨locs, X, N, H⟩ := Y
  exact ⟨locs, X, N, H.1, fun x hx => H.2.1 x (q.subset hx), H.2.2.sublist (q.map _)⟩
/-! ## C. One law a step -/
theorem On.getf (Y : On p l e R s m args below meth c Z n0 T cells slots D) (hx : p.tables.exec = Jvm.exec) (hZ : Z.Warmed39 s.vm) {own : String} {index : Nat} (hown : s.vm.findClass own = some m.cls) (w : (Cond.fieldLink own index C n d).before a0 Z = true) (hi : D[i]? = some (ob a C fs)) (hj : fs[j]? = some (n, d, v))
    {g : JFrame} (hg : g.method = m) {rest : List Value} (hs : g.stack = .ref a :: rest) (hd : decode c.code g.pc = .ok (.getfield index, 3)) (k : ∀ T', On p l e R s m args below meth c Z n0 T' cells slots D → Rn p e below F T' { g with pc := g.pc + 3, stack := v :: rest }) : Rn p e below F T g := by
  obtain ⟨locs, X, N, H⟩ := Y
  obtain ⟨T', X', e', st⟩ := getF X hx hZ hown (host := "") (Or.inl w) Via.refl rfl (H.fld hi hj) hg hs hd
  exact Rn.go st (k T' ⟨locs, X', N, by rw [e']; exact H⟩)
theorem On.putf (Y : On p l e R s m args below meth c Z n0 T cells slots D) (hx : p.tables.exec = Jvm.exec) (hZ : Z.Warmed39 s.vm) {own : String} {index kk : Nat} (hown : s.vm.findClass own = some m.cls) (wl : (Cond.fieldLink own index C n d).before a0 Z = true) (hi : D[i]? = some (ob a C fs)) (hj : fs[j]? = some (n, d, w))
    (L : (Cond.lays C C n d).before a0 Z = true ∨ ((Cond.laysFinal C C n d).before a0 Z = true ∧ own = C ∧ meth.name = "<init>")) (wi : (Cond.instantiable C kk).before a0 Z = true) (hty : parseFieldDescriptor d = some ty) {v v' : Value} (hn : narrow ty v = v') (hf : fits ty v' = true)
    {g : JFrame} (hg : g.method = m) {rest : List Value} (hs : g.stack = v :: .ref a :: rest) (hd : decode c.code g.pc = .ok (.putfield index, 3)) (k : ∀ T', On p l e R s m args below meth c Z n0 T' cells slots (D.set i (ob a C (fs.set j (n, d, v')))) → Rn p e below F T' { g with pc := g.pc + 3, stack := rest }) : Rn p e below F T g := by
  obtain ⟨locs, X, N, H⟩ := Y
  obtain ⟨T', h', X', e', W, st⟩ := putFN X hx hZ hown wl Via.refl rfl (H.fld hi hj) (H.exa hi) L wi hty hn hf hg hs hd
  have hfr := (H.get hi).1.obj
  refine Rn.go st (k T' ⟨_, X', Fr.snoc X' N hfr, ?_⟩)
  rw [e']
  exact H.upd hi hfr W fun O => Obj.put hj W O
theorem On.newo (Y : On p l e R s m args below meth c Z n0 T cells slots D) (hx : p.tables.exec = Jvm.exec) (hZ : Z.Warmed39 s.vm) {own : String} {index k : Nat} (hown : s.vm.findClass own = some m.cls) (w : (Cond.classLink own index C).before a0 Z = true) (wi : (Cond.instantiable C k).before a0 Z = true) (wz : (Cond.initialized C).before a0 Z = true)
    (fs : List (String × String × Value)) (hl : ∀ f ∈ fs, Laid Z a0 C C f.1 f.2.1 ∧ ∃ ty, parseFieldDescriptor f.2.1 = some ty ∧ f.2.2 = defaultValue ty) (hn : (fs.map (·.1)).Nodup)
    {g : JFrame} (hg : g.method = m) (hd : decode c.code g.pc = .ok (.new index, 3)) (hc : cells + 1 ≤ R.cells) (hs : slots + k ≤ R.slots)
    (kk : ∀ T' a, On p l e R s m args below meth c Z n0 T' (cells + 1) (slots + k) (D ++ [ob a C fs]) → Rn p e below F T' { g with pc := g.pc + 3, stack := .ref a :: g.stack }) : Rn p e below F T g := by
  obtain ⟨locs, X, N, H⟩ := Y
  obtain ⟨T', h', X', e', E, A, Df, -, st⟩ := newO X hx hZ hown w wi wz rfl hg hd hc hs
  refine Rn.go st (kk T' _ ⟨_, X', N, ?_⟩)
  rw [e']
  refine H.new E (show Obj Z h' _ C fs from ⟨A, fun f hf => ?_, ?_⟩)
  · obtain ⟨L, ty, h1, h2⟩ := hl f hf
    rw [h2]; exact Df L h1
  · rw [List.nodup_iff_pairwise_ne, List.pairwise_map] at hn ⊢
    refine List.Pairwise.imp_of_mem (fun {x y} hx hy q => ?_) hn
    obtain ⟨L, ty, h1, -⟩ := hl x hx
    obtain ⟨L', ty', h1', -⟩ := hl y hy
    exact slot_ne L L' q h1 h1'
theorem On.newp (Y : On p l e R s m args below meth c Z n0 T cells slots D) (hx : p.tables.exec = Jvm.exec) (hZ : Z.Warmed39 s.vm) {aty : ArrayType} (w : (Cond.arrayClass (newarray.typeOf aty)).before a0 Z = true) {g : JFrame} (hg : g.method = m) (hd : decode c.code g.pc = .ok (.newarray aty, 2)) {z : Int32} {rest : List Value} (hs : g.stack = .int z :: rest)
    (hn : ¬ z < 0) {cap N : Nat} (hN : z.toNatClampNeg = N) (hcap : N ≤ cap) (hb : cap * 8 ≤ 536870912) (hc : cells + 1 ≤ R.cells) (hl : slots + cap ≤ R.slots) {dv : Value} (hdv : defaultValue (newarray.typeOf aty) = dv)
    (k : ∀ T' a, On p l e R s m args below meth c Z n0 T' (cells + 1) (slots + cap) (D ++ [ar a (newarray.typeOf aty) z (List.replicate N dv)]) → Rn p e below F T' { g with pc := g.pc + 2, stack := .ref a :: rest }) : Rn p e below F T g := by
  obtain ⟨locs, X, Nl, H⟩ := Y
  subst hN hdv
  obtain ⟨T', h', cA, X', e', E, A, st⟩ := newP X hx hZ w rfl hg hd hs hn hcap hb hc hl
  refine Rn.go st (k T' _ ⟨_, X', Nl, ?_⟩)
  rw [e']
  exact H.new E (show Ary Z h' _ _ z _ from ⟨⟨_, (Arv.new A hn).pad (pad_rep [] _ _), fun C hC => by cases aty <;> cases hC⟩, by simp⟩)
theorem On.newr (Y : On p l e R s m args below meth c Z n0 T cells slots D) (hx : p.tables.exec = Jvm.exec) (hZ : Z.Warmed39 s.vm) {own : String} {index : Nat} (hown : s.vm.findClass own = some m.cls) (w1 : (Cond.classLink own index C).before a0 Z = true) (w2 : (Cond.arrayOver (.object C)).before a0 Z = true) {g : JFrame} (hg : g.method = m) (hd : decode c.code g.pc = .ok (.anewarray index, 3)) {z : Int32} {rest : List Value} (hs : g.stack = .int z :: rest)
    (hn : ¬ z < 0) {cap N : Nat} (hN : z.toNatClampNeg = N) (hcap : N ≤ cap) (hb : cap * 8 ≤ 536870912) (hc : cells + 1 ≤ R.cells) (hl : slots + cap ≤ R.slots)
    (k : ∀ T' a, On p l e R s m args below meth c Z n0 T' (cells + 1) (slots + cap) (D ++ [ar a (.object C) z (List.replicate N .null)]) → Rn p e below F T' { g with pc := g.pc + 3, stack := .ref a :: rest }) : Rn p e below F T g := by
  obtain ⟨locs, X, Nl, H⟩ := Y
  subst hN
  obtain ⟨T', h', cA, X', e', E, A, O, st⟩ := newR X hx hZ hown w1 w2 rfl hg hd hs hn hcap hb hc hl
  refine Rn.go st (k T' _ ⟨_, X', Nl, ?_⟩)
  rw [e']
  exact H.new E (show Ary Z h' _ _ z _ from ⟨⟨_, (Arv.new A hn).pad (pad_rep [] _ _), fun C' hC => by cases hC; exact O⟩, by simp⟩)
theorem On.isto (Y : On p l e R s m args below meth c Z n0 T cells slots D) (hx : p.tables.exec = Jvm.exec) (hZ : Z.Warmed39 s.vm) {xs : List Int32} (hi : D[i]? = some (ari a .int z xs)) {k x : Int32} (hk : ¬ k < 0) (hl : k.toNatClampNeg < xs.length)
    {g : JFrame} (hg : g.method = m) {rest : List Value} (hs : g.stack = .int x :: .int k :: .ref a :: rest) (hd : decode c.code g.pc = .ok (.iastore, 1))
    (kk : ∀ T', On p l e R s m args below meth c Z n0 T' cells slots (D.set i (ari a .int z (xs.set k.toNatClampNeg x))) → Rn p e below F T' { g with pc := g.pc + 1, stack := rest }) : Rn p e below F T g := by
  obtain ⟨locs, X, N, H⟩ := Y
  obtain ⟨⟨kc, ⟨cl, A, q1, S, q3, Hh, G⟩, -⟩, q⟩ := H.ary hi
  have hl' : k.toNatClampNeg < (xs.map Value.int).length := by simpa using hl
  obtain ⟨T', h', X', e', W, st⟩ := stI X hx hZ rfl A (fun r => r.elim hk fun r => absurd hl' (by rw [q, ← S]; exact Nat.not_lt.mpr r)) hg hs hd
  have hfr := (H.get hi).1.arr hl'
  refine Rn.go st (kk T' ⟨_, X', Fr.snoc X' N hfr, ?_⟩)
  rw [e']
  refine H.upd hi hfr W fun O => ?_
  have := Ary.put hk hl' rfl W O
  rw [← List.map_set] at this
  exact this
theorem On.bsto (Y : On p l e R s m args below meth c Z n0 T cells slots D) (hx : p.tables.exec = Jvm.exec) (hZ : Z.Warmed39 s.vm) {xs : List Int32} (hi : D[i]? = some (ari a .byte z xs)) {k x : Int32} (hk : ¬ k < 0) (hl : k.toNatClampNeg < xs.length)
    {g : JFrame} (hg : g.method = m) {rest : List Value} (hs : g.stack = .int x :: .int k :: .ref a :: rest) (hd : decode c.code g.pc = .ok (.bastore, 1))
    (kk : ∀ T', On p l e R s m args below meth c Z n0 T' cells slots (D.set i (ari a .byte z (xs.set k.toNatClampNeg x.toInt8.toInt32))) → Rn p e below F T' { g with pc := g.pc + 1, stack := rest }) : Rn p e below F T g := by
  obtain ⟨locs, X, N, H⟩ := Y
  obtain ⟨⟨kc, ⟨cl, A, q1, S, q3, Hh, G⟩, -⟩, q⟩ := H.ary hi
  have hl' : k.toNatClampNeg < (xs.map Value.int).length := by simpa using hl
  obtain ⟨T', h', X', e', W, st⟩ := stB X hx hZ rfl A (fun r => r.elim hk fun r => absurd hl' (by rw [q, ← S]; exact Nat.not_lt.mpr r)) hg hs hd
  have hfr := (H.get hi).1.arr hl'
  refine Rn.go st (kk T' ⟨_, X', Fr.snoc X' N hfr, ?_⟩)
  rw [e']
  refine H.upd hi hfr W fun O => ?_
  have := Ary.put hk hl' (fits_nar_byte _) W O
  rw [← List.map_set] at this
  exact this
theorem On.zsto (Y : On p l e R s m args below meth c Z n0 T cells slots D) (hx : p.tables.exec = Jvm.exec) (hZ : Z.Warmed39 s.vm) {xs : List Int32} (hi : D[i]? = some (ari a .boolean z xs)) {k x : Int32} (hk : ¬ k < 0) (hl : k.toNatClampNeg < xs.length)
    {g : JFrame} (hg : g.method = m) {rest : List Value} (hs : g.stack = .int x :: .int k :: .ref a :: rest) (hd : decode c.code g.pc = .ok (.bastore, 1))
    (kk : ∀ T', On p l e R s m args below meth c Z n0 T' cells slots (D.set i (ari a .boolean z (xs.set k.toNatClampNeg (x &&& 1)))) → Rn p e below F T' { g with pc := g.pc + 1, stack := rest }) : Rn p e below F T g := by
  obtain ⟨locs, X, N, H⟩ := Y
  obtain ⟨⟨kc, ⟨cl, A, q1, S, q3, Hh, G⟩, -⟩, q⟩ := H.ary hi
  have hl' : k.toNatClampNeg < (xs.map Value.int).length := by simpa using hl
  obtain ⟨T', h', X', e', W, st⟩ := stZ X hx hZ rfl A (fun r => r.elim hk fun r => absurd hl' (by rw [q, ← S]; exact Nat.not_lt.mpr r)) hg hs hd
  have hfr := (H.get hi).1.arr hl'
  refine Rn.go st (kk T' ⟨_, X', Fr.snoc X' N hfr, ?_⟩)
  rw [e']
  refine H.upd hi hfr W fun O => ?_
  have := Ary.put hk hl' (fits_nar_bool _) W O
  rw [← List.map_set] at this
  exact this
theorem On.jsto (Y : On p l e R s m args below meth c Z n0 T cells slots D) (hx : p.tables.exec = Jvm.exec) (hZ : Z.Warmed39 s.vm) {xs : List Int64} (hi : D[i]? = some (arj a z xs)) {k : Int32} {x : Int64} (hk : ¬ k < 0) (hl : k.toNatClampNeg < xs.length)
    {g : JFrame} (hg : g.method = m) {rest : List Value} (hs : g.stack = .long x :: .int k :: .ref a :: rest) (hd : decode c.code g.pc = .ok (.lastore, 1))
    (kk : ∀ T', On p l e R s m args below meth c Z n0 T' cells slots (D.set i (arj a z (xs.set k.toNatClampNeg x))) → Rn p e below F T' { g with pc := g.pc + 1, stack := rest }) : Rn p e below F T g := by
  obtain ⟨locs, X, N, H⟩ := Y
  obtain ⟨⟨kc, ⟨cl, A, q1, S, q3, Hh, G⟩, -⟩, q⟩ := H.ary hi
  have hl' : k.toNatClampNeg < (xs.map Value.long).length := by simpa using hl
  obtain ⟨T', h', X', e', W, st⟩ := stJ X hx hZ rfl A (fun r => r.elim hk fun r => absurd hl' (by rw [q, ← S]; exact Nat.not_lt.mpr r)) hg hs hd
  have hfr := (H.get hi).1.arr hl'
  refine Rn.go st (kk T' ⟨_, X', Fr.snoc X' N hfr, ?_⟩)
  rw [e']
  refine H.upd hi hfr W fun O => ?_
  have := Ary.put hk hl' rfl W O
  rw [← List.map_set] at this
  exact this
/-- the cell of an array, opened for a load -/
theorem Ary.at (O : Ary Z h a ty z vs) {k : Int32} (hk : ¬ k < 0) (hv : vs[k.toNatClampNeg]? = some v) : ∃ cl, Arr Z h a cl ty ∧ ¬ (k < 0 ∨ cl.slots.size ≤ k.toNatClampNeg) ∧ cl.slots[k.toNatClampNeg]? = some v := by
  obtain ⟨⟨kc, ⟨cl, A, q1, S, q3, H, G⟩, -⟩, q⟩ := O
  have hl := (List.getElem?_eq_some_iff.mp hv).1
  have hl2 : k.toNatClampNeg < cl.slots.size := by rw [S, ← q]; exact hl
  exact ⟨cl, A, fun r => r.elim hk (Nat.not_le.mpr hl2), by rw [H _ hl2, List.getD_eq_getElem?_getD, hv]; rfl⟩
theorem On.ild (Y : On p l e R s m args below meth c Z n0 T cells slots D) (hx : p.tables.exec = Jvm.exec) (hZ : Z.Warmed39 s.vm) {xs : List Int32} (hi : D[i]? = some (ari a .int z xs)) {k x : Int32} (hk : ¬ k < 0) (hv : xs[k.toNatClampNeg]? = some x)
    {g : JFrame} (hg : g.method = m) {rest : List Value} (hs : g.stack = .int k :: .ref a :: rest) (hd : decode c.code g.pc = .ok (.iaload, 1))
    (kk : Rn p e below F T { g with pc := g.pc + 1, stack := .int x :: rest }) : Rn p e below F T g := by
  obtain ⟨locs, X, N, H⟩ := Y
  obtain ⟨cl, A, h1, h2⟩ := (H.ary hi).at (v := .int x) hk (by simp [List.getElem?_map, hv])
  exact Rn.go (fun t kt => X.iaload hx A.1 (State.isArrayOf_alike hZ.alike A.2.1) A.2.2 h1 h2 hg hs hd t kt) kk
theorem On.bld (Y : On p l e R s m args below meth c Z n0 T cells slots D) (hx : p.tables.exec = Jvm.exec) (hZ : Z.Warmed39 s.vm) {xs : List Int32} (hi : D[i]? = some (ari a .byte z xs)) {k x : Int32} (hk : ¬ k < 0) (hv : xs[k.toNatClampNeg]? = some x)
    {g : JFrame} (hg : g.method = m) {rest : List Value} (hs : g.stack = .int k :: .ref a :: rest) (hd : decode c.code g.pc = .ok (.baload, 1))
    (kk : Rn p e below F T { g with pc := g.pc + 1, stack := .int x :: rest }) : Rn p e below F T g := by
  obtain ⟨locs, X, N, H⟩ := Y
  obtain ⟨cl, A, h1, h2⟩ := (H.ary hi).at (v := .int x) hk (by simp [List.getElem?_map, hv])
  exact Rn.go (fun t kt => X.baloadBytes hx A.1 (State.isArrayOf_alike hZ.alike A.2.1) A.2.2 h1 h2 hg hs hd t kt) kk
theorem On.zld (Y : On p l e R s m args below meth c Z n0 T cells slots D) (hx : p.tables.exec = Jvm.exec) (hZ : Z.Warmed39 s.vm) {xs : List Int32} (hi : D[i]? = some (ari a .boolean z xs)) {k x : Int32} (hk : ¬ k < 0) (hv : xs[k.toNatClampNeg]? = some x)
    {g : JFrame} (hg : g.method = m) {rest : List Value} (hs : g.stack = .int k :: .ref a :: rest) (hd : decode c.code g.pc = .ok (.baload, 1))
    (kk : Rn p e below F T { g with pc := g.pc + 1, stack := .int x :: rest }) : Rn p e below F T g := by
  obtain ⟨locs, X, N, H⟩ := Y
  obtain ⟨cl, A, h1, h2⟩ := (H.ary hi).at (v := .int x) hk (by simp [List.getElem?_map, hv])
  exact Rn.go (fun t kt => X.baloadBooleans hx A.1 (State.isArrayOf_alike hZ.alike A.2.1) A.2.2 h1 h2 hg hs hd t kt) kk
theorem On.jld (Y : On p l e R s m args below meth c Z n0 T cells slots D) (hx : p.tables.exec = Jvm.exec) (hZ : Z.Warmed39 s.vm) {xs : List Int64} (hi : D[i]? = some (arj a z xs)) {k : Int32} {x : Int64} (hk : ¬ k < 0) (hv : xs[k.toNatClampNeg]? = some x)
    {g : JFrame} (hg : g.method = m) {rest : List Value} (hs : g.stack = .int k :: .ref a :: rest) (hd : decode c.code g.pc = .ok (.laload, 1))
    (kk : Rn p e below F T { g with pc := g.pc + 1, stack := .long x :: rest }) : Rn p e below F T g := by
  obtain ⟨locs, X, N, H⟩ := Y
  obtain ⟨cl, A, h1, h2⟩ := (H.ary hi).at (v := .long x) hk (by simp [List.getElem?_map, hv])
  exact Rn.go (fun t kt => X.laload hx A.1 (State.isArrayOf_alike hZ.alike A.2.1) A.2.2 h1 h2 hg hs hd t kt) kk
theorem On.alen (Y : On p l e R s m args below meth c Z n0 T cells slots D) (hx : p.tables.exec = Jvm.exec) (hZ : Z.Warmed39 s.vm) (hi : D[i]? = some (ar a ty z vs))
    {g : JFrame} (hg : g.method = m) {rest : List Value} (hs : g.stack = .ref a :: rest) (hd : decode c.code g.pc = .ok (.arraylength, 1))
    (kk : Rn p e below F T { g with pc := g.pc + 1, stack := .int z :: rest }) : Rn p e below F T g := by
  obtain ⟨locs, X, N, H⟩ := Y
  obtain ⟨⟨kc, ⟨cl, A, q1, S, q3, Hh, G⟩, -⟩, q⟩ := H.ary hi
  refine Rn.go (fun t kt => X.arraylength hx A.1 (State.isArrayOf_alike hZ.alike A.2.1) hg hs hd t kt) ?_
  rw [len_of S q3]; exact kk
theorem On.ldcI (Y : On p l e R s m args below meth c Z n0 T cells slots D) (hx : p.tables.exec = Jvm.exec) (hZ : Z.Warmed39 s.vm) {own : String} {index : Nat} {x : Int32} (hown : s.vm.findClass own = some m.cls) (w : (Cond.constant own index x).before a0 Z = true)
    {g : JFrame} (hg : g.method = m) (hd : decode c.code g.pc = .ok (.ldc index, 2)) (kk : Rn p e below F T { g with pc := g.pc + 2, stack := .int x :: g.stack }) : Rn p e below F T g := by
  obtain ⟨locs, X, N, H⟩ := Y
  exact Rn.go (X.ldcInt hx hown (mvT hZ w) hg hd) kk
theorem On.ldcJ (Y : On p l e R s m args below meth c Z n0 T cells slots D) (hx : p.tables.exec = Jvm.exec) (hZ : Z.Warmed39 s.vm) {own : String} {index : Nat} {x : Int64} (hown : s.vm.findClass own = some m.cls) (w : (Cond.constantLong own index x).before a0 Z = true)
    {g : JFrame} (hg : g.method = m) (hd : decode c.code g.pc = .ok (.ldc2_w index, 3)) (kk : Rn p e below F T { g with pc := g.pc + 3, stack := .long x :: g.stack }) : Rn p e below F T g := by
  obtain ⟨locs, X, N, H⟩ := Y
  exact Rn.go (X.ldc2Long hx hown (mvT hZ w) hg hd) kk
theorem On.sldcI (Y : On p l e R s m args below meth c Z n0 T cells slots D) (hx : p.tables.exec = Jvm.exec) (hZ : Z.Warmed39 s.vm) {own : String} {index : Nat} {x : Int32} (hown : s.vm.findClass own = some m.cls) (w : (Cond.constant own index x).before a0 Z = true)
    {g : JFrame} (hg : g.method = m) (hd : decode c.code g.pc = .ok (.ldc index, 2)) : ∀ t, Steps p.tables e below (T.setTop { g with pc := g.pc + 2, stack := .int x :: g.stack }) t → Steps p.tables e below (T.setTop g) t := by
  obtain ⟨locs, X, N, H⟩ := Y
  exact X.ldcInt hx hown (mvT hZ w) hg hd
theorem On.sldcJ (Y : On p l e R s m args below meth c Z n0 T cells slots D) (hx : p.tables.exec = Jvm.exec) (hZ : Z.Warmed39 s.vm) {own : String} {index : Nat} {x : Int64} (hown : s.vm.findClass own = some m.cls) (w : (Cond.constantLong own index x).before a0 Z = true)
    {g : JFrame} (hg : g.method = m) (hd : decode c.code g.pc = .ok (.ldc2_w index, 3)) : ∀ t, Steps p.tables e below (T.setTop { g with pc := g.pc + 3, stack := .long x :: g.stack }) t → Steps p.tables e below (T.setTop g) t := by
  obtain ⟨locs, X, N, H⟩ := Y
  exact X.ldc2Long hx hown (mvT hZ w) hg hd
theorem On.ini (Y : On p l e R s m args below meth c Z n0 T cells slots D) (hx : p.tables.exec = Jvm.exec) (hZ : Z.Warmed39 s.vm) {own : String} {idx : Nat} (hown : s.vm.findClass own = some m.cls) (w1 : (Cond.methodLink own idx Lib.objectInit).before a0 Z = true) (w2 : (Cond.instanceMethod Lib.objectInit).before a0 Z = true)
    (w3 : (Cond.code Lib.objectInit ⟨#[0xb1]⟩ 1 none).before a0 Z = true) {g : JFrame} (hg : g.method = m) (hsize : g.locals.size = c.maxLocals) {a : Addr} {rest : List Value} (hs : g.stack = .ref a :: rest) (hd : decode c.code g.pc = .ok (.invokespecial idx, 3))
    (hf : 1 ≤ R.frames) {W : Nat} (hW : 2 * g.monitorRoom + (rest.map fun v => v.category).sum ≤ W) (hl : W + 12 ≤ R.locals)
    (k : ∀ T', On p l e R s m args below meth c Z n0 T' cells slots D → Rn p e below F T' { g with pc := g.pc + 3, stack := rest }) : Rn p e below F T g := by
  obtain ⟨locs, X, N, H⟩ := Y
  obtain ⟨T', X', e', st⟩ := initO X hx hZ hown w1 w2 w3 rfl hg hsize hs hd hf hW hl
  exact Rn.go st (k T' ⟨locs, X', N, by rw [e']; exact H⟩)
/-! ## D. A method's contract: from a heap that holds D, with these arguments, it returns v and leaves a heap that holds D', where P v D' -/
def QP (Z : State) (n0 : Nat) (P : Option Value → List (Addr × Itm) → Prop) (v : Option Value) (h : Heap) (L : List Loc) : Prop := ∃ D', P v D' ∧ Fr n0 L ∧ Hp Z n0 h D'
def Con (l : Launch) (Z : State) (n0 : Nat) (y : MethodName) (bytes : ByteArray) (maxL : Nat) (ret : Option FieldType) (rm : Room) (as : Array Value) (D : List (Addr × Itm)) (P : Option Value → List (Addr × Itm) → Prop) : Prop :=
  ∀ (ws : List Cond) (h0 : Heap), Hp Z n0 h0 D → MetFree l y (head1 (Cond.code y bytes maxL ret :: ws) rm) (fun a U => a = as ∧ Z.Warmed39 U.vm ∧ U.heap = h0) (fun _ _ _ _ _ => True) (fun _ U o U' => ∃ v L, o = .returned v ∧ QP Z n0 P v U'.heap L ∧ FrameEnd U o U' L rm.cells rm.slots)
def Cx (p : Program) (s : State) (m : MethodId) (meth : Method) (c : Code) (Z : State) (y : MethodName) (bytes : ByteArray) (maxL : Nat) (ret : Option FieldType) : Prop :=
  p.tables.exec = Jvm.exec ∧ c.code = bytes ∧ c.maxLocals = maxL ∧ s.vm.findClass y.cls = some m.cls ∧ meth.name = y.name ∧ meth.sig.returnType = ret ∧ meth.locks = false ∧ Z.Warmed39 s.vm
def Fi (Z : State) (n0 : Nat) (below : List Frame) (s : State) (kc ks : Nat) (P : Option Value → List (Addr × Itm) → Prop) (U : State) : Prop := ∃ o, U.status = .running ∧ Ended U below o ∧ ∃ v L, o = .returned v ∧ QP Z n0 P v U.heap L ∧ FrameEnd s o U L kc ks
variable {y : MethodName} {bytes : ByteArray} {maxL : Nat} {ret : Option FieldType} {rm : Room} {as : Array Value} {P : Option Value → List (Addr × Itm) → Prop} {kc ks : Nat}
theorem Con.of (hp : plainFor y = true) (body : ∀ {p : Program} {e : Env} {s : State} {m : MethodId} {below : List Frame} {meth : Method} {c : Code} {T : State}, Cx p s m meth c Z y bytes maxL ret → On p l e rm s m as below meth c Z n0 T 0 0 D → Rn p e below (Fi Z n0 below s rm.cells rm.slots P) T (entryFrame m as maxL)) :
    Con l Z n0 y bytes maxL ret rm as D P := by
  intro ws h0 H
  refine MetFree.of_bodySF hp hisR ?_
  intro p e s m args below meth c s₁ Bd hml0 hP hK
  obtain ⟨rfl, hZ, hh⟩ := hP
  have X0 : Stand p l e rm s m args below meth c s₁ [] 0 0 := Stand.of_body Bd
  have e0 : s₁.heap = h0 := by rw [← hh, Bd.state]; rfl
  obtain ⟨U, h1, o, h2, h3, h4⟩ := body ⟨Bd.exec, Bd.bytes, hml0, findClass_of_methodNamed Bd.named, (name_of_methodNamed Bd.named Bd.method).1, Bd.returns, Bd.notSynchronized, hZ⟩ ⟨[], X0, Fr.nil n0, by rw [e0]; exact H⟩
  exact ⟨U, o, h1, h2, h3, h4⟩
theorem On.out (Y : On p l e R s m args below meth c Z n0 T cells slots D) {v : Option Value} (hv : meth.sig.returnType = none → v = none) (hlk : meth.locks = false) (hc : cells ≤ kc) (hs : slots ≤ ks) (hP : P v D)
    (st : ∀ locs fs, Stand p l e R s m args below meth c T locs cells slots → (∀ (f : JFrame) (acts : List Action), f.method = m → f.locked = none → f.entered = [] → (doReturn e (T.setTop f) acts v).1 = T.setFrames fs) → Steps p.tables e below (T.setTop g) (T.setFrames fs)) : Rn p e below (Fi Z n0 below s kc ks P) T g := by
  obtain ⟨locs, X, N, H⟩ := Y
  obtain ⟨fs, hr, hrun, hended, hW, hsame⟩ := X.leave hv hlk
  exact ⟨_, st locs fs X hr, _, hrun, hended, _, _, rfl, ⟨D, hP, N, H⟩, ⟨_, rfl⟩, hW, hsame.mono hc hs⟩
theorem On.retv (Y : On p l e R s m args below meth c Z n0 T cells slots D) (hx : p.tables.exec = Jvm.exec) (hret : meth.sig.returnType = none) (hlk : meth.locks = false) {pc : Nat} {Ls : Array Slot} (hd : decode c.code pc = .ok (.return_, 1)) (hc : cells ≤ kc) (hs : slots ≤ ks) (hP : P none D) : Rn p e below (Fi Z n0 below s kc ks P) T (mkF m pc Ls []) :=
  Y.out (fun _ => rfl) hlk hc hs hP fun locs fs X hr => X.returnOut hx hret hd hr
theorem On.reti (Y : On p l e R s m args below meth c Z n0 T cells slots D) (hx : p.tables.exec = Jvm.exec) (hret : meth.sig.returnType = some .int) (hlk : meth.locks = false) {pc : Nat} {Ls : Array Slot} {z : Int32} {rest : List Value} (hd : decode c.code pc = .ok (.ireturn, 1)) (hc : cells ≤ kc) (hs : slots ≤ ks) (hP : P (some (.int z)) D) : Rn p e below (Fi Z n0 below s kc ks P) T (mkF m pc Ls (.int z :: rest)) :=
  Y.out (fun q => by rw [hret] at q; cases q) hlk hc hs hP fun locs fs X hr => retOut X hx hret rfl (Or.inl ⟨rfl, Or.inl rfl, _, rfl⟩) hd hr
theorem On.retn (Y : On p l e R s m args below meth c Z n0 T cells slots D) (hx : p.tables.exec = Jvm.exec) {t : FieldType} (hret : meth.sig.returnType = some t) (ht : t = .boolean ∨ t = .byte ∨ t = .char ∨ t = .short) (hlk : meth.locks = false) {pc : Nat} {Ls : Array Slot} {z z' : Int32} (hz : nar t z = z') {rest : List Value} (hd : decode c.code pc = .ok (.ireturn, 1)) (hc : cells ≤ kc) (hs : slots ≤ ks) (hP : P (some (.int z')) D) : Rn p e below (Fi Z n0 below s kc ks P) T (mkF m pc Ls (.int z :: rest)) := by
  subst hz
  exact Y.out (fun q => by rw [hret] at q; cases q) hlk hc hs hP fun locs fs X hr => retN X hx hret ht hd hr
theorem On.retj (Y : On p l e R s m args below meth c Z n0 T cells slots D) (hx : p.tables.exec = Jvm.exec) (hret : meth.sig.returnType = some .long) (hlk : meth.locks = false) {pc : Nat} {Ls : Array Slot} {z : Int64} {rest : List Value} (hd : decode c.code pc = .ok (.lreturn, 1)) (hc : cells ≤ kc) (hs : slots ≤ ks) (hP : P (some (.long z)) D) : Rn p e below (Fi Z n0 below s kc ks P) T (mkF m pc Ls (.long z :: rest)) :=
  Y.out (fun q => by rw [hret] at q; cases q) hlk hc hs hP fun locs fs X hr => retOut X hx hret rfl (Or.inr (Or.inl ⟨rfl, rfl, _, rfl⟩)) hd hr
theorem On.reta (Y : On p l e R s m args below meth c Z n0 T cells slots D) (hx : p.tables.exec = Jvm.exec) {t : FieldType} (hret : meth.sig.returnType = some t) (ht : t.isReference = true) (hlk : meth.locks = false) {pc : Nat} {Ls : Array Slot} {z : Value} (hz : z.isRef = true) (hn : narrow t z = z) {rest : List Value} (hd : decode c.code pc = .ok (.areturn, 1)) (hc : cells ≤ kc) (hs : slots ≤ ks) (hP : P (some z) D) : Rn p e below (Fi Z n0 below s kc ks P) T (mkF m pc Ls (z :: rest)) :=
  Y.out (fun q => by rw [hret] at q; cases q) hlk hc hs hP fun locs fs X hr => retOut X hx hret hn (Or.inr (Or.inr (Or.inr (Or.inr ⟨rfl, ht, hz⟩)))) hd hr
/-! ## E. Calls -/
theorem On.special (Y : On p l e R s m args below meth c Z n0 T cells slots D) (hx : p.tables.exec = Jvm.exec) (hZ : Z.Warmed39 s.vm) {own : String} {index : Nat} (hy1 : y.name = "<init>") (hown : s.vm.findClass own = some m.cls) (w1 : (Cond.methodLink own index y).before a0 Z = true) (w2 : (Cond.instanceMethod y).before a0 Z = true) (w3 : (Cond.code y bytes maxL none).before a0 Z = true) (w4 : (Cond.initialized y.cls).before a0 Z = true)
    (hy : y.cls ≠ "java/lang/invoke/MethodHandle" ∧ y.cls ≠ "java/lang/invoke/VarHandle") {a : Addr} {argsL rest : List Value} (K : Con l Z n0 y bytes maxL none rm (.ref a :: argsL).toArray D P)
    {W : Nat} (hf : rm.frames + 1 ≤ R.frames) (hl : W + (maxL + 11) + rm.locals ≤ R.locals) (hc : cells + rm.cells ≤ R.cells) (hs : slots + rm.slots ≤ R.slots)
    {g : JFrame} (hg : g.method = m) (hsize : g.locals.size = c.maxLocals) (hlen : ∀ sig, parseMethodDescriptor y.desc = some sig → argsL.length = sig.parameters.length) (hstack : g.stack = argsL.reverse ++ .ref a :: rest) (hW : 2 * g.monitorRoom + (rest.map fun v => v.category).sum ≤ W) (hd : decode c.code g.pc = .ok (.invokespecial index, 3))
    (k : ∀ T' v D', P v D' → On p l e R s m args below meth c Z n0 T' (cells + rm.cells) (slots + rm.slots) D' → Rn p e below F T' { g with pc := g.pc + 3, stack := v.toList ++ rest }) : Rn p e below F T g := by
  obtain ⟨locs, X, N, H⟩ := Y
  obtain ⟨v, _, ⟨T', L', k', n'⟩, -, X', ⟨Lc, hQ, l', y', z'⟩, st⟩ := X.specialBack hx hy1 hown (mvT hZ w1) (mvT hZ w2) (mvT hZ w3) hy (backOf (W := W) (K [] T.heap H) hZ w3 w4 hf hl) hg hsize (Steps.refl _) (a := a) (argsL := argsL) (rest := rest) hlen hstack hW hd (fun _ _ => ⟨rfl, rfl, hc, hs⟩)
  dsimp only [Pt.U, Pt.locs, Pt.cells, Pt.slots] at X' l' y' z' st hQ
  subst l' y' z'
  obtain ⟨D', hP, N', H'⟩ := hQ
  exact Rn.to st (k T' v D' hP ⟨_, X', Fr.app N N', H'⟩)
theorem On.virtual (Y : On p l e R s m args below meth c Z n0 T cells slots D) (hx : p.tables.exec = Jvm.exec) (hZ : Z.Warmed39 s.vm) {own : String} {index : Nat} (hown : s.vm.findClass own = some m.cls) (w1 : (Cond.methodLink own index y).before a0 Z = true) (w2 : (Cond.declares y).before a0 Z = true) (w3 : (Cond.instanceMethod y).before a0 Z = true) (w4 : (Cond.selects C y y).before a0 Z = true) (w5 : (Cond.code y bytes maxL ret).before a0 Z = true) (w6 : (Cond.initialized y.cls).before a0 Z = true)
    (hy : y.cls ≠ "java/lang/invoke/MethodHandle" ∧ y.cls ≠ "java/lang/invoke/VarHandle") {a : Addr} {argsL rest : List Value} (hi : D[i]? = some (ob a C fs)) (K : Con l Z n0 y bytes maxL ret rm (.ref a :: argsL).toArray D P)
    {W : Nat} (hf : rm.frames + 1 ≤ R.frames) (hl : W + (maxL + 11) + rm.locals ≤ R.locals) (hc : cells + rm.cells ≤ R.cells) (hs : slots + rm.slots ≤ R.slots)
    {g : JFrame} (hg : g.method = m) (hsize : g.locals.size = c.maxLocals) (hlen : ∀ sig, parseMethodDescriptor y.desc = some sig → argsL.length = sig.parameters.length) (hstack : g.stack = argsL.reverse ++ .ref a :: rest) (hW : 2 * g.monitorRoom + (rest.map fun v => v.category).sum ≤ W) (hd : decode c.code g.pc = .ok (.invokevirtual index, 3))
    (k : ∀ T' v D', P v D' → On p l e R s m args below meth c Z n0 T' (cells + rm.cells) (slots + rm.slots) D' → Rn p e below F T' { g with pc := g.pc + 3, stack := v.toList ++ rest }) : Rn p e below F T g := by
  obtain ⟨locs, X, N, H⟩ := Y
  obtain ⟨cq, kq, qa, qb, qc⟩ := isOf hZ rfl (H.exa hi)
  obtain ⟨v, _, ⟨T', L', k', n'⟩, -, X', ⟨Lc, hQ, l', y', z'⟩, st⟩ := X.virtualBack hx (y := y) (z := y) hown (mvT hZ w1) (mvT hZ w2) (notFace_of_selects (args := #[]) (mvT hZ w4)) (mvT hZ w4) (mvT hZ w3) hy (backOf (W := W) (K [] T.heap H) hZ w5 w6 hf hl) qa qc hg hsize (Steps.refl _) (argsL := argsL) (rest := rest) hlen hstack hW hd (fun _ _ => ⟨rfl, rfl, hc, hs⟩)
  dsimp only [Pt.U, Pt.locs, Pt.cells, Pt.slots] at X' l' y' z' st hQ
  subst l' y' z'
  obtain ⟨D', hP, N', H'⟩ := hQ
  exact Rn.to st (k T' v D' hP ⟨_, X', Fr.app N N', H'⟩)
theorem On.static (Y : On p l e R s m args below meth c Z n0 T cells slots D) (hx : p.tables.exec = Jvm.exec) (hZ : Z.Warmed39 s.vm) {own : String} {index : Nat} (hown : s.vm.findClass own = some m.cls) (w1 : (Cond.methodLink own index y).before a0 Z = true) (w2 : (Cond.static y).before a0 Z = true) (w3 : (Cond.code y bytes maxL ret).before a0 Z = true) (w4 : (Cond.initialized y.cls).before a0 Z = true)
    (hy : y.cls ≠ "java/lang/invoke/MethodHandle" ∧ y.cls ≠ "java/lang/invoke/VarHandle") {argsL rest : List Value} (K : Con l Z n0 y bytes maxL ret rm argsL.toArray D P)
    {W : Nat} (hf : rm.frames + 1 ≤ R.frames) (hl : W + (maxL + 11) + rm.locals ≤ R.locals) (hc : cells + rm.cells ≤ R.cells) (hs : slots + rm.slots ≤ R.slots)
    {g : JFrame} (hg : g.method = m) (hsize : g.locals.size = c.maxLocals) (hlen : ∀ sig, parseMethodDescriptor y.desc = some sig → argsL.length = sig.parameters.length) (hstack : g.stack = argsL.reverse ++ rest) (hW : 2 * g.monitorRoom + (rest.map fun v => v.category).sum ≤ W) (hd : decode c.code g.pc = .ok (.invokestatic index, 3))
    (k : ∀ T' v D', P v D' → On p l e R s m args below meth c Z n0 T' (cells + rm.cells) (slots + rm.slots) D' → Rn p e below F T' { g with pc := g.pc + 3, stack := v.toList ++ rest }) : Rn p e below F T g := by
  obtain ⟨locs, X, N, H⟩ := Y
  obtain ⟨v, _, ⟨T', L', k', n'⟩, -, X', ⟨Lc, hQ, l', y', z'⟩, st⟩ := Jvm.LawKit.callS X hx hown (mvT hZ w1) (mvT hZ w2) (mvT hZ w4) (mvT hZ w3) hy (backOf (W := W) (K [] T.heap H) hZ w3 w4 hf hl) hg hsize (argsL := argsL) (rest := rest) hlen hstack hW hd (fun _ _ => ⟨rfl, rfl, hc, hs⟩)
  dsimp only [Pt.U, Pt.locs, Pt.cells, Pt.slots] at X' l' y' z' st hQ
  subst l' y' z'
  obtain ⟨D', hP, N', H'⟩ := hQ
  exact Rn.go st (k T' v D' hP ⟨_, X', Fr.app N N', H'⟩)
theorem On.priv (Y : On p l e R s m args below meth c Z n0 T cells slots D) (hx : p.tables.exec = Jvm.exec) (hZ : Z.Warmed39 s.vm) {own : String} {index kk : Nat} (hown : s.vm.findClass own = some m.cls) (w1 : (Cond.methodLink own index y).before a0 Z = true) (w2 : (Cond.instanceMethod y).before a0 Z = true) (w3 : (Cond.privateMethod y).before a0 Z = true) (wi : (Cond.instantiable y.cls kk).before a0 Z = true) (w4 : (Cond.code y bytes maxL ret).before a0 Z = true) (w5 : (Cond.initialized y.cls).before a0 Z = true)
    (hy : y.cls ≠ "java/lang/invoke/MethodHandle" ∧ y.cls ≠ "java/lang/invoke/VarHandle") {a : Addr} {argsL rest : List Value} (hi : D[i]? = some (ob a C fs)) (K : Con l Z n0 y bytes maxL ret rm (.ref a :: argsL).toArray D P)
    {W : Nat} (hf : rm.frames + 1 ≤ R.frames) (hl : W + (maxL + 11) + rm.locals ≤ R.locals) (hc : cells + rm.cells ≤ R.cells) (hs : slots + rm.slots ≤ R.slots)
    {g : JFrame} (hg : g.method = m) (hsize : g.locals.size = c.maxLocals) (hlen : ∀ sig, parseMethodDescriptor y.desc = some sig → argsL.length = sig.parameters.length) (hstack : g.stack = argsL.reverse ++ .ref a :: rest) (hW : 2 * g.monitorRoom + (rest.map fun v => v.category).sum ≤ W) (hd : decode c.code g.pc = .ok (.invokevirtual index, 3))
    (k : ∀ T' v D', P v D' → On p l e R s m args below meth c Z n0 T' (cells + rm.cells) (slots + rm.slots) D' → Rn p e below F T' { g with pc := g.pc + 3, stack := v.toList ++ rest }) : Rn p e below F T g := by
  obtain ⟨locs, X, N, H⟩ := Y
  have hp : s.PrivateAt y := Cond.privateMethod_at (mvP hZ w3 (args := #[]))
  have wi' : (Cond.instantiable y.cls kk).before args s = true := mvT hZ wi
  obtain ⟨cc, kc, i1, i2, -, i4, -⟩ := Cond.instantiable_spec wi'
  have hsel : (Cond.selects y.cls y y).before args s = true := selects_self_of_private i1 i2 (by simp at i4; exact i4.1) hp (mvT hZ w2) hy
  obtain ⟨cq, q, q'⟩ := (H.exa hi).cell
  obtain ⟨v, _, ⟨T', L', k', n'⟩, -, X', ⟨Lc, hQ, l', y', z'⟩, st⟩ := X.privateBack hx (y := y) hown (mvT hZ w1) (mvT hZ w2) hsel hp (mvT hZ w4) hy (backOf (W := W) (K [] T.heap H) hZ w4 w5 hf hl) hg hsize (Steps.refl _) (a := a) q q' (argsL := argsL) (rest := rest) hlen hstack hW hd (fun _ _ => ⟨rfl, rfl, hc, hs⟩)
  dsimp only [Pt.U, Pt.locs, Pt.cells, Pt.slots] at X' l' y' z' st hQ
  subst l' y' z'
  obtain ⟨D', hP, N', H'⟩ := hQ
  exact Rn.to st (k T' v D' hP ⟨_, X', Fr.app N N', H'⟩)
theorem On.insY (Y : On p l e R s m args below meth c Z n0 T cells slots D) (hx : p.tables.exec = Jvm.exec) (hZ : Z.Warmed39 s.vm) {own : String} {index : Nat} (hown : s.vm.findClass own = some m.cls) (w : (Cond.classLink own index C).before a0 Z = true) (hi : D[i]? = some (ob a C fs))
    {g : JFrame} (hg : g.method = m) {rest : List Value} (hs : g.stack = .ref a :: rest) (hd : decode c.code g.pc = .ok (.instanceof index, 3)) (k : ∀ T', On p l e R s m args below meth c Z n0 T' cells slots D → Rn p e below F T' { g with pc := g.pc + 3, stack := .int 1 :: rest }) : Rn p e below F T g := by
  obtain ⟨locs, X, N, H⟩ := Y
  obtain ⟨T', X', e', st⟩ := instY X hx hZ hown w rfl (Ins.self (H.exa hi)) hg hs hd
  exact Rn.go st (k T' ⟨locs, X', N, by rw [e']; exact H⟩)
theorem On.castS (Y : On p l e R s m args below meth c Z n0 T cells slots D) (hx : p.tables.exec = Jvm.exec) (hZ : Z.Warmed39 s.vm) {own : String} {index : Nat} (hown : s.vm.findClass own = some m.cls) (w : (Cond.classLink own index C).before a0 Z = true) (hi : D[i]? = some (ob a C fs))
    {g : JFrame} (hg : g.method = m) {rest : List Value} (hs : g.stack = .ref a :: rest) (hd : decode c.code g.pc = .ok (.checkcast index, 3)) (k : ∀ T', On p l e R s m args below meth c Z n0 T' cells slots D → Rn p e below F T' { g with pc := g.pc + 3 }) : Rn p e below F T g := by
  obtain ⟨locs, X, N, H⟩ := Y
  obtain ⟨T', X', e', st⟩ := castY X hx hZ hown w rfl (Ins.self (H.exa hi)) hg hs hd
  exact Rn.go st (k T' ⟨locs, X', N, by rw [e']; exact H⟩)
theorem On.insN (Y : On p l e R s m args below meth c Z n0 T cells slots D) (hx : p.tables.exec = Jvm.exec) (hZ : Z.Warmed39 s.vm) {own K : String} {index kk : Nat} (hown : s.vm.findClass own = some m.cls) (w : (Cond.classLink own index K).before a0 Z = true) (hi : D[i]? = some (ob a C fs)) (wi : (Cond.instantiable K kk).before a0 Z = true) {ch : List String} (hw : ∀ w ∈ Cond.chainWords (C :: ch), w.before a0 Z = true) (hn : K ∉ C :: ch)
    {g : JFrame} (hg : g.method = m) {rest : List Value} (hs : g.stack = .ref a :: rest) (hd : decode c.code g.pc = .ok (.instanceof index, 3)) (k : ∀ T', On p l e R s m args below meth c Z n0 T' cells slots D → Rn p e below F T' { g with pc := g.pc + 3, stack := .int 0 :: rest }) : Rn p e below F T g := by
  obtain ⟨locs, X, N, H⟩ := Y
  obtain ⟨cy, ky, i1, i2, i3, i4, -⟩ := Cond.instantiable_spec wi
  obtain ⟨cx, kx, j1, -⟩ := Cond.chain_head hw
  obtain ⟨T', X', e', st⟩ := instNo X hx hZ hown w rfl (H.exa hi) ⟨cx, cy, j1, i1, Vm.notAssignable_of_chain j1 i1 i2 i3 (by simp at i4; exact i4.1) hw hn⟩ hg hs hd
  exact Rn.go st (k T' ⟨locs, X', N, by rw [e']; exact H⟩)
theorem On.insNull (Y : On p l e R s m args below meth c Z n0 T cells slots D) (hx : p.tables.exec = Jvm.exec) {index : Nat}
    {g : JFrame} (hg : g.method = m) {rest : List Value} (hs : g.stack = .null :: rest) (hd : decode c.code g.pc = .ok (.instanceof index, 3)) (k : Rn p e below F T { g with pc := g.pc + 3, stack := .int 0 :: rest }) : Rn p e below F T g := by
  obtain ⟨locs, X, N, H⟩ := Y
  exact Rn.go (fun t kt => X.instanceofNull hx hg hs hd t kt) k
end Base
theorem own_le3 {v : Int32} (h1 : 0 ≤ v.toInt) (h2 : v.toInt ≤ 3) : v = 0 ∨ v = 1 ∨ v = 2 ∨ v = 3 := by
  have : v.toInt = 0 ∨ v.toInt = 1 ∨ v.toInt = 2 ∨ v.toInt = 3 := by omega
  rcases this with h | h | h | h
  · exact Or.inl (Int32.toInt_inj.mp (h.trans rfl))
  · exact Or.inr (Or.inl (Int32.toInt_inj.mp (h.trans rfl)))
  · exact Or.inr (Or.inr (Or.inl (Int32.toInt_inj.mp (h.trans rfl))))
  · exact Or.inr (Or.inr (Or.inr (Int32.toInt_inj.mp (h.trans rfl))))
/-! ## E2. Old objects, statics, arrays of references -/
section Extra
variable {p : Program} {l : Launch} {e : Env} {R : Room} {s : State} {m : MethodId} {args : Array Value} {below : List Frame} {meth : Method} {c : Code} {T T' : State} {locs : List Loc} {cells slots : Nat} {Z : State} {a0 : Array Value} {F : State → Prop} {g g' : JFrame} {n0 : Nat} {h h' : Heap} {a b : Addr} {C n d : String} {v w : Value} {D : List (Addr × Itm)} {i j : Nat} {vs : List Value} {ty : FieldType} {z : Int32}
variable {y : MethodName} {bytes : ByteArray} {maxL : Nat} {ret : Option FieldType} {rm : Room} {P : Option Value → List (Addr × Itm) → Prop}
theorem On.old (Y : On p l e R s m args below meth c Z n0 T cells slots D) : Ext Z.heap T.heap := by obtain ⟨_, _, _, H⟩ := Y; exact H.1.2
theorem On.gets (Y : On p l e R s m args below meth c Z n0 T cells slots D) (hx : p.tables.exec = Jvm.exec) (hZ : Z.Warmed39 s.vm) {own : String} {index : Nat} (hown : s.vm.findClass own = some m.cls) (w : (Cond.fieldLink own index C n d).before a0 Z = true) (S : Sta Z Z.heap C n d v)
    {g : JFrame} (hg : g.method = m) (hd : decode c.code g.pc = .ok (.getstatic index, 3)) (k : ∀ T', On p l e R s m args below meth c Z n0 T' cells slots D → Rn p e below F T' { g with pc := g.pc + 3, stack := v :: g.stack }) : Rn p e below F T g := by
  have E := Y.old
  obtain ⟨locs, X, N, H⟩ := Y
  obtain ⟨T', X', e', st⟩ := getS2 X hx hZ hown (host := "") (Or.inl w) Via.refl rfl (S.ext E) hg hd
  exact Rn.go st (k T' ⟨locs, X', N, by rw [e']; exact H⟩)
theorem On.rsto (Y : On p l e R s m args below meth c Z n0 T cells slots D) (hx : p.tables.exec = Jvm.exec) (hZ : Z.Warmed39 s.vm) (hi : D[i]? = some (ar a (.object C) z vs)) {k : Int32} {b : Addr} (hk : ¬ k < 0) (hl : k.toNatClampNeg < vs.length) (E : Exa Z T.heap b C)
    {g : JFrame} (hg : g.method = m) {rest : List Value} (hs : g.stack = .ref b :: .int k :: .ref a :: rest) (hd : decode c.code g.pc = .ok (.aastore, 1))
    (kk : ∀ T', On p l e R s m args below meth c Z n0 T' cells slots (D.set i (ar a (.object C) z (vs.set k.toNatClampNeg (.ref b)))) → Rn p e below F T' { g with pc := g.pc + 1, stack := rest }) : Rn p e below F T g := by
  obtain ⟨locs, X, N, H⟩ := Y
  obtain ⟨⟨kc, ⟨cl, A, q1, S, q3, Hh, G⟩, u⟩, q⟩ := H.ary hi
  obtain ⟨T', h', X', e', W, st⟩ := stR X hx hZ rfl A (fun r => r.elim hk fun r => absurd hl (by rw [q, ← S]; exact Nat.not_lt.mpr r)) rfl (Sto.of A (by rw [q1]; exact u C rfl) (Ins.self E)) hg hs hd
  have hfr := (H.get hi).1.arr hl
  refine Rn.go st (kk T' ⟨_, X', Fr.snoc X' N hfr, ?_⟩)
  rw [e']
  exact H.upd hi hfr W fun O => Ary.put hk hl rfl W O
theorem On.rld (Y : On p l e R s m args below meth c Z n0 T cells slots D) (hx : p.tables.exec = Jvm.exec) (hZ : Z.Warmed39 s.vm) (hi : D[i]? = some (ar a (.object C) z vs)) {k : Int32} (hk : ¬ k < 0) (hv : vs[k.toNatClampNeg]? = some v)
    {g : JFrame} (hg : g.method = m) {rest : List Value} (hs : g.stack = .int k :: .ref a :: rest) (hd : decode c.code g.pc = .ok (.aaload, 1))
    (kk : Rn p e below F T { g with pc := g.pc + 1, stack := v :: rest }) : Rn p e below F T g := by
  obtain ⟨locs, X, N, H⟩ := Y
  obtain ⟨cl, A, h1, h2⟩ := (H.ary hi).at hk hv
  exact Rn.go (fun t kt => X.aaload hx A.1 (State.isArrayOf_alike hZ.alike A.2.1) rfl A.2.2 h1 h2 hg hs hd t kt) kk
theorem On.acmp (Y : On p l e R s m args below meth c Z n0 T cells slots D) (hx : p.tables.exec = Jvm.exec) {g : JFrame} (hg : g.method = m) {cd : ACond} {x y : Value} (h1 : x.isRef = true) (h2 : y.isRef = true) {rest : List Value} {o : Int} {pc0 pc' : Nat} {same : Bool} (hpc : g.pc = pc0)
    (hd : decode c.code g.pc = .ok (.if_acmp cd o, 3)) (hs : g.stack = y :: x :: rest) (hq : decide (x = y) = same) (ho : 0 ≤ (pc0 : Int) + o) (hp : pc' = if acV cd same = true then ((pc0 : Int) + o).toNat else pc0 + 3)
    (kk : Rn p e below F T { g with pc := pc', stack := rest }) : Rn p e below F T g := by
  obtain ⟨locs, X, N, H⟩ := Y
  exact Rn.go (fun t kt => Jvm.RoadKit.acmp X hx hg h1 h2 hpc hd hs hq ho hp kt) kk
theorem On.virtualE (Y : On p l e R s m args below meth c Z n0 T cells slots D) (hx : p.tables.exec = Jvm.exec) (hZ : Z.Warmed39 s.vm) {own : String} {index : Nat} (hown : s.vm.findClass own = some m.cls) (w1 : (Cond.methodLink own index y).before a0 Z = true) (w2 : (Cond.declares y).before a0 Z = true) (w3 : (Cond.instanceMethod y).before a0 Z = true) (w4 : (Cond.selects C y y).before a0 Z = true) (w5 : (Cond.code y bytes maxL ret).before a0 Z = true) (w6 : (Cond.initialized y.cls).before a0 Z = true)
    (hy : y.cls ≠ "java/lang/invoke/MethodHandle" ∧ y.cls ≠ "java/lang/invoke/VarHandle") {a : Addr} {argsL rest : List Value} (E : Exa Z T.heap a C) (K : Con l Z n0 y bytes maxL ret rm (.ref a :: argsL).toArray D P)
    {W : Nat} (hf : rm.frames + 1 ≤ R.frames) (hl : W + (maxL + 11) + rm.locals ≤ R.locals) (hc : cells + rm.cells ≤ R.cells) (hs : slots + rm.slots ≤ R.slots)
    {g : JFrame} (hg : g.method = m) (hsize : g.locals.size = c.maxLocals) (hlen : ∀ sig, parseMethodDescriptor y.desc = some sig → argsL.length = sig.parameters.length) (hstack : g.stack = argsL.reverse ++ .ref a :: rest) (hW : 2 * g.monitorRoom + (rest.map fun v => v.category).sum ≤ W) (hd : decode c.code g.pc = .ok (.invokevirtual index, 3))
    (k : ∀ T' v D', P v D' → On p l e R s m args below meth c Z n0 T' (cells + rm.cells) (slots + rm.slots) D' → Rn p e below F T' { g with pc := g.pc + 3, stack := v.toList ++ rest }) : Rn p e below F T g := by
  obtain ⟨locs, X, N, H⟩ := Y
  obtain ⟨cq, kq, qa, qb, qc⟩ := isOf hZ rfl E
  obtain ⟨v, _, ⟨T', L', k', n'⟩, -, X', ⟨Lc, hQ, l', y', z'⟩, st⟩ := X.virtualBack hx (y := y) (z := y) hown (mvT hZ w1) (mvT hZ w2) (notFace_of_selects (args := #[]) (mvT hZ w4)) (mvT hZ w4) (mvT hZ w3) hy (backOf (W := W) (K [] T.heap H) hZ w5 w6 hf hl) qa qc hg hsize (Steps.refl _) (argsL := argsL) (rest := rest) hlen hstack hW hd (fun _ _ => ⟨rfl, rfl, hc, hs⟩)
  dsimp only [Pt.U, Pt.locs, Pt.cells, Pt.slots] at X' l' y' z' st hQ
  subst l' y' z'
  obtain ⟨D', hP, N', H'⟩ := hQ
  exact Rn.to st (k T' v D' hP ⟨_, X', Fr.app N N', H'⟩)
theorem own_fact {s : State} {args : Array Value} {C n d K : String} (hx : (Jvm.Cond.exactly (Jvm.Term.static C n d) K).value args s none s [] = some true) {a0 : Array Value} (w1 : (Jvm.Cond.initialized C).before a0 s = true) (w2 : (Jvm.Cond.laysStatic C n d).before a0 s = true) :
    ∃ a, (Jvm.Term.static C n d).eval args s none [] s = some (.ref a) ∧ Sta s s.heap C n d (.ref a) ∧ Exa s s.heap a K := by
  have hx' : (Jvm.Cond.exactly (Jvm.Term.static C n d) K).before args s = true := Cond.before_iff.mpr hx
  obtain ⟨a, c', cell, k, e1, -⟩ := Cond.exactly_spec hx'
  have w1' : (Jvm.Cond.initialized C).before args s = true := mvT (State.Warmed39.refl s) w1
  have w2' : (Jvm.Cond.laysStatic C n d).before args s = true := w2
  exact ⟨a, e1, Sta.start e1 (Or.inr ⟨w1', w2'⟩), Exa.start e1 hx⟩
theorem own_fe {s : State} {args : Array Value} {t : Jvm.Term} {K f d : String} {a : Addr} (e : t.eval args s none [] s = some (.ref a)) : (Jvm.Term.field t K f d).eval args s none [] s = s.fieldOf? a K f d := by
  simp only [Term.eval, e]; rfl
theorem own_le {s : State} {args : Array Value} {t : Jvm.Term} {a : Addr} {c : Cell} (e : t.eval args s none [] s = some (.ref a)) (hA : s.arrayAt? a = some c) : (Jvm.Term.length t).eval args s none [] s = if c.slots.size < 2 ^ 31 then some (.int c.slots.size.toInt32) else none := by
  simp only [Term.eval, e]
  show (do let d ← s.arrayAt? a; if d.slots.size < 2 ^ 31 then pure (Value.int d.slots.size.toInt32) else none) = _
  rw [hA]; rfl
theorem own_ne {s : State} {args : Array Value} {t t' : Jvm.Term} {K f d : String} {a b : Addr} {k k' : Int32} (e : t.eval args s none [] s = some (.ref a)) (e' : t'.eval args s none [] s = some (.ref b)) (h : (Jvm.Cond.eq (Jvm.Term.field t K f d) (Jvm.Term.int k)).value args s none s [] = some true) (h' : (Jvm.Cond.eq (Jvm.Term.field t' K f d) (Jvm.Term.int k')).value args s none s [] = some true) (hk : k ≠ k') : a ≠ b := fun q => by
  subst q
  have e1 := eqv_i (y := k) rfl h
  have e2 := eqv_i (y := k') rfl h'
  rw [own_fe e] at e1; rw [own_fe e'] at e2
  exact hk (Value.int.inj (Option.some.inj (e1.symm.trans e2)))
end Extra
/-! ## E3. An old array of no places; System.arraycopy -/
section Extra3
variable {p : Program} {l : Launch} {e : Env} {R : Room} {s : State} {m : MethodId} {args : Array Value} {below : List Frame} {meth : Method} {c : Code} {T T' : State} {locs : List Loc} {cells slots : Nat} {Z : State} {a0 : Array Value} {F : State → Prop} {g g' : JFrame} {n0 : Nat} {h h' : Heap} {a b : Addr} {D : List (Addr × Itm)} {i j : Nat} {ty : FieldType} {z z' : Int32} {ws : List Addr} {x : Addr × Itm}
theorem On.addOld (Y : On p l e R s m args below meth c Z n0 T cells slots D) (A : Ary Z Z.heap a ty z []) (q : ∀ x ∈ D, x.1 ≠ a) : On p l e R s m args below meth c Z n0 T cells slots (D ++ [ar a ty z []]) := by
  have E := Y.old
  obtain ⟨locs, X, N, H⟩ := Y
  refine ⟨locs, X, N, H.1, fun x hx => ?_, ?_⟩
  · rcases List.mem_append.mp hx with r | r
    · exact H.2.1 x r
    · cases List.mem_singleton.mp r
      exact ⟨Or.inr ⟨_, _, rfl⟩, itm.ext E (x := ar a ty z []) A⟩
  · rw [List.map_append, List.nodup_append]
    refine ⟨H.2.2, by simp, fun y hy w hw => ?_⟩
    obtain ⟨x, hx, rfl⟩ := List.mem_map.mp hy
    have : w = a := by simpa using hw
    rw [this]; exact q x hx
theorem On.more {cells' slots' : Nat} (Y : On p l e R s m args below meth c Z n0 T cells slots D) (q : cells ≤ cells') (r : slots ≤ slots') : On p l e R s m args below meth c Z n0 T cells' slots' D := by
  obtain ⟨locs, X, N, H⟩ := Y
  exact ⟨locs, X.more q r, N, H⟩
theorem itm.keep (K : Keep h h' ws) (q : x.1 ∉ ws) (O : itm Z h x) : itm Z h' x := by
  obtain ⟨a, I⟩ := x
  cases I with
  | inl o =>
    have O' : Obj Z h a o.1 o.2 := O
    exact (show Obj Z h' a o.1 o.2 from ⟨O'.1.keep K, fun f hf => (O'.2.1 f hf).keep K q, O'.2.2⟩)
  | inr o =>
    have O' : Ary Z h a o.1 o.2.1 o.2.2 := O
    obtain ⟨⟨k, V, u⟩, r⟩ := O'
    exact (show Ary Z h' a o.1 o.2.1 o.2.2 from ⟨⟨k, V.keep K q, u⟩, r⟩)
theorem own_us (xs : List Int32) : (List.range xs.length).map (fun i => (xs.map Value.int).getD (0 + i) (defaultValue .int)) = xs.map Value.int := by
  apply List.ext_getElem?
  intro k
  by_cases q : k < xs.length
  · simp [List.getElem?_map, List.getElem?_range, q, List.getD_eq_getElem?_getD]
  · simp [List.getElem?_map, List.getElem?_eq_none, Nat.le_of_not_lt q]
theorem On.cpa (Y : On p l e R s m args below meth c Z n0 T cells slots D) (hx : p.tables.exec = Jvm.exec) (hZ : Z.Warmed39 s.vm) {own : String} {index : Nat} (hown : s.vm.findClass own = some m.cls)
    (w1 : (Cond.methodLink own index Jvm.Stand.acN).before a0 Z = true) (w2 : (Cond.native Jvm.Stand.acN).before a0 Z = true) (w3 : (Cond.static Jvm.Stand.acN).before a0 Z = true) (w4 : (Cond.initialized "java/lang/System").before a0 Z = true)
    {xs ds : List Int32} (hi : D[i]? = some (ari a .int z xs)) (hj : D[j]? = some (ari b .int z' ds)) {nn : Int32} (h0 : ¬ nn < 0) (hn : nn.toNatClampNeg = xs.length) (hle : xs.length ≤ ds.length) (hlt : 0 < ds.length)
    {g : JFrame} (hg : g.method = m) (hsize : g.locals.size = c.maxLocals) {rest : List Value} (hs : g.stack = .int nn :: .int 0 :: .ref b :: .int 0 :: .ref a :: rest) (hd : decode c.code g.pc = .ok (.invokestatic index, 3))
    (hf : 1 ≤ R.frames) {W : Nat} (hW : 2 * g.monitorRoom + (rest.map fun v => v.category).sum ≤ W) (hlo : W + (nativeFrameWords "java/lang/System" "arraycopy" 5 + 11) ≤ R.locals)
    (k : ∀ T', On p l e R s m args below meth c Z n0 T' cells slots (D.set j (ari b .int z' (xs ++ ds.drop xs.length))) → Rn p e below F T' { g with pc := g.pc + 3, stack := rest }) : Rn p e below F T g := by
  obtain ⟨locs, X, N, H⟩ := Y
  have hlt' : 0 < (ds.map Value.int).length := by simpa using hlt
  have hfr : n0 ≤ b := (H.get hj).1.arr hlt'
  obtain ⟨⟨ka, VA, -⟩, qa⟩ := H.ary hi
  obtain ⟨⟨kb, VB, ub⟩, qb⟩ := H.ary hj
  have z0 : (0 : Int32).toNatClampNeg = 0 := rfl
  simp only [List.length_map] at qa qb
  obtain ⟨T', h', L, X', e', N', K, V', st⟩ := cpA X hx hZ hown w1 w2 w3 w4 rfl VA VB (Or.inl ⟨rfl, rfl⟩) (us := xs.map Value.int) (by decide) (by decide) h0 (by rw [z0, hn, ← qa]; omega) (by rw [z0, hn, ← qb]; omega) (by rw [hn, z0]; exact (own_us xs).symm) (by rw [z0, hn, List.length_map]; omega) N hfr hg hsize hs hd hf hW hlo
  refine Rn.go st (k T' ⟨L, X', N', ?_⟩)
  rw [e']
  have hjl : j < D.length := (List.getElem?_eq_some_iff.mp hj).1
  refine ⟨H.1.keep K (allS hfr all0), fun x hx => ?_, ?_⟩
  · obtain ⟨y, hy⟩ := List.mem_iff_getElem?.mp hx
    by_cases q : j = y
    · subst q
      rw [List.getElem?_set_self hjl] at hy
      cases hy
      refine ⟨Or.inl hfr, (show Ary Z h' b .int z' _ from ⟨⟨kb, ?_, ub⟩, ?_⟩)⟩
      · have : (xs ++ ds.drop xs.length).map Value.int = (ds.map Value.int).take (0 : Int32).toNatClampNeg ++ xs.map Value.int ++ (ds.map Value.int).drop ((0 : Int32).toNatClampNeg + nn.toNatClampNeg) := by
          rw [z0, hn, Nat.zero_add, List.take_zero, List.nil_append, List.map_append, List.map_drop]
        rw [this]; exact V'
      · rw [List.length_map, List.length_append, List.length_drop, ← qb]; omega
    · rw [List.getElem?_set_ne q] at hy
      refine ⟨(H.get hy).1, (H.get hy).2.keep K (ninS (fun r => q ?_) nin0)⟩
      refine (List.getElem?_inj (i := j) (j := y) (by simpa using hjl) H.2.2).mp ?_
      rw [List.getElem?_map, List.getElem?_map, hj, hy]
      simp [r]
  · rw [map_same _ D j (ari b .int z' ds) (ari b .int z' (xs ++ ds.drop xs.length)) hj rfl]; exact H.2.2
end Extra3
theorem On.neOld {p : Program} {l : Launch} {e : Env} {R : Room} {s : State} {m : MethodId} {args : Array Value} {below : List Frame} {meth : Method} {c : Code} {T : State} {cells slots : Nat} {Z : State} {n0 : Nat} {a b : Addr} {C : String} {D : List (Addr × Itm)} {i : Nat} {fs : List (String × String × Value)} (Y : On p l e R s m args below meth c Z n0 T cells slots D) (hi : D[i]? = some (ob a C fs)) (hb : b < Z.heap.size) : a ≠ b := by
  obtain ⟨_, _, _, H⟩ := Y
  have := (H.get hi).1.obj
  rw [H.1.1] at hb
  exact fun q => Nat.lt_irrefl _ (Nat.lt_of_lt_of_le hb (q ▸ this))
/-! ## F. The words, the instructions, the names -/
abbrev own_C0 : String := "com/example/vistrace/vistrace/checker/RunSet"
abbrev own_F0 (v0 v1 : Value) : List (String × String × Value) := [("bounds", "[I", v0), ("runs", "I", v1)]
theorem w0 {Z : State} {a0 : Array Value} (hw : ∀ d ∈ tables_1, d.before a0 Z = true) : (Jvm.Cond.methodLink "com/example/vistrace/vistrace/checker/RunSetSizePinLaw" (7 : Nat) ({ cls := "java/lang/Math", name := "min", desc := "(II)I" } : Jvm.MethodName)).before a0 Z = true := hw _ (List.mem_of_getElem? (i := 0) rfl)
theorem w1 {Z : State} {a0 : Array Value} (hw : ∀ d ∈ tables_1, d.before a0 Z = true) : (Jvm.Cond.static ({ cls := "java/lang/Math", name := "min", desc := "(II)I" } : Jvm.MethodName)).before a0 Z = true := hw _ (List.mem_of_getElem? (i := 1) rfl)
theorem w2 {Z : State} {a0 : Array Value} (hw : ∀ d ∈ tables_1, d.before a0 Z = true) : (Jvm.Cond.initialized "java/lang/Math").before a0 Z = true := hw _ (List.mem_of_getElem? (i := 2) rfl)
theorem w3 {Z : State} {a0 : Array Value} (hw : ∀ d ∈ tables_1, d.before a0 Z = true) : (Jvm.Cond.code ({ cls := "java/lang/Math", name := "min", desc := "(II)I" } : Jvm.MethodName) jdk_29_method_69_code (2 : Nat) (Option.some Jvm.ClassFile.FieldType.int)).before a0 Z = true := hw _ (List.mem_of_getElem? (i := 3) rfl)
theorem w4 {Z : State} {a0 : Array Value} (hw : ∀ d ∈ tables_1, d.before a0 Z = true) : (Jvm.Cond.constant "com/example/vistrace/vistrace/checker/RunSetSizePinLaw" (13 : Nat) (1073741823 : Int32)).before a0 Z = true := hw _ (List.mem_of_getElem? (i := 4) rfl)
theorem w5 {Z : State} {a0 : Array Value} (hw : ∀ d ∈ tables_1, d.before a0 Z = true) : (Jvm.Cond.classLink "com/example/vistrace/vistrace/checker/RunSetSizePinLaw" (14 : Nat) "com/example/vistrace/vistrace/checker/RunSet").before a0 Z = true := hw _ (List.mem_of_getElem? (i := 5) rfl)
theorem w6 {Z : State} {a0 : Array Value} (hw : ∀ d ∈ tables_1, d.before a0 Z = true) : (Jvm.Cond.instantiable "com/example/vistrace/vistrace/checker/RunSet" (2 : Nat)).before a0 Z = true := hw _ (List.mem_of_getElem? (i := 6) rfl)
theorem w7 {Z : State} {a0 : Array Value} (hw : ∀ d ∈ tables_1, d.before a0 Z = true) : (Jvm.Cond.initialized "com/example/vistrace/vistrace/checker/RunSet").before a0 Z = true := hw _ (List.mem_of_getElem? (i := 7) rfl)
theorem w8 {Z : State} {a0 : Array Value} (hw : ∀ d ∈ tables_1, d.before a0 Z = true) : (Jvm.Cond.methodLink "com/example/vistrace/vistrace/checker/RunSetSizePinLaw" (16 : Nat) ({ cls := "com/example/vistrace/vistrace/checker/RunSet", name := "<init>", desc := "()V" } : Jvm.MethodName)).before a0 Z = true := hw _ (List.mem_of_getElem? (i := 8) rfl)
theorem w9 {Z : State} {a0 : Array Value} (hw : ∀ d ∈ tables_1, d.before a0 Z = true) : (Jvm.Cond.instanceMethod ({ cls := "com/example/vistrace/vistrace/checker/RunSet", name := "<init>", desc := "()V" } : Jvm.MethodName)).before a0 Z = true := hw _ (List.mem_of_getElem? (i := 9) rfl)
theorem w10 {Z : State} {a0 : Array Value} (hw : ∀ d ∈ tables_1, d.before a0 Z = true) : (Jvm.Cond.code ({ cls := "com/example/vistrace/vistrace/checker/RunSet", name := "<init>", desc := "()V" } : Jvm.MethodName) prog_8_method_1_code (1 : Nat) (Option.none : Option Jvm.ClassFile.FieldType)).before a0 Z = true := hw _ (List.mem_of_getElem? (i := 10) rfl)
theorem w11 {Z : State} {a0 : Array Value} (hw : ∀ d ∈ tables_1, d.before a0 Z = true) : (Jvm.Cond.methodLink "com/example/vistrace/vistrace/checker/RunSet" (1 : Nat) ({ cls := "java/lang/Object", name := "<init>", desc := "()V" } : Jvm.MethodName)).before a0 Z = true := hw _ (List.mem_of_getElem? (i := 11) rfl)
theorem w12 {Z : State} {a0 : Array Value} (hw : ∀ d ∈ tables_1, d.before a0 Z = true) : (Jvm.Cond.instanceMethod ({ cls := "java/lang/Object", name := "<init>", desc := "()V" } : Jvm.MethodName)).before a0 Z = true := hw _ (List.mem_of_getElem? (i := 12) rfl)
theorem w13 {Z : State} {a0 : Array Value} (hw : ∀ d ∈ tables_1, d.before a0 Z = true) : (Jvm.Cond.code ({ cls := "java/lang/Object", name := "<init>", desc := "()V" } : Jvm.MethodName) object_method_1_code (1 : Nat) (Option.none : Option Jvm.ClassFile.FieldType)).before a0 Z = true := hw _ (List.mem_of_getElem? (i := 13) rfl)
theorem w14 {Z : State} {a0 : Array Value} (hw : ∀ d ∈ tables_1, d.before a0 Z = true) : (Jvm.Cond.fieldLink "com/example/vistrace/vistrace/checker/RunSet" (7 : Nat) "com/example/vistrace/vistrace/checker/RunSet" "NONE" "[I").before a0 Z = true := hw _ (List.mem_of_getElem? (i := 14) rfl)
theorem w15 {Z : State} {a0 : Array Value} (hw : ∀ d ∈ tables_1, d.before a0 Z = true) : (Jvm.Cond.laysStatic "com/example/vistrace/vistrace/checker/RunSet" "NONE" "[I").before a0 Z = true := hw _ (List.mem_of_getElem? (i := 15) rfl)
theorem w16 {Z : State} {a0 : Array Value} (hw : ∀ d ∈ tables_1, d.before a0 Z = true) : (Jvm.Cond.fieldLink "com/example/vistrace/vistrace/checker/RunSet" (13 : Nat) "com/example/vistrace/vistrace/checker/RunSet" "bounds" "[I").before a0 Z = true := hw _ (List.mem_of_getElem? (i := 16) rfl)
theorem w17 {Z : State} {a0 : Array Value} (hw : ∀ d ∈ tables_1, d.before a0 Z = true) : (Jvm.Cond.lays "com/example/vistrace/vistrace/checker/RunSet" "com/example/vistrace/vistrace/checker/RunSet" "bounds" "[I").before a0 Z = true := hw _ (List.mem_of_getElem? (i := 17) rfl)
theorem w18 {Z : State} {a0 : Array Value} (hw : ∀ d ∈ tables_1, d.before a0 Z = true) : (Jvm.Cond.methodLink "com/example/vistrace/vistrace/checker/RunSetSizePinLaw" (17 : Nat) ({ cls := "com/example/vistrace/vistrace/checker/RunSet", name := "add", desc := "(I)V" } : Jvm.MethodName)).before a0 Z = true := hw _ (List.mem_of_getElem? (i := 18) rfl)
theorem w19 {Z : State} {a0 : Array Value} (hw : ∀ d ∈ tables_1, d.before a0 Z = true) : (Jvm.Cond.declares ({ cls := "com/example/vistrace/vistrace/checker/RunSet", name := "add", desc := "(I)V" } : Jvm.MethodName)).before a0 Z = true := hw _ (List.mem_of_getElem? (i := 19) rfl)
theorem w20 {Z : State} {a0 : Array Value} (hw : ∀ d ∈ tables_1, d.before a0 Z = true) : (Jvm.Cond.instanceMethod ({ cls := "com/example/vistrace/vistrace/checker/RunSet", name := "add", desc := "(I)V" } : Jvm.MethodName)).before a0 Z = true := hw _ (List.mem_of_getElem? (i := 20) rfl)
theorem w21 {Z : State} {a0 : Array Value} (hw : ∀ d ∈ tables_1, d.before a0 Z = true) : (Jvm.Cond.selects "com/example/vistrace/vistrace/checker/RunSet" ({ cls := "com/example/vistrace/vistrace/checker/RunSet", name := "add", desc := "(I)V" } : Jvm.MethodName) ({ cls := "com/example/vistrace/vistrace/checker/RunSet", name := "add", desc := "(I)V" } : Jvm.MethodName)).before a0 Z = true := hw _ (List.mem_of_getElem? (i := 21) rfl)
theorem w22 {Z : State} {a0 : Array Value} (hw : ∀ d ∈ tables_1, d.before a0 Z = true) : (Jvm.Cond.code ({ cls := "com/example/vistrace/vistrace/checker/RunSet", name := "add", desc := "(I)V" } : Jvm.MethodName) prog_8_method_3_code (2 : Nat) (Option.none : Option Jvm.ClassFile.FieldType)).before a0 Z = true := hw _ (List.mem_of_getElem? (i := 22) rfl)
theorem w23 {Z : State} {a0 : Array Value} (hw : ∀ d ∈ tables_1, d.before a0 Z = true) : (Jvm.Cond.fieldLink "com/example/vistrace/vistrace/checker/RunSet" (30 : Nat) "com/example/vistrace/vistrace/checker/RunSet" "runs" "I").before a0 Z = true := hw _ (List.mem_of_getElem? (i := 23) rfl)
theorem w24 {Z : State} {a0 : Array Value} (hw : ∀ d ∈ tables_1, d.before a0 Z = true) : (Jvm.Cond.lays "com/example/vistrace/vistrace/checker/RunSet" "com/example/vistrace/vistrace/checker/RunSet" "runs" "I").before a0 Z = true := hw _ (List.mem_of_getElem? (i := 24) rfl)
theorem w25 {Z : State} {a0 : Array Value} (hw : ∀ d ∈ tables_1, d.before a0 Z = true) : (Jvm.Cond.methodLink "com/example/vistrace/vistrace/checker/RunSet" (26 : Nat) ({ cls := "com/example/vistrace/vistrace/checker/RunSet", name := "addRun", desc := "(II)V" } : Jvm.MethodName)).before a0 Z = true := hw _ (List.mem_of_getElem? (i := 25) rfl)
theorem w26 {Z : State} {a0 : Array Value} (hw : ∀ d ∈ tables_1, d.before a0 Z = true) : (Jvm.Cond.instanceMethod ({ cls := "com/example/vistrace/vistrace/checker/RunSet", name := "addRun", desc := "(II)V" } : Jvm.MethodName)).before a0 Z = true := hw _ (List.mem_of_getElem? (i := 26) rfl)
theorem w27 {Z : State} {a0 : Array Value} (hw : ∀ d ∈ tables_1, d.before a0 Z = true) : (Jvm.Cond.privateMethod ({ cls := "com/example/vistrace/vistrace/checker/RunSet", name := "addRun", desc := "(II)V" } : Jvm.MethodName)).before a0 Z = true := hw _ (List.mem_of_getElem? (i := 27) rfl)
theorem w28 {Z : State} {a0 : Array Value} (hw : ∀ d ∈ tables_1, d.before a0 Z = true) : (Jvm.Cond.code ({ cls := "com/example/vistrace/vistrace/checker/RunSet", name := "addRun", desc := "(II)V" } : Jvm.MethodName) prog_8_method_11_code (3 : Nat) (Option.none : Option Jvm.ClassFile.FieldType)).before a0 Z = true := hw _ (List.mem_of_getElem? (i := 28) rfl)
theorem w29 {Z : State} {a0 : Array Value} (hw : ∀ d ∈ tables_1, d.before a0 Z = true) : (Jvm.Cond.methodLink "com/example/vistrace/vistrace/checker/RunSet" (77 : Nat) ({ cls := "java/lang/Math", name := "max", desc := "(II)I" } : Jvm.MethodName)).before a0 Z = true := hw _ (List.mem_of_getElem? (i := 29) rfl)
theorem w30 {Z : State} {a0 : Array Value} (hw : ∀ d ∈ tables_1, d.before a0 Z = true) : (Jvm.Cond.static ({ cls := "java/lang/Math", name := "max", desc := "(II)I" } : Jvm.MethodName)).before a0 Z = true := hw _ (List.mem_of_getElem? (i := 30) rfl)
theorem w31 {Z : State} {a0 : Array Value} (hw : ∀ d ∈ tables_1, d.before a0 Z = true) : (Jvm.Cond.code ({ cls := "java/lang/Math", name := "max", desc := "(II)I" } : Jvm.MethodName) jdk_29_method_65_code (2 : Nat) (Option.some Jvm.ClassFile.FieldType.int)).before a0 Z = true := hw _ (List.mem_of_getElem? (i := 31) rfl)
theorem w32 {Z : State} {a0 : Array Value} (hw : ∀ d ∈ tables_1, d.before a0 Z = true) : (Jvm.Cond.methodLink "com/example/vistrace/vistrace/checker/RunSet" (34 : Nat) ({ cls := "java/util/Arrays", name := "copyOf", desc := "([II)[I" } : Jvm.MethodName)).before a0 Z = true := hw _ (List.mem_of_getElem? (i := 32) rfl)
theorem w33 {Z : State} {a0 : Array Value} (hw : ∀ d ∈ tables_1, d.before a0 Z = true) : (Jvm.Cond.static ({ cls := "java/util/Arrays", name := "copyOf", desc := "([II)[I" } : Jvm.MethodName)).before a0 Z = true := hw _ (List.mem_of_getElem? (i := 33) rfl)
theorem w34 {Z : State} {a0 : Array Value} (hw : ∀ d ∈ tables_1, d.before a0 Z = true) : (Jvm.Cond.initialized "java/util/Arrays").before a0 Z = true := hw _ (List.mem_of_getElem? (i := 34) rfl)
theorem w35 {Z : State} {a0 : Array Value} (hw : ∀ d ∈ tables_1, d.before a0 Z = true) : (Jvm.Cond.code ({ cls := "java/util/Arrays", name := "copyOf", desc := "([II)[I" } : Jvm.MethodName) jdk_65_method_123_code (3 : Nat) (Option.some (Jvm.ClassFile.FieldType.array Jvm.ClassFile.FieldType.int))).before a0 Z = true := hw _ (List.mem_of_getElem? (i := 35) rfl)
theorem w36 {Z : State} {a0 : Array Value} (hw : ∀ d ∈ tables_1, d.before a0 Z = true) : (Jvm.Cond.arrayClass Jvm.ClassFile.FieldType.int).before a0 Z = true := hw _ (List.mem_of_getElem? (i := 36) rfl)
theorem w37 {Z : State} {a0 : Array Value} (hw : ∀ d ∈ tables_1, d.before a0 Z = true) : (Jvm.Cond.methodLink "java/util/Arrays" (304 : Nat) ({ cls := "java/lang/Math", name := "min", desc := "(II)I" } : Jvm.MethodName)).before a0 Z = true := hw _ (List.mem_of_getElem? (i := 37) rfl)
theorem w38 {Z : State} {a0 : Array Value} (hw : ∀ d ∈ tables_1, d.before a0 Z = true) : (Jvm.Cond.methodLink "java/util/Arrays" (150 : Nat) ({ cls := "java/lang/System", name := "arraycopy", desc := "(Ljava/lang/Object;ILjava/lang/Object;II)V" } : Jvm.MethodName)).before a0 Z = true := hw _ (List.mem_of_getElem? (i := 38) rfl)
theorem w39 {Z : State} {a0 : Array Value} (hw : ∀ d ∈ tables_1, d.before a0 Z = true) : (Jvm.Cond.static ({ cls := "java/lang/System", name := "arraycopy", desc := "(Ljava/lang/Object;ILjava/lang/Object;II)V" } : Jvm.MethodName)).before a0 Z = true := hw _ (List.mem_of_getElem? (i := 39) rfl)
theorem w40 {Z : State} {a0 : Array Value} (hw : ∀ d ∈ tables_1, d.before a0 Z = true) : (Jvm.Cond.initialized "java/lang/System").before a0 Z = true := hw _ (List.mem_of_getElem? (i := 40) rfl)
theorem w41 {Z : State} {a0 : Array Value} (hw : ∀ d ∈ tables_1, d.before a0 Z = true) : (Jvm.Cond.native ({ cls := "java/lang/System", name := "arraycopy", desc := "(Ljava/lang/Object;ILjava/lang/Object;II)V" } : Jvm.MethodName)).before a0 Z = true := hw _ (List.mem_of_getElem? (i := 41) rfl)
theorem w42 {Z : State} {a0 : Array Value} (hw : ∀ d ∈ tables_1, d.before a0 Z = true) : (Jvm.Cond.methodLink "com/example/vistrace/vistrace/checker/RunSetSizePinLaw" (21 : Nat) ({ cls := "com/example/vistrace/vistrace/checker/RunSet", name := "removeLargest", desc := "()V" } : Jvm.MethodName)).before a0 Z = true := hw _ (List.mem_of_getElem? (i := 42) rfl)
theorem w43 {Z : State} {a0 : Array Value} (hw : ∀ d ∈ tables_1, d.before a0 Z = true) : (Jvm.Cond.declares ({ cls := "com/example/vistrace/vistrace/checker/RunSet", name := "removeLargest", desc := "()V" } : Jvm.MethodName)).before a0 Z = true := hw _ (List.mem_of_getElem? (i := 43) rfl)
theorem w44 {Z : State} {a0 : Array Value} (hw : ∀ d ∈ tables_1, d.before a0 Z = true) : (Jvm.Cond.instanceMethod ({ cls := "com/example/vistrace/vistrace/checker/RunSet", name := "removeLargest", desc := "()V" } : Jvm.MethodName)).before a0 Z = true := hw _ (List.mem_of_getElem? (i := 44) rfl)
theorem w45 {Z : State} {a0 : Array Value} (hw : ∀ d ∈ tables_1, d.before a0 Z = true) : (Jvm.Cond.selects "com/example/vistrace/vistrace/checker/RunSet" ({ cls := "com/example/vistrace/vistrace/checker/RunSet", name := "removeLargest", desc := "()V" } : Jvm.MethodName) ({ cls := "com/example/vistrace/vistrace/checker/RunSet", name := "removeLargest", desc := "()V" } : Jvm.MethodName)).before a0 Z = true := hw _ (List.mem_of_getElem? (i := 45) rfl)
theorem w46 {Z : State} {a0 : Array Value} (hw : ∀ d ∈ tables_1, d.before a0 Z = true) : (Jvm.Cond.code ({ cls := "com/example/vistrace/vistrace/checker/RunSet", name := "removeLargest", desc := "()V" } : Jvm.MethodName) prog_8_method_4_code (1 : Nat) (Option.none : Option Jvm.ClassFile.FieldType)).before a0 Z = true := hw _ (List.mem_of_getElem? (i := 46) rfl)
theorem w47 {Z : State} {a0 : Array Value} (hw : ∀ d ∈ tables_1, d.before a0 Z = true) : (Jvm.Cond.methodLink "com/example/vistrace/vistrace/checker/RunSetSizePinLaw" (24 : Nat) ({ cls := "com/example/vistrace/vistrace/checker/RunSet", name := "size", desc := "()I" } : Jvm.MethodName)).before a0 Z = true := hw _ (List.mem_of_getElem? (i := 47) rfl)
theorem w48 {Z : State} {a0 : Array Value} (hw : ∀ d ∈ tables_1, d.before a0 Z = true) : (Jvm.Cond.declares ({ cls := "com/example/vistrace/vistrace/checker/RunSet", name := "size", desc := "()I" } : Jvm.MethodName)).before a0 Z = true := hw _ (List.mem_of_getElem? (i := 48) rfl)
theorem w49 {Z : State} {a0 : Array Value} (hw : ∀ d ∈ tables_1, d.before a0 Z = true) : (Jvm.Cond.instanceMethod ({ cls := "com/example/vistrace/vistrace/checker/RunSet", name := "size", desc := "()I" } : Jvm.MethodName)).before a0 Z = true := hw _ (List.mem_of_getElem? (i := 49) rfl)
theorem w50 {Z : State} {a0 : Array Value} (hw : ∀ d ∈ tables_1, d.before a0 Z = true) : (Jvm.Cond.selects "com/example/vistrace/vistrace/checker/RunSet" ({ cls := "com/example/vistrace/vistrace/checker/RunSet", name := "size", desc := "()I" } : Jvm.MethodName) ({ cls := "com/example/vistrace/vistrace/checker/RunSet", name := "size", desc := "()I" } : Jvm.MethodName)).before a0 Z = true := hw _ (List.mem_of_getElem? (i := 50) rfl)
theorem w51 {Z : State} {a0 : Array Value} (hw : ∀ d ∈ tables_1, d.before a0 Z = true) : (Jvm.Cond.code ({ cls := "com/example/vistrace/vistrace/checker/RunSet", name := "size", desc := "()I" } : Jvm.MethodName) prog_8_method_6_code (3 : Nat) (Option.some Jvm.ClassFile.FieldType.int)).before a0 Z = true := hw _ (List.mem_of_getElem? (i := 51) rfl)
theorem w52 {Z : State} {a0 : Array Value} (hw : ∀ d ∈ tables_1, d.before a0 Z = true) : (Jvm.Cond.methodLink "com/example/vistrace/vistrace/checker/RunSet" (54 : Nat) ({ cls := "com/example/vistrace/vistrace/checker/RunSet", name := "end", desc := "(I)I" } : Jvm.MethodName)).before a0 Z = true := hw _ (List.mem_of_getElem? (i := 52) rfl)
theorem w53 {Z : State} {a0 : Array Value} (hw : ∀ d ∈ tables_1, d.before a0 Z = true) : (Jvm.Cond.declares ({ cls := "com/example/vistrace/vistrace/checker/RunSet", name := "end", desc := "(I)I" } : Jvm.MethodName)).before a0 Z = true := hw _ (List.mem_of_getElem? (i := 53) rfl)
theorem w54 {Z : State} {a0 : Array Value} (hw : ∀ d ∈ tables_1, d.before a0 Z = true) : (Jvm.Cond.instanceMethod ({ cls := "com/example/vistrace/vistrace/checker/RunSet", name := "end", desc := "(I)I" } : Jvm.MethodName)).before a0 Z = true := hw _ (List.mem_of_getElem? (i := 54) rfl)
theorem w55 {Z : State} {a0 : Array Value} (hw : ∀ d ∈ tables_1, d.before a0 Z = true) : (Jvm.Cond.selects "com/example/vistrace/vistrace/checker/RunSet" ({ cls := "com/example/vistrace/vistrace/checker/RunSet", name := "end", desc := "(I)I" } : Jvm.MethodName) ({ cls := "com/example/vistrace/vistrace/checker/RunSet", name := "end", desc := "(I)I" } : Jvm.MethodName)).before a0 Z = true := hw _ (List.mem_of_getElem? (i := 55) rfl)
theorem w56 {Z : State} {a0 : Array Value} (hw : ∀ d ∈ tables_1, d.before a0 Z = true) : (Jvm.Cond.code ({ cls := "com/example/vistrace/vistrace/checker/RunSet", name := "end", desc := "(I)I" } : Jvm.MethodName) prog_8_method_8_code (2 : Nat) (Option.some Jvm.ClassFile.FieldType.int)).before a0 Z = true := hw _ (List.mem_of_getElem? (i := 56) rfl)
theorem w57 {Z : State} {a0 : Array Value} (hw : ∀ d ∈ tables_1, d.before a0 Z = true) : (Jvm.Cond.methodLink "com/example/vistrace/vistrace/checker/RunSet" (57 : Nat) ({ cls := "com/example/vistrace/vistrace/checker/RunSet", name := "start", desc := "(I)I" } : Jvm.MethodName)).before a0 Z = true := hw _ (List.mem_of_getElem? (i := 57) rfl)
theorem w58 {Z : State} {a0 : Array Value} (hw : ∀ d ∈ tables_1, d.before a0 Z = true) : (Jvm.Cond.declares ({ cls := "com/example/vistrace/vistrace/checker/RunSet", name := "start", desc := "(I)I" } : Jvm.MethodName)).before a0 Z = true := hw _ (List.mem_of_getElem? (i := 58) rfl)
theorem w59 {Z : State} {a0 : Array Value} (hw : ∀ d ∈ tables_1, d.before a0 Z = true) : (Jvm.Cond.instanceMethod ({ cls := "com/example/vistrace/vistrace/checker/RunSet", name := "start", desc := "(I)I" } : Jvm.MethodName)).before a0 Z = true := hw _ (List.mem_of_getElem? (i := 59) rfl)
theorem w60 {Z : State} {a0 : Array Value} (hw : ∀ d ∈ tables_1, d.before a0 Z = true) : (Jvm.Cond.selects "com/example/vistrace/vistrace/checker/RunSet" ({ cls := "com/example/vistrace/vistrace/checker/RunSet", name := "start", desc := "(I)I" } : Jvm.MethodName) ({ cls := "com/example/vistrace/vistrace/checker/RunSet", name := "start", desc := "(I)I" } : Jvm.MethodName)).before a0 Z = true := hw _ (List.mem_of_getElem? (i := 60) rfl)
theorem w61 {Z : State} {a0 : Array Value} (hw : ∀ d ∈ tables_1, d.before a0 Z = true) : (Jvm.Cond.code ({ cls := "com/example/vistrace/vistrace/checker/RunSet", name := "start", desc := "(I)I" } : Jvm.MethodName) prog_8_method_7_code (2 : Nat) (Option.some Jvm.ClassFile.FieldType.int)).before a0 Z = true := hw _ (List.mem_of_getElem? (i := 61) rfl)
theorem d1_0 : decode jdk_29_method_69_code 0 = .ok (.iload_n 0, 1) := by decide +kernel
theorem d1_1 : decode jdk_29_method_69_code 1 = .ok (.iload_n 1, 1) := by decide +kernel
theorem d1_2 : decode jdk_29_method_69_code 2 = .ok (.if_icmp .gt 7, 3) := by decide +kernel
theorem d1_5 : decode jdk_29_method_69_code 5 = .ok (.iload_n 0, 1) := by decide +kernel
theorem d1_6 : decode jdk_29_method_69_code 6 = .ok (.goto 4, 3) := by decide +kernel
theorem d1_9 : decode jdk_29_method_69_code 9 = .ok (.iload_n 1, 1) := by decide +kernel
theorem d1_10 : decode jdk_29_method_69_code 10 = .ok (.ireturn, 1) := by decide +kernel
theorem d2_0 : decode prog_8_method_1_code 0 = .ok (.aload_n 0, 1) := by decide +kernel
theorem d2_1 : decode prog_8_method_1_code 1 = .ok (.invokespecial 1, 3) := by decide +kernel
theorem d2_4 : decode prog_8_method_1_code 4 = .ok (.aload_n 0, 1) := by decide +kernel
theorem d2_5 : decode prog_8_method_1_code 5 = .ok (.getstatic 7, 3) := by decide +kernel
theorem d2_8 : decode prog_8_method_1_code 8 = .ok (.putfield 13, 3) := by decide +kernel
theorem d2_11 : decode prog_8_method_1_code 11 = .ok (.return_, 1) := by decide +kernel
theorem d4_0 : decode prog_8_method_3_code 0 = .ok (.iload_n 1, 1) := by decide +kernel
theorem d4_1 : decode prog_8_method_3_code 1 = .ok (.ifCond .lt 27, 3) := by decide +kernel
theorem d4_4 : decode prog_8_method_3_code 4 = .ok (.aload_n 0, 1) := by decide +kernel
theorem d4_5 : decode prog_8_method_3_code 5 = .ok (.getfield 30, 3) := by decide +kernel
theorem d4_8 : decode prog_8_method_3_code 8 = .ok (.ifCond .le 34, 3) := by decide +kernel
theorem d4_11 : decode prog_8_method_3_code 11 = .ok (.iload_n 1, 1) := by decide +kernel
theorem d4_12 : decode prog_8_method_3_code 12 = .ok (.aload_n 0, 1) := by decide +kernel
theorem d4_13 : decode prog_8_method_3_code 13 = .ok (.getfield 13, 3) := by decide +kernel
theorem d4_16 : decode prog_8_method_3_code 16 = .ok (.iconst 2, 1) := by decide +kernel
theorem d4_17 : decode prog_8_method_3_code 17 = .ok (.aload_n 0, 1) := by decide +kernel
theorem d4_18 : decode prog_8_method_3_code 18 = .ok (.getfield 30, 3) := by decide +kernel
theorem d4_21 : decode prog_8_method_3_code 21 = .ok (.imul, 1) := by decide +kernel
theorem d4_22 : decode prog_8_method_3_code 22 = .ok (.iconst 1, 1) := by decide +kernel
theorem d4_23 : decode prog_8_method_3_code 23 = .ok (.isub, 1) := by decide +kernel
theorem d4_24 : decode prog_8_method_3_code 24 = .ok (.iaload, 1) := by decide +kernel
theorem d4_25 : decode prog_8_method_3_code 25 = .ok (.if_icmp .ge 17, 3) := by decide +kernel
theorem d4_42 : decode prog_8_method_3_code 42 = .ok (.aload_n 0, 1) := by decide +kernel
theorem d4_43 : decode prog_8_method_3_code 43 = .ok (.getfield 30, 3) := by decide +kernel
theorem d4_46 : decode prog_8_method_3_code 46 = .ok (.ifCond .le 40, 3) := by decide +kernel
theorem d4_49 : decode prog_8_method_3_code 49 = .ok (.iload_n 1, 1) := by decide +kernel
theorem d4_50 : decode prog_8_method_3_code 50 = .ok (.aload_n 0, 1) := by decide +kernel
theorem d4_51 : decode prog_8_method_3_code 51 = .ok (.getfield 13, 3) := by decide +kernel
theorem d4_54 : decode prog_8_method_3_code 54 = .ok (.iconst 2, 1) := by decide +kernel
theorem d4_55 : decode prog_8_method_3_code 55 = .ok (.aload_n 0, 1) := by decide +kernel
theorem d4_56 : decode prog_8_method_3_code 56 = .ok (.getfield 30, 3) := by decide +kernel
theorem d4_59 : decode prog_8_method_3_code 59 = .ok (.imul, 1) := by decide +kernel
theorem d4_60 : decode prog_8_method_3_code 60 = .ok (.iconst 1, 1) := by decide +kernel
theorem d4_61 : decode prog_8_method_3_code 61 = .ok (.isub, 1) := by decide +kernel
theorem d4_62 : decode prog_8_method_3_code 62 = .ok (.iaload, 1) := by decide +kernel
theorem d4_63 : decode prog_8_method_3_code 63 = .ok (.if_icmp .ne 23, 3) := by decide +kernel
theorem d4_66 : decode prog_8_method_3_code 66 = .ok (.aload_n 0, 1) := by decide +kernel
theorem d4_67 : decode prog_8_method_3_code 67 = .ok (.getfield 13, 3) := by decide +kernel
theorem d4_70 : decode prog_8_method_3_code 70 = .ok (.iconst 2, 1) := by decide +kernel
theorem d4_71 : decode prog_8_method_3_code 71 = .ok (.aload_n 0, 1) := by decide +kernel
theorem d4_72 : decode prog_8_method_3_code 72 = .ok (.getfield 30, 3) := by decide +kernel
theorem d4_75 : decode prog_8_method_3_code 75 = .ok (.imul, 1) := by decide +kernel
theorem d4_76 : decode prog_8_method_3_code 76 = .ok (.iconst 1, 1) := by decide +kernel
theorem d4_77 : decode prog_8_method_3_code 77 = .ok (.isub, 1) := by decide +kernel
theorem d4_78 : decode prog_8_method_3_code 78 = .ok (.dup2, 1) := by decide +kernel
theorem d4_79 : decode prog_8_method_3_code 79 = .ok (.iaload, 1) := by decide +kernel
theorem d4_80 : decode prog_8_method_3_code 80 = .ok (.iconst 1, 1) := by decide +kernel
theorem d4_81 : decode prog_8_method_3_code 81 = .ok (.iadd, 1) := by decide +kernel
theorem d4_82 : decode prog_8_method_3_code 82 = .ok (.iastore, 1) := by decide +kernel
theorem d4_83 : decode prog_8_method_3_code 83 = .ok (.goto 11, 3) := by decide +kernel
theorem d4_86 : decode prog_8_method_3_code 86 = .ok (.aload_n 0, 1) := by decide +kernel
theorem d4_87 : decode prog_8_method_3_code 87 = .ok (.iload_n 1, 1) := by decide +kernel
theorem d4_88 : decode prog_8_method_3_code 88 = .ok (.iload_n 1, 1) := by decide +kernel
theorem d4_89 : decode prog_8_method_3_code 89 = .ok (.iconst 1, 1) := by decide +kernel
theorem d4_90 : decode prog_8_method_3_code 90 = .ok (.iadd, 1) := by decide +kernel
theorem d4_91 : decode prog_8_method_3_code 91 = .ok (.invokevirtual 26, 3) := by decide +kernel
theorem d4_94 : decode prog_8_method_3_code 94 = .ok (.return_, 1) := by decide +kernel
theorem d5_0 : decode prog_8_method_11_code 0 = .ok (.iconst 2, 1) := by decide +kernel
theorem d5_1 : decode prog_8_method_11_code 1 = .ok (.aload_n 0, 1) := by decide +kernel
theorem d5_2 : decode prog_8_method_11_code 2 = .ok (.getfield 30, 3) := by decide +kernel
theorem d5_5 : decode prog_8_method_11_code 5 = .ok (.imul, 1) := by decide +kernel
theorem d5_6 : decode prog_8_method_11_code 6 = .ok (.aload_n 0, 1) := by decide +kernel
theorem d5_7 : decode prog_8_method_11_code 7 = .ok (.getfield 13, 3) := by decide +kernel
theorem d5_10 : decode prog_8_method_11_code 10 = .ok (.arraylength, 1) := by decide +kernel
theorem d5_11 : decode prog_8_method_11_code 11 = .ok (.if_icmp .ne 25, 3) := by decide +kernel
theorem d5_14 : decode prog_8_method_11_code 14 = .ok (.aload_n 0, 1) := by decide +kernel
theorem d5_15 : decode prog_8_method_11_code 15 = .ok (.aload_n 0, 1) := by decide +kernel
theorem d5_16 : decode prog_8_method_11_code 16 = .ok (.getfield 13, 3) := by decide +kernel
theorem d5_19 : decode prog_8_method_11_code 19 = .ok (.iconst 2, 1) := by decide +kernel
theorem d5_20 : decode prog_8_method_11_code 20 = .ok (.iconst 2, 1) := by decide +kernel
theorem d5_21 : decode prog_8_method_11_code 21 = .ok (.aload_n 0, 1) := by decide +kernel
theorem d5_22 : decode prog_8_method_11_code 22 = .ok (.getfield 13, 3) := by decide +kernel
theorem d5_25 : decode prog_8_method_11_code 25 = .ok (.arraylength, 1) := by decide +kernel
theorem d5_26 : decode prog_8_method_11_code 26 = .ok (.imul, 1) := by decide +kernel
theorem d5_27 : decode prog_8_method_11_code 27 = .ok (.invokestatic 77, 3) := by decide +kernel
theorem d5_30 : decode prog_8_method_11_code 30 = .ok (.invokestatic 34, 3) := by decide +kernel
theorem d5_33 : decode prog_8_method_11_code 33 = .ok (.putfield 13, 3) := by decide +kernel
theorem d5_36 : decode prog_8_method_11_code 36 = .ok (.aload_n 0, 1) := by decide +kernel
theorem d5_37 : decode prog_8_method_11_code 37 = .ok (.getfield 13, 3) := by decide +kernel
theorem d5_40 : decode prog_8_method_11_code 40 = .ok (.iconst 2, 1) := by decide +kernel
theorem d5_41 : decode prog_8_method_11_code 41 = .ok (.aload_n 0, 1) := by decide +kernel
theorem d5_42 : decode prog_8_method_11_code 42 = .ok (.getfield 30, 3) := by decide +kernel
theorem d5_45 : decode prog_8_method_11_code 45 = .ok (.imul, 1) := by decide +kernel
theorem d5_46 : decode prog_8_method_11_code 46 = .ok (.iload_n 1, 1) := by decide +kernel
theorem d5_47 : decode prog_8_method_11_code 47 = .ok (.iastore, 1) := by decide +kernel
theorem d5_48 : decode prog_8_method_11_code 48 = .ok (.aload_n 0, 1) := by decide +kernel
theorem d5_49 : decode prog_8_method_11_code 49 = .ok (.getfield 13, 3) := by decide +kernel
theorem d5_52 : decode prog_8_method_11_code 52 = .ok (.iconst 2, 1) := by decide +kernel
theorem d5_53 : decode prog_8_method_11_code 53 = .ok (.aload_n 0, 1) := by decide +kernel
theorem d5_54 : decode prog_8_method_11_code 54 = .ok (.getfield 30, 3) := by decide +kernel
theorem d5_57 : decode prog_8_method_11_code 57 = .ok (.imul, 1) := by decide +kernel
theorem d5_58 : decode prog_8_method_11_code 58 = .ok (.iconst 1, 1) := by decide +kernel
theorem d5_59 : decode prog_8_method_11_code 59 = .ok (.iadd, 1) := by decide +kernel
theorem d5_60 : decode prog_8_method_11_code 60 = .ok (.iload_n 2, 1) := by decide +kernel
theorem d5_61 : decode prog_8_method_11_code 61 = .ok (.iastore, 1) := by decide +kernel
theorem d5_62 : decode prog_8_method_11_code 62 = .ok (.aload_n 0, 1) := by decide +kernel
theorem d5_63 : decode prog_8_method_11_code 63 = .ok (.dup, 1) := by decide +kernel
theorem d5_64 : decode prog_8_method_11_code 64 = .ok (.getfield 30, 3) := by decide +kernel
theorem d5_67 : decode prog_8_method_11_code 67 = .ok (.iconst 1, 1) := by decide +kernel
theorem d5_68 : decode prog_8_method_11_code 68 = .ok (.iadd, 1) := by decide +kernel
theorem d5_69 : decode prog_8_method_11_code 69 = .ok (.putfield 30, 3) := by decide +kernel
theorem d5_72 : decode prog_8_method_11_code 72 = .ok (.return_, 1) := by decide +kernel
theorem d6_0 : decode jdk_29_method_65_code 0 = .ok (.iload_n 0, 1) := by decide +kernel
theorem d6_1 : decode jdk_29_method_65_code 1 = .ok (.iload_n 1, 1) := by decide +kernel
theorem d6_2 : decode jdk_29_method_65_code 2 = .ok (.if_icmp .lt 7, 3) := by decide +kernel
theorem d6_5 : decode jdk_29_method_65_code 5 = .ok (.iload_n 0, 1) := by decide +kernel
theorem d6_6 : decode jdk_29_method_65_code 6 = .ok (.goto 4, 3) := by decide +kernel
theorem d6_9 : decode jdk_29_method_65_code 9 = .ok (.iload_n 1, 1) := by decide +kernel
theorem d6_10 : decode jdk_29_method_65_code 10 = .ok (.ireturn, 1) := by decide +kernel
theorem d7_0 : decode jdk_65_method_123_code 0 = .ok (.iload_n 1, 1) := by decide +kernel
theorem d7_1 : decode jdk_65_method_123_code 1 = .ok (.aload_n 0, 1) := by decide +kernel
theorem d7_2 : decode jdk_65_method_123_code 2 = .ok (.arraylength, 1) := by decide +kernel
theorem d7_3 : decode jdk_65_method_123_code 3 = .ok (.if_icmp .ne 11, 3) := by decide +kernel
theorem d7_14 : decode jdk_65_method_123_code 14 = .ok (.iload_n 1, 1) := by decide +kernel
theorem d7_15 : decode jdk_65_method_123_code 15 = .ok (.newarray .int, 2) := by decide +kernel
theorem d7_17 : decode jdk_65_method_123_code 17 = .ok (.astore_n 2, 1) := by decide +kernel
theorem d7_18 : decode jdk_65_method_123_code 18 = .ok (.aload_n 0, 1) := by decide +kernel
theorem d7_19 : decode jdk_65_method_123_code 19 = .ok (.iconst 0, 1) := by decide +kernel
theorem d7_20 : decode jdk_65_method_123_code 20 = .ok (.aload_n 2, 1) := by decide +kernel
theorem d7_21 : decode jdk_65_method_123_code 21 = .ok (.iconst 0, 1) := by decide +kernel
theorem d7_22 : decode jdk_65_method_123_code 22 = .ok (.aload_n 0, 1) := by decide +kernel
theorem d7_23 : decode jdk_65_method_123_code 23 = .ok (.arraylength, 1) := by decide +kernel
theorem d7_24 : decode jdk_65_method_123_code 24 = .ok (.iload_n 1, 1) := by decide +kernel
theorem d7_25 : decode jdk_65_method_123_code 25 = .ok (.invokestatic 304, 3) := by decide +kernel
theorem d7_28 : decode jdk_65_method_123_code 28 = .ok (.invokestatic 150, 3) := by decide +kernel
theorem d7_31 : decode jdk_65_method_123_code 31 = .ok (.aload_n 2, 1) := by decide +kernel
theorem d7_32 : decode jdk_65_method_123_code 32 = .ok (.areturn, 1) := by decide +kernel
theorem d8_0 : decode prog_8_method_4_code 0 = .ok (.aload_n 0, 1) := by decide +kernel
theorem d8_1 : decode prog_8_method_4_code 1 = .ok (.getfield 30, 3) := by decide +kernel
theorem d8_4 : decode prog_8_method_4_code 4 = .ok (.ifCond .ne 13, 3) := by decide +kernel
theorem d8_17 : decode prog_8_method_4_code 17 = .ok (.aload_n 0, 1) := by decide +kernel
theorem d8_18 : decode prog_8_method_4_code 18 = .ok (.getfield 13, 3) := by decide +kernel
theorem d8_21 : decode prog_8_method_4_code 21 = .ok (.iconst 2, 1) := by decide +kernel
theorem d8_22 : decode prog_8_method_4_code 22 = .ok (.aload_n 0, 1) := by decide +kernel
theorem d8_23 : decode prog_8_method_4_code 23 = .ok (.getfield 30, 3) := by decide +kernel
theorem d8_26 : decode prog_8_method_4_code 26 = .ok (.imul, 1) := by decide +kernel
theorem d8_27 : decode prog_8_method_4_code 27 = .ok (.iconst 1, 1) := by decide +kernel
theorem d8_28 : decode prog_8_method_4_code 28 = .ok (.isub, 1) := by decide +kernel
theorem d8_29 : decode prog_8_method_4_code 29 = .ok (.dup2, 1) := by decide +kernel
theorem d8_30 : decode prog_8_method_4_code 30 = .ok (.iaload, 1) := by decide +kernel
theorem d8_31 : decode prog_8_method_4_code 31 = .ok (.iconst 1, 1) := by decide +kernel
theorem d8_32 : decode prog_8_method_4_code 32 = .ok (.isub, 1) := by decide +kernel
theorem d8_33 : decode prog_8_method_4_code 33 = .ok (.iastore, 1) := by decide +kernel
theorem d8_34 : decode prog_8_method_4_code 34 = .ok (.aload_n 0, 1) := by decide +kernel
theorem d8_35 : decode prog_8_method_4_code 35 = .ok (.getfield 13, 3) := by decide +kernel
theorem d8_38 : decode prog_8_method_4_code 38 = .ok (.iconst 2, 1) := by decide +kernel
theorem d8_39 : decode prog_8_method_4_code 39 = .ok (.aload_n 0, 1) := by decide +kernel
theorem d8_40 : decode prog_8_method_4_code 40 = .ok (.getfield 30, 3) := by decide +kernel
theorem d8_43 : decode prog_8_method_4_code 43 = .ok (.imul, 1) := by decide +kernel
theorem d8_44 : decode prog_8_method_4_code 44 = .ok (.iconst 1, 1) := by decide +kernel
theorem d8_45 : decode prog_8_method_4_code 45 = .ok (.isub, 1) := by decide +kernel
theorem d8_46 : decode prog_8_method_4_code 46 = .ok (.iaload, 1) := by decide +kernel
theorem d8_47 : decode prog_8_method_4_code 47 = .ok (.aload_n 0, 1) := by decide +kernel
theorem d8_48 : decode prog_8_method_4_code 48 = .ok (.getfield 13, 3) := by decide +kernel
theorem d8_51 : decode prog_8_method_4_code 51 = .ok (.iconst 2, 1) := by decide +kernel
theorem d8_52 : decode prog_8_method_4_code 52 = .ok (.aload_n 0, 1) := by decide +kernel
theorem d8_53 : decode prog_8_method_4_code 53 = .ok (.getfield 30, 3) := by decide +kernel
theorem d8_56 : decode prog_8_method_4_code 56 = .ok (.imul, 1) := by decide +kernel
theorem d8_57 : decode prog_8_method_4_code 57 = .ok (.iconst 2, 1) := by decide +kernel
theorem d8_58 : decode prog_8_method_4_code 58 = .ok (.isub, 1) := by decide +kernel
theorem d8_59 : decode prog_8_method_4_code 59 = .ok (.iaload, 1) := by decide +kernel
theorem d8_60 : decode prog_8_method_4_code 60 = .ok (.if_icmp .ne 13, 3) := by decide +kernel
theorem d8_63 : decode prog_8_method_4_code 63 = .ok (.aload_n 0, 1) := by decide +kernel
theorem d8_64 : decode prog_8_method_4_code 64 = .ok (.dup, 1) := by decide +kernel
theorem d8_65 : decode prog_8_method_4_code 65 = .ok (.getfield 30, 3) := by decide +kernel
theorem d8_68 : decode prog_8_method_4_code 68 = .ok (.iconst 1, 1) := by decide +kernel
theorem d8_69 : decode prog_8_method_4_code 69 = .ok (.isub, 1) := by decide +kernel
theorem d8_70 : decode prog_8_method_4_code 70 = .ok (.putfield 30, 3) := by decide +kernel
theorem d8_73 : decode prog_8_method_4_code 73 = .ok (.return_, 1) := by decide +kernel
theorem d9_0 : decode prog_8_method_6_code 0 = .ok (.iconst 0, 1) := by decide +kernel
theorem d9_1 : decode prog_8_method_6_code 1 = .ok (.istore_n 1, 1) := by decide +kernel
theorem d9_2 : decode prog_8_method_6_code 2 = .ok (.iconst 0, 1) := by decide +kernel
theorem d9_3 : decode prog_8_method_6_code 3 = .ok (.istore_n 2, 1) := by decide +kernel
theorem d9_4 : decode prog_8_method_6_code 4 = .ok (.iload_n 2, 1) := by decide +kernel
theorem d9_5 : decode prog_8_method_6_code 5 = .ok (.aload_n 0, 1) := by decide +kernel
theorem d9_6 : decode prog_8_method_6_code 6 = .ok (.getfield 30, 3) := by decide +kernel
theorem d9_9 : decode prog_8_method_6_code 9 = .ok (.if_icmp .ge 23, 3) := by decide +kernel
theorem d9_12 : decode prog_8_method_6_code 12 = .ok (.iload_n 1, 1) := by decide +kernel
theorem d9_13 : decode prog_8_method_6_code 13 = .ok (.aload_n 0, 1) := by decide +kernel
theorem d9_14 : decode prog_8_method_6_code 14 = .ok (.iload_n 2, 1) := by decide +kernel
theorem d9_15 : decode prog_8_method_6_code 15 = .ok (.invokevirtual 54, 3) := by decide +kernel
theorem d9_18 : decode prog_8_method_6_code 18 = .ok (.aload_n 0, 1) := by decide +kernel
theorem d9_19 : decode prog_8_method_6_code 19 = .ok (.iload_n 2, 1) := by decide +kernel
theorem d9_20 : decode prog_8_method_6_code 20 = .ok (.invokevirtual 57, 3) := by decide +kernel
theorem d9_23 : decode prog_8_method_6_code 23 = .ok (.isub, 1) := by decide +kernel
theorem d9_24 : decode prog_8_method_6_code 24 = .ok (.iadd, 1) := by decide +kernel
theorem d9_25 : decode prog_8_method_6_code 25 = .ok (.istore_n 1, 1) := by decide +kernel
theorem d9_26 : decode prog_8_method_6_code 26 = .ok (.iinc 2 1, 3) := by decide +kernel
theorem d9_29 : decode prog_8_method_6_code 29 = .ok (.goto (-25), 3) := by decide +kernel
theorem d9_32 : decode prog_8_method_6_code 32 = .ok (.iload_n 1, 1) := by decide +kernel
theorem d9_33 : decode prog_8_method_6_code 33 = .ok (.ireturn, 1) := by decide +kernel
theorem d10_0 : decode prog_8_method_8_code 0 = .ok (.aload_n 0, 1) := by decide +kernel
theorem d10_1 : decode prog_8_method_8_code 1 = .ok (.getfield 13, 3) := by decide +kernel
theorem d10_4 : decode prog_8_method_8_code 4 = .ok (.iconst 2, 1) := by decide +kernel
theorem d10_5 : decode prog_8_method_8_code 5 = .ok (.iload_n 1, 1) := by decide +kernel
theorem d10_6 : decode prog_8_method_8_code 6 = .ok (.imul, 1) := by decide +kernel
theorem d10_7 : decode prog_8_method_8_code 7 = .ok (.iconst 1, 1) := by decide +kernel
theorem d10_8 : decode prog_8_method_8_code 8 = .ok (.iadd, 1) := by decide +kernel
theorem d10_9 : decode prog_8_method_8_code 9 = .ok (.iaload, 1) := by decide +kernel
theorem d10_10 : decode prog_8_method_8_code 10 = .ok (.ireturn, 1) := by decide +kernel
theorem d11_0 : decode prog_8_method_7_code 0 = .ok (.aload_n 0, 1) := by decide +kernel
theorem d11_1 : decode prog_8_method_7_code 1 = .ok (.getfield 13, 3) := by decide +kernel
theorem d11_4 : decode prog_8_method_7_code 4 = .ok (.iconst 2, 1) := by decide +kernel
theorem d11_5 : decode prog_8_method_7_code 5 = .ok (.iload_n 1, 1) := by decide +kernel
theorem d11_6 : decode prog_8_method_7_code 6 = .ok (.imul, 1) := by decide +kernel
theorem d11_7 : decode prog_8_method_7_code 7 = .ok (.iaload, 1) := by decide +kernel
theorem d11_8 : decode prog_8_method_7_code 8 = .ok (.ireturn, 1) := by decide +kernel
theorem pd0 : parseMethodDescriptor "(II)I" = some ⟨[.int, .int], some .int⟩ := by decide +kernel
theorem pd1 : parseMethodDescriptor "([II)[I" = some ⟨[(.array .int), .int], some (.array .int)⟩ := by decide +kernel
theorem pd2 : parseMethodDescriptor "(II)V" = some ⟨[.int, .int], none⟩ := by decide +kernel
theorem pd3 : parseMethodDescriptor "(I)I" = some ⟨[.int], some .int⟩ := by decide +kernel
theorem pd4 : parseMethodDescriptor "()V" = some ⟨[], none⟩ := by decide +kernel
theorem pd5 : parseMethodDescriptor "(I)V" = some ⟨[.int], none⟩ := by decide +kernel
theorem pd6 : parseMethodDescriptor "()I" = some ⟨[], some .int⟩ := by decide +kernel
theorem pn0 : plainName "com/example/vistrace/vistrace/checker/RunSet" = true := by first | (simp [plainName, overriddenIn]; done) | decide +kernel
theorem pn1 : plainName "java/util/Arrays" = true := by first | (simp [plainName, overriddenIn]; done) | decide +kernel
theorem pn2 : plainName "com/example/vistrace/vistrace/checker/RunSetSizePinLaw" = true := by first | (simp [plainName, overriddenIn]; done) | decide +kernel
theorem own_lay_0 {Z : State} {a0 : Array Value} (hw : ∀ d ∈ tables_1, d.before a0 Z = true) : ∀ f ∈ ([("bounds", "[I", .null), ("runs", "I", (.int (0 : Int32)))] : List (String × String × Value)), Laid Z a0 "com/example/vistrace/vistrace/checker/RunSet" "com/example/vistrace/vistrace/checker/RunSet" f.1 f.2.1 ∧ ∃ ty, parseFieldDescriptor f.2.1 = some ty ∧ f.2.2 = defaultValue ty := by
  intro f hf
  simp only [List.mem_cons, List.not_mem_nil, or_false] at hf
  rcases hf with rfl | rfl
  · exact ⟨Or.inl (w17 hw), (.array .int), by decide, rfl⟩
  · exact ⟨Or.inl (w24 hw), .int, by decide, rfl⟩
/-! ## G. Math.min, Math.max -/
def own_min (x0 : Int32) (x1 : Int32) : Int32 := (if x1 < x0 then x1 else x0)
theorem ef_rm1 (m : MethodId) (x0 : Int32) (x1 : Int32) : entryFrame m #[(.int x0), (.int x1)] 2 = (mkF m 0 #[.val (.int x0), .val (.int x1)] []) := by first | (simp [entryFrame, mkF, argsToLocals, Value.category]; done) | rfl
set_option maxRecDepth 65536 in
set_option maxHeartbeats 40000000 in
theorem rm1 (l : Launch) (Z : State) (a0 : Array Value) (hw : ∀ d ∈ tables_1, d.before a0 Z = true) (n0 : Nat) (x0 : Int32) (x1 : Int32) (Dr : List (Addr × Itm)) :
    Con l Z n0 (⟨"java/lang/Math", "min", "(II)I"⟩ : MethodName) jdk_29_method_69_code 2 (some .int) ({ frames := 0, cells := 0, slots := 0, locals := 0 } : Room) #[(.int x0), (.int x1)] Dr (fun v D' => v = some (.int (own_min x0 x1)) ∧ D' = Dr) := by
  refine Con.of (Jvm.Free.JP.mathPlain rfl (by decide +kernel)) ?_
  intro p e s m below meth c T cx Y
  obtain ⟨hx, hby, hml, hown, hnm, hret, hlk, hZ⟩ := cx
  rw [ef_rm1]
  generalize hF : Fi Z n0 below s _ _ _ = F
  refine Rn.go (T' := T) (g' := (mkF m 2 #[.val (.int x0), .val (.int x1)] [(.int x1), (.int x0)])) (fun t k => ?_) ?_
  · show Steps p.tables e below (T.setTop (mkF m 0 #[.val (.int x0), .val (.int x1)] [])) t
    refine XS.iloadN Y.here hx rfl (hb hby d1_0) rfl ?_
    show Steps p.tables e below (T.setTop (mkF m 1 #[.val (.int x0), .val (.int x1)] [(.int x0)])) t
    refine XS.iloadN Y.here hx rfl (hb hby d1_1) rfl ?_
    show Steps p.tables e below (T.setTop (mkF m 2 #[.val (.int x0), .val (.int x1)] [(.int x1), (.int x0)])) t
    exact k
  by_cases hc2 : x1 < x0
  · refine Rn.go (T' := T) (g' := (mkF m 9 #[.val (.int x0), .val (.int x1)] [])) (fun t k => XS.icmpYes Y.here hx rfl (pc0 := 2) (pc' := 9) rfl (hb hby d1_2) rfl (tlt hc2).2.2.1 (by decide) (by decide) k) ?_
    refine Rn.go (T' := T) (g' := (mkF m 10 #[.val (.int x0), .val (.int x1)] [(.int x1)])) (fun t k => ?_) ?_
    · show Steps p.tables e below (T.setTop (mkF m 9 #[.val (.int x0), .val (.int x1)] [])) t
      refine XS.iloadN Y.here hx rfl (hb hby d1_9) rfl ?_
      show Steps p.tables e below (T.setTop (mkF m 10 #[.val (.int x0), .val (.int x1)] [(.int x1)])) t
      exact k
    rw [← hF]; exact On.reti Y hx hret hlk (hb hby d1_10) (by decide) (by decide) ⟨by unfold own_min; rw [if_pos hc2] <;> rfl, rfl⟩
  · refine Rn.go (T' := T) (g' := (mkF m 5 #[.val (.int x0), .val (.int x1)] [])) (fun t k => XS.icmpNo Y.here hx rfl (hb hby d1_2) rfl (flt hc2).2.2.1 k) ?_
    refine Rn.go (T' := T) (g' := (mkF m 10 #[.val (.int x0), .val (.int x1)] [(.int x0)])) (fun t k => ?_) ?_
    · show Steps p.tables e below (T.setTop (mkF m 5 #[.val (.int x0), .val (.int x1)] [])) t
      refine XS.iloadN Y.here hx rfl (hb hby d1_5) rfl ?_
      show Steps p.tables e below (T.setTop (mkF m 6 #[.val (.int x0), .val (.int x1)] [(.int x0)])) t
      refine XS.goto Y.here hx rfl (pc0 := 6) (pc' := 10) rfl (hb hby d1_6) (by decide) (by decide) ?_
      show Steps p.tables e below (T.setTop (mkF m 10 #[.val (.int x0), .val (.int x1)] [(.int x0)])) t
      exact k
    rw [← hF]; exact On.reti Y hx hret hlk (hb hby d1_10) (by decide) (by decide) ⟨by unfold own_min; rw [if_neg hc2] <;> rfl, rfl⟩
def own_max (x0 : Int32) (x1 : Int32) : Int32 := (if x0 < x1 then x1 else x0)
theorem ef_rm6 (m : MethodId) (x0 : Int32) (x1 : Int32) : entryFrame m #[(.int x0), (.int x1)] 2 = (mkF m 0 #[.val (.int x0), .val (.int x1)] []) := by first | (simp [entryFrame, mkF, argsToLocals, Value.category]; done) | rfl
set_option maxRecDepth 65536 in
set_option maxHeartbeats 40000000 in
theorem rm6 (l : Launch) (Z : State) (a0 : Array Value) (hw : ∀ d ∈ tables_1, d.before a0 Z = true) (n0 : Nat) (x0 : Int32) (x1 : Int32) (Dr : List (Addr × Itm)) :
    Con l Z n0 (⟨"java/lang/Math", "max", "(II)I"⟩ : MethodName) jdk_29_method_65_code 2 (some .int) ({ frames := 0, cells := 0, slots := 0, locals := 0 } : Room) #[(.int x0), (.int x1)] Dr (fun v D' => v = some (.int (own_max x0 x1)) ∧ D' = Dr) := by
  refine Con.of (Jvm.Free.JP.mathPlain rfl (by decide +kernel)) ?_
  intro p e s m below meth c T cx Y
  obtain ⟨hx, hby, hml, hown, hnm, hret, hlk, hZ⟩ := cx
  rw [ef_rm6]
  generalize hF : Fi Z n0 below s _ _ _ = F
  refine Rn.go (T' := T) (g' := (mkF m 2 #[.val (.int x0), .val (.int x1)] [(.int x1), (.int x0)])) (fun t k => ?_) ?_
  · show Steps p.tables e below (T.setTop (mkF m 0 #[.val (.int x0), .val (.int x1)] [])) t
    refine XS.iloadN Y.here hx rfl (hb hby d6_0) rfl ?_
    show Steps p.tables e below (T.setTop (mkF m 1 #[.val (.int x0), .val (.int x1)] [(.int x0)])) t
    refine XS.iloadN Y.here hx rfl (hb hby d6_1) rfl ?_
    show Steps p.tables e below (T.setTop (mkF m 2 #[.val (.int x0), .val (.int x1)] [(.int x1), (.int x0)])) t
    exact k
  by_cases hc2 : x0 < x1
  · refine Rn.go (T' := T) (g' := (mkF m 9 #[.val (.int x0), .val (.int x1)] [])) (fun t k => XS.icmpYes Y.here hx rfl (pc0 := 2) (pc' := 9) rfl (hb hby d6_2) rfl (tlt hc2).1 (by decide) (by decide) k) ?_
    refine Rn.go (T' := T) (g' := (mkF m 10 #[.val (.int x0), .val (.int x1)] [(.int x1)])) (fun t k => ?_) ?_
    · show Steps p.tables e below (T.setTop (mkF m 9 #[.val (.int x0), .val (.int x1)] [])) t
      refine XS.iloadN Y.here hx rfl (hb hby d6_9) rfl ?_
      show Steps p.tables e below (T.setTop (mkF m 10 #[.val (.int x0), .val (.int x1)] [(.int x1)])) t
      exact k
    rw [← hF]; exact On.reti Y hx hret hlk (hb hby d6_10) (by decide) (by decide) ⟨by unfold own_max; rw [if_pos hc2] <;> rfl, rfl⟩
  · refine Rn.go (T' := T) (g' := (mkF m 5 #[.val (.int x0), .val (.int x1)] [])) (fun t k => XS.icmpNo Y.here hx rfl (hb hby d6_2) rfl (flt hc2).1 k) ?_
    refine Rn.go (T' := T) (g' := (mkF m 10 #[.val (.int x0), .val (.int x1)] [(.int x0)])) (fun t k => ?_) ?_
    · show Steps p.tables e below (T.setTop (mkF m 5 #[.val (.int x0), .val (.int x1)] [])) t
      refine XS.iloadN Y.here hx rfl (hb hby d6_5) rfl ?_
      show Steps p.tables e below (T.setTop (mkF m 6 #[.val (.int x0), .val (.int x1)] [(.int x0)])) t
      refine XS.goto Y.here hx rfl (pc0 := 6) (pc' := 10) rfl (hb hby d6_6) (by decide) (by decide) ?_
      show Steps p.tables e below (T.setTop (mkF m 10 #[.val (.int x0), .val (.int x1)] [(.int x0)])) t
      exact k
    rw [← hF]; exact On.reti Y hx hret hlk (hb hby d6_10) (by decide) (by decide) ⟨by unfold own_max; rw [if_neg hc2] <;> rfl, rfl⟩
theorem own_nn {z : Int32} (h : 0 ≤ z.toInt) : ¬ z < 0 := by rw [Int32.lt_iff_toInt_lt]; have : (0 : Int32).toInt = 0 := rfl; omega
theorem own_minI (x y : Int32) (h : x.toInt ≤ y.toInt) : own_min x y = x := by
  unfold own_min; rw [if_neg (by rw [Int32.lt_iff_toInt_lt]; omega)]
theorem own_maxI (x y : Int32) : (own_max x y).toInt = if x.toInt < y.toInt then y.toInt else x.toInt := by
  unfold own_max
  by_cases h : x < y
  · rw [if_pos h]; rw [Int32.lt_iff_toInt_lt] at h; rw [if_pos h]
  · rw [if_neg h]; rw [Int32.lt_iff_toInt_lt] at h; rw [if_neg h]
theorem own_mul2 {n : Int32} (h0 : 0 ≤ n.toInt) (h1 : n.toInt ≤ 1000) : ((2 : Int32) * n).toInt = 2 * n.toInt := by
  have h2 : (2 : Int32).toInt = 2 := rfl
  rw [Jvm.Kit.i32_mul (by rw [h2]; omega) (by rw [h2]; omega), h2]
theorem own_addI {x y : Int32} {k : Int} (hy : y.toInt = k) (h0 : -2 ^ 31 ≤ x.toInt + k) (h1 : x.toInt + k < 2 ^ 31) : (x + y).toInt = x.toInt + k := by rw [Jvm.Kit.i32_add (by rw [hy]; exact h0) (by rw [hy]; exact h1), hy]
theorem own_subI {x y : Int32} {k : Int} (hy : y.toInt = k) (h0 : -2 ^ 31 ≤ x.toInt - k) (h1 : x.toInt - k < 2 ^ 31) : (x - y).toInt = x.toInt - k := by rw [Jvm.Kit.i32_sub (by rw [hy]; exact h0) (by rw [hy]; exact h1), hy]
def own_g (L : List Int32) (k : Nat) : Int32 := L.getD k 0
theorem own_at {L : List Int32} {j : Int32} {k : Nat} (hj : j.toInt = k) (hl : k < L.length) : ¬ j < 0 ∧ j.toNatClampNeg = k ∧ L[j.toNatClampNeg]? = some (own_g L k) := by
  have e : j.toNatClampNeg = k := by rw [own_nat]; omega
  refine ⟨own_nn (by omega), e, ?_⟩
  rw [e]; unfold own_g; rw [List.getD_eq_getElem?_getD, List.getElem?_eq_getElem hl]; rfl
theorem own_gset {L : List Int32} {i k : Nat} {v : Int32} (hi : i < L.length) : own_g (L.set i v) k = if k = i then v else own_g L k := by
  unfold own_g
  rw [List.getD_eq_getElem?_getD, List.getElem?_set, List.getD_eq_getElem?_getD]
  by_cases e : i = k
  · subst e; simp [hi]
  · have : ¬ k = i := fun z => e z.symm
    simp [e, this]
def own_sz (L : List Int32) : Nat → Int32
  | 0 => 0
  | i + 1 => own_sz L i + (own_g L (2 * i + 1) - own_g L (2 * i))
theorem own_szS (L : List Int32) (i : Nat) : own_sz L (i + 1) = own_sz L i + (own_g L (2 * i + 1) - own_g L (2 * i)) := rfl
theorem own_szc {L L' : List Int32} : ∀ (i : Nat), (∀ j, j < 2 * i → own_g L' j = own_g L j) → own_sz L' i = own_sz L i
  | 0, _ => rfl
  | i + 1, h => by rw [own_szS, own_szS, own_szc i (fun j hj => h j (by omega)), h _ (by omega), h _ (by omega)]
def own_inv (q : Int) (R n : Int32) (L : List Int32) (k : Int32) (B : Int) : Prop :=
  n.toInt = L.length ∧ 0 ≤ R.toInt ∧ R.toInt ≤ q ∧ 2 * R.toInt ≤ L.length ∧ (L.length = 0 ∨ L.length = 2 ∨ L.length = 4 ∨ L.length = 8) ∧
  (∀ i : Nat, (i : Int) < R.toInt → (own_g L (2 * i)).toInt < (own_g L (2 * i + 1)).toInt) ∧ (∀ j : Nat, (j : Int) < 2 * R.toInt → 0 ≤ (own_g L j).toInt ∧ (own_g L j).toInt ≤ B) ∧ own_sz L R.toInt.toNat = k
theorem own_invB {q q' : Int} {R n : Int32} {L : List Int32} {k : Int32} {B B' : Int} (h : own_inv q R n L k B) (hb : B ≤ B') (hq : q ≤ q') : own_inv q' R n L k B' := by
  obtain ⟨h1, h2, h3, h4, h5, h6, h7, h8⟩ := h
  exact ⟨h1, h2, by omega, h4, h5, h6, fun j hj => ⟨(h7 j hj).1, by have := (h7 j hj).2; omega⟩, h8⟩
theorem own_inv0 : own_inv 0 0 0 [] 0 0 := ⟨rfl, by decide, by decide, by decide, Or.inl rfl, fun i hi => absurd hi (by have : (0 : Int32).toInt = 0 := rfl; omega), fun j hj => absurd hj (by have : (0 : Int32).toInt = 0 := rfl; omega), rfl⟩
def own_RS (a : Addr) (q : Int) (k : Int32) (B : Int) (D : List (Addr × Itm)) : Prop := ∃ (b : Addr) (R n : Int32) (L : List Int32), D = [ob a own_C0 (own_F0 (.ref b) (.int R)), ari b .int n L] ∧ own_inv q R n L k B
theorem ef_rm2 (m : MethodId) (a : Addr) : entryFrame m #[(.ref a)] 1 = (mkF m 0 #[.val (.ref a)] []) := by first | (simp [entryFrame, mkF, argsToLocals, Value.category]; done) | rfl
set_option maxRecDepth 65536 in
set_option maxHeartbeats 40000000 in
theorem rm2 (l : Launch) (Z : State) (a0 : Array Value) (hw : ∀ d ∈ tables_1, d.before a0 Z = true) (n0 : Nat) (a : Addr) (nb : Addr) (hS : Sta Z Z.heap "com/example/vistrace/vistrace/checker/RunSet" "NONE" "[I" (.ref nb)) (hA : Ary Z Z.heap nb .int (0 : Int32) []) :
    Con l Z n0 (⟨"com/example/vistrace/vistrace/checker/RunSet", "<init>", "()V"⟩ : MethodName) prog_8_method_1_code 1 none ({ frames := 1, cells := 0, slots := 0, locals := 12 } : Room) #[(.ref a)] [ob a own_C0 (own_F0 .null (.int (0 : Int32)))] (fun v D' => v = none ∧ D' = [ob a own_C0 (own_F0 (.ref nb) (.int (0 : Int32))), ari nb .int (0 : Int32) []]) := by
  refine Con.of (plainFor_of_name pn0) ?_
  intro p e s m below meth c T cx Y
  obtain ⟨hx, hby, hml, hown, hnm, hret, hlk, hZ⟩ := cx
  rw [ef_rm2]
  generalize hF : Fi Z n0 below s _ _ _ = F
  refine Rn.go (T' := T) (g' := (mkF m 1 #[.val (.ref a)] [(.ref a)])) (fun t k => ?_) ?_
  · show Steps p.tables e below (T.setTop (mkF m 0 #[.val (.ref a)] [])) t
    refine XS.aloadN Y.here hx rfl (hb hby d2_0) rfl rfl ?_
    show Steps p.tables e below (T.setTop (mkF m 1 #[.val (.ref a)] [(.ref a)])) t
    exact k
  refine On.ini Y hx hZ hown (w11 hw) (w12 hw) (w13 hw) (g := (mkF m 1 #[.val (.ref a)] [(.ref a)])) rfl (by rw [hml]; rfl) rfl (hb hby d2_1) (by decide) (W := 0) (by show 2 * 0 + _ ≤ _; exact Nat.le_of_eq rfl) (by decide) fun T1 Y2 => ?_
  show Rn p e below F T1 (mkF m 4 #[.val (.ref a)] [])
  refine Rn.go (T' := T1) (g' := (mkF m 5 #[.val (.ref a)] [(.ref a)])) (fun t k => ?_) ?_
  · show Steps p.tables e below (T1.setTop (mkF m 4 #[.val (.ref a)] [])) t
    refine XS.aloadN Y2.here hx rfl (hb hby d2_4) rfl rfl ?_
    show Steps p.tables e below (T1.setTop (mkF m 5 #[.val (.ref a)] [(.ref a)])) t
    exact k
  refine On.gets Y2 hx hZ hown (w14 hw) hS (g := (mkF m 5 #[.val (.ref a)] [(.ref a)])) rfl (hb hby d2_5) fun T3 Y4 => ?_
  show Rn p e below F T3 (mkF m 8 #[.val (.ref a)] [(.ref nb), (.ref a)])
  refine On.putf Y4 hx hZ hown (w16 hw) (i := 0) (j := 0) rfl rfl (Or.inl (w17 hw)) (w6 hw) (ty := (.array .int)) (by decide) (v' := (.ref nb)) rfl rfl (g := (mkF m 8 #[.val (.ref a)] [(.ref nb), (.ref a)])) rfl rfl (hb hby d2_8) fun T5 Y6 => ?_
  replace Y6 : On p l e _ s m _ below meth c Z n0 T5 0 0 [ob a own_C0 (own_F0 (.ref nb) (.int (0 : Int32)))] := Y6
  show Rn p e below F T5 (mkF m 11 #[.val (.ref a)] [])
  have Y7 : On p l e _ s m _ below meth c Z n0 T5 0 0 [ob a own_C0 (own_F0 (.ref nb) (.int (0 : Int32))), ari nb .int (0 : Int32) []] := On.addOld Y6 hA (by intro x hx; cases List.mem_singleton.mp hx; exact On.neOld Y6 (i := 0) rfl (Ary.lt hA))
  rw [← hF]; exact On.retv Y7 hx hret hlk (hb hby d2_11) (by decide) (by decide) ⟨rfl, rfl⟩
theorem ef_rm7 (m : MethodId) (src : Addr) (nl : Int32) : entryFrame m #[(.ref src), (.int nl)] 3 = (mkF m 0 #[.val (.ref src), .val (.int nl), .unset] []) := by first | (simp [entryFrame, mkF, argsToLocals, Value.category]; done) | rfl
set_option maxRecDepth 65536 in
set_option maxHeartbeats 40000000 in
theorem rm7 (l : Launch) (Z : State) (a0 : Array Value) (hw : ∀ d ∈ tables_1, d.before a0 Z = true) (n0 : Nat) (src : Addr) (nl : Int32) (it0 : Addr × Itm) (zz : Int32) (xs : List Int32) (hz : zz.toInt = xs.length) (hlt : zz.toInt < nl.toInt) (hnl : nl.toInt ≤ 8) :
    Con l Z n0 (⟨"java/util/Arrays", "copyOf", "([II)[I"⟩ : MethodName) jdk_65_method_123_code 3 (some (.array .int)) ({ frames := 1, cells := 1, slots := 8, locals := 40 } : Room) #[(.ref src), (.int nl)] [it0, ari src .int zz xs] (fun v D' => ∃ bb : Addr, v = some (.ref bb) ∧ D' = [it0, ari src .int zz xs, ari bb .int nl (xs ++ (List.replicate nl.toNatClampNeg (0 : Int32)).drop xs.length)]) := by
  refine Con.of (plainFor_of_name pn1) ?_
  intro p e s m below meth c T cx Y
  obtain ⟨hx, hby, hml, hown, hnm, hret, hlk, hZ⟩ := cx
  rw [ef_rm7]
  generalize hF : Fi Z n0 below s _ _ _ = F
  refine Rn.go (T' := T) (g' := (mkF m 2 #[.val (.ref src), .val (.int nl), .unset] [(.ref src), (.int nl)])) (fun t k => ?_) ?_
  · show Steps p.tables e below (T.setTop (mkF m 0 #[.val (.ref src), .val (.int nl), .unset] [])) t
    refine XS.iloadN Y.here hx rfl (hb hby d7_0) rfl ?_
    show Steps p.tables e below (T.setTop (mkF m 1 #[.val (.ref src), .val (.int nl), .unset] [(.int nl)])) t
    refine XS.aloadN Y.here hx rfl (hb hby d7_1) rfl rfl ?_
    show Steps p.tables e below (T.setTop (mkF m 2 #[.val (.ref src), .val (.int nl), .unset] [(.ref src), (.int nl)])) t
    exact k
  refine On.alen Y hx hZ (i := 1) rfl (g := (mkF m 2 #[.val (.ref src), .val (.int nl), .unset] [(.ref src), (.int nl)])) rfl rfl (hb hby d7_2) ?_
  show Rn p e below F T (mkF m 3 #[.val (.ref src), .val (.int nl), .unset] [(.int zz), (.int nl)])
  refine Rn.go (T' := T) (g' := (mkF m 14 #[.val (.ref src), .val (.int nl), .unset] [])) (fun t k => XS.icmpYes Y.here hx rfl (pc0 := 3) (pc' := 14) rfl (hb hby d7_3) rfl (feq (fun q => by rw [q] at hlt; omega)).2 (by decide) (by decide) k) ?_
  refine Rn.go (T' := T) (g' := (mkF m 15 #[.val (.ref src), .val (.int nl), .unset] [(.int nl)])) (fun t k => ?_) ?_
  · show Steps p.tables e below (T.setTop (mkF m 14 #[.val (.ref src), .val (.int nl), .unset] [])) t
    refine XS.iloadN Y.here hx rfl (hb hby d7_14) rfl ?_
    show Steps p.tables e below (T.setTop (mkF m 15 #[.val (.ref src), .val (.int nl), .unset] [(.int nl)])) t
    exact k
  refine On.newp Y hx hZ (aty := .int) (w36 hw) (g := (mkF m 15 #[.val (.ref src), .val (.int nl), .unset] [(.int nl)])) rfl (hb hby d7_15) rfl (own_nn (by omega)) (N := nl.toNatClampNeg) (cap := 8) rfl (by rw [own_nat]; omega) (by decide) (by decide) (by decide) (dv := (.int (0 : Int32))) rfl fun T1 a3 Y2 => ?_
  replace Y2 : On p l e ({ frames := 1, cells := 1, slots := 8, locals := 40 } : Room) s m #[(.ref src), (.int nl)] below meth c Z n0 T1 1 8 [it0, ari src .int zz xs, ari a3 .int nl (List.replicate nl.toNatClampNeg (0 : Int32))] := by first | exact Y2 | (simpa using Y2) | (simp only [ari, arj, List.map_replicate]; exact Y2)
  show Rn p e below F T1 (mkF m 17 #[.val (.ref src), .val (.int nl), .unset] [(.ref a3)])
  refine Rn.go (T' := T1) (g' := (mkF m 23 #[.val (.ref src), .val (.int nl), .val (.ref a3)] [(.ref src), (.int (0 : Int32)), (.ref a3), (.int (0 : Int32)), (.ref src)])) (fun t k => ?_) ?_
  · show Steps p.tables e below (T1.setTop (mkF m 17 #[.val (.ref src), .val (.int nl), .unset] [(.ref a3)])) t
    refine XS.astoreN Y2.here hx rfl (hb hby d7_17) rfl rfl (l' := #[.val (.ref src), .val (.int nl), .val (.ref a3)]) rfl ?_
    show Steps p.tables e below (T1.setTop (mkF m 18 #[.val (.ref src), .val (.int nl), .val (.ref a3)] [])) t
    refine XS.aloadN Y2.here hx rfl (hb hby d7_18) rfl rfl ?_
    show Steps p.tables e below (T1.setTop (mkF m 19 #[.val (.ref src), .val (.int nl), .val (.ref a3)] [(.ref src)])) t
    refine XS.iconst Y2.here hx rfl (hb hby d7_19) ?_
    show Steps p.tables e below (T1.setTop (mkF m 20 #[.val (.ref src), .val (.int nl), .val (.ref a3)] [(.int (0 : Int32)), (.ref src)])) t
    refine XS.aloadN Y2.here hx rfl (hb hby d7_20) rfl rfl ?_
    show Steps p.tables e below (T1.setTop (mkF m 21 #[.val (.ref src), .val (.int nl), .val (.ref a3)] [(.ref a3), (.int (0 : Int32)), (.ref src)])) t
    refine XS.iconst Y2.here hx rfl (hb hby d7_21) ?_
    show Steps p.tables e below (T1.setTop (mkF m 22 #[.val (.ref src), .val (.int nl), .val (.ref a3)] [(.int (0 : Int32)), (.ref a3), (.int (0 : Int32)), (.ref src)])) t
    refine XS.aloadN Y2.here hx rfl (hb hby d7_22) rfl rfl ?_
    show Steps p.tables e below (T1.setTop (mkF m 23 #[.val (.ref src), .val (.int nl), .val (.ref a3)] [(.ref src), (.int (0 : Int32)), (.ref a3), (.int (0 : Int32)), (.ref src)])) t
    exact k
  refine On.alen Y2 hx hZ (i := 1) rfl (g := (mkF m 23 #[.val (.ref src), .val (.int nl), .val (.ref a3)] [(.ref src), (.int (0 : Int32)), (.ref a3), (.int (0 : Int32)), (.ref src)])) rfl rfl (hb hby d7_23) ?_
  show Rn p e below F T1 (mkF m 24 #[.val (.ref src), .val (.int nl), .val (.ref a3)] [(.int zz), (.int (0 : Int32)), (.ref a3), (.int (0 : Int32)), (.ref src)])
  refine Rn.go (T' := T1) (g' := (mkF m 25 #[.val (.ref src), .val (.int nl), .val (.ref a3)] [(.int nl), (.int zz), (.int (0 : Int32)), (.ref a3), (.int (0 : Int32)), (.ref src)])) (fun t k => ?_) ?_
  · show Steps p.tables e below (T1.setTop (mkF m 24 #[.val (.ref src), .val (.int nl), .val (.ref a3)] [(.int zz), (.int (0 : Int32)), (.ref a3), (.int (0 : Int32)), (.ref src)])) t
    refine XS.iloadN Y2.here hx rfl (hb hby d7_24) rfl ?_
    show Steps p.tables e below (T1.setTop (mkF m 25 #[.val (.ref src), .val (.int nl), .val (.ref a3)] [(.int nl), (.int zz), (.int (0 : Int32)), (.ref a3), (.int (0 : Int32)), (.ref src)])) t
    exact k
  refine On.static Y2 hx hZ (y := (⟨"java/lang/Math", "min", "(II)I"⟩ : MethodName)) hown (w37 hw) (w1 hw) (w3 hw) (w2 hw) (by decide) (argsL := [(.int zz), (.int nl)]) (rest := [(.int (0 : Int32)), (.ref a3), (.int (0 : Int32)), (.ref src)]) (rm1 l Z a0 hw n0 zz nl [it0, ari src .int zz xs, ari a3 .int nl (List.replicate nl.toNatClampNeg (0 : Int32))]) (W := 4) (by decide) (by decide) (by decide) (by decide) (g := (mkF m 25 #[.val (.ref src), .val (.int nl), .val (.ref a3)] [(.int nl), (.int zz), (.int (0 : Int32)), (.ref a3), (.int (0 : Int32)), (.ref src)])) rfl (by rw [hml]; rfl) (lenOf pd0 rfl) rfl (by show 2 * 0 + _ ≤ _; exact Nat.le_of_eq rfl) (hb hby d7_25) ?_
  intro T4 u6 D7 hp8 Y5
  obtain ⟨r25, hr25, rfl, rfl⟩ : ∃ z : Int32, z = (own_min zz nl) ∧ u6 = some (.int z) ∧ D7 = _ := ⟨_, rfl, hp8.1, hp8.2⟩
  replace Y5 : On p l e _ s m _ below meth c Z n0 T4 1 8 [it0, ari src .int zz xs, ari a3 .int nl (List.replicate nl.toNatClampNeg (0 : Int32))] := Y5
  show Rn p e below F T4 (mkF m 28 #[.val (.ref src), .val (.int nl), .val (.ref a3)] [(.int r25), (.int (0 : Int32)), (.ref a3), (.int (0 : Int32)), (.ref src)])
  have er : r25 = zz := by rw [hr25]; exact own_minI _ _ (by omega)
  refine On.cpa Y5 hx hZ hown (w38 hw) (w41 hw) (w39 hw) (w40 hw) (i := 1) (j := 2) rfl rfl (by rw [er]; exact own_nn (by omega)) (by rw [er, own_nat]; omega) (by rw [List.length_replicate, own_nat]; omega) (by rw [List.length_replicate, own_nat]; omega) (g := (mkF m 28 #[.val (.ref src), .val (.int nl), .val (.ref a3)] [(.int r25), (.int (0 : Int32)), (.ref a3), (.int (0 : Int32)), (.ref src)])) rfl (by rw [hml]; rfl) rfl (hb hby d7_28) (by decide) (W := 0) (by show 2 * 0 + _ ≤ _; exact Nat.le_of_eq rfl) (by decide) fun T9 Y10 => ?_
  replace Y10 : On p l e _ s m _ below meth c Z n0 T9 1 8 [it0, ari src .int zz xs, ari a3 .int nl (xs ++ (List.replicate nl.toNatClampNeg (0 : Int32)).drop xs.length)] := Y10
  show Rn p e below F T9 (mkF m 31 #[.val (.ref src), .val (.int nl), .val (.ref a3)] [])
  refine Rn.go (T' := T9) (g' := (mkF m 32 #[.val (.ref src), .val (.int nl), .val (.ref a3)] [(.ref a3)])) (fun t k => ?_) ?_
  · show Steps p.tables e below (T9.setTop (mkF m 31 #[.val (.ref src), .val (.int nl), .val (.ref a3)] [])) t
    refine XS.aloadN Y10.here hx rfl (hb hby d7_31) rfl rfl ?_
    show Steps p.tables e below (T9.setTop (mkF m 32 #[.val (.ref src), .val (.int nl), .val (.ref a3)] [(.ref a3)])) t
    exact k
  rw [← hF]; exact On.reta Y10 hx hret rfl hlk rfl rfl (hb hby d7_32) (by decide) (by decide) ⟨_, rfl, rfl⟩
theorem ef_rmAN (m : MethodId) (a : Addr) (x1 : Int32) (x2 : Int32) : entryFrame m #[(.ref a), (.int x1), (.int x2)] 3 = (mkF m 0 #[.val (.ref a), .val (.int x1), .val (.int x2)] []) := by first | (simp [entryFrame, mkF, argsToLocals, Value.category]; done) | rfl
set_option maxRecDepth 65536 in
set_option maxHeartbeats 40000000 in
theorem rmAN (l : Launch) (Z : State) (a0 : Array Value) (hw : ∀ d ∈ tables_1, d.before a0 Z = true) (n0 : Nat) (a : Addr) (x1 : Int32) (x2 : Int32) (b : Addr) (R : Int32) (n : Int32) (L : List Int32) (hne : ¬ ((2 : Int32) * R) = n) (h0 : ¬ ((2 : Int32) * R) < 0) (k0 : ((2 : Int32) * R).toNatClampNeg < L.length) (h1 : ¬ (((2 : Int32) * R) + (1 : Int32)) < 0) (k1 : (((2 : Int32) * R) + (1 : Int32)).toNatClampNeg < L.length) :
    Con l Z n0 (⟨"com/example/vistrace/vistrace/checker/RunSet", "addRun", "(II)V"⟩ : MethodName) prog_8_method_11_code 3 none ({ frames := 0, cells := 0, slots := 0, locals := 0 } : Room) #[(.ref a), (.int x1), (.int x2)] [ob a own_C0 (own_F0 (.ref b) (.int R)), ari b .int n L] (fun v D' => v = none ∧ D' = [ob a own_C0 (own_F0 (.ref b) (.int (R + (1 : Int32)))), ari b .int n ((L.set ((2 : Int32) * R).toNatClampNeg x1).set (((2 : Int32) * R) + (1 : Int32)).toNatClampNeg x2)]) := by
  refine Con.of (plainFor_of_name pn0) ?_
  intro p e s m below meth c T cx Y
  obtain ⟨hx, hby, hml, hown, hnm, hret, hlk, hZ⟩ := cx
  rw [ef_rmAN]
  generalize hF : Fi Z n0 below s _ _ _ = F
  refine Rn.go (T' := T) (g' := (mkF m 2 #[.val (.ref a), .val (.int x1), .val (.int x2)] [(.ref a), (.int (2 : Int32))])) (fun t k => ?_) ?_
  · show Steps p.tables e below (T.setTop (mkF m 0 #[.val (.ref a), .val (.int x1), .val (.int x2)] [])) t
    refine XS.iconst Y.here hx rfl (hb hby d5_0) ?_
    show Steps p.tables e below (T.setTop (mkF m 1 #[.val (.ref a), .val (.int x1), .val (.int x2)] [(.int (2 : Int32))])) t
    refine XS.aloadN Y.here hx rfl (hb hby d5_1) rfl rfl ?_
    show Steps p.tables e below (T.setTop (mkF m 2 #[.val (.ref a), .val (.int x1), .val (.int x2)] [(.ref a), (.int (2 : Int32))])) t
    exact k
  refine On.getf Y hx hZ hown (w23 hw) (i := 0) (j := 1) rfl rfl (g := (mkF m 2 #[.val (.ref a), .val (.int x1), .val (.int x2)] [(.ref a), (.int (2 : Int32))])) rfl rfl (hb hby d5_2) fun T1 Y2 => ?_
  show Rn p e below F T1 (mkF m 5 #[.val (.ref a), .val (.int x1), .val (.int x2)] [(.int R), (.int (2 : Int32))])
  refine Rn.go (T' := T1) (g' := (mkF m 7 #[.val (.ref a), .val (.int x1), .val (.int x2)] [(.ref a), (.int ((2 : Int32) * R))])) (fun t k => ?_) ?_
  · show Steps p.tables e below (T1.setTop (mkF m 5 #[.val (.ref a), .val (.int x1), .val (.int x2)] [(.int R), (.int (2 : Int32))])) t
    refine XS.imul Y2.here hx rfl (hb hby d5_5) rfl ?_
    show Steps p.tables e below (T1.setTop (mkF m 6 #[.val (.ref a), .val (.int x1), .val (.int x2)] [(.int ((2 : Int32) * R))])) t
    refine XS.aloadN Y2.here hx rfl (hb hby d5_6) rfl rfl ?_
    show Steps p.tables e below (T1.setTop (mkF m 7 #[.val (.ref a), .val (.int x1), .val (.int x2)] [(.ref a), (.int ((2 : Int32) * R))])) t
    exact k
  refine On.getf Y2 hx hZ hown (w16 hw) (i := 0) (j := 0) rfl rfl (g := (mkF m 7 #[.val (.ref a), .val (.int x1), .val (.int x2)] [(.ref a), (.int ((2 : Int32) * R))])) rfl rfl (hb hby d5_7) fun T3 Y4 => ?_
  show Rn p e below F T3 (mkF m 10 #[.val (.ref a), .val (.int x1), .val (.int x2)] [(.ref b), (.int ((2 : Int32) * R))])
  refine On.alen Y4 hx hZ (i := 1) rfl (g := (mkF m 10 #[.val (.ref a), .val (.int x1), .val (.int x2)] [(.ref b), (.int ((2 : Int32) * R))])) rfl rfl (hb hby d5_10) ?_
  show Rn p e below F T3 (mkF m 11 #[.val (.ref a), .val (.int x1), .val (.int x2)] [(.int n), (.int ((2 : Int32) * R))])
  refine Rn.go (T' := T3) (g' := (mkF m 36 #[.val (.ref a), .val (.int x1), .val (.int x2)] [])) (fun t k => XS.icmpYes Y4.here hx rfl (pc0 := 11) (pc' := 36) rfl (hb hby d5_11) rfl (feq hne).2 (by decide) (by decide) k) ?_
  refine Rn.go (T' := T3) (g' := (mkF m 37 #[.val (.ref a), .val (.int x1), .val (.int x2)] [(.ref a)])) (fun t k => ?_) ?_
  · show Steps p.tables e below (T3.setTop (mkF m 36 #[.val (.ref a), .val (.int x1), .val (.int x2)] [])) t
    refine XS.aloadN Y4.here hx rfl (hb hby d5_36) rfl rfl ?_
    show Steps p.tables e below (T3.setTop (mkF m 37 #[.val (.ref a), .val (.int x1), .val (.int x2)] [(.ref a)])) t
    exact k
  refine On.getf Y4 hx hZ hown (w16 hw) (i := 0) (j := 0) rfl rfl (g := (mkF m 37 #[.val (.ref a), .val (.int x1), .val (.int x2)] [(.ref a)])) rfl rfl (hb hby d5_37) fun T5 Y6 => ?_
  show Rn p e below F T5 (mkF m 40 #[.val (.ref a), .val (.int x1), .val (.int x2)] [(.ref b)])
  refine Rn.go (T' := T5) (g' := (mkF m 42 #[.val (.ref a), .val (.int x1), .val (.int x2)] [(.ref a), (.int (2 : Int32)), (.ref b)])) (fun t k => ?_) ?_
  · show Steps p.tables e below (T5.setTop (mkF m 40 #[.val (.ref a), .val (.int x1), .val (.int x2)] [(.ref b)])) t
    refine XS.iconst Y6.here hx rfl (hb hby d5_40) ?_
    show Steps p.tables e below (T5.setTop (mkF m 41 #[.val (.ref a), .val (.int x1), .val (.int x2)] [(.int (2 : Int32)), (.ref b)])) t
    refine XS.aloadN Y6.here hx rfl (hb hby d5_41) rfl rfl ?_
    show Steps p.tables e below (T5.setTop (mkF m 42 #[.val (.ref a), .val (.int x1), .val (.int x2)] [(.ref a), (.int (2 : Int32)), (.ref b)])) t
    exact k
  refine On.getf Y6 hx hZ hown (w23 hw) (i := 0) (j := 1) rfl rfl (g := (mkF m 42 #[.val (.ref a), .val (.int x1), .val (.int x2)] [(.ref a), (.int (2 : Int32)), (.ref b)])) rfl rfl (hb hby d5_42) fun T7 Y8 => ?_
  show Rn p e below F T7 (mkF m 45 #[.val (.ref a), .val (.int x1), .val (.int x2)] [(.int R), (.int (2 : Int32)), (.ref b)])
  refine Rn.go (T' := T7) (g' := (mkF m 47 #[.val (.ref a), .val (.int x1), .val (.int x2)] [(.int x1), (.int ((2 : Int32) * R)), (.ref b)])) (fun t k => ?_) ?_
  · show Steps p.tables e below (T7.setTop (mkF m 45 #[.val (.ref a), .val (.int x1), .val (.int x2)] [(.int R), (.int (2 : Int32)), (.ref b)])) t
    refine XS.imul Y8.here hx rfl (hb hby d5_45) rfl ?_
    show Steps p.tables e below (T7.setTop (mkF m 46 #[.val (.ref a), .val (.int x1), .val (.int x2)] [(.int ((2 : Int32) * R)), (.ref b)])) t
    refine XS.iloadN Y8.here hx rfl (hb hby d5_46) rfl ?_
    show Steps p.tables e below (T7.setTop (mkF m 47 #[.val (.ref a), .val (.int x1), .val (.int x2)] [(.int x1), (.int ((2 : Int32) * R)), (.ref b)])) t
    exact k
  refine On.isto Y8 hx hZ (i := 1) rfl h0 k0 (g := (mkF m 47 #[.val (.ref a), .val (.int x1), .val (.int x2)] [(.int x1), (.int ((2 : Int32) * R)), (.ref b)])) rfl rfl (hb hby d5_47) fun T9 Y10 => ?_
  replace Y10 : On p l e _ s m _ below meth c Z n0 T9 0 0 [ob a own_C0 (own_F0 (.ref b) (.int R)), ari b .int n (L.set ((2 : Int32) * R).toNatClampNeg x1)] := Y10
  show Rn p e below F T9 (mkF m 48 #[.val (.ref a), .val (.int x1), .val (.int x2)] [])
  refine Rn.go (T' := T9) (g' := (mkF m 49 #[.val (.ref a), .val (.int x1), .val (.int x2)] [(.ref a)])) (fun t k => ?_) ?_
  · show Steps p.tables e below (T9.setTop (mkF m 48 #[.val (.ref a), .val (.int x1), .val (.int x2)] [])) t
    refine XS.aloadN Y10.here hx rfl (hb hby d5_48) rfl rfl ?_
    show Steps p.tables e below (T9.setTop (mkF m 49 #[.val (.ref a), .val (.int x1), .val (.int x2)] [(.ref a)])) t
    exact k
  refine On.getf Y10 hx hZ hown (w16 hw) (i := 0) (j := 0) rfl rfl (g := (mkF m 49 #[.val (.ref a), .val (.int x1), .val (.int x2)] [(.ref a)])) rfl rfl (hb hby d5_49) fun T11 Y12 => ?_
  show Rn p e below F T11 (mkF m 52 #[.val (.ref a), .val (.int x1), .val (.int x2)] [(.ref b)])
  refine Rn.go (T' := T11) (g' := (mkF m 54 #[.val (.ref a), .val (.int x1), .val (.int x2)] [(.ref a), (.int (2 : Int32)), (.ref b)])) (fun t k => ?_) ?_
  · show Steps p.tables e below (T11.setTop (mkF m 52 #[.val (.ref a), .val (.int x1), .val (.int x2)] [(.ref b)])) t
    refine XS.iconst Y12.here hx rfl (hb hby d5_52) ?_
    show Steps p.tables e below (T11.setTop (mkF m 53 #[.val (.ref a), .val (.int x1), .val (.int x2)] [(.int (2 : Int32)), (.ref b)])) t
    refine XS.aloadN Y12.here hx rfl (hb hby d5_53) rfl rfl ?_
    show Steps p.tables e below (T11.setTop (mkF m 54 #[.val (.ref a), .val (.int x1), .val (.int x2)] [(.ref a), (.int (2 : Int32)), (.ref b)])) t
    exact k
  refine On.getf Y12 hx hZ hown (w23 hw) (i := 0) (j := 1) rfl rfl (g := (mkF m 54 #[.val (.ref a), .val (.int x1), .val (.int x2)] [(.ref a), (.int (2 : Int32)), (.ref b)])) rfl rfl (hb hby d5_54) fun T13 Y14 => ?_
  show Rn p e below F T13 (mkF m 57 #[.val (.ref a), .val (.int x1), .val (.int x2)] [(.int R), (.int (2 : Int32)), (.ref b)])
  refine Rn.go (T' := T13) (g' := (mkF m 61 #[.val (.ref a), .val (.int x1), .val (.int x2)] [(.int x2), (.int (((2 : Int32) * R) + (1 : Int32))), (.ref b)])) (fun t k => ?_) ?_
  · show Steps p.tables e below (T13.setTop (mkF m 57 #[.val (.ref a), .val (.int x1), .val (.int x2)] [(.int R), (.int (2 : Int32)), (.ref b)])) t
    refine XS.imul Y14.here hx rfl (hb hby d5_57) rfl ?_
    show Steps p.tables e below (T13.setTop (mkF m 58 #[.val (.ref a), .val (.int x1), .val (.int x2)] [(.int ((2 : Int32) * R)), (.ref b)])) t
    refine XS.iconst Y14.here hx rfl (hb hby d5_58) ?_
    show Steps p.tables e below (T13.setTop (mkF m 59 #[.val (.ref a), .val (.int x1), .val (.int x2)] [(.int (1 : Int32)), (.int ((2 : Int32) * R)), (.ref b)])) t
    refine XS.iadd Y14.here hx rfl (hb hby d5_59) rfl ?_
    show Steps p.tables e below (T13.setTop (mkF m 60 #[.val (.ref a), .val (.int x1), .val (.int x2)] [(.int (((2 : Int32) * R) + (1 : Int32))), (.ref b)])) t
    refine XS.iloadN Y14.here hx rfl (hb hby d5_60) rfl ?_
    show Steps p.tables e below (T13.setTop (mkF m 61 #[.val (.ref a), .val (.int x1), .val (.int x2)] [(.int x2), (.int (((2 : Int32) * R) + (1 : Int32))), (.ref b)])) t
    exact k
  refine On.isto Y14 hx hZ (i := 1) rfl h1 (by rw [List.length_set]; exact k1) (g := (mkF m 61 #[.val (.ref a), .val (.int x1), .val (.int x2)] [(.int x2), (.int (((2 : Int32) * R) + (1 : Int32))), (.ref b)])) rfl rfl (hb hby d5_61) fun T15 Y16 => ?_
  replace Y16 : On p l e _ s m _ below meth c Z n0 T15 0 0 [ob a own_C0 (own_F0 (.ref b) (.int R)), ari b .int n ((L.set ((2 : Int32) * R).toNatClampNeg x1).set (((2 : Int32) * R) + (1 : Int32)).toNatClampNeg x2)] := Y16
  show Rn p e below F T15 (mkF m 62 #[.val (.ref a), .val (.int x1), .val (.int x2)] [])
  refine Rn.go (T' := T15) (g' := (mkF m 64 #[.val (.ref a), .val (.int x1), .val (.int x2)] [(.ref a), (.ref a)])) (fun t k => ?_) ?_
  · show Steps p.tables e below (T15.setTop (mkF m 62 #[.val (.ref a), .val (.int x1), .val (.int x2)] [])) t
    refine XS.aloadN Y16.here hx rfl (hb hby d5_62) rfl rfl ?_
    show Steps p.tables e below (T15.setTop (mkF m 63 #[.val (.ref a), .val (.int x1), .val (.int x2)] [(.ref a)])) t
    refine XS.dup Y16.here hx rfl (hb hby d5_63) rfl rfl ?_
    show Steps p.tables e below (T15.setTop (mkF m 64 #[.val (.ref a), .val (.int x1), .val (.int x2)] [(.ref a), (.ref a)])) t
    exact k
  refine On.getf Y16 hx hZ hown (w23 hw) (i := 0) (j := 1) rfl rfl (g := (mkF m 64 #[.val (.ref a), .val (.int x1), .val (.int x2)] [(.ref a), (.ref a)])) rfl rfl (hb hby d5_64) fun T17 Y18 => ?_
  show Rn p e below F T17 (mkF m 67 #[.val (.ref a), .val (.int x1), .val (.int x2)] [(.int R), (.ref a)])
  refine Rn.go (T' := T17) (g' := (mkF m 69 #[.val (.ref a), .val (.int x1), .val (.int x2)] [(.int (R + (1 : Int32))), (.ref a)])) (fun t k => ?_) ?_
  · show Steps p.tables e below (T17.setTop (mkF m 67 #[.val (.ref a), .val (.int x1), .val (.int x2)] [(.int R), (.ref a)])) t
    refine XS.iconst Y18.here hx rfl (hb hby d5_67) ?_
    show Steps p.tables e below (T17.setTop (mkF m 68 #[.val (.ref a), .val (.int x1), .val (.int x2)] [(.int (1 : Int32)), (.int R), (.ref a)])) t
    refine XS.iadd Y18.here hx rfl (hb hby d5_68) rfl ?_
    show Steps p.tables e below (T17.setTop (mkF m 69 #[.val (.ref a), .val (.int x1), .val (.int x2)] [(.int (R + (1 : Int32))), (.ref a)])) t
    exact k
  refine On.putf Y18 hx hZ hown (w23 hw) (i := 0) (j := 1) rfl rfl (Or.inl (w24 hw)) (w6 hw) (ty := .int) (by decide) (v' := (.int (R + (1 : Int32)))) rfl rfl (g := (mkF m 69 #[.val (.ref a), .val (.int x1), .val (.int x2)] [(.int (R + (1 : Int32))), (.ref a)])) rfl rfl (hb hby d5_69) fun T19 Y20 => ?_
  replace Y20 : On p l e _ s m _ below meth c Z n0 T19 0 0 [ob a own_C0 (own_F0 (.ref b) (.int (R + (1 : Int32)))), ari b .int n ((L.set ((2 : Int32) * R).toNatClampNeg x1).set (((2 : Int32) * R) + (1 : Int32)).toNatClampNeg x2)] := Y20
  show Rn p e below F T19 (mkF m 72 #[.val (.ref a), .val (.int x1), .val (.int x2)] [])
  rw [← hF]; exact On.retv Y20 hx hret hlk (hb hby d5_72) (by decide) (by decide) ⟨rfl, rfl⟩
theorem ef_rmAG (m : MethodId) (a : Addr) (x1 : Int32) (x2 : Int32) : entryFrame m #[(.ref a), (.int x1), (.int x2)] 3 = (mkF m 0 #[.val (.ref a), .val (.int x1), .val (.int x2)] []) := by first | (simp [entryFrame, mkF, argsToLocals, Value.category]; done) | rfl
set_option maxRecDepth 65536 in
set_option maxHeartbeats 40000000 in
theorem rmAG (l : Launch) (Z : State) (a0 : Array Value) (hw : ∀ d ∈ tables_1, d.before a0 Z = true) (n0 : Nat) (a : Addr) (x1 : Int32) (x2 : Int32) (b : Addr) (R : Int32) (n : Int32) (L : List Int32) (heq : ((2 : Int32) * R) = n) (hz : n.toInt = L.length) (hlt : n.toInt < (own_max (2 : Int32) ((2 : Int32) * n)).toInt) (hnl : (own_max (2 : Int32) ((2 : Int32) * n)).toInt ≤ 8) (h0 : ¬ ((2 : Int32) * R) < 0) (k0 : ((2 : Int32) * R).toNatClampNeg < (L ++ (List.replicate (own_max (2 : Int32) ((2 : Int32) * n)).toNatClampNeg (0 : Int32)).drop L.length).length) (h1 : ¬ (((2 : Int32) * R) + (1 : Int32)) < 0) (k1 : (((2 : Int32) * R) + (1 : Int32)).toNatClampNeg < (L ++ (List.replicate (own_max (2 : Int32) ((2 : Int32) * n)).toNatClampNeg (0 : Int32)).drop L.length).length) :
    Con l Z n0 (⟨"com/example/vistrace/vistrace/checker/RunSet", "addRun", "(II)V"⟩ : MethodName) prog_8_method_11_code 3 none ({ frames := 2, cells := 1, slots := 8, locals := 55 } : Room) #[(.ref a), (.int x1), (.int x2)] [ob a own_C0 (own_F0 (.ref b) (.int R)), ari b .int n L] (fun v D' => ∃ bb : Addr, v = none ∧ D' = [ob a own_C0 (own_F0 (.ref bb) (.int (R + (1 : Int32)))), ari b .int n L, ari bb .int (own_max (2 : Int32) ((2 : Int32) * n)) (((L ++ (List.replicate (own_max (2 : Int32) ((2 : Int32) * n)).toNatClampNeg (0 : Int32)).drop L.length).set ((2 : Int32) * R).toNatClampNeg x1).set (((2 : Int32) * R) + (1 : Int32)).toNatClampNeg x2)]) := by
  refine Con.of (plainFor_of_name pn0) ?_
  intro p e s m below meth c T cx Y
  obtain ⟨hx, hby, hml, hown, hnm, hret, hlk, hZ⟩ := cx
  rw [ef_rmAG]
  generalize hF : Fi Z n0 below s _ _ _ = F
  refine Rn.go (T' := T) (g' := (mkF m 2 #[.val (.ref a), .val (.int x1), .val (.int x2)] [(.ref a), (.int (2 : Int32))])) (fun t k => ?_) ?_
  · show Steps p.tables e below (T.setTop (mkF m 0 #[.val (.ref a), .val (.int x1), .val (.int x2)] [])) t
    refine XS.iconst Y.here hx rfl (hb hby d5_0) ?_
    show Steps p.tables e below (T.setTop (mkF m 1 #[.val (.ref a), .val (.int x1), .val (.int x2)] [(.int (2 : Int32))])) t
    refine XS.aloadN Y.here hx rfl (hb hby d5_1) rfl rfl ?_
    show Steps p.tables e below (T.setTop (mkF m 2 #[.val (.ref a), .val (.int x1), .val (.int x2)] [(.ref a), (.int (2 : Int32))])) t
    exact k
  refine On.getf Y hx hZ hown (w23 hw) (i := 0) (j := 1) rfl rfl (g := (mkF m 2 #[.val (.ref a), .val (.int x1), .val (.int x2)] [(.ref a), (.int (2 : Int32))])) rfl rfl (hb hby d5_2) fun T1 Y2 => ?_
  show Rn p e below F T1 (mkF m 5 #[.val (.ref a), .val (.int x1), .val (.int x2)] [(.int R), (.int (2 : Int32))])
  refine Rn.go (T' := T1) (g' := (mkF m 7 #[.val (.ref a), .val (.int x1), .val (.int x2)] [(.ref a), (.int ((2 : Int32) * R))])) (fun t k => ?_) ?_
  · show Steps p.tables e below (T1.setTop (mkF m 5 #[.val (.ref a), .val (.int x1), .val (.int x2)] [(.int R), (.int (2 : Int32))])) t
    refine XS.imul Y2.here hx rfl (hb hby d5_5) rfl ?_
    show Steps p.tables e below (T1.setTop (mkF m 6 #[.val (.ref a), .val (.int x1), .val (.int x2)] [(.int ((2 : Int32) * R))])) t
    refine XS.aloadN Y2.here hx rfl (hb hby d5_6) rfl rfl ?_
    show Steps p.tables e below (T1.setTop (mkF m 7 #[.val (.ref a), .val (.int x1), .val (.int x2)] [(.ref a), (.int ((2 : Int32) * R))])) t
    exact k
  refine On.getf Y2 hx hZ hown (w16 hw) (i := 0) (j := 0) rfl rfl (g := (mkF m 7 #[.val (.ref a), .val (.int x1), .val (.int x2)] [(.ref a), (.int ((2 : Int32) * R))])) rfl rfl (hb hby d5_7) fun T3 Y4 => ?_
  show Rn p e below F T3 (mkF m 10 #[.val (.ref a), .val (.int x1), .val (.int x2)] [(.ref b), (.int ((2 : Int32) * R))])
  refine On.alen Y4 hx hZ (i := 1) rfl (g := (mkF m 10 #[.val (.ref a), .val (.int x1), .val (.int x2)] [(.ref b), (.int ((2 : Int32) * R))])) rfl rfl (hb hby d5_10) ?_
  show Rn p e below F T3 (mkF m 11 #[.val (.ref a), .val (.int x1), .val (.int x2)] [(.int n), (.int ((2 : Int32) * R))])
  refine Rn.go (T' := T3) (g' := (mkF m 14 #[.val (.ref a), .val (.int x1), .val (.int x2)] [])) (fun t k => XS.icmpNo Y4.here hx rfl (hb hby d5_11) rfl (teq heq).2 k) ?_
  refine Rn.go (T' := T3) (g' := (mkF m 16 #[.val (.ref a), .val (.int x1), .val (.int x2)] [(.ref a), (.ref a)])) (fun t k => ?_) ?_
  · show Steps p.tables e below (T3.setTop (mkF m 14 #[.val (.ref a), .val (.int x1), .val (.int x2)] [])) t
    refine XS.aloadN Y4.here hx rfl (hb hby d5_14) rfl rfl ?_
    show Steps p.tables e below (T3.setTop (mkF m 15 #[.val (.ref a), .val (.int x1), .val (.int x2)] [(.ref a)])) t
    refine XS.aloadN Y4.here hx rfl (hb hby d5_15) rfl rfl ?_
    show Steps p.tables e below (T3.setTop (mkF m 16 #[.val (.ref a), .val (.int x1), .val (.int x2)] [(.ref a), (.ref a)])) t
    exact k
  refine On.getf Y4 hx hZ hown (w16 hw) (i := 0) (j := 0) rfl rfl (g := (mkF m 16 #[.val (.ref a), .val (.int x1), .val (.int x2)] [(.ref a), (.ref a)])) rfl rfl (hb hby d5_16) fun T5 Y6 => ?_
  show Rn p e below F T5 (mkF m 19 #[.val (.ref a), .val (.int x1), .val (.int x2)] [(.ref b), (.ref a)])
  refine Rn.go (T' := T5) (g' := (mkF m 22 #[.val (.ref a), .val (.int x1), .val (.int x2)] [(.ref a), (.int (2 : Int32)), (.int (2 : Int32)), (.ref b), (.ref a)])) (fun t k => ?_) ?_
  · show Steps p.tables e below (T5.setTop (mkF m 19 #[.val (.ref a), .val (.int x1), .val (.int x2)] [(.ref b), (.ref a)])) t
    refine XS.iconst Y6.here hx rfl (hb hby d5_19) ?_
    show Steps p.tables e below (T5.setTop (mkF m 20 #[.val (.ref a), .val (.int x1), .val (.int x2)] [(.int (2 : Int32)), (.ref b), (.ref a)])) t
    refine XS.iconst Y6.here hx rfl (hb hby d5_20) ?_
    show Steps p.tables e below (T5.setTop (mkF m 21 #[.val (.ref a), .val (.int x1), .val (.int x2)] [(.int (2 : Int32)), (.int (2 : Int32)), (.ref b), (.ref a)])) t
    refine XS.aloadN Y6.here hx rfl (hb hby d5_21) rfl rfl ?_
    show Steps p.tables e below (T5.setTop (mkF m 22 #[.val (.ref a), .val (.int x1), .val (.int x2)] [(.ref a), (.int (2 : Int32)), (.int (2 : Int32)), (.ref b), (.ref a)])) t
    exact k
  refine On.getf Y6 hx hZ hown (w16 hw) (i := 0) (j := 0) rfl rfl (g := (mkF m 22 #[.val (.ref a), .val (.int x1), .val (.int x2)] [(.ref a), (.int (2 : Int32)), (.int (2 : Int32)), (.ref b), (.ref a)])) rfl rfl (hb hby d5_22) fun T7 Y8 => ?_
  show Rn p e below F T7 (mkF m 25 #[.val (.ref a), .val (.int x1), .val (.int x2)] [(.ref b), (.int (2 : Int32)), (.int (2 : Int32)), (.ref b), (.ref a)])
  refine On.alen Y8 hx hZ (i := 1) rfl (g := (mkF m 25 #[.val (.ref a), .val (.int x1), .val (.int x2)] [(.ref b), (.int (2 : Int32)), (.int (2 : Int32)), (.ref b), (.ref a)])) rfl rfl (hb hby d5_25) ?_
  show Rn p e below F T7 (mkF m 26 #[.val (.ref a), .val (.int x1), .val (.int x2)] [(.int n), (.int (2 : Int32)), (.int (2 : Int32)), (.ref b), (.ref a)])
  refine Rn.go (T' := T7) (g' := (mkF m 27 #[.val (.ref a), .val (.int x1), .val (.int x2)] [(.int ((2 : Int32) * n)), (.int (2 : Int32)), (.ref b), (.ref a)])) (fun t k => ?_) ?_
  · show Steps p.tables e below (T7.setTop (mkF m 26 #[.val (.ref a), .val (.int x1), .val (.int x2)] [(.int n), (.int (2 : Int32)), (.int (2 : Int32)), (.ref b), (.ref a)])) t
    refine XS.imul Y8.here hx rfl (hb hby d5_26) rfl ?_
    show Steps p.tables e below (T7.setTop (mkF m 27 #[.val (.ref a), .val (.int x1), .val (.int x2)] [(.int ((2 : Int32) * n)), (.int (2 : Int32)), (.ref b), (.ref a)])) t
    exact k
  refine On.static Y8 hx hZ (y := (⟨"java/lang/Math", "max", "(II)I"⟩ : MethodName)) hown (w29 hw) (w30 hw) (w31 hw) (w2 hw) (by decide) (argsL := [(.int (2 : Int32)), (.int ((2 : Int32) * n))]) (rest := [(.ref b), (.ref a)]) (rm6 l Z a0 hw n0 (2 : Int32) ((2 : Int32) * n) [ob a own_C0 (own_F0 (.ref b) (.int R)), ari b .int n L]) (W := 2) (by decide) (by decide) (by decide) (by decide) (g := (mkF m 27 #[.val (.ref a), .val (.int x1), .val (.int x2)] [(.int ((2 : Int32) * n)), (.int (2 : Int32)), (.ref b), (.ref a)])) rfl (by rw [hml]; rfl) (lenOf pd0 rfl) rfl (by show 2 * 0 + _ ≤ _; exact Nat.le_of_eq rfl) (hb hby d5_27) ?_
  intro T9 u11 D12 hp13 Y10
  obtain ⟨r27, hr27, rfl, rfl⟩ : ∃ z : Int32, z = (own_max (2 : Int32) ((2 : Int32) * n)) ∧ u11 = some (.int z) ∧ D12 = _ := ⟨_, rfl, hp13.1, hp13.2⟩
  replace Y10 : On p l e _ s m _ below meth c Z n0 T9 0 0 [ob a own_C0 (own_F0 (.ref b) (.int R)), ari b .int n L] := Y10
  show Rn p e below F T9 (mkF m 30 #[.val (.ref a), .val (.int x1), .val (.int x2)] [(.int r27), (.ref b), (.ref a)])
  refine On.static Y10 hx hZ (y := (⟨"java/util/Arrays", "copyOf", "([II)[I"⟩ : MethodName)) hown (w32 hw) (w33 hw) (w35 hw) (w34 hw) (by decide) (argsL := [(.ref b), (.int r27)]) (rest := [(.ref a)]) (rm7 l Z a0 hw n0 b r27 (ob a own_C0 (own_F0 (.ref b) (.int R))) n L hz (by rw [hr27]; exact hlt) (by rw [hr27]; exact hnl)) (W := 1) (by decide) (by decide) (by decide) (by decide) (g := (mkF m 30 #[.val (.ref a), .val (.int x1), .val (.int x2)] [(.int r27), (.ref b), (.ref a)])) rfl (by rw [hml]; rfl) (lenOf pd1 rfl) rfl (by show 2 * 0 + _ ≤ _; exact Nat.le_of_eq rfl) (hb hby d5_30) ?_
  intro T14 u16 D17 hp18 Y15
  obtain ⟨a19, rfl, rfl⟩ := hp18
  replace Y15 : On p l e _ s m _ below meth c Z n0 T14 1 8 [ob a own_C0 (own_F0 (.ref b) (.int R)), ari b .int n L, ari a19 .int r27 (L ++ (List.replicate r27.toNatClampNeg (0 : Int32)).drop L.length)] := Y15
  show Rn p e below F T14 (mkF m 33 #[.val (.ref a), .val (.int x1), .val (.int x2)] [(.ref a19), (.ref a)])
  refine On.putf Y15 hx hZ hown (w16 hw) (i := 0) (j := 0) rfl rfl (Or.inl (w17 hw)) (w6 hw) (ty := (.array .int)) (by decide) (v' := (.ref a19)) rfl rfl (g := (mkF m 33 #[.val (.ref a), .val (.int x1), .val (.int x2)] [(.ref a19), (.ref a)])) rfl rfl (hb hby d5_33) fun T20 Y21 => ?_
  replace Y21 : On p l e _ s m _ below meth c Z n0 T20 1 8 [ob a own_C0 (own_F0 (.ref a19) (.int R)), ari b .int n L, ari a19 .int r27 (L ++ (List.replicate r27.toNatClampNeg (0 : Int32)).drop L.length)] := Y21
  show Rn p e below F T20 (mkF m 36 #[.val (.ref a), .val (.int x1), .val (.int x2)] [])
  refine Rn.go (T' := T20) (g' := (mkF m 37 #[.val (.ref a), .val (.int x1), .val (.int x2)] [(.ref a)])) (fun t k => ?_) ?_
  · show Steps p.tables e below (T20.setTop (mkF m 36 #[.val (.ref a), .val (.int x1), .val (.int x2)] [])) t
    refine XS.aloadN Y21.here hx rfl (hb hby d5_36) rfl rfl ?_
    show Steps p.tables e below (T20.setTop (mkF m 37 #[.val (.ref a), .val (.int x1), .val (.int x2)] [(.ref a)])) t
    exact k
  refine On.getf Y21 hx hZ hown (w16 hw) (i := 0) (j := 0) rfl rfl (g := (mkF m 37 #[.val (.ref a), .val (.int x1), .val (.int x2)] [(.ref a)])) rfl rfl (hb hby d5_37) fun T22 Y23 => ?_
  show Rn p e below F T22 (mkF m 40 #[.val (.ref a), .val (.int x1), .val (.int x2)] [(.ref a19)])
  refine Rn.go (T' := T22) (g' := (mkF m 42 #[.val (.ref a), .val (.int x1), .val (.int x2)] [(.ref a), (.int (2 : Int32)), (.ref a19)])) (fun t k => ?_) ?_
  · show Steps p.tables e below (T22.setTop (mkF m 40 #[.val (.ref a), .val (.int x1), .val (.int x2)] [(.ref a19)])) t
    refine XS.iconst Y23.here hx rfl (hb hby d5_40) ?_
    show Steps p.tables e below (T22.setTop (mkF m 41 #[.val (.ref a), .val (.int x1), .val (.int x2)] [(.int (2 : Int32)), (.ref a19)])) t
    refine XS.aloadN Y23.here hx rfl (hb hby d5_41) rfl rfl ?_
    show Steps p.tables e below (T22.setTop (mkF m 42 #[.val (.ref a), .val (.int x1), .val (.int x2)] [(.ref a), (.int (2 : Int32)), (.ref a19)])) t
    exact k
  refine On.getf Y23 hx hZ hown (w23 hw) (i := 0) (j := 1) rfl rfl (g := (mkF m 42 #[.val (.ref a), .val (.int x1), .val (.int x2)] [(.ref a), (.int (2 : Int32)), (.ref a19)])) rfl rfl (hb hby d5_42) fun T24 Y25 => ?_
  show Rn p e below F T24 (mkF m 45 #[.val (.ref a), .val (.int x1), .val (.int x2)] [(.int R), (.int (2 : Int32)), (.ref a19)])
  refine Rn.go (T' := T24) (g' := (mkF m 47 #[.val (.ref a), .val (.int x1), .val (.int x2)] [(.int x1), (.int ((2 : Int32) * R)), (.ref a19)])) (fun t k => ?_) ?_
  · show Steps p.tables e below (T24.setTop (mkF m 45 #[.val (.ref a), .val (.int x1), .val (.int x2)] [(.int R), (.int (2 : Int32)), (.ref a19)])) t
    refine XS.imul Y25.here hx rfl (hb hby d5_45) rfl ?_
    show Steps p.tables e below (T24.setTop (mkF m 46 #[.val (.ref a), .val (.int x1), .val (.int x2)] [(.int ((2 : Int32) * R)), (.ref a19)])) t
    refine XS.iloadN Y25.here hx rfl (hb hby d5_46) rfl ?_
    show Steps p.tables e below (T24.setTop (mkF m 47 #[.val (.ref a), .val (.int x1), .val (.int x2)] [(.int x1), (.int ((2 : Int32) * R)), (.ref a19)])) t
    exact k
  refine On.isto Y25 hx hZ (i := 2) rfl h0 (by rw [hr27]; exact k0) (g := (mkF m 47 #[.val (.ref a), .val (.int x1), .val (.int x2)] [(.int x1), (.int ((2 : Int32) * R)), (.ref a19)])) rfl rfl (hb hby d5_47) fun T26 Y27 => ?_
  replace Y27 : On p l e _ s m _ below meth c Z n0 T26 1 8 [ob a own_C0 (own_F0 (.ref a19) (.int R)), ari b .int n L, ari a19 .int r27 ((L ++ (List.replicate r27.toNatClampNeg (0 : Int32)).drop L.length).set ((2 : Int32) * R).toNatClampNeg x1)] := Y27
  show Rn p e below F T26 (mkF m 48 #[.val (.ref a), .val (.int x1), .val (.int x2)] [])
  refine Rn.go (T' := T26) (g' := (mkF m 49 #[.val (.ref a), .val (.int x1), .val (.int x2)] [(.ref a)])) (fun t k => ?_) ?_
  · show Steps p.tables e below (T26.setTop (mkF m 48 #[.val (.ref a), .val (.int x1), .val (.int x2)] [])) t
    refine XS.aloadN Y27.here hx rfl (hb hby d5_48) rfl rfl ?_
    show Steps p.tables e below (T26.setTop (mkF m 49 #[.val (.ref a), .val (.int x1), .val (.int x2)] [(.ref a)])) t
    exact k
  refine On.getf Y27 hx hZ hown (w16 hw) (i := 0) (j := 0) rfl rfl (g := (mkF m 49 #[.val (.ref a), .val (.int x1), .val (.int x2)] [(.ref a)])) rfl rfl (hb hby d5_49) fun T28 Y29 => ?_
  show Rn p e below F T28 (mkF m 52 #[.val (.ref a), .val (.int x1), .val (.int x2)] [(.ref a19)])
  refine Rn.go (T' := T28) (g' := (mkF m 54 #[.val (.ref a), .val (.int x1), .val (.int x2)] [(.ref a), (.int (2 : Int32)), (.ref a19)])) (fun t k => ?_) ?_
  · show Steps p.tables e below (T28.setTop (mkF m 52 #[.val (.ref a), .val (.int x1), .val (.int x2)] [(.ref a19)])) t
    refine XS.iconst Y29.here hx rfl (hb hby d5_52) ?_
    show Steps p.tables e below (T28.setTop (mkF m 53 #[.val (.ref a), .val (.int x1), .val (.int x2)] [(.int (2 : Int32)), (.ref a19)])) t
    refine XS.aloadN Y29.here hx rfl (hb hby d5_53) rfl rfl ?_
    show Steps p.tables e below (T28.setTop (mkF m 54 #[.val (.ref a), .val (.int x1), .val (.int x2)] [(.ref a), (.int (2 : Int32)), (.ref a19)])) t
    exact k
  refine On.getf Y29 hx hZ hown (w23 hw) (i := 0) (j := 1) rfl rfl (g := (mkF m 54 #[.val (.ref a), .val (.int x1), .val (.int x2)] [(.ref a), (.int (2 : Int32)), (.ref a19)])) rfl rfl (hb hby d5_54) fun T30 Y31 => ?_
  show Rn p e below F T30 (mkF m 57 #[.val (.ref a), .val (.int x1), .val (.int x2)] [(.int R), (.int (2 : Int32)), (.ref a19)])
  refine Rn.go (T' := T30) (g' := (mkF m 61 #[.val (.ref a), .val (.int x1), .val (.int x2)] [(.int x2), (.int (((2 : Int32) * R) + (1 : Int32))), (.ref a19)])) (fun t k => ?_) ?_
  · show Steps p.tables e below (T30.setTop (mkF m 57 #[.val (.ref a), .val (.int x1), .val (.int x2)] [(.int R), (.int (2 : Int32)), (.ref a19)])) t
    refine XS.imul Y31.here hx rfl (hb hby d5_57) rfl ?_
    show Steps p.tables e below (T30.setTop (mkF m 58 #[.val (.ref a), .val (.int x1), .val (.int x2)] [(.int ((2 : Int32) * R)), (.ref a19)])) t
    refine XS.iconst Y31.here hx rfl (hb hby d5_58) ?_
    show Steps p.tables e below (T30.setTop (mkF m 59 #[.val (.ref a), .val (.int x1), .val (.int x2)] [(.int (1 : Int32)), (.int ((2 : Int32) * R)), (.ref a19)])) t
    refine XS.iadd Y31.here hx rfl (hb hby d5_59) rfl ?_
    show Steps p.tables e below (T30.setTop (mkF m 60 #[.val (.ref a), .val (.int x1), .val (.int x2)] [(.int (((2 : Int32) * R) + (1 : Int32))), (.ref a19)])) t
    refine XS.iloadN Y31.here hx rfl (hb hby d5_60) rfl ?_
    show Steps p.tables e below (T30.setTop (mkF m 61 #[.val (.ref a), .val (.int x1), .val (.int x2)] [(.int x2), (.int (((2 : Int32) * R) + (1 : Int32))), (.ref a19)])) t
    exact k
  refine On.isto Y31 hx hZ (i := 2) rfl h1 (by rw [List.length_set, hr27]; exact k1) (g := (mkF m 61 #[.val (.ref a), .val (.int x1), .val (.int x2)] [(.int x2), (.int (((2 : Int32) * R) + (1 : Int32))), (.ref a19)])) rfl rfl (hb hby d5_61) fun T32 Y33 => ?_
  replace Y33 : On p l e _ s m _ below meth c Z n0 T32 1 8 [ob a own_C0 (own_F0 (.ref a19) (.int R)), ari b .int n L, ari a19 .int r27 (((L ++ (List.replicate r27.toNatClampNeg (0 : Int32)).drop L.length).set ((2 : Int32) * R).toNatClampNeg x1).set (((2 : Int32) * R) + (1 : Int32)).toNatClampNeg x2)] := Y33
  show Rn p e below F T32 (mkF m 62 #[.val (.ref a), .val (.int x1), .val (.int x2)] [])
  refine Rn.go (T' := T32) (g' := (mkF m 64 #[.val (.ref a), .val (.int x1), .val (.int x2)] [(.ref a), (.ref a)])) (fun t k => ?_) ?_
  · show Steps p.tables e below (T32.setTop (mkF m 62 #[.val (.ref a), .val (.int x1), .val (.int x2)] [])) t
    refine XS.aloadN Y33.here hx rfl (hb hby d5_62) rfl rfl ?_
    show Steps p.tables e below (T32.setTop (mkF m 63 #[.val (.ref a), .val (.int x1), .val (.int x2)] [(.ref a)])) t
    refine XS.dup Y33.here hx rfl (hb hby d5_63) rfl rfl ?_
    show Steps p.tables e below (T32.setTop (mkF m 64 #[.val (.ref a), .val (.int x1), .val (.int x2)] [(.ref a), (.ref a)])) t
    exact k
  refine On.getf Y33 hx hZ hown (w23 hw) (i := 0) (j := 1) rfl rfl (g := (mkF m 64 #[.val (.ref a), .val (.int x1), .val (.int x2)] [(.ref a), (.ref a)])) rfl rfl (hb hby d5_64) fun T34 Y35 => ?_
  show Rn p e below F T34 (mkF m 67 #[.val (.ref a), .val (.int x1), .val (.int x2)] [(.int R), (.ref a)])
  refine Rn.go (T' := T34) (g' := (mkF m 69 #[.val (.ref a), .val (.int x1), .val (.int x2)] [(.int (R + (1 : Int32))), (.ref a)])) (fun t k => ?_) ?_
  · show Steps p.tables e below (T34.setTop (mkF m 67 #[.val (.ref a), .val (.int x1), .val (.int x2)] [(.int R), (.ref a)])) t
    refine XS.iconst Y35.here hx rfl (hb hby d5_67) ?_
    show Steps p.tables e below (T34.setTop (mkF m 68 #[.val (.ref a), .val (.int x1), .val (.int x2)] [(.int (1 : Int32)), (.int R), (.ref a)])) t
    refine XS.iadd Y35.here hx rfl (hb hby d5_68) rfl ?_
    show Steps p.tables e below (T34.setTop (mkF m 69 #[.val (.ref a), .val (.int x1), .val (.int x2)] [(.int (R + (1 : Int32))), (.ref a)])) t
    exact k
  refine On.putf Y35 hx hZ hown (w23 hw) (i := 0) (j := 1) rfl rfl (Or.inl (w24 hw)) (w6 hw) (ty := .int) (by decide) (v' := (.int (R + (1 : Int32)))) rfl rfl (g := (mkF m 69 #[.val (.ref a), .val (.int x1), .val (.int x2)] [(.int (R + (1 : Int32))), (.ref a)])) rfl rfl (hb hby d5_69) fun T36 Y37 => ?_
  replace Y37 : On p l e _ s m _ below meth c Z n0 T36 1 8 [ob a own_C0 (own_F0 (.ref a19) (.int (R + (1 : Int32)))), ari b .int n L, ari a19 .int r27 (((L ++ (List.replicate r27.toNatClampNeg (0 : Int32)).drop L.length).set ((2 : Int32) * R).toNatClampNeg x1).set (((2 : Int32) * R) + (1 : Int32)).toNatClampNeg x2)] := Y37
  show Rn p e below F T36 (mkF m 72 #[.val (.ref a), .val (.int x1), .val (.int x2)] [])
  rw [← hF]; exact On.retv Y37 hx hret hlk (hb hby d5_72) (by decide) (by decide) (by subst hr27; exact ⟨_, rfl, rfl⟩)
theorem own_i1 {q : Int} {R n : Int32} {L : List Int32} {k : Int32} {B : Int} (hI : own_inv q R n L k B) : ((2 : Int32) * R).toInt = 2 * R.toInt ∧ R.toInt ≤ 4 ∧ L.length ≤ 8 ∧ R.toInt.toNat = R.toInt := by
  obtain ⟨h1, h2, h3, h4, h5, -⟩ := hI
  have : L.length ≤ 8 := by omega
  exact ⟨own_mul2 h2 (by omega), by omega, this, by omega⟩
theorem own_pos {R : Int32} (h : (0 : Int32) < R) : 1 ≤ R.toInt := by rw [Int32.lt_iff_toInt_lt] at h; have : (0 : Int32).toInt = 0 := rfl; omega
theorem own_ix1 {q : Int} {R n : Int32} {L : List Int32} {k : Int32} {B : Int} (hI : own_inv q R n L k B) (hR : 1 ≤ R.toInt) : ¬ (((2 : Int32) * R) - (1 : Int32)) < 0 ∧ (((2 : Int32) * R) - (1 : Int32)).toNatClampNeg = 2 * R.toInt.toNat - 1 ∧ L[(((2 : Int32) * R) - (1 : Int32)).toNatClampNeg]? = some (own_g L (2 * R.toInt.toNat - 1)) ∧ 2 * R.toInt.toNat - 1 < L.length := by
  obtain ⟨e1, e2, e3, e4⟩ := own_i1 hI
  have h4 := hI.2.2.2.1
  have e5 : (((2 : Int32) * R) - (1 : Int32)).toInt = 2 * R.toInt - 1 := by rw [own_subI (k := 1) rfl (by omega) (by omega), e1]
  have hl : 2 * R.toInt.toNat - 1 < L.length := by omega
  obtain ⟨g1, g2, g3⟩ := own_at (L := L) (k := 2 * R.toInt.toNat - 1) (by rw [e5]; omega) hl
  exact ⟨g1, g2, g3, hl⟩
theorem own_ix2 {q : Int} {R n : Int32} {L : List Int32} {k : Int32} {B : Int} (hI : own_inv q R n L k B) (hR : 1 ≤ R.toInt) : ¬ (((2 : Int32) * R) - (2 : Int32)) < 0 ∧ (((2 : Int32) * R) - (2 : Int32)).toNatClampNeg = 2 * R.toInt.toNat - 2 ∧ L[(((2 : Int32) * R) - (2 : Int32)).toNatClampNeg]? = some (own_g L (2 * R.toInt.toNat - 2)) ∧ 2 * R.toInt.toNat - 2 < L.length := by
  obtain ⟨e1, e2, e3, e4⟩ := own_i1 hI
  have h4 := hI.2.2.2.1
  have e5 : (((2 : Int32) * R) - (2 : Int32)).toInt = 2 * R.toInt - 2 := by rw [own_subI (k := 2) rfl (by omega) (by omega), e1]
  have hl : 2 * R.toInt.toNat - 2 < L.length := by omega
  obtain ⟨g1, g2, g3⟩ := own_at (L := L) (k := 2 * R.toInt.toNat - 2) (by rw [e5]; omega) hl
  exact ⟨g1, g2, g3, hl⟩
theorem own_last {L : List Int32} {r : Nat} {v : Int32} (hr : 1 ≤ r) (hl : 2 * r - 1 < L.length) : own_sz (L.set (2 * r - 1) v) r = own_sz L (r - 1) + (v - own_g L (2 * r - 2)) := by
  obtain ⟨t, rfl⟩ : ∃ t, r = t + 1 := ⟨r - 1, by omega⟩
  have e1 : 2 * (t + 1) - 1 = 2 * t + 1 := by omega
  have e2 : 2 * (t + 1) - 2 = 2 * t := by omega
  rw [e1] at hl ⊢
  rw [own_szS, own_szc (L := L) t (fun j hj => by rw [own_gset hl, if_neg (by omega)]), own_gset hl, if_pos rfl, own_gset hl, if_neg (by omega), e2]; rfl
theorem own_lastS {L : List Int32} {r : Nat} (hr : 1 ≤ r) : own_sz L r = own_sz L (r - 1) + (own_g L (2 * r - 1) - own_g L (2 * r - 2)) := by
  obtain ⟨t, rfl⟩ : ∃ t, r = t + 1 := ⟨r - 1, by omega⟩
  have e1 : 2 * (t + 1) - 1 = 2 * t + 1 := by omega
  have e2 : 2 * (t + 1) - 2 = 2 * t := by omega
  rw [own_szS, e1, e2]; rfl
theorem own_r1 (s x g : Int32) : s + (x + 1 - g) = s + (x - g) + 1 := by
  apply Int32.toBitVec_inj.mp; simp only [Int32.toBitVec_add, Int32.toBitVec_sub]; generalize (1 : Int32).toBitVec = o; bv_omega
theorem own_r2 (s x g : Int32) : s + (x - 1 - g) = s + (x - g) - 1 := by
  apply Int32.toBitVec_inj.mp; simp only [Int32.toBitVec_add, Int32.toBitVec_sub]; generalize (1 : Int32).toBitVec = o; bv_omega
theorem own_r3 (s x : Int32) : s + (x + 1 - x) = s + 1 := by
  apply Int32.toBitVec_inj.mp; simp only [Int32.toBitVec_add, Int32.toBitVec_sub]; generalize (1 : Int32).toBitVec = o; bv_omega
theorem own_addM {q : Int} {R n : Int32} {L : List Int32} {k : Int32} {B : Int} {xv : Int32} (hI : own_inv q R n L k B) (hR : 1 ≤ R.toInt) (he : xv = own_g L (2 * R.toInt.toNat - 1)) (hb : B ≤ xv.toInt) (h0 : 0 ≤ xv.toInt) (hx : xv.toInt < 2000000000) :
    own_inv (q + 1) R n (L.set (((2 : Int32) * R) - (1 : Int32)).toNatClampNeg (own_g L (2 * R.toInt.toNat - 1) + (1 : Int32))) (k + 1) (xv.toInt + 1) := by
  obtain ⟨g1, g2, g3, g4⟩ := own_ix1 hI hR
  obtain ⟨e1, e2, e3, e4⟩ := own_i1 hI
  obtain ⟨h1, h2, h3, h4, h5, h6, h7, h8⟩ := hI
  have ex : (own_g L (2 * R.toInt.toNat - 1) + (1 : Int32)).toInt = xv.toInt + 1 := by rw [own_addI (k := 1) rfl (by rw [← he]; omega) (by rw [← he]; omega), ← he]
  rw [g2]
  refine ⟨by rw [List.length_set]; exact h1, h2, by omega, by rw [List.length_set]; exact h4, by rw [List.length_set]; exact h5, fun i hi => ?_, fun j hj => ?_, ?_⟩
  · rw [own_gset g4, own_gset g4, if_neg (by omega)]
    by_cases z : 2 * i + 1 = 2 * R.toInt.toNat - 1
    · rw [if_pos z, ex]; have := (h7 (2 * i) (by omega)).2; omega
    · rw [if_neg z]; exact h6 i hi
  · rw [own_gset g4]
    by_cases z : j = 2 * R.toInt.toNat - 1
    · rw [if_pos z, ex]; omega
    · rw [if_neg z]; have := h7 j hj; omega
  · rw [own_last (by omega) g4, own_r1, ← own_lastS (by omega), h8]
theorem own_addN {q : Int} {R n n' : Int32} {L L' : List Int32} {k : Int32} {B : Int} {xv : Int32} (hI : own_inv q R n L k B) (hq : q ≤ 3) (hl : n'.toInt = L'.length) (h8' : L'.length = 0 ∨ L'.length = 2 ∨ L'.length = 4 ∨ L'.length = 8) (hfit : 2 * R.toInt + 2 ≤ L'.length)
    (hs : ∀ j : Nat, (j : Int) < 2 * R.toInt → own_g L' j = own_g L j) (ha : own_g L' (2 * R.toInt.toNat) = xv) (hc : own_g L' (2 * R.toInt.toNat + 1) = xv + 1) (hb : B ≤ xv.toInt) (h0 : 0 ≤ xv.toInt) (hx : xv.toInt < 2000000000) :
    own_inv (q + 1) (R + (1 : Int32)) n' L' (k + 1) (xv.toInt + 1) := by
  obtain ⟨e1, e2, e3, e4⟩ := own_i1 hI
  obtain ⟨h1, h2, h3, h4, h5, h6, h7, h8⟩ := hI
  have eR : (R + (1 : Int32)).toInt = R.toInt + 1 := own_addI (k := 1) rfl (by omega) (by omega)
  have ex : (xv + (1 : Int32)).toInt = xv.toInt + 1 := own_addI (k := 1) rfl (by omega) (by omega)
  refine ⟨hl, by omega, by omega, by omega, h8', fun i hi => ?_, fun j hj => ?_, ?_⟩
  · by_cases z : i = R.toInt.toNat
    · subst z; rw [ha, hc, ex]; omega
    · rw [hs _ (by omega), hs _ (by omega)]; exact h6 i (by omega)
  · by_cases z : j = 2 * R.toInt.toNat
    · subst z; rw [ha]; omega
    · by_cases z2 : j = 2 * R.toInt.toNat + 1
      · subst z2; rw [hc, ex]; omega
      · rw [hs _ (by omega)]; have := h7 j (by omega); omega
  · have eT : (R + (1 : Int32)).toInt.toNat = R.toInt.toNat + 1 := by omega
    rw [eT, own_szS, own_szc (L := L) _ (fun j hj => hs j (by omega)), ha, hc, own_r3, h8]
theorem own_app {L M : List Int32} {j : Nat} (h : j < L.length) : own_g (L ++ M) j = own_g L j := by
  unfold own_g; rw [List.getD_eq_getElem?_getD, List.getD_eq_getElem?_getD, List.getElem?_append_left h]
theorem own_ix0 {q : Int} {R n : Int32} {L : List Int32} {k : Int32} {B : Int} (hI : own_inv q R n L k B) : ¬ ((2 : Int32) * R) < 0 ∧ ((2 : Int32) * R).toNatClampNeg = 2 * R.toInt.toNat ∧ ¬ (((2 : Int32) * R) + (1 : Int32)) < 0 ∧ (((2 : Int32) * R) + (1 : Int32)).toNatClampNeg = 2 * R.toInt.toNat + 1 := by
  obtain ⟨e1, e2, e3, e4⟩ := own_i1 hI
  have h2 := hI.2.1
  have e5 : (((2 : Int32) * R) + (1 : Int32)).toInt = 2 * R.toInt + 1 := by rw [own_addI (k := 1) rfl (by omega) (by omega), e1]
  exact ⟨own_nn (by omega), by rw [own_nat]; omega, own_nn (by omega), by rw [own_nat]; omega⟩
theorem own_AN {q : Int} {R n : Int32} {L : List Int32} {k : Int32} {B : Int} {xv : Int32} (hI : own_inv q R n L k B) (hq : q ≤ 3) (hg : ¬ ((2 : Int32) * R) = n) (hb : B ≤ xv.toInt) (h0 : 0 ≤ xv.toInt) (hx : xv.toInt < 2000000000) :
    2 * R.toInt.toNat + 1 < L.length ∧ own_inv (q + 1) (R + (1 : Int32)) n ((L.set ((2 : Int32) * R).toNatClampNeg xv).set (((2 : Int32) * R) + (1 : Int32)).toNatClampNeg (xv + (1 : Int32))) (k + 1) (xv.toInt + 1) := by
  obtain ⟨e1, e2, e3, e4⟩ := own_i1 hI
  obtain ⟨i1, i2, i3, i4⟩ := own_ix0 hI
  have h1 := hI.1; have h4 := hI.2.2.2.1; have h5 := hI.2.2.2.2.1; have h2 := hI.2.1
  have hne : 2 * R.toInt ≠ n.toInt := fun z => hg (Int32.toInt_inj.mp (by omega))
  have hl : 2 * R.toInt.toNat + 1 < L.length := by omega
  rw [i2, i4]
  have hl2 : 2 * R.toInt.toNat + 1 < (L.set (2 * R.toInt.toNat) xv).length := by rw [List.length_set]; exact hl
  refine ⟨hl, own_addN hI hq (by rw [List.length_set, List.length_set]; exact h1) (by rw [List.length_set, List.length_set]; exact h5) (by rw [List.length_set, List.length_set]; omega) (fun j hj => ?_) ?_ ?_ hb h0 hx⟩
  · rw [own_gset hl2, if_neg (by omega), own_gset (by omega), if_neg (by omega)]
  · rw [own_gset hl2, if_neg (by omega), own_gset (by omega), if_pos rfl]
  · rw [own_gset hl2, if_pos rfl]
theorem own_AG {q : Int} {R n : Int32} {L : List Int32} {k : Int32} {B : Int} {xv : Int32} (hI : own_inv q R n L k B) (hq : q ≤ 3) (hg : ((2 : Int32) * R) = n) (hb : B ≤ xv.toInt) (h0 : 0 ≤ xv.toInt) (hx : xv.toInt < 2000000000) :
    n.toInt < (own_max (2 : Int32) ((2 : Int32) * n)).toInt ∧ (own_max (2 : Int32) ((2 : Int32) * n)).toInt ≤ 8 ∧ 2 * R.toInt.toNat + 1 < (L ++ (List.replicate (own_max (2 : Int32) ((2 : Int32) * n)).toNatClampNeg (0 : Int32)).drop L.length).length ∧
    own_inv (q + 1) (R + (1 : Int32)) (own_max (2 : Int32) ((2 : Int32) * n)) (((L ++ (List.replicate (own_max (2 : Int32) ((2 : Int32) * n)).toNatClampNeg (0 : Int32)).drop L.length).set ((2 : Int32) * R).toNatClampNeg xv).set (((2 : Int32) * R) + (1 : Int32)).toNatClampNeg (xv + (1 : Int32))) (k + 1) (xv.toInt + 1) := by
  obtain ⟨e1, e2, e3, e4⟩ := own_i1 hI
  obtain ⟨i1, i2, i3, i4⟩ := own_ix0 hI
  have h1 := hI.1; have h4 := hI.2.2.2.1; have h5 := hI.2.2.2.2.1; have h2 := hI.2.1; have h3 := hI.2.2.1
  have en : n.toInt = 2 * R.toInt := by rw [← hg]; exact e1
  have e2n : ((2 : Int32) * n).toInt = 2 * n.toInt := own_mul2 (by omega) (by omega)
  have t2 : (2 : Int32).toInt = 2 := rfl
  have em : (own_max (2 : Int32) ((2 : Int32) * n)).toInt = if n.toInt = 0 then 2 else 2 * n.toInt := by
    rw [own_maxI, e2n, t2]; split <;> split <;> omega
  generalize own_max (2 : Int32) ((2 : Int32) * n) = nl at *
  have hm : n.toInt < nl.toInt ∧ nl.toInt ≤ 8 ∧ (nl.toInt = 2 ∨ nl.toInt = 4 ∨ nl.toInt = 8) := by rw [em]; split <;> omega
  have hL : (L ++ (List.replicate nl.toNatClampNeg (0 : Int32)).drop L.length).length = nl.toInt := by
    rw [List.length_append, List.length_drop, List.length_replicate, own_nat]; omega
  have hl : 2 * R.toInt.toNat + 1 < (L ++ (List.replicate nl.toNatClampNeg (0 : Int32)).drop L.length).length := by omega
  refine ⟨hm.1, hm.2.1, hl, ?_⟩
  rw [i2, i4]
  generalize hM : L ++ (List.replicate nl.toNatClampNeg (0 : Int32)).drop L.length = M at *
  have hl2 : 2 * R.toInt.toNat + 1 < (M.set (2 * R.toInt.toNat) xv).length := by rw [List.length_set]; exact hl
  refine own_addN hI hq (by rw [List.length_set, List.length_set]; omega) (by rw [List.length_set, List.length_set]; omega) (by rw [List.length_set, List.length_set]; omega) (fun j hj => ?_) ?_ ?_ hb h0 hx
  · rw [own_gset hl2, if_neg (by omega), own_gset (by omega), if_neg (by omega), ← hM, own_app (by omega)]
  · rw [own_gset hl2, if_neg (by omega), own_gset (by omega), if_pos rfl]
  · rw [own_gset hl2, if_pos rfl]
theorem own_R0 {q : Int} {R n : Int32} {L : List Int32} {k : Int32} {B : Int} (hI : own_inv q R n L k B) (hk : k ≠ 0) : 1 ≤ R.toInt := by
  obtain ⟨h1, h2, h3, h4, h5, h6, h7, h8⟩ := hI
  by_cases z : R.toInt = 0
  · rw [z] at h8; exact absurd h8.symm hk
  · omega
theorem own_rem1 {q : Int} {R n : Int32} {L : List Int32} {k : Int32} {B : Int} (hI : own_inv q R n L k B) (hR : 1 ≤ R.toInt) (hne : ¬ own_g L (2 * R.toInt.toNat - 1) - (1 : Int32) = own_g L (2 * R.toInt.toNat - 2)) :
    own_inv q R n (L.set (((2 : Int32) * R) - (1 : Int32)).toNatClampNeg (own_g L (2 * R.toInt.toNat - 1) - (1 : Int32))) (k - 1) B := by
  obtain ⟨g1, g2, g3, g4⟩ := own_ix1 hI hR
  obtain ⟨e1, e2, e3, e4⟩ := own_i1 hI
  obtain ⟨h1, h2, h3, h4, h5, h6, h7, h8⟩ := hI
  have hp := h7 (2 * R.toInt.toNat - 1) (by omega)
  have hp2 := h7 (2 * R.toInt.toNat - 2) (by omega)
  have hlt := h6 (R.toInt.toNat - 1) (by omega)
  have z1 : 2 * (R.toInt.toNat - 1) = 2 * R.toInt.toNat - 2 := by omega
  have z2 : 2 * (R.toInt.toNat - 1) + 1 = 2 * R.toInt.toNat - 1 := by omega
  rw [z2, z1] at hlt
  have ex : (own_g L (2 * R.toInt.toNat - 1) - (1 : Int32)).toInt = (own_g L (2 * R.toInt.toNat - 1)).toInt - 1 := own_subI (k := 1) rfl (by omega) (by have := (own_g L (2 * R.toInt.toNat - 1)).toInt_lt; omega)
  have hne' : (own_g L (2 * R.toInt.toNat - 1) - (1 : Int32)).toInt ≠ (own_g L (2 * R.toInt.toNat - 2)).toInt := fun z => hne (Int32.toInt_inj.mp z)
  rw [g2]
  refine ⟨by rw [List.length_set]; exact h1, h2, h3, by rw [List.length_set]; exact h4, by rw [List.length_set]; exact h5, fun i hi => ?_, fun j hj => ?_, ?_⟩
  · rw [own_gset g4, own_gset g4, if_neg (by omega)]
    by_cases z : 2 * i + 1 = 2 * R.toInt.toNat - 1
    · have zz : 2 * i = 2 * R.toInt.toNat - 2 := by omega
      rw [if_pos z, ex, zz]; omega
    · rw [if_neg z]; exact h6 i hi
  · rw [own_gset g4]
    by_cases z : j = 2 * R.toInt.toNat - 1
    · rw [if_pos z, ex]; omega
    · rw [if_neg z]; exact h7 j hj
  · rw [own_last (by omega) g4, own_r2, ← own_lastS (by omega), h8]
theorem own_rem2 {q : Int} {R n : Int32} {L : List Int32} {k : Int32} {B : Int} (hI : own_inv q R n L k B) (hR : 1 ≤ R.toInt) (heq : own_g L (2 * R.toInt.toNat - 1) - (1 : Int32) = own_g L (2 * R.toInt.toNat - 2)) :
    own_inv q (R - (1 : Int32)) n (L.set (((2 : Int32) * R) - (1 : Int32)).toNatClampNeg (own_g L (2 * R.toInt.toNat - 1) - (1 : Int32))) (k - 1) B := by
  obtain ⟨g1, g2, g3, g4⟩ := own_ix1 hI hR
  obtain ⟨e1, e2, e3, e4⟩ := own_i1 hI
  obtain ⟨h1, h2, h3, h4, h5, h6, h7, h8⟩ := hI
  have eR : (R - (1 : Int32)).toInt = R.toInt - 1 := own_subI (k := 1) rfl (by omega) (by omega)
  rw [g2]
  refine ⟨by rw [List.length_set]; exact h1, by omega, by omega, by rw [List.length_set]; omega, by rw [List.length_set]; exact h5, fun i hi => ?_, fun j hj => ?_, ?_⟩
  · rw [own_gset g4, own_gset g4, if_neg (by omega), if_neg (by omega)]; exact h6 i (by omega)
  · rw [own_gset g4, if_neg (by omega)]; exact h7 j (by omega)
  · have eT : (R - (1 : Int32)).toInt.toNat = R.toInt.toNat - 1 := by omega
    rw [eT, own_szc (L := L) _ (fun j hj => by rw [own_gset g4, if_neg (by omega)]), ← h8, own_lastS (r := R.toInt.toNat) (by omega), ← own_r2, heq, Int32.sub_self, Int32.add_zero]
theorem ef_rm4 (m : MethodId) (a : Addr) (xv : Int32) : entryFrame m #[(.ref a), (.int xv)] 2 = (mkF m 0 #[.val (.ref a), .val (.int xv)] []) := by first | (simp [entryFrame, mkF, argsToLocals, Value.category]; done) | rfl
set_option maxRecDepth 65536 in
set_option maxHeartbeats 40000000 in
theorem rm4 (l : Launch) (Z : State) (a0 : Array Value) (hw : ∀ d ∈ tables_1, d.before a0 Z = true) (n0 : Nat) (a : Addr) (xv : Int32) (b : Addr) (R : Int32) (n : Int32) (L : List Int32) (q : Int) (k : Int32) (B : Int) (hI : own_inv q R n L k B) (hq : q ≤ 3) (hB : B ≤ xv.toInt) (hx0 : 0 ≤ xv.toInt) (hx1 : xv.toInt < 2000000000) :
    Con l Z n0 (⟨"com/example/vistrace/vistrace/checker/RunSet", "add", "(I)V"⟩ : MethodName) prog_8_method_3_code 2 none ({ frames := 3, cells := 1, slots := 8, locals := 69 } : Room) #[(.ref a), (.int xv)] [ob a own_C0 (own_F0 (.ref b) (.int R)), ari b .int n L] (fun v D' => v = none ∧ own_RS a (q + 1) (k + 1) (xv.toInt + 1) D') := by
  refine Con.of (plainFor_of_name pn0) ?_
  intro p e s m below meth c T cx Y
  obtain ⟨hx, hby, hml, hown, hnm, hret, hlk, hZ⟩ := cx
  rw [ef_rm4]
  generalize hF : Fi Z n0 below s _ _ _ = F
  refine Rn.go (T' := T) (g' := (mkF m 1 #[.val (.ref a), .val (.int xv)] [(.int xv)])) (fun t k => ?_) ?_
  · show Steps p.tables e below (T.setTop (mkF m 0 #[.val (.ref a), .val (.int xv)] [])) t
    refine XS.iloadN Y.here hx rfl (hb hby d4_0) rfl ?_
    show Steps p.tables e below (T.setTop (mkF m 1 #[.val (.ref a), .val (.int xv)] [(.int xv)])) t
    exact k
  refine Rn.go (T' := T) (g' := (mkF m 4 #[.val (.ref a), .val (.int xv)] [])) (fun t k => XS.ifNo Y.here hx rfl (hb hby d4_1) rfl ((if0 _ _).trans (flt (own_nn hx0)).1) k) ?_
  refine Rn.go (T' := T) (g' := (mkF m 5 #[.val (.ref a), .val (.int xv)] [(.ref a)])) (fun t k => ?_) ?_
  · show Steps p.tables e below (T.setTop (mkF m 4 #[.val (.ref a), .val (.int xv)] [])) t
    refine XS.aloadN Y.here hx rfl (hb hby d4_4) rfl rfl ?_
    show Steps p.tables e below (T.setTop (mkF m 5 #[.val (.ref a), .val (.int xv)] [(.ref a)])) t
    exact k
  refine On.getf Y hx hZ hown (w23 hw) (i := 0) (j := 1) rfl rfl (g := (mkF m 5 #[.val (.ref a), .val (.int xv)] [(.ref a)])) rfl rfl (hb hby d4_5) fun T1 Y2 => ?_
  show Rn p e below F T1 (mkF m 8 #[.val (.ref a), .val (.int xv)] [(.int R)])
  by_cases hc8 : (0 : Int32) < R
  · refine Rn.go (T' := T1) (g' := (mkF m 11 #[.val (.ref a), .val (.int xv)] [])) (fun t k => XS.ifNo Y2.here hx rfl (hb hby d4_8) rfl ((if0 _ _).trans (tlt hc8).2.2.2) k) ?_
    have hR := own_pos hc8
    have hl := own_ix1 hI hR
    refine Rn.go (T' := T1) (g' := (mkF m 13 #[.val (.ref a), .val (.int xv)] [(.ref a), (.int xv)])) (fun t k => ?_) ?_
    · show Steps p.tables e below (T1.setTop (mkF m 11 #[.val (.ref a), .val (.int xv)] [])) t
      refine XS.iloadN Y2.here hx rfl (hb hby d4_11) rfl ?_
      show Steps p.tables e below (T1.setTop (mkF m 12 #[.val (.ref a), .val (.int xv)] [(.int xv)])) t
      refine XS.aloadN Y2.here hx rfl (hb hby d4_12) rfl rfl ?_
      show Steps p.tables e below (T1.setTop (mkF m 13 #[.val (.ref a), .val (.int xv)] [(.ref a), (.int xv)])) t
      exact k
    refine On.getf Y2 hx hZ hown (w16 hw) (i := 0) (j := 0) rfl rfl (g := (mkF m 13 #[.val (.ref a), .val (.int xv)] [(.ref a), (.int xv)])) rfl rfl (hb hby d4_13) fun T3 Y4 => ?_
    show Rn p e below F T3 (mkF m 16 #[.val (.ref a), .val (.int xv)] [(.ref b), (.int xv)])
    refine Rn.go (T' := T3) (g' := (mkF m 18 #[.val (.ref a), .val (.int xv)] [(.ref a), (.int (2 : Int32)), (.ref b), (.int xv)])) (fun t k => ?_) ?_
    · show Steps p.tables e below (T3.setTop (mkF m 16 #[.val (.ref a), .val (.int xv)] [(.ref b), (.int xv)])) t
      refine XS.iconst Y4.here hx rfl (hb hby d4_16) ?_
      show Steps p.tables e below (T3.setTop (mkF m 17 #[.val (.ref a), .val (.int xv)] [(.int (2 : Int32)), (.ref b), (.int xv)])) t
      refine XS.aloadN Y4.here hx rfl (hb hby d4_17) rfl rfl ?_
      show Steps p.tables e below (T3.setTop (mkF m 18 #[.val (.ref a), .val (.int xv)] [(.ref a), (.int (2 : Int32)), (.ref b), (.int xv)])) t
      exact k
    refine On.getf Y4 hx hZ hown (w23 hw) (i := 0) (j := 1) rfl rfl (g := (mkF m 18 #[.val (.ref a), .val (.int xv)] [(.ref a), (.int (2 : Int32)), (.ref b), (.int xv)])) rfl rfl (hb hby d4_18) fun T5 Y6 => ?_
    show Rn p e below F T5 (mkF m 21 #[.val (.ref a), .val (.int xv)] [(.int R), (.int (2 : Int32)), (.ref b), (.int xv)])
    refine Rn.go (T' := T5) (g' := (mkF m 24 #[.val (.ref a), .val (.int xv)] [(.int (((2 : Int32) * R) - (1 : Int32))), (.ref b), (.int xv)])) (fun t k => ?_) ?_
    · show Steps p.tables e below (T5.setTop (mkF m 21 #[.val (.ref a), .val (.int xv)] [(.int R), (.int (2 : Int32)), (.ref b), (.int xv)])) t
      refine XS.imul Y6.here hx rfl (hb hby d4_21) rfl ?_
      show Steps p.tables e below (T5.setTop (mkF m 22 #[.val (.ref a), .val (.int xv)] [(.int ((2 : Int32) * R)), (.ref b), (.int xv)])) t
      refine XS.iconst Y6.here hx rfl (hb hby d4_22) ?_
      show Steps p.tables e below (T5.setTop (mkF m 23 #[.val (.ref a), .val (.int xv)] [(.int (1 : Int32)), (.int ((2 : Int32) * R)), (.ref b), (.int xv)])) t
      refine XS.isub Y6.here hx rfl (hb hby d4_23) rfl ?_
      show Steps p.tables e below (T5.setTop (mkF m 24 #[.val (.ref a), .val (.int xv)] [(.int (((2 : Int32) * R) - (1 : Int32))), (.ref b), (.int xv)])) t
      exact k
    refine On.ild Y6 hx hZ (i := 1) rfl (k := (((2 : Int32) * R) - (1 : Int32))) (x := (own_g L (2 * R.toInt.toNat - 1))) hl.1 hl.2.2.1 (g := (mkF m 24 #[.val (.ref a), .val (.int xv)] [(.int (((2 : Int32) * R) - (1 : Int32))), (.ref b), (.int xv)])) rfl rfl (hb hby d4_24) ?_
    show Rn p e below F T5 (mkF m 25 #[.val (.ref a), .val (.int xv)] [(.int (own_g L (2 * R.toInt.toNat - 1))), (.int xv)])
    refine Rn.go (T' := T5) (g' := (mkF m 42 #[.val (.ref a), .val (.int xv)] [])) (fun t k => XS.icmpYes Y6.here hx rfl (pc0 := 25) (pc' := 42) rfl (hb hby d4_25) rfl (flt (by rw [Int32.lt_iff_toInt_lt]; have := (hI.2.2.2.2.2.2.1 (2 * R.toInt.toNat - 1) (by omega)).2; omega)).2.1 (by decide) (by decide) k) ?_
    refine Rn.go (T' := T5) (g' := (mkF m 43 #[.val (.ref a), .val (.int xv)] [(.ref a)])) (fun t k => ?_) ?_
    · show Steps p.tables e below (T5.setTop (mkF m 42 #[.val (.ref a), .val (.int xv)] [])) t
      refine XS.aloadN Y6.here hx rfl (hb hby d4_42) rfl rfl ?_
      show Steps p.tables e below (T5.setTop (mkF m 43 #[.val (.ref a), .val (.int xv)] [(.ref a)])) t
      exact k
    refine On.getf Y6 hx hZ hown (w23 hw) (i := 0) (j := 1) rfl rfl (g := (mkF m 43 #[.val (.ref a), .val (.int xv)] [(.ref a)])) rfl rfl (hb hby d4_43) fun T7 Y8 => ?_
    show Rn p e below F T7 (mkF m 46 #[.val (.ref a), .val (.int xv)] [(.int R)])
    refine Rn.go (T' := T7) (g' := (mkF m 49 #[.val (.ref a), .val (.int xv)] [])) (fun t k => XS.ifNo Y8.here hx rfl (hb hby d4_46) rfl ((if0 _ _).trans (tlt hc8).2.2.2) k) ?_
    refine Rn.go (T' := T7) (g' := (mkF m 51 #[.val (.ref a), .val (.int xv)] [(.ref a), (.int xv)])) (fun t k => ?_) ?_
    · show Steps p.tables e below (T7.setTop (mkF m 49 #[.val (.ref a), .val (.int xv)] [])) t
      refine XS.iloadN Y8.here hx rfl (hb hby d4_49) rfl ?_
      show Steps p.tables e below (T7.setTop (mkF m 50 #[.val (.ref a), .val (.int xv)] [(.int xv)])) t
      refine XS.aloadN Y8.here hx rfl (hb hby d4_50) rfl rfl ?_
      show Steps p.tables e below (T7.setTop (mkF m 51 #[.val (.ref a), .val (.int xv)] [(.ref a), (.int xv)])) t
      exact k
    refine On.getf Y8 hx hZ hown (w16 hw) (i := 0) (j := 0) rfl rfl (g := (mkF m 51 #[.val (.ref a), .val (.int xv)] [(.ref a), (.int xv)])) rfl rfl (hb hby d4_51) fun T9 Y10 => ?_
    show Rn p e below F T9 (mkF m 54 #[.val (.ref a), .val (.int xv)] [(.ref b), (.int xv)])
    refine Rn.go (T' := T9) (g' := (mkF m 56 #[.val (.ref a), .val (.int xv)] [(.ref a), (.int (2 : Int32)), (.ref b), (.int xv)])) (fun t k => ?_) ?_
    · show Steps p.tables e below (T9.setTop (mkF m 54 #[.val (.ref a), .val (.int xv)] [(.ref b), (.int xv)])) t
      refine XS.iconst Y10.here hx rfl (hb hby d4_54) ?_
      show Steps p.tables e below (T9.setTop (mkF m 55 #[.val (.ref a), .val (.int xv)] [(.int (2 : Int32)), (.ref b), (.int xv)])) t
      refine XS.aloadN Y10.here hx rfl (hb hby d4_55) rfl rfl ?_
      show Steps p.tables e below (T9.setTop (mkF m 56 #[.val (.ref a), .val (.int xv)] [(.ref a), (.int (2 : Int32)), (.ref b), (.int xv)])) t
      exact k
    refine On.getf Y10 hx hZ hown (w23 hw) (i := 0) (j := 1) rfl rfl (g := (mkF m 56 #[.val (.ref a), .val (.int xv)] [(.ref a), (.int (2 : Int32)), (.ref b), (.int xv)])) rfl rfl (hb hby d4_56) fun T11 Y12 => ?_
    show Rn p e below F T11 (mkF m 59 #[.val (.ref a), .val (.int xv)] [(.int R), (.int (2 : Int32)), (.ref b), (.int xv)])
    refine Rn.go (T' := T11) (g' := (mkF m 62 #[.val (.ref a), .val (.int xv)] [(.int (((2 : Int32) * R) - (1 : Int32))), (.ref b), (.int xv)])) (fun t k => ?_) ?_
    · show Steps p.tables e below (T11.setTop (mkF m 59 #[.val (.ref a), .val (.int xv)] [(.int R), (.int (2 : Int32)), (.ref b), (.int xv)])) t
      refine XS.imul Y12.here hx rfl (hb hby d4_59) rfl ?_
      show Steps p.tables e below (T11.setTop (mkF m 60 #[.val (.ref a), .val (.int xv)] [(.int ((2 : Int32) * R)), (.ref b), (.int xv)])) t
      refine XS.iconst Y12.here hx rfl (hb hby d4_60) ?_
      show Steps p.tables e below (T11.setTop (mkF m 61 #[.val (.ref a), .val (.int xv)] [(.int (1 : Int32)), (.int ((2 : Int32) * R)), (.ref b), (.int xv)])) t
      refine XS.isub Y12.here hx rfl (hb hby d4_61) rfl ?_
      show Steps p.tables e below (T11.setTop (mkF m 62 #[.val (.ref a), .val (.int xv)] [(.int (((2 : Int32) * R) - (1 : Int32))), (.ref b), (.int xv)])) t
      exact k
    refine On.ild Y12 hx hZ (i := 1) rfl (k := (((2 : Int32) * R) - (1 : Int32))) (x := (own_g L (2 * R.toInt.toNat - 1))) hl.1 hl.2.2.1 (g := (mkF m 62 #[.val (.ref a), .val (.int xv)] [(.int (((2 : Int32) * R) - (1 : Int32))), (.ref b), (.int xv)])) rfl rfl (hb hby d4_62) ?_
    show Rn p e below F T11 (mkF m 63 #[.val (.ref a), .val (.int xv)] [(.int (own_g L (2 * R.toInt.toNat - 1))), (.int xv)])
    by_cases hc63 : xv = (own_g L (2 * R.toInt.toNat - 1))
    · refine Rn.go (T' := T11) (g' := (mkF m 66 #[.val (.ref a), .val (.int xv)] [])) (fun t k => XS.icmpNo Y12.here hx rfl (hb hby d4_63) rfl (teq hc63).2 k) ?_
      refine Rn.go (T' := T11) (g' := (mkF m 67 #[.val (.ref a), .val (.int xv)] [(.ref a)])) (fun t k => ?_) ?_
      · show Steps p.tables e below (T11.setTop (mkF m 66 #[.val (.ref a), .val (.int xv)] [])) t
        refine XS.aloadN Y12.here hx rfl (hb hby d4_66) rfl rfl ?_
        show Steps p.tables e below (T11.setTop (mkF m 67 #[.val (.ref a), .val (.int xv)] [(.ref a)])) t
        exact k
      refine On.getf Y12 hx hZ hown (w16 hw) (i := 0) (j := 0) rfl rfl (g := (mkF m 67 #[.val (.ref a), .val (.int xv)] [(.ref a)])) rfl rfl (hb hby d4_67) fun T13 Y14 => ?_
      show Rn p e below F T13 (mkF m 70 #[.val (.ref a), .val (.int xv)] [(.ref b)])
      refine Rn.go (T' := T13) (g' := (mkF m 72 #[.val (.ref a), .val (.int xv)] [(.ref a), (.int (2 : Int32)), (.ref b)])) (fun t k => ?_) ?_
      · show Steps p.tables e below (T13.setTop (mkF m 70 #[.val (.ref a), .val (.int xv)] [(.ref b)])) t
        refine XS.iconst Y14.here hx rfl (hb hby d4_70) ?_
        show Steps p.tables e below (T13.setTop (mkF m 71 #[.val (.ref a), .val (.int xv)] [(.int (2 : Int32)), (.ref b)])) t
        refine XS.aloadN Y14.here hx rfl (hb hby d4_71) rfl rfl ?_
        show Steps p.tables e below (T13.setTop (mkF m 72 #[.val (.ref a), .val (.int xv)] [(.ref a), (.int (2 : Int32)), (.ref b)])) t
        exact k
      refine On.getf Y14 hx hZ hown (w23 hw) (i := 0) (j := 1) rfl rfl (g := (mkF m 72 #[.val (.ref a), .val (.int xv)] [(.ref a), (.int (2 : Int32)), (.ref b)])) rfl rfl (hb hby d4_72) fun T15 Y16 => ?_
      show Rn p e below F T15 (mkF m 75 #[.val (.ref a), .val (.int xv)] [(.int R), (.int (2 : Int32)), (.ref b)])
      refine Rn.go (T' := T15) (g' := (mkF m 79 #[.val (.ref a), .val (.int xv)] [(.int (((2 : Int32) * R) - (1 : Int32))), (.ref b), (.int (((2 : Int32) * R) - (1 : Int32))), (.ref b)])) (fun t k => ?_) ?_
      · show Steps p.tables e below (T15.setTop (mkF m 75 #[.val (.ref a), .val (.int xv)] [(.int R), (.int (2 : Int32)), (.ref b)])) t
        refine XS.imul Y16.here hx rfl (hb hby d4_75) rfl ?_
        show Steps p.tables e below (T15.setTop (mkF m 76 #[.val (.ref a), .val (.int xv)] [(.int ((2 : Int32) * R)), (.ref b)])) t
        refine XS.iconst Y16.here hx rfl (hb hby d4_76) ?_
        show Steps p.tables e below (T15.setTop (mkF m 77 #[.val (.ref a), .val (.int xv)] [(.int (1 : Int32)), (.int ((2 : Int32) * R)), (.ref b)])) t
        refine XS.isub Y16.here hx rfl (hb hby d4_77) rfl ?_
        show Steps p.tables e below (T15.setTop (mkF m 78 #[.val (.ref a), .val (.int xv)] [(.int (((2 : Int32) * R) - (1 : Int32))), (.ref b)])) t
        jvm_step Y16.here [Y16.here.top, hx, (hb hby d4_78), Value.category]
        show Steps p.tables e below (T15.setTop (mkF m 79 #[.val (.ref a), .val (.int xv)] [(.int (((2 : Int32) * R) - (1 : Int32))), (.ref b), (.int (((2 : Int32) * R) - (1 : Int32))), (.ref b)])) t
        exact k
      refine On.ild Y16 hx hZ (i := 1) rfl (k := (((2 : Int32) * R) - (1 : Int32))) (x := (own_g L (2 * R.toInt.toNat - 1))) hl.1 hl.2.2.1 (g := (mkF m 79 #[.val (.ref a), .val (.int xv)] [(.int (((2 : Int32) * R) - (1 : Int32))), (.ref b), (.int (((2 : Int32) * R) - (1 : Int32))), (.ref b)])) rfl rfl (hb hby d4_79) ?_
      show Rn p e below F T15 (mkF m 80 #[.val (.ref a), .val (.int xv)] [(.int (own_g L (2 * R.toInt.toNat - 1))), (.int (((2 : Int32) * R) - (1 : Int32))), (.ref b)])
      refine Rn.go (T' := T15) (g' := (mkF m 82 #[.val (.ref a), .val (.int xv)] [(.int ((own_g L (2 * R.toInt.toNat - 1)) + (1 : Int32))), (.int (((2 : Int32) * R) - (1 : Int32))), (.ref b)])) (fun t k => ?_) ?_
      · show Steps p.tables e below (T15.setTop (mkF m 80 #[.val (.ref a), .val (.int xv)] [(.int (own_g L (2 * R.toInt.toNat - 1))), (.int (((2 : Int32) * R) - (1 : Int32))), (.ref b)])) t
        refine XS.iconst Y16.here hx rfl (hb hby d4_80) ?_
        show Steps p.tables e below (T15.setTop (mkF m 81 #[.val (.ref a), .val (.int xv)] [(.int (1 : Int32)), (.int (own_g L (2 * R.toInt.toNat - 1))), (.int (((2 : Int32) * R) - (1 : Int32))), (.ref b)])) t
        refine XS.iadd Y16.here hx rfl (hb hby d4_81) rfl ?_
        show Steps p.tables e below (T15.setTop (mkF m 82 #[.val (.ref a), .val (.int xv)] [(.int ((own_g L (2 * R.toInt.toNat - 1)) + (1 : Int32))), (.int (((2 : Int32) * R) - (1 : Int32))), (.ref b)])) t
        exact k
      refine On.isto Y16 hx hZ (i := 1) rfl hl.1 (by rw [hl.2.1]; exact hl.2.2.2) (g := (mkF m 82 #[.val (.ref a), .val (.int xv)] [(.int ((own_g L (2 * R.toInt.toNat - 1)) + (1 : Int32))), (.int (((2 : Int32) * R) - (1 : Int32))), (.ref b)])) rfl rfl (hb hby d4_82) fun T17 Y18 => ?_
      replace Y18 : On p l e _ s m _ below meth c Z n0 T17 0 0 [ob a own_C0 (own_F0 (.ref b) (.int R)), ari b .int n (L.set (((2 : Int32) * R) - (1 : Int32)).toNatClampNeg (((own_g L (2 * R.toInt.toNat - 1)) + (1 : Int32))))] := Y18
      show Rn p e below F T17 (mkF m 83 #[.val (.ref a), .val (.int xv)] [])
      refine Rn.go (T' := T17) (g' := (mkF m 94 #[.val (.ref a), .val (.int xv)] [])) (fun t k => ?_) ?_
      · show Steps p.tables e below (T17.setTop (mkF m 83 #[.val (.ref a), .val (.int xv)] [])) t
        refine XS.goto Y18.here hx rfl (pc0 := 83) (pc' := 94) rfl (hb hby d4_83) (by decide) (by decide) ?_
        show Steps p.tables e below (T17.setTop (mkF m 94 #[.val (.ref a), .val (.int xv)] [])) t
        exact k
      rw [← hF]; exact On.retv Y18 hx hret hlk (hb hby d4_94) (by decide) (by decide) ⟨rfl, _, _, _, _, rfl, own_addM hI hR hc63 hB hx0 hx1⟩
    · refine Rn.go (T' := T11) (g' := (mkF m 86 #[.val (.ref a), .val (.int xv)] [])) (fun t k => XS.icmpYes Y12.here hx rfl (pc0 := 63) (pc' := 86) rfl (hb hby d4_63) rfl (feq hc63).2 (by decide) (by decide) k) ?_
      have hix := own_ix0 hI
      by_cases hg : ((2 : Int32) * R) = n
      · show Rn p e below F T11 (mkF m 86 #[.val (.ref a), .val (.int xv)] [])
        refine Rn.go (T' := T11) (g' := (mkF m 88 #[.val (.ref a), .val (.int xv)] [(.int xv), (.ref a)])) (fun t k => ?_) ?_
        · show Steps p.tables e below (T11.setTop (mkF m 86 #[.val (.ref a), .val (.int xv)] [])) t
          refine XS.aloadN Y12.here hx rfl (hb hby d4_86) rfl rfl ?_
          show Steps p.tables e below (T11.setTop (mkF m 87 #[.val (.ref a), .val (.int xv)] [(.ref a)])) t
          refine XS.iloadN Y12.here hx rfl (hb hby d4_87) rfl ?_
          show Steps p.tables e below (T11.setTop (mkF m 88 #[.val (.ref a), .val (.int xv)] [(.int xv), (.ref a)])) t
          exact k
        have hAG := own_AG hI hq hg hB hx0 hx1
        refine Rn.go (T' := T11) (g' := (mkF m 91 #[.val (.ref a), .val (.int xv)] [(.int (xv + (1 : Int32))), (.int xv), (.ref a)])) (fun t k => ?_) ?_
        · show Steps p.tables e below (T11.setTop (mkF m 88 #[.val (.ref a), .val (.int xv)] [(.int xv), (.ref a)])) t
          refine XS.iloadN Y12.here hx rfl (hb hby d4_88) rfl ?_
          show Steps p.tables e below (T11.setTop (mkF m 89 #[.val (.ref a), .val (.int xv)] [(.int xv), (.int xv), (.ref a)])) t
          refine XS.iconst Y12.here hx rfl (hb hby d4_89) ?_
          show Steps p.tables e below (T11.setTop (mkF m 90 #[.val (.ref a), .val (.int xv)] [(.int (1 : Int32)), (.int xv), (.int xv), (.ref a)])) t
          refine XS.iadd Y12.here hx rfl (hb hby d4_90) rfl ?_
          show Steps p.tables e below (T11.setTop (mkF m 91 #[.val (.ref a), .val (.int xv)] [(.int (xv + (1 : Int32))), (.int xv), (.ref a)])) t
          exact k
        refine On.priv Y12 hx hZ (y := (⟨"com/example/vistrace/vistrace/checker/RunSet", "addRun", "(II)V"⟩ : MethodName)) hown (w25 hw) (w26 hw) (w27 hw) (w6 hw) (w28 hw) (w7 hw) (by decide) (a := a) (argsL := [(.int xv), (.int (xv + (1 : Int32)))]) (rest := []) (i := 0) rfl (rmAG l Z a0 hw n0 a xv (xv + (1 : Int32)) b R n L hg hI.1 hAG.1 hAG.2.1 hix.1 (by rw [hix.2.1]; have := hAG.2.2.1; omega) hix.2.2.1 (by rw [hix.2.2.2]; exact hAG.2.2.1)) (W := 0) (by decide) (by decide) (by decide) (by decide) (g := (mkF m 91 #[.val (.ref a), .val (.int xv)] [(.int (xv + (1 : Int32))), (.int xv), (.ref a)])) rfl (by rw [hml]; rfl) (lenOf pd2 rfl) rfl (by show 2 * 0 + _ ≤ _; exact Nat.le_of_eq rfl) (hb hby d4_91) ?_
        intro T19 u21 D22 hp23 Y20
        obtain ⟨a24, rfl, rfl⟩ := hp23
        replace Y20 : On p l e _ s m _ below meth c Z n0 T19 1 8 [ob a own_C0 (own_F0 (.ref a24) (.int (R + (1 : Int32)))), ari b .int n L, ari a24 .int (own_max (2 : Int32) ((2 : Int32) * n)) (((L ++ (List.replicate (own_max (2 : Int32) ((2 : Int32) * n)).toNatClampNeg (0 : Int32)).drop L.length).set ((2 : Int32) * R).toNatClampNeg xv).set (((2 : Int32) * R) + (1 : Int32)).toNatClampNeg (xv + (1 : Int32)))] := Y20
        show Rn p e below F T19 (mkF m 94 #[.val (.ref a), .val (.int xv)] [])
        have Y25 : On p l e _ s m _ below meth c Z n0 T19 1 8 [ob a own_C0 (own_F0 (.ref a24) (.int (R + (1 : Int32)))), ari a24 .int (own_max (2 : Int32) ((2 : Int32) * n)) (((L ++ (List.replicate (own_max (2 : Int32) ((2 : Int32) * n)).toNatClampNeg (0 : Int32)).drop L.length).set ((2 : Int32) * R).toNatClampNeg xv).set (((2 : Int32) * R) + (1 : Int32)).toNatClampNeg (xv + (1 : Int32)))] := On.weak Y20 (.cons_cons _ (.cons _ (.cons_cons _ .slnil)))
        rw [← hF]; exact On.retv Y25 hx hret hlk (hb hby d4_94) (by decide) (by decide) ⟨rfl, _, _, _, _, rfl, hAG.2.2.2⟩
      · show Rn p e below F T11 (mkF m 86 #[.val (.ref a), .val (.int xv)] [])
        refine Rn.go (T' := T11) (g' := (mkF m 88 #[.val (.ref a), .val (.int xv)] [(.int xv), (.ref a)])) (fun t k => ?_) ?_
        · show Steps p.tables e below (T11.setTop (mkF m 86 #[.val (.ref a), .val (.int xv)] [])) t
          refine XS.aloadN Y12.here hx rfl (hb hby d4_86) rfl rfl ?_
          show Steps p.tables e below (T11.setTop (mkF m 87 #[.val (.ref a), .val (.int xv)] [(.ref a)])) t
          refine XS.iloadN Y12.here hx rfl (hb hby d4_87) rfl ?_
          show Steps p.tables e below (T11.setTop (mkF m 88 #[.val (.ref a), .val (.int xv)] [(.int xv), (.ref a)])) t
          exact k
        have hAN := own_AN hI hq hg hB hx0 hx1
        refine Rn.go (T' := T11) (g' := (mkF m 91 #[.val (.ref a), .val (.int xv)] [(.int (xv + (1 : Int32))), (.int xv), (.ref a)])) (fun t k => ?_) ?_
        · show Steps p.tables e below (T11.setTop (mkF m 88 #[.val (.ref a), .val (.int xv)] [(.int xv), (.ref a)])) t
          refine XS.iloadN Y12.here hx rfl (hb hby d4_88) rfl ?_
          show Steps p.tables e below (T11.setTop (mkF m 89 #[.val (.ref a), .val (.int xv)] [(.int xv), (.int xv), (.ref a)])) t
          refine XS.iconst Y12.here hx rfl (hb hby d4_89) ?_
          show Steps p.tables e below (T11.setTop (mkF m 90 #[.val (.ref a), .val (.int xv)] [(.int (1 : Int32)), (.int xv), (.int xv), (.ref a)])) t
          refine XS.iadd Y12.here hx rfl (hb hby d4_90) rfl ?_
          show Steps p.tables e below (T11.setTop (mkF m 91 #[.val (.ref a), .val (.int xv)] [(.int (xv + (1 : Int32))), (.int xv), (.ref a)])) t
          exact k
        refine On.priv Y12 hx hZ (y := (⟨"com/example/vistrace/vistrace/checker/RunSet", "addRun", "(II)V"⟩ : MethodName)) hown (w25 hw) (w26 hw) (w27 hw) (w6 hw) (w28 hw) (w7 hw) (by decide) (a := a) (argsL := [(.int xv), (.int (xv + (1 : Int32)))]) (rest := []) (i := 0) rfl (rmAN l Z a0 hw n0 a xv (xv + (1 : Int32)) b R n L hg hix.1 (by rw [hix.2.1]; have := hAN.1; omega) hix.2.2.1 (by rw [hix.2.2.2]; exact hAN.1)) (W := 0) (by decide) (by decide) (by decide) (by decide) (g := (mkF m 91 #[.val (.ref a), .val (.int xv)] [(.int (xv + (1 : Int32))), (.int xv), (.ref a)])) rfl (by rw [hml]; rfl) (lenOf pd2 rfl) rfl (by show 2 * 0 + _ ≤ _; exact Nat.le_of_eq rfl) (hb hby d4_91) ?_
        intro T26 u28 D29 hp30 Y27
        obtain ⟨rfl, rfl⟩ := hp30
        replace Y27 : On p l e _ s m _ below meth c Z n0 T26 0 0 [ob a own_C0 (own_F0 (.ref b) (.int (R + (1 : Int32)))), ari b .int n ((L.set ((2 : Int32) * R).toNatClampNeg xv).set (((2 : Int32) * R) + (1 : Int32)).toNatClampNeg (xv + (1 : Int32)))] := Y27
        show Rn p e below F T26 (mkF m 94 #[.val (.ref a), .val (.int xv)] [])
        rw [← hF]; exact On.retv Y27 hx hret hlk (hb hby d4_94) (by decide) (by decide) ⟨rfl, _, _, _, _, rfl, hAN.2⟩
  · refine Rn.go (T' := T1) (g' := (mkF m 42 #[.val (.ref a), .val (.int xv)] [])) (fun t k => XS.ifYes Y2.here hx rfl (pc0 := 8) (pc' := 42) rfl (hb hby d4_8) rfl ((if0 _ _).trans (flt hc8).2.2.2) (by decide) (by decide) k) ?_
    refine Rn.go (T' := T1) (g' := (mkF m 43 #[.val (.ref a), .val (.int xv)] [(.ref a)])) (fun t k => ?_) ?_
    · show Steps p.tables e below (T1.setTop (mkF m 42 #[.val (.ref a), .val (.int xv)] [])) t
      refine XS.aloadN Y2.here hx rfl (hb hby d4_42) rfl rfl ?_
      show Steps p.tables e below (T1.setTop (mkF m 43 #[.val (.ref a), .val (.int xv)] [(.ref a)])) t
      exact k
    refine On.getf Y2 hx hZ hown (w23 hw) (i := 0) (j := 1) rfl rfl (g := (mkF m 43 #[.val (.ref a), .val (.int xv)] [(.ref a)])) rfl rfl (hb hby d4_43) fun T31 Y32 => ?_
    show Rn p e below F T31 (mkF m 46 #[.val (.ref a), .val (.int xv)] [(.int R)])
    refine Rn.go (T' := T31) (g' := (mkF m 86 #[.val (.ref a), .val (.int xv)] [])) (fun t k => XS.ifYes Y32.here hx rfl (pc0 := 46) (pc' := 86) rfl (hb hby d4_46) rfl ((if0 _ _).trans (flt hc8).2.2.2) (by decide) (by decide) k) ?_
    have hix := own_ix0 hI
    by_cases hg : ((2 : Int32) * R) = n
    · show Rn p e below F T31 (mkF m 86 #[.val (.ref a), .val (.int xv)] [])
      refine Rn.go (T' := T31) (g' := (mkF m 88 #[.val (.ref a), .val (.int xv)] [(.int xv), (.ref a)])) (fun t k => ?_) ?_
      · show Steps p.tables e below (T31.setTop (mkF m 86 #[.val (.ref a), .val (.int xv)] [])) t
        refine XS.aloadN Y32.here hx rfl (hb hby d4_86) rfl rfl ?_
        show Steps p.tables e below (T31.setTop (mkF m 87 #[.val (.ref a), .val (.int xv)] [(.ref a)])) t
        refine XS.iloadN Y32.here hx rfl (hb hby d4_87) rfl ?_
        show Steps p.tables e below (T31.setTop (mkF m 88 #[.val (.ref a), .val (.int xv)] [(.int xv), (.ref a)])) t
        exact k
      have hAG := own_AG hI hq hg hB hx0 hx1
      refine Rn.go (T' := T31) (g' := (mkF m 91 #[.val (.ref a), .val (.int xv)] [(.int (xv + (1 : Int32))), (.int xv), (.ref a)])) (fun t k => ?_) ?_
      · show Steps p.tables e below (T31.setTop (mkF m 88 #[.val (.ref a), .val (.int xv)] [(.int xv), (.ref a)])) t
        refine XS.iloadN Y32.here hx rfl (hb hby d4_88) rfl ?_
        show Steps p.tables e below (T31.setTop (mkF m 89 #[.val (.ref a), .val (.int xv)] [(.int xv), (.int xv), (.ref a)])) t
        refine XS.iconst Y32.here hx rfl (hb hby d4_89) ?_
        show Steps p.tables e below (T31.setTop (mkF m 90 #[.val (.ref a), .val (.int xv)] [(.int (1 : Int32)), (.int xv), (.int xv), (.ref a)])) t
        refine XS.iadd Y32.here hx rfl (hb hby d4_90) rfl ?_
        show Steps p.tables e below (T31.setTop (mkF m 91 #[.val (.ref a), .val (.int xv)] [(.int (xv + (1 : Int32))), (.int xv), (.ref a)])) t
        exact k
      refine On.priv Y32 hx hZ (y := (⟨"com/example/vistrace/vistrace/checker/RunSet", "addRun", "(II)V"⟩ : MethodName)) hown (w25 hw) (w26 hw) (w27 hw) (w6 hw) (w28 hw) (w7 hw) (by decide) (a := a) (argsL := [(.int xv), (.int (xv + (1 : Int32)))]) (rest := []) (i := 0) rfl (rmAG l Z a0 hw n0 a xv (xv + (1 : Int32)) b R n L hg hI.1 hAG.1 hAG.2.1 hix.1 (by rw [hix.2.1]; have := hAG.2.2.1; omega) hix.2.2.1 (by rw [hix.2.2.2]; exact hAG.2.2.1)) (W := 0) (by decide) (by decide) (by decide) (by decide) (g := (mkF m 91 #[.val (.ref a), .val (.int xv)] [(.int (xv + (1 : Int32))), (.int xv), (.ref a)])) rfl (by rw [hml]; rfl) (lenOf pd2 rfl) rfl (by show 2 * 0 + _ ≤ _; exact Nat.le_of_eq rfl) (hb hby d4_91) ?_
      intro T33 u35 D36 hp37 Y34
      obtain ⟨a38, rfl, rfl⟩ := hp37
      replace Y34 : On p l e _ s m _ below meth c Z n0 T33 1 8 [ob a own_C0 (own_F0 (.ref a38) (.int (R + (1 : Int32)))), ari b .int n L, ari a38 .int (own_max (2 : Int32) ((2 : Int32) * n)) (((L ++ (List.replicate (own_max (2 : Int32) ((2 : Int32) * n)).toNatClampNeg (0 : Int32)).drop L.length).set ((2 : Int32) * R).toNatClampNeg xv).set (((2 : Int32) * R) + (1 : Int32)).toNatClampNeg (xv + (1 : Int32)))] := Y34
      show Rn p e below F T33 (mkF m 94 #[.val (.ref a), .val (.int xv)] [])
      have Y39 : On p l e _ s m _ below meth c Z n0 T33 1 8 [ob a own_C0 (own_F0 (.ref a38) (.int (R + (1 : Int32)))), ari a38 .int (own_max (2 : Int32) ((2 : Int32) * n)) (((L ++ (List.replicate (own_max (2 : Int32) ((2 : Int32) * n)).toNatClampNeg (0 : Int32)).drop L.length).set ((2 : Int32) * R).toNatClampNeg xv).set (((2 : Int32) * R) + (1 : Int32)).toNatClampNeg (xv + (1 : Int32)))] := On.weak Y34 (.cons_cons _ (.cons _ (.cons_cons _ .slnil)))
      rw [← hF]; exact On.retv Y39 hx hret hlk (hb hby d4_94) (by decide) (by decide) ⟨rfl, _, _, _, _, rfl, hAG.2.2.2⟩
    · show Rn p e below F T31 (mkF m 86 #[.val (.ref a), .val (.int xv)] [])
      refine Rn.go (T' := T31) (g' := (mkF m 88 #[.val (.ref a), .val (.int xv)] [(.int xv), (.ref a)])) (fun t k => ?_) ?_
      · show Steps p.tables e below (T31.setTop (mkF m 86 #[.val (.ref a), .val (.int xv)] [])) t
        refine XS.aloadN Y32.here hx rfl (hb hby d4_86) rfl rfl ?_
        show Steps p.tables e below (T31.setTop (mkF m 87 #[.val (.ref a), .val (.int xv)] [(.ref a)])) t
        refine XS.iloadN Y32.here hx rfl (hb hby d4_87) rfl ?_
        show Steps p.tables e below (T31.setTop (mkF m 88 #[.val (.ref a), .val (.int xv)] [(.int xv), (.ref a)])) t
        exact k
      have hAN := own_AN hI hq hg hB hx0 hx1
      refine Rn.go (T' := T31) (g' := (mkF m 91 #[.val (.ref a), .val (.int xv)] [(.int (xv + (1 : Int32))), (.int xv), (.ref a)])) (fun t k => ?_) ?_
      · show Steps p.tables e below (T31.setTop (mkF m 88 #[.val (.ref a), .val (.int xv)] [(.int xv), (.ref a)])) t
        refine XS.iloadN Y32.here hx rfl (hb hby d4_88) rfl ?_
        show Steps p.tables e below (T31.setTop (mkF m 89 #[.val (.ref a), .val (.int xv)] [(.int xv), (.int xv), (.ref a)])) t
        refine XS.iconst Y32.here hx rfl (hb hby d4_89) ?_
        show Steps p.tables e below (T31.setTop (mkF m 90 #[.val (.ref a), .val (.int xv)] [(.int (1 : Int32)), (.int xv), (.int xv), (.ref a)])) t
        refine XS.iadd Y32.here hx rfl (hb hby d4_90) rfl ?_
        show Steps p.tables e below (T31.setTop (mkF m 91 #[.val (.ref a), .val (.int xv)] [(.int (xv + (1 : Int32))), (.int xv), (.ref a)])) t
        exact k
      refine On.priv Y32 hx hZ (y := (⟨"com/example/vistrace/vistrace/checker/RunSet", "addRun", "(II)V"⟩ : MethodName)) hown (w25 hw) (w26 hw) (w27 hw) (w6 hw) (w28 hw) (w7 hw) (by decide) (a := a) (argsL := [(.int xv), (.int (xv + (1 : Int32)))]) (rest := []) (i := 0) rfl (rmAN l Z a0 hw n0 a xv (xv + (1 : Int32)) b R n L hg hix.1 (by rw [hix.2.1]; have := hAN.1; omega) hix.2.2.1 (by rw [hix.2.2.2]; exact hAN.1)) (W := 0) (by decide) (by decide) (by decide) (by decide) (g := (mkF m 91 #[.val (.ref a), .val (.int xv)] [(.int (xv + (1 : Int32))), (.int xv), (.ref a)])) rfl (by rw [hml]; rfl) (lenOf pd2 rfl) rfl (by show 2 * 0 + _ ≤ _; exact Nat.le_of_eq rfl) (hb hby d4_91) ?_
      intro T40 u42 D43 hp44 Y41
      obtain ⟨rfl, rfl⟩ := hp44
      replace Y41 : On p l e _ s m _ below meth c Z n0 T40 0 0 [ob a own_C0 (own_F0 (.ref b) (.int (R + (1 : Int32)))), ari b .int n ((L.set ((2 : Int32) * R).toNatClampNeg xv).set (((2 : Int32) * R) + (1 : Int32)).toNatClampNeg (xv + (1 : Int32)))] := Y41
      show Rn p e below F T40 (mkF m 94 #[.val (.ref a), .val (.int xv)] [])
      rw [← hF]; exact On.retv Y41 hx hret hlk (hb hby d4_94) (by decide) (by decide) ⟨rfl, _, _, _, _, rfl, hAN.2⟩
theorem ef_rm8 (m : MethodId) (a : Addr) : entryFrame m #[(.ref a)] 1 = (mkF m 0 #[.val (.ref a)] []) := by first | (simp [entryFrame, mkF, argsToLocals, Value.category]; done) | rfl
set_option maxRecDepth 65536 in
set_option maxHeartbeats 40000000 in
theorem rm8 (l : Launch) (Z : State) (a0 : Array Value) (hw : ∀ d ∈ tables_1, d.before a0 Z = true) (n0 : Nat) (a : Addr) (b : Addr) (R : Int32) (n : Int32) (L : List Int32) (q : Int) (k : Int32) (B : Int) (hI : own_inv q R n L k B) (hk : k ≠ 0) :
    Con l Z n0 (⟨"com/example/vistrace/vistrace/checker/RunSet", "removeLargest", "()V"⟩ : MethodName) prog_8_method_4_code 1 none ({ frames := 0, cells := 0, slots := 0, locals := 0 } : Room) #[(.ref a)] [ob a own_C0 (own_F0 (.ref b) (.int R)), ari b .int n L] (fun v D' => v = none ∧ own_RS a q (k - 1) B D') := by
  refine Con.of (plainFor_of_name pn0) ?_
  intro p e s m below meth c T cx Y
  obtain ⟨hx, hby, hml, hown, hnm, hret, hlk, hZ⟩ := cx
  rw [ef_rm8]
  generalize hF : Fi Z n0 below s _ _ _ = F
  have hR := own_R0 hI hk
  have hl := own_ix1 hI hR
  have hl2 := own_ix2 hI hR
  have hR0 : ¬ R = 0 := fun z => by rw [z] at hR; exact absurd hR (by decide)
  have hs1 : (L.set (((2 : Int32) * R) - (1 : Int32)).toNatClampNeg ((own_g L (2 * R.toInt.toNat - 1)) - (1 : Int32)))[(((2 : Int32) * R) - (1 : Int32)).toNatClampNeg]? = some ((own_g L (2 * R.toInt.toNat - 1)) - (1 : Int32)) := List.getElem?_set_self (by rw [hl.2.1]; exact hl.2.2.2)
  have hs2 : (L.set (((2 : Int32) * R) - (1 : Int32)).toNatClampNeg ((own_g L (2 * R.toInt.toNat - 1)) - (1 : Int32)))[(((2 : Int32) * R) - (2 : Int32)).toNatClampNeg]? = some (own_g L (2 * R.toInt.toNat - 2)) := by rw [List.getElem?_set_ne (by rw [hl.2.1, hl2.2.1]; omega)]; exact hl2.2.2.1
  refine Rn.go (T' := T) (g' := (mkF m 1 #[.val (.ref a)] [(.ref a)])) (fun t k => ?_) ?_
  · show Steps p.tables e below (T.setTop (mkF m 0 #[.val (.ref a)] [])) t
    refine XS.aloadN Y.here hx rfl (hb hby d8_0) rfl rfl ?_
    show Steps p.tables e below (T.setTop (mkF m 1 #[.val (.ref a)] [(.ref a)])) t
    exact k
  refine On.getf Y hx hZ hown (w23 hw) (i := 0) (j := 1) rfl rfl (g := (mkF m 1 #[.val (.ref a)] [(.ref a)])) rfl rfl (hb hby d8_1) fun T1 Y2 => ?_
  show Rn p e below F T1 (mkF m 4 #[.val (.ref a)] [(.int R)])
  refine Rn.go (T' := T1) (g' := (mkF m 17 #[.val (.ref a)] [])) (fun t k => XS.ifYes Y2.here hx rfl (pc0 := 4) (pc' := 17) rfl (hb hby d8_4) rfl ((if0 _ _).trans (feq hR0).2) (by decide) (by decide) k) ?_
  refine Rn.go (T' := T1) (g' := (mkF m 18 #[.val (.ref a)] [(.ref a)])) (fun t k => ?_) ?_
  · show Steps p.tables e below (T1.setTop (mkF m 17 #[.val (.ref a)] [])) t
    refine XS.aloadN Y2.here hx rfl (hb hby d8_17) rfl rfl ?_
    show Steps p.tables e below (T1.setTop (mkF m 18 #[.val (.ref a)] [(.ref a)])) t
    exact k
  refine On.getf Y2 hx hZ hown (w16 hw) (i := 0) (j := 0) rfl rfl (g := (mkF m 18 #[.val (.ref a)] [(.ref a)])) rfl rfl (hb hby d8_18) fun T3 Y4 => ?_
  show Rn p e below F T3 (mkF m 21 #[.val (.ref a)] [(.ref b)])
  refine Rn.go (T' := T3) (g' := (mkF m 23 #[.val (.ref a)] [(.ref a), (.int (2 : Int32)), (.ref b)])) (fun t k => ?_) ?_
  · show Steps p.tables e below (T3.setTop (mkF m 21 #[.val (.ref a)] [(.ref b)])) t
    refine XS.iconst Y4.here hx rfl (hb hby d8_21) ?_
    show Steps p.tables e below (T3.setTop (mkF m 22 #[.val (.ref a)] [(.int (2 : Int32)), (.ref b)])) t
    refine XS.aloadN Y4.here hx rfl (hb hby d8_22) rfl rfl ?_
    show Steps p.tables e below (T3.setTop (mkF m 23 #[.val (.ref a)] [(.ref a), (.int (2 : Int32)), (.ref b)])) t
    exact k
  refine On.getf Y4 hx hZ hown (w23 hw) (i := 0) (j := 1) rfl rfl (g := (mkF m 23 #[.val (.ref a)] [(.ref a), (.int (2 : Int32)), (.ref b)])) rfl rfl (hb hby d8_23) fun T5 Y6 => ?_
  show Rn p e below F T5 (mkF m 26 #[.val (.ref a)] [(.int R), (.int (2 : Int32)), (.ref b)])
  refine Rn.go (T' := T5) (g' := (mkF m 30 #[.val (.ref a)] [(.int (((2 : Int32) * R) - (1 : Int32))), (.ref b), (.int (((2 : Int32) * R) - (1 : Int32))), (.ref b)])) (fun t k => ?_) ?_
  · show Steps p.tables e below (T5.setTop (mkF m 26 #[.val (.ref a)] [(.int R), (.int (2 : Int32)), (.ref b)])) t
    refine XS.imul Y6.here hx rfl (hb hby d8_26) rfl ?_
    show Steps p.tables e below (T5.setTop (mkF m 27 #[.val (.ref a)] [(.int ((2 : Int32) * R)), (.ref b)])) t
    refine XS.iconst Y6.here hx rfl (hb hby d8_27) ?_
    show Steps p.tables e below (T5.setTop (mkF m 28 #[.val (.ref a)] [(.int (1 : Int32)), (.int ((2 : Int32) * R)), (.ref b)])) t
    refine XS.isub Y6.here hx rfl (hb hby d8_28) rfl ?_
    show Steps p.tables e below (T5.setTop (mkF m 29 #[.val (.ref a)] [(.int (((2 : Int32) * R) - (1 : Int32))), (.ref b)])) t
    jvm_step Y6.here [Y6.here.top, hx, (hb hby d8_29), Value.category]
    show Steps p.tables e below (T5.setTop (mkF m 30 #[.val (.ref a)] [(.int (((2 : Int32) * R) - (1 : Int32))), (.ref b), (.int (((2 : Int32) * R) - (1 : Int32))), (.ref b)])) t
    exact k
  refine On.ild Y6 hx hZ (i := 1) rfl (k := (((2 : Int32) * R) - (1 : Int32))) (x := (own_g L (2 * R.toInt.toNat - 1))) hl.1 hl.2.2.1 (g := (mkF m 30 #[.val (.ref a)] [(.int (((2 : Int32) * R) - (1 : Int32))), (.ref b), (.int (((2 : Int32) * R) - (1 : Int32))), (.ref b)])) rfl rfl (hb hby d8_30) ?_
  show Rn p e below F T5 (mkF m 31 #[.val (.ref a)] [(.int (own_g L (2 * R.toInt.toNat - 1))), (.int (((2 : Int32) * R) - (1 : Int32))), (.ref b)])
  refine Rn.go (T' := T5) (g' := (mkF m 33 #[.val (.ref a)] [(.int ((own_g L (2 * R.toInt.toNat - 1)) - (1 : Int32))), (.int (((2 : Int32) * R) - (1 : Int32))), (.ref b)])) (fun t k => ?_) ?_
  · show Steps p.tables e below (T5.setTop (mkF m 31 #[.val (.ref a)] [(.int (own_g L (2 * R.toInt.toNat - 1))), (.int (((2 : Int32) * R) - (1 : Int32))), (.ref b)])) t
    refine XS.iconst Y6.here hx rfl (hb hby d8_31) ?_
    show Steps p.tables e below (T5.setTop (mkF m 32 #[.val (.ref a)] [(.int (1 : Int32)), (.int (own_g L (2 * R.toInt.toNat - 1))), (.int (((2 : Int32) * R) - (1 : Int32))), (.ref b)])) t
    refine XS.isub Y6.here hx rfl (hb hby d8_32) rfl ?_
    show Steps p.tables e below (T5.setTop (mkF m 33 #[.val (.ref a)] [(.int ((own_g L (2 * R.toInt.toNat - 1)) - (1 : Int32))), (.int (((2 : Int32) * R) - (1 : Int32))), (.ref b)])) t
    exact k
  refine On.isto Y6 hx hZ (i := 1) rfl hl.1 (by rw [hl.2.1]; exact hl.2.2.2) (g := (mkF m 33 #[.val (.ref a)] [(.int ((own_g L (2 * R.toInt.toNat - 1)) - (1 : Int32))), (.int (((2 : Int32) * R) - (1 : Int32))), (.ref b)])) rfl rfl (hb hby d8_33) fun T7 Y8 => ?_
  replace Y8 : On p l e _ s m _ below meth c Z n0 T7 0 0 [ob a own_C0 (own_F0 (.ref b) (.int R)), ari b .int n (L.set (((2 : Int32) * R) - (1 : Int32)).toNatClampNeg (((own_g L (2 * R.toInt.toNat - 1)) - (1 : Int32))))] := Y8
  show Rn p e below F T7 (mkF m 34 #[.val (.ref a)] [])
  refine Rn.go (T' := T7) (g' := (mkF m 35 #[.val (.ref a)] [(.ref a)])) (fun t k => ?_) ?_
  · show Steps p.tables e below (T7.setTop (mkF m 34 #[.val (.ref a)] [])) t
    refine XS.aloadN Y8.here hx rfl (hb hby d8_34) rfl rfl ?_
    show Steps p.tables e below (T7.setTop (mkF m 35 #[.val (.ref a)] [(.ref a)])) t
    exact k
  refine On.getf Y8 hx hZ hown (w16 hw) (i := 0) (j := 0) rfl rfl (g := (mkF m 35 #[.val (.ref a)] [(.ref a)])) rfl rfl (hb hby d8_35) fun T9 Y10 => ?_
  show Rn p e below F T9 (mkF m 38 #[.val (.ref a)] [(.ref b)])
  refine Rn.go (T' := T9) (g' := (mkF m 40 #[.val (.ref a)] [(.ref a), (.int (2 : Int32)), (.ref b)])) (fun t k => ?_) ?_
  · show Steps p.tables e below (T9.setTop (mkF m 38 #[.val (.ref a)] [(.ref b)])) t
    refine XS.iconst Y10.here hx rfl (hb hby d8_38) ?_
    show Steps p.tables e below (T9.setTop (mkF m 39 #[.val (.ref a)] [(.int (2 : Int32)), (.ref b)])) t
    refine XS.aloadN Y10.here hx rfl (hb hby d8_39) rfl rfl ?_
    show Steps p.tables e below (T9.setTop (mkF m 40 #[.val (.ref a)] [(.ref a), (.int (2 : Int32)), (.ref b)])) t
    exact k
  refine On.getf Y10 hx hZ hown (w23 hw) (i := 0) (j := 1) rfl rfl (g := (mkF m 40 #[.val (.ref a)] [(.ref a), (.int (2 : Int32)), (.ref b)])) rfl rfl (hb hby d8_40) fun T11 Y12 => ?_
  show Rn p e below F T11 (mkF m 43 #[.val (.ref a)] [(.int R), (.int (2 : Int32)), (.ref b)])
  refine Rn.go (T' := T11) (g' := (mkF m 46 #[.val (.ref a)] [(.int (((2 : Int32) * R) - (1 : Int32))), (.ref b)])) (fun t k => ?_) ?_
  · show Steps p.tables e below (T11.setTop (mkF m 43 #[.val (.ref a)] [(.int R), (.int (2 : Int32)), (.ref b)])) t
    refine XS.imul Y12.here hx rfl (hb hby d8_43) rfl ?_
    show Steps p.tables e below (T11.setTop (mkF m 44 #[.val (.ref a)] [(.int ((2 : Int32) * R)), (.ref b)])) t
    refine XS.iconst Y12.here hx rfl (hb hby d8_44) ?_
    show Steps p.tables e below (T11.setTop (mkF m 45 #[.val (.ref a)] [(.int (1 : Int32)), (.int ((2 : Int32) * R)), (.ref b)])) t
    refine XS.isub Y12.here hx rfl (hb hby d8_45) rfl ?_
    show Steps p.tables e below (T11.setTop (mkF m 46 #[.val (.ref a)] [(.int (((2 : Int32) * R) - (1 : Int32))), (.ref b)])) t
    exact k
  refine On.ild Y12 hx hZ (i := 1) rfl (k := (((2 : Int32) * R) - (1 : Int32))) (x := ((own_g L (2 * R.toInt.toNat - 1)) - (1 : Int32))) hl.1 hs1 (g := (mkF m 46 #[.val (.ref a)] [(.int (((2 : Int32) * R) - (1 : Int32))), (.ref b)])) rfl rfl (hb hby d8_46) ?_
  show Rn p e below F T11 (mkF m 47 #[.val (.ref a)] [(.int ((own_g L (2 * R.toInt.toNat - 1)) - (1 : Int32)))])
  refine Rn.go (T' := T11) (g' := (mkF m 48 #[.val (.ref a)] [(.ref a), (.int ((own_g L (2 * R.toInt.toNat - 1)) - (1 : Int32)))])) (fun t k => ?_) ?_
  · show Steps p.tables e below (T11.setTop (mkF m 47 #[.val (.ref a)] [(.int ((own_g L (2 * R.toInt.toNat - 1)) - (1 : Int32)))])) t
    refine XS.aloadN Y12.here hx rfl (hb hby d8_47) rfl rfl ?_
    show Steps p.tables e below (T11.setTop (mkF m 48 #[.val (.ref a)] [(.ref a), (.int ((own_g L (2 * R.toInt.toNat - 1)) - (1 : Int32)))])) t
    exact k
  refine On.getf Y12 hx hZ hown (w16 hw) (i := 0) (j := 0) rfl rfl (g := (mkF m 48 #[.val (.ref a)] [(.ref a), (.int ((own_g L (2 * R.toInt.toNat - 1)) - (1 : Int32)))])) rfl rfl (hb hby d8_48) fun T13 Y14 => ?_
  show Rn p e below F T13 (mkF m 51 #[.val (.ref a)] [(.ref b), (.int ((own_g L (2 * R.toInt.toNat - 1)) - (1 : Int32)))])
  refine Rn.go (T' := T13) (g' := (mkF m 53 #[.val (.ref a)] [(.ref a), (.int (2 : Int32)), (.ref b), (.int ((own_g L (2 * R.toInt.toNat - 1)) - (1 : Int32)))])) (fun t k => ?_) ?_
  · show Steps p.tables e below (T13.setTop (mkF m 51 #[.val (.ref a)] [(.ref b), (.int ((own_g L (2 * R.toInt.toNat - 1)) - (1 : Int32)))])) t
    refine XS.iconst Y14.here hx rfl (hb hby d8_51) ?_
    show Steps p.tables e below (T13.setTop (mkF m 52 #[.val (.ref a)] [(.int (2 : Int32)), (.ref b), (.int ((own_g L (2 * R.toInt.toNat - 1)) - (1 : Int32)))])) t
    refine XS.aloadN Y14.here hx rfl (hb hby d8_52) rfl rfl ?_
    show Steps p.tables e below (T13.setTop (mkF m 53 #[.val (.ref a)] [(.ref a), (.int (2 : Int32)), (.ref b), (.int ((own_g L (2 * R.toInt.toNat - 1)) - (1 : Int32)))])) t
    exact k
  refine On.getf Y14 hx hZ hown (w23 hw) (i := 0) (j := 1) rfl rfl (g := (mkF m 53 #[.val (.ref a)] [(.ref a), (.int (2 : Int32)), (.ref b), (.int ((own_g L (2 * R.toInt.toNat - 1)) - (1 : Int32)))])) rfl rfl (hb hby d8_53) fun T15 Y16 => ?_
  show Rn p e below F T15 (mkF m 56 #[.val (.ref a)] [(.int R), (.int (2 : Int32)), (.ref b), (.int ((own_g L (2 * R.toInt.toNat - 1)) - (1 : Int32)))])
  refine Rn.go (T' := T15) (g' := (mkF m 59 #[.val (.ref a)] [(.int (((2 : Int32) * R) - (2 : Int32))), (.ref b), (.int ((own_g L (2 * R.toInt.toNat - 1)) - (1 : Int32)))])) (fun t k => ?_) ?_
  · show Steps p.tables e below (T15.setTop (mkF m 56 #[.val (.ref a)] [(.int R), (.int (2 : Int32)), (.ref b), (.int ((own_g L (2 * R.toInt.toNat - 1)) - (1 : Int32)))])) t
    refine XS.imul Y16.here hx rfl (hb hby d8_56) rfl ?_
    show Steps p.tables e below (T15.setTop (mkF m 57 #[.val (.ref a)] [(.int ((2 : Int32) * R)), (.ref b), (.int ((own_g L (2 * R.toInt.toNat - 1)) - (1 : Int32)))])) t
    refine XS.iconst Y16.here hx rfl (hb hby d8_57) ?_
    show Steps p.tables e below (T15.setTop (mkF m 58 #[.val (.ref a)] [(.int (2 : Int32)), (.int ((2 : Int32) * R)), (.ref b), (.int ((own_g L (2 * R.toInt.toNat - 1)) - (1 : Int32)))])) t
    refine XS.isub Y16.here hx rfl (hb hby d8_58) rfl ?_
    show Steps p.tables e below (T15.setTop (mkF m 59 #[.val (.ref a)] [(.int (((2 : Int32) * R) - (2 : Int32))), (.ref b), (.int ((own_g L (2 * R.toInt.toNat - 1)) - (1 : Int32)))])) t
    exact k
  refine On.ild Y16 hx hZ (i := 1) rfl (k := (((2 : Int32) * R) - (2 : Int32))) (x := (own_g L (2 * R.toInt.toNat - 2))) hl2.1 hs2 (g := (mkF m 59 #[.val (.ref a)] [(.int (((2 : Int32) * R) - (2 : Int32))), (.ref b), (.int ((own_g L (2 * R.toInt.toNat - 1)) - (1 : Int32)))])) rfl rfl (hb hby d8_59) ?_
  show Rn p e below F T15 (mkF m 60 #[.val (.ref a)] [(.int (own_g L (2 * R.toInt.toNat - 2))), (.int ((own_g L (2 * R.toInt.toNat - 1)) - (1 : Int32)))])
  by_cases hc60 : ((own_g L (2 * R.toInt.toNat - 1)) - (1 : Int32)) = (own_g L (2 * R.toInt.toNat - 2))
  · refine Rn.go (T' := T15) (g' := (mkF m 63 #[.val (.ref a)] [])) (fun t k => XS.icmpNo Y16.here hx rfl (hb hby d8_60) rfl (teq hc60).2 k) ?_
    refine Rn.go (T' := T15) (g' := (mkF m 65 #[.val (.ref a)] [(.ref a), (.ref a)])) (fun t k => ?_) ?_
    · show Steps p.tables e below (T15.setTop (mkF m 63 #[.val (.ref a)] [])) t
      refine XS.aloadN Y16.here hx rfl (hb hby d8_63) rfl rfl ?_
      show Steps p.tables e below (T15.setTop (mkF m 64 #[.val (.ref a)] [(.ref a)])) t
      refine XS.dup Y16.here hx rfl (hb hby d8_64) rfl rfl ?_
      show Steps p.tables e below (T15.setTop (mkF m 65 #[.val (.ref a)] [(.ref a), (.ref a)])) t
      exact k
    refine On.getf Y16 hx hZ hown (w23 hw) (i := 0) (j := 1) rfl rfl (g := (mkF m 65 #[.val (.ref a)] [(.ref a), (.ref a)])) rfl rfl (hb hby d8_65) fun T17 Y18 => ?_
    show Rn p e below F T17 (mkF m 68 #[.val (.ref a)] [(.int R), (.ref a)])
    refine Rn.go (T' := T17) (g' := (mkF m 70 #[.val (.ref a)] [(.int (R - (1 : Int32))), (.ref a)])) (fun t k => ?_) ?_
    · show Steps p.tables e below (T17.setTop (mkF m 68 #[.val (.ref a)] [(.int R), (.ref a)])) t
      refine XS.iconst Y18.here hx rfl (hb hby d8_68) ?_
      show Steps p.tables e below (T17.setTop (mkF m 69 #[.val (.ref a)] [(.int (1 : Int32)), (.int R), (.ref a)])) t
      refine XS.isub Y18.here hx rfl (hb hby d8_69) rfl ?_
      show Steps p.tables e below (T17.setTop (mkF m 70 #[.val (.ref a)] [(.int (R - (1 : Int32))), (.ref a)])) t
      exact k
    refine On.putf Y18 hx hZ hown (w23 hw) (i := 0) (j := 1) rfl rfl (Or.inl (w24 hw)) (w6 hw) (ty := .int) (by decide) (v' := (.int (R - (1 : Int32)))) rfl rfl (g := (mkF m 70 #[.val (.ref a)] [(.int (R - (1 : Int32))), (.ref a)])) rfl rfl (hb hby d8_70) fun T19 Y20 => ?_
    replace Y20 : On p l e _ s m _ below meth c Z n0 T19 0 0 [ob a own_C0 (own_F0 (.ref b) (.int (R - (1 : Int32)))), ari b .int n (L.set (((2 : Int32) * R) - (1 : Int32)).toNatClampNeg (((own_g L (2 * R.toInt.toNat - 1)) - (1 : Int32))))] := Y20
    show Rn p e below F T19 (mkF m 73 #[.val (.ref a)] [])
    rw [← hF]; exact On.retv Y20 hx hret hlk (hb hby d8_73) (by decide) (by decide) ⟨rfl, _, _, _, _, rfl, own_rem2 hI hR hc60⟩
  · refine Rn.go (T' := T15) (g' := (mkF m 73 #[.val (.ref a)] [])) (fun t k => XS.icmpYes Y16.here hx rfl (pc0 := 60) (pc' := 73) rfl (hb hby d8_60) rfl (feq hc60).2 (by decide) (by decide) k) ?_
    rw [← hF]; exact On.retv Y16 hx hret hlk (hb hby d8_73) (by decide) (by decide) ⟨rfl, _, _, _, _, rfl, own_rem1 hI hR hc60⟩
theorem ef_rm10 (m : MethodId) (a : Addr) (i : Int32) : entryFrame m #[(.ref a), (.int i)] 2 = (mkF m 0 #[.val (.ref a), .val (.int i)] []) := by first | (simp [entryFrame, mkF, argsToLocals, Value.category]; done) | rfl
set_option maxRecDepth 65536 in
set_option maxHeartbeats 40000000 in
theorem rm10 (l : Launch) (Z : State) (a0 : Array Value) (hw : ∀ d ∈ tables_1, d.before a0 Z = true) (n0 : Nat) (a : Addr) (i : Int32) (b : Addr) (R : Int32) (n : Int32) (L : List Int32) (h0 : 0 ≤ i.toInt) (h1 : 2 * i.toInt + 1 < L.length) (h2 : L.length ≤ 8) :
    Con l Z n0 (⟨"com/example/vistrace/vistrace/checker/RunSet", "end", "(I)I"⟩ : MethodName) prog_8_method_8_code 2 (some .int) ({ frames := 0, cells := 0, slots := 0, locals := 0 } : Room) #[(.ref a), (.int i)] [ob a own_C0 (own_F0 (.ref b) (.int R)), ari b .int n L] (fun v D' => v = some (.int (own_g L (2 * i.toInt.toNat + 1))) ∧ D' = [ob a own_C0 (own_F0 (.ref b) (.int R)), ari b .int n L]) := by
  refine Con.of (plainFor_of_name pn0) ?_
  intro p e s m below meth c T cx Y
  obtain ⟨hx, hby, hml, hown, hnm, hret, hlk, hZ⟩ := cx
  rw [ef_rm10]
  generalize hF : Fi Z n0 below s _ _ _ = F
  have e1 : ((2 : Int32) * i).toInt = 2 * i.toInt := own_mul2 h0 (by omega)
  have e2 : (((2 : Int32) * i) + (1 : Int32)).toInt = 2 * i.toInt + 1 := by rw [own_addI (k := 1) rfl (by omega) (by omega), e1]
  have hl := own_at (L := L) (j := (((2 : Int32) * i) + (1 : Int32))) (k := 2 * i.toInt.toNat + 1) (by omega) (by omega)
  refine Rn.go (T' := T) (g' := (mkF m 1 #[.val (.ref a), .val (.int i)] [(.ref a)])) (fun t k => ?_) ?_
  · show Steps p.tables e below (T.setTop (mkF m 0 #[.val (.ref a), .val (.int i)] [])) t
    refine XS.aloadN Y.here hx rfl (hb hby d10_0) rfl rfl ?_
    show Steps p.tables e below (T.setTop (mkF m 1 #[.val (.ref a), .val (.int i)] [(.ref a)])) t
    exact k
  refine On.getf Y hx hZ hown (w16 hw) (i := 0) (j := 0) rfl rfl (g := (mkF m 1 #[.val (.ref a), .val (.int i)] [(.ref a)])) rfl rfl (hb hby d10_1) fun T1 Y2 => ?_
  show Rn p e below F T1 (mkF m 4 #[.val (.ref a), .val (.int i)] [(.ref b)])
  refine Rn.go (T' := T1) (g' := (mkF m 9 #[.val (.ref a), .val (.int i)] [(.int (((2 : Int32) * i) + (1 : Int32))), (.ref b)])) (fun t k => ?_) ?_
  · show Steps p.tables e below (T1.setTop (mkF m 4 #[.val (.ref a), .val (.int i)] [(.ref b)])) t
    refine XS.iconst Y2.here hx rfl (hb hby d10_4) ?_
    show Steps p.tables e below (T1.setTop (mkF m 5 #[.val (.ref a), .val (.int i)] [(.int (2 : Int32)), (.ref b)])) t
    refine XS.iloadN Y2.here hx rfl (hb hby d10_5) rfl ?_
    show Steps p.tables e below (T1.setTop (mkF m 6 #[.val (.ref a), .val (.int i)] [(.int i), (.int (2 : Int32)), (.ref b)])) t
    refine XS.imul Y2.here hx rfl (hb hby d10_6) rfl ?_
    show Steps p.tables e below (T1.setTop (mkF m 7 #[.val (.ref a), .val (.int i)] [(.int ((2 : Int32) * i)), (.ref b)])) t
    refine XS.iconst Y2.here hx rfl (hb hby d10_7) ?_
    show Steps p.tables e below (T1.setTop (mkF m 8 #[.val (.ref a), .val (.int i)] [(.int (1 : Int32)), (.int ((2 : Int32) * i)), (.ref b)])) t
    refine XS.iadd Y2.here hx rfl (hb hby d10_8) rfl ?_
    show Steps p.tables e below (T1.setTop (mkF m 9 #[.val (.ref a), .val (.int i)] [(.int (((2 : Int32) * i) + (1 : Int32))), (.ref b)])) t
    exact k
  refine On.ild Y2 hx hZ (i := 1) rfl (k := (((2 : Int32) * i) + (1 : Int32))) (x := (own_g L (2 * i.toInt.toNat + 1))) hl.1 hl.2.2 (g := (mkF m 9 #[.val (.ref a), .val (.int i)] [(.int (((2 : Int32) * i) + (1 : Int32))), (.ref b)])) rfl rfl (hb hby d10_9) ?_
  show Rn p e below F T1 (mkF m 10 #[.val (.ref a), .val (.int i)] [(.int (own_g L (2 * i.toInt.toNat + 1)))])
  rw [← hF]; exact On.reti Y2 hx hret hlk (hb hby d10_10) (by decide) (by decide) ⟨rfl, rfl⟩
theorem ef_rm11 (m : MethodId) (a : Addr) (i : Int32) : entryFrame m #[(.ref a), (.int i)] 2 = (mkF m 0 #[.val (.ref a), .val (.int i)] []) := by first | (simp [entryFrame, mkF, argsToLocals, Value.category]; done) | rfl
set_option maxRecDepth 65536 in
set_option maxHeartbeats 40000000 in
theorem rm11 (l : Launch) (Z : State) (a0 : Array Value) (hw : ∀ d ∈ tables_1, d.before a0 Z = true) (n0 : Nat) (a : Addr) (i : Int32) (b : Addr) (R : Int32) (n : Int32) (L : List Int32) (h0 : 0 ≤ i.toInt) (h1 : 2 * i.toInt + 1 < L.length) (h2 : L.length ≤ 8) :
    Con l Z n0 (⟨"com/example/vistrace/vistrace/checker/RunSet", "start", "(I)I"⟩ : MethodName) prog_8_method_7_code 2 (some .int) ({ frames := 0, cells := 0, slots := 0, locals := 0 } : Room) #[(.ref a), (.int i)] [ob a own_C0 (own_F0 (.ref b) (.int R)), ari b .int n L] (fun v D' => v = some (.int (own_g L (2 * i.toInt.toNat))) ∧ D' = [ob a own_C0 (own_F0 (.ref b) (.int R)), ari b .int n L]) := by
  refine Con.of (plainFor_of_name pn0) ?_
  intro p e s m below meth c T cx Y
  obtain ⟨hx, hby, hml, hown, hnm, hret, hlk, hZ⟩ := cx
  rw [ef_rm11]
  generalize hF : Fi Z n0 below s _ _ _ = F
  have e1 : ((2 : Int32) * i).toInt = 2 * i.toInt := own_mul2 h0 (by omega)
  have hl := own_at (L := L) (j := ((2 : Int32) * i)) (k := 2 * i.toInt.toNat) (by omega) (by omega)
  refine Rn.go (T' := T) (g' := (mkF m 1 #[.val (.ref a), .val (.int i)] [(.ref a)])) (fun t k => ?_) ?_
  · show Steps p.tables e below (T.setTop (mkF m 0 #[.val (.ref a), .val (.int i)] [])) t
    refine XS.aloadN Y.here hx rfl (hb hby d11_0) rfl rfl ?_
    show Steps p.tables e below (T.setTop (mkF m 1 #[.val (.ref a), .val (.int i)] [(.ref a)])) t
    exact k
  refine On.getf Y hx hZ hown (w16 hw) (i := 0) (j := 0) rfl rfl (g := (mkF m 1 #[.val (.ref a), .val (.int i)] [(.ref a)])) rfl rfl (hb hby d11_1) fun T1 Y2 => ?_
  show Rn p e below F T1 (mkF m 4 #[.val (.ref a), .val (.int i)] [(.ref b)])
  refine Rn.go (T' := T1) (g' := (mkF m 7 #[.val (.ref a), .val (.int i)] [(.int ((2 : Int32) * i)), (.ref b)])) (fun t k => ?_) ?_
  · show Steps p.tables e below (T1.setTop (mkF m 4 #[.val (.ref a), .val (.int i)] [(.ref b)])) t
    refine XS.iconst Y2.here hx rfl (hb hby d11_4) ?_
    show Steps p.tables e below (T1.setTop (mkF m 5 #[.val (.ref a), .val (.int i)] [(.int (2 : Int32)), (.ref b)])) t
    refine XS.iloadN Y2.here hx rfl (hb hby d11_5) rfl ?_
    show Steps p.tables e below (T1.setTop (mkF m 6 #[.val (.ref a), .val (.int i)] [(.int i), (.int (2 : Int32)), (.ref b)])) t
    refine XS.imul Y2.here hx rfl (hb hby d11_6) rfl ?_
    show Steps p.tables e below (T1.setTop (mkF m 7 #[.val (.ref a), .val (.int i)] [(.int ((2 : Int32) * i)), (.ref b)])) t
    exact k
  refine On.ild Y2 hx hZ (i := 1) rfl (k := ((2 : Int32) * i)) (x := (own_g L (2 * i.toInt.toNat))) hl.1 hl.2.2 (g := (mkF m 7 #[.val (.ref a), .val (.int i)] [(.int ((2 : Int32) * i)), (.ref b)])) rfl rfl (hb hby d11_7) ?_
  show Rn p e below F T1 (mkF m 8 #[.val (.ref a), .val (.int i)] [(.int (own_g L (2 * i.toInt.toNat)))])
  rw [← hF]; exact On.reti Y2 hx hret hlk (hb hby d11_8) (by decide) (by decide) ⟨rfl, rfl⟩
set_option maxRecDepth 65536 in
set_option maxHeartbeats 40000000 in
theorem own_loop {p : Program} {l : Launch} {e : Env} {Rm : Room} {s : State} {m : MethodId} {args : Array Value} {below : List Frame} {meth : Method} {c : Code} {Z : State} {a0 : Array Value} {n0 : Nat} {F : State → Prop} {cells slots : Nat} (hx : p.tables.exec = Jvm.exec) (hby : c.code = prog_8_method_6_code) (hml : c.maxLocals = 3) (hown : s.vm.findClass "com/example/vistrace/vistrace/checker/RunSet" = some m.cls) (hZ : Z.Warmed39 s.vm) (hw : ∀ d ∈ tables_1, d.before a0 Z = true) (a b : Addr) (R n : Int32) (L : List Int32) (hRL : 2 * R.toInt ≤ L.length) (hL8 : L.length ≤ 8) (hcl : cells ≤ Rm.cells) (hsl : slots ≤ Rm.slots) (hfr : 1 ≤ Rm.frames) (hlo : 40 ≤ Rm.locals) :
    ∀ (k : Nat) (i ac : Int32) {T : State}, i.toInt + k = R.toInt → 0 ≤ i.toInt → ac = own_sz L i.toInt.toNat → On p l e Rm s m args below meth c Z n0 T cells slots [ob a own_C0 (own_F0 (.ref b) (.int R)), ari b .int n L] → (∀ (T' : State) (i' : Int32), On p l e Rm s m args below meth c Z n0 T' cells slots [ob a own_C0 (own_F0 (.ref b) (.int R)), ari b .int n L] → Rn p e below F T' (mkF m 32 #[.val (.ref a), .val (.int (own_sz L R.toInt.toNat)), .val (.int i')] [])) → Rn p e below F T (mkF m 4 #[.val (.ref a), .val (.int ac), .val (.int i)] []) := by
  intro k
  induction k with
  | zero =>
    intro i ac T he hi ha Y kk
    refine Rn.go (T' := T) (g' := (mkF m 6 #[.val (.ref a), .val (.int ac), .val (.int i)] [(.ref a), (.int i)])) (fun t k => ?_) ?_
    · show Steps p.tables e below (T.setTop (mkF m 4 #[.val (.ref a), .val (.int ac), .val (.int i)] [])) t
      refine XS.iloadN Y.here hx rfl (hb hby d9_4) rfl ?_
      show Steps p.tables e below (T.setTop (mkF m 5 #[.val (.ref a), .val (.int ac), .val (.int i)] [(.int i)])) t
      refine XS.aloadN Y.here hx rfl (hb hby d9_5) rfl rfl ?_
      show Steps p.tables e below (T.setTop (mkF m 6 #[.val (.ref a), .val (.int ac), .val (.int i)] [(.ref a), (.int i)])) t
      exact k
    refine On.getf Y hx hZ hown (w23 hw) (i := 0) (j := 1) rfl rfl (g := (mkF m 6 #[.val (.ref a), .val (.int ac), .val (.int i)] [(.ref a), (.int i)])) rfl rfl (hb hby d9_6) fun T1 Y2 => ?_
    show Rn p e below F T1 (mkF m 9 #[.val (.ref a), .val (.int ac), .val (.int i)] [(.int R), (.int i)])
    refine Rn.go (T' := T1) (g' := (mkF m 32 #[.val (.ref a), .val (.int ac), .val (.int i)] [])) (fun t k => XS.icmpYes Y2.here hx rfl (pc0 := 9) (pc' := 32) rfl (hb hby d9_9) rfl (flt (by rw [Int32.lt_iff_toInt_lt]; omega)).2.1 (by decide) (by decide) k) ?_
    have z : i.toInt.toNat = R.toInt.toNat := by omega
    rw [z] at ha
    rw [ha]
    exact kk _ _ Y2
  | succ k ih =>
    intro i ac T he hi ha Y kk
    have ei : (i + 1).toInt = i.toInt + 1 := own_addI (k := 1) rfl (by omega) (by omega)
    have eni : (i + 1).toInt.toNat = i.toInt.toNat + 1 := by omega
    refine Rn.go (T' := T) (g' := (mkF m 6 #[.val (.ref a), .val (.int ac), .val (.int i)] [(.ref a), (.int i)])) (fun t k => ?_) ?_
    · show Steps p.tables e below (T.setTop (mkF m 4 #[.val (.ref a), .val (.int ac), .val (.int i)] [])) t
      refine XS.iloadN Y.here hx rfl (hb hby d9_4) rfl ?_
      show Steps p.tables e below (T.setTop (mkF m 5 #[.val (.ref a), .val (.int ac), .val (.int i)] [(.int i)])) t
      refine XS.aloadN Y.here hx rfl (hb hby d9_5) rfl rfl ?_
      show Steps p.tables e below (T.setTop (mkF m 6 #[.val (.ref a), .val (.int ac), .val (.int i)] [(.ref a), (.int i)])) t
      exact k
    refine On.getf Y hx hZ hown (w23 hw) (i := 0) (j := 1) rfl rfl (g := (mkF m 6 #[.val (.ref a), .val (.int ac), .val (.int i)] [(.ref a), (.int i)])) rfl rfl (hb hby d9_6) fun T1 Y2 => ?_
    show Rn p e below F T1 (mkF m 9 #[.val (.ref a), .val (.int ac), .val (.int i)] [(.int R), (.int i)])
    refine Rn.go (T' := T1) (g' := (mkF m 12 #[.val (.ref a), .val (.int ac), .val (.int i)] [])) (fun t k => XS.icmpNo Y2.here hx rfl (hb hby d9_9) rfl (tlt (by rw [Int32.lt_iff_toInt_lt]; omega)).2.1 k) ?_
    refine Rn.go (T' := T1) (g' := (mkF m 15 #[.val (.ref a), .val (.int ac), .val (.int i)] [(.int i), (.ref a), (.int ac)])) (fun t k => ?_) ?_
    · show Steps p.tables e below (T1.setTop (mkF m 12 #[.val (.ref a), .val (.int ac), .val (.int i)] [])) t
      refine XS.iloadN Y2.here hx rfl (hb hby d9_12) rfl ?_
      show Steps p.tables e below (T1.setTop (mkF m 13 #[.val (.ref a), .val (.int ac), .val (.int i)] [(.int ac)])) t
      refine XS.aloadN Y2.here hx rfl (hb hby d9_13) rfl rfl ?_
      show Steps p.tables e below (T1.setTop (mkF m 14 #[.val (.ref a), .val (.int ac), .val (.int i)] [(.ref a), (.int ac)])) t
      refine XS.iloadN Y2.here hx rfl (hb hby d9_14) rfl ?_
      show Steps p.tables e below (T1.setTop (mkF m 15 #[.val (.ref a), .val (.int ac), .val (.int i)] [(.int i), (.ref a), (.int ac)])) t
      exact k
    refine On.virtual Y2 hx hZ (y := (⟨"com/example/vistrace/vistrace/checker/RunSet", "end", "(I)I"⟩ : MethodName)) (C := "com/example/vistrace/vistrace/checker/RunSet") hown (w52 hw) (w53 hw) (w54 hw) (w55 hw) (w56 hw) (w7 hw) (by decide) (a := a) (argsL := [(.int i)]) (rest := [(.int ac)]) (i := 0) rfl (rm10 l Z a0 hw n0 a i b R n L hi (by omega) (by omega)) (W := 1) hfr (Nat.le_trans (by decide) hlo) hcl hsl (g := (mkF m 15 #[.val (.ref a), .val (.int ac), .val (.int i)] [(.int i), (.ref a), (.int ac)])) rfl (by rw [hml]; rfl) (lenOf pd3 rfl) rfl (by show 2 * 0 + _ ≤ _; exact Nat.le_of_eq rfl) (hb hby d9_15) ?_
    intro T3 u5 D6 hp7 Y4
    obtain ⟨r15, hr15, rfl, rfl⟩ : ∃ z : Int32, z = (own_g L (2 * i.toInt.toNat + 1)) ∧ u5 = some (.int z) ∧ D6 = _ := ⟨_, rfl, hp7.1, hp7.2⟩
    replace Y4 : On p l e _ s m _ below meth c Z n0 T3 cells slots [ob a own_C0 (own_F0 (.ref b) (.int R)), ari b .int n L] := Y4
    show Rn p e below F T3 (mkF m 18 #[.val (.ref a), .val (.int ac), .val (.int i)] [(.int r15), (.int ac)])
    refine Rn.go (T' := T3) (g' := (mkF m 20 #[.val (.ref a), .val (.int ac), .val (.int i)] [(.int i), (.ref a), (.int r15), (.int ac)])) (fun t k => ?_) ?_
    · show Steps p.tables e below (T3.setTop (mkF m 18 #[.val (.ref a), .val (.int ac), .val (.int i)] [(.int r15), (.int ac)])) t
      refine XS.aloadN Y4.here hx rfl (hb hby d9_18) rfl rfl ?_
      show Steps p.tables e below (T3.setTop (mkF m 19 #[.val (.ref a), .val (.int ac), .val (.int i)] [(.ref a), (.int r15), (.int ac)])) t
      refine XS.iloadN Y4.here hx rfl (hb hby d9_19) rfl ?_
      show Steps p.tables e below (T3.setTop (mkF m 20 #[.val (.ref a), .val (.int ac), .val (.int i)] [(.int i), (.ref a), (.int r15), (.int ac)])) t
      exact k
    refine On.virtual Y4 hx hZ (y := (⟨"com/example/vistrace/vistrace/checker/RunSet", "start", "(I)I"⟩ : MethodName)) (C := "com/example/vistrace/vistrace/checker/RunSet") hown (w57 hw) (w58 hw) (w59 hw) (w60 hw) (w61 hw) (w7 hw) (by decide) (a := a) (argsL := [(.int i)]) (rest := [(.int r15), (.int ac)]) (i := 0) rfl (rm11 l Z a0 hw n0 a i b R n L hi (by omega) (by omega)) (W := 2) hfr (Nat.le_trans (by decide) hlo) hcl hsl (g := (mkF m 20 #[.val (.ref a), .val (.int ac), .val (.int i)] [(.int i), (.ref a), (.int r15), (.int ac)])) rfl (by rw [hml]; rfl) (lenOf pd3 rfl) rfl (by show 2 * 0 + _ ≤ _; exact Nat.le_of_eq rfl) (hb hby d9_20) ?_
    intro T8 u10 D11 hp12 Y9
    obtain ⟨r20, hr20, rfl, rfl⟩ : ∃ z : Int32, z = (own_g L (2 * i.toInt.toNat)) ∧ u10 = some (.int z) ∧ D11 = _ := ⟨_, rfl, hp12.1, hp12.2⟩
    replace Y9 : On p l e _ s m _ below meth c Z n0 T8 cells slots [ob a own_C0 (own_F0 (.ref b) (.int R)), ari b .int n L] := Y9
    show Rn p e below F T8 (mkF m 23 #[.val (.ref a), .val (.int ac), .val (.int i)] [(.int r20), (.int r15), (.int ac)])
    refine Rn.go (T' := T8) (g' := (mkF m 4 #[.val (.ref a), .val (.int (ac + (r15 - r20))), .val (.int (i + (1 : Int32)))] [])) (fun t k => ?_) ?_
    · show Steps p.tables e below (T8.setTop (mkF m 23 #[.val (.ref a), .val (.int ac), .val (.int i)] [(.int r20), (.int r15), (.int ac)])) t
      refine XS.isub Y9.here hx rfl (hb hby d9_23) rfl ?_
      show Steps p.tables e below (T8.setTop (mkF m 24 #[.val (.ref a), .val (.int ac), .val (.int i)] [(.int (r15 - r20)), (.int ac)])) t
      refine XS.iadd Y9.here hx rfl (hb hby d9_24) rfl ?_
      show Steps p.tables e below (T8.setTop (mkF m 25 #[.val (.ref a), .val (.int ac), .val (.int i)] [(.int (ac + (r15 - r20)))])) t
      refine XS.istoreN Y9.here hx rfl (hb hby d9_25) rfl (l' := #[.val (.ref a), .val (.int (ac + (r15 - r20))), .val (.int i)]) rfl ?_
      show Steps p.tables e below (T8.setTop (mkF m 26 #[.val (.ref a), .val (.int (ac + (r15 - r20))), .val (.int i)] [])) t
      refine XS.iinc Y9.here hx rfl (hb hby d9_26) rfl (l' := #[.val (.ref a), .val (.int (ac + (r15 - r20))), .val (.int (i + (1 : Int32)))]) rfl ?_
      show Steps p.tables e below (T8.setTop (mkF m 29 #[.val (.ref a), .val (.int (ac + (r15 - r20))), .val (.int (i + (1 : Int32)))] [])) t
      refine XS.goto Y9.here hx rfl (pc0 := 29) (pc' := 4) rfl (hb hby d9_29) (by decide) (by decide) ?_
      show Steps p.tables e below (T8.setTop (mkF m 4 #[.val (.ref a), .val (.int (ac + (r15 - r20))), .val (.int (i + (1 : Int32)))] [])) t
      exact k
    exact ih (i + 1) _ (by omega) (by omega) (by rw [ha, hr15, hr20, eni, own_szS]) Y9 kk
theorem ef_rm9 (m : MethodId) (a : Addr) : entryFrame m #[(.ref a)] 3 = (mkF m 0 #[.val (.ref a), .unset, .unset] []) := by first | (simp [entryFrame, mkF, argsToLocals, Value.category]; done) | rfl
set_option maxRecDepth 65536 in
set_option maxHeartbeats 40000000 in
theorem rm9 (l : Launch) (Z : State) (a0 : Array Value) (hw : ∀ d ∈ tables_1, d.before a0 Z = true) (n0 : Nat) (a : Addr) (b : Addr) (R : Int32) (n : Int32) (L : List Int32) (hR0 : 0 ≤ R.toInt) (hRL : 2 * R.toInt ≤ L.length) (hL8 : L.length ≤ 8) :
    Con l Z n0 (⟨"com/example/vistrace/vistrace/checker/RunSet", "size", "()I"⟩ : MethodName) prog_8_method_6_code 3 (some .int) ({ frames := 1, cells := 0, slots := 0, locals := 40 } : Room) #[(.ref a)] [ob a own_C0 (own_F0 (.ref b) (.int R)), ari b .int n L] (fun v D' => v = some (.int (own_sz L R.toInt.toNat)) ∧ D' = [ob a own_C0 (own_F0 (.ref b) (.int R)), ari b .int n L]) := by
  refine Con.of (plainFor_of_name pn0) ?_
  intro p e s m below meth c T cx Y
  obtain ⟨hx, hby, hml, hown, hnm, hret, hlk, hZ⟩ := cx
  rw [ef_rm9]
  generalize hF : Fi Z n0 below s _ _ _ = F
  refine Rn.go (T' := T) (g' := (mkF m 4 #[.val (.ref a), .val (.int (0 : Int32)), .val (.int (0 : Int32))] [])) (fun t k => ?_) ?_
  · show Steps p.tables e below (T.setTop (mkF m 0 #[.val (.ref a), .unset, .unset] [])) t
    refine XS.iconst Y.here hx rfl (hb hby d9_0) ?_
    show Steps p.tables e below (T.setTop (mkF m 1 #[.val (.ref a), .unset, .unset] [(.int (0 : Int32))])) t
    refine XS.istoreN Y.here hx rfl (hb hby d9_1) rfl (l' := #[.val (.ref a), .val (.int (0 : Int32)), .unset]) rfl ?_
    show Steps p.tables e below (T.setTop (mkF m 2 #[.val (.ref a), .val (.int (0 : Int32)), .unset] [])) t
    refine XS.iconst Y.here hx rfl (hb hby d9_2) ?_
    show Steps p.tables e below (T.setTop (mkF m 3 #[.val (.ref a), .val (.int (0 : Int32)), .unset] [(.int (0 : Int32))])) t
    refine XS.istoreN Y.here hx rfl (hb hby d9_3) rfl (l' := #[.val (.ref a), .val (.int (0 : Int32)), .val (.int (0 : Int32))]) rfl ?_
    show Steps p.tables e below (T.setTop (mkF m 4 #[.val (.ref a), .val (.int (0 : Int32)), .val (.int (0 : Int32))] [])) t
    exact k
  refine own_loop hx hby hml hown hZ hw a b R n L hRL hL8 (by decide) (by decide) (by decide) (by decide) R.toInt.toNat 0 0 (by have : (0 : Int32).toInt = 0 := rfl; omega) (by decide) rfl Y fun T9 i9 Y9 => ?_
  refine Rn.go (T' := T9) (g' := (mkF m 33 #[.val (.ref a), .val (.int (own_sz L R.toInt.toNat)), .val (.int i9)] [(.int (own_sz L R.toInt.toNat))])) (fun t k => ?_) ?_
  · show Steps p.tables e below (T9.setTop (mkF m 32 #[.val (.ref a), .val (.int (own_sz L R.toInt.toNat)), .val (.int i9)] [])) t
    refine XS.iloadN Y9.here hx rfl (hb hby d9_32) rfl ?_
    show Steps p.tables e below (T9.setTop (mkF m 33 #[.val (.ref a), .val (.int (own_sz L R.toInt.toNat)), .val (.int i9)] [(.int (own_sz L R.toInt.toNat))])) t
    exact k
  rw [← hF]; exact On.reti Y9 hx hret hlk (hb hby d9_33) (by decide) (by decide) ⟨rfl, rfl⟩
theorem own_m3 (x : Int32) : 0 ≤ (x &&& (3 : Int32)).toInt ∧ (x &&& (3 : Int32)).toInt ≤ 3 := by
  have h := Jvm.Kit.i32_mask x 3 (k := 2) (by decide) (by decide); omega
theorem own_v0 (x : Int32) : 0 ≤ (x &&& (1073741823 : Int32)).toInt ∧ (x &&& (1073741823 : Int32)).toInt < 1073741824 := by
  have h := Jvm.Kit.i32_mask x 1073741823 (k := 30) (by decide) (by decide); omega
theorem own_v1 {v x : Int32} (h0 : 0 ≤ v.toInt) (h1 : v.toInt < 1073741900) : v.toInt + 1 ≤ ((v + (1 : Int32)) + (x &&& (3 : Int32))).toInt ∧ ((v + (1 : Int32)) + (x &&& (3 : Int32))).toInt ≤ v.toInt + 4 := by
  have h := own_m3 x
  have e1 : (v + (1 : Int32)).toInt = v.toInt + 1 := own_addI (k := 1) rfl (by omega) (by omega)
  rw [own_addI (k := (x &&& (3 : Int32)).toInt) rfl (by omega) (by omega), e1]; omega
theorem own_bit {b x : Int32} (h : b = (if x = (0 : Int32) then (0 : Int32) else (1 : Int32))) : b = 0 ∨ b = 1 := by
  rw [h]; by_cases q : x = 0
  · exact Or.inl (if_pos q)
  · exact Or.inr (if_neg q)
theorem own_narrow {s : State} {args : Array Value} {C n d : String} {a0 : Array Value} (h1 : (Jvm.Cond.arrayOf (Jvm.Term.static C n d) .int).value args s none s [] = some true) (h2 : (Jvm.Cond.exactly (Jvm.Term.static C n d) "[I").value args s none s [] = some true) (h3 : (Jvm.Cond.eq (Jvm.Term.length (Jvm.Term.static C n d)) (Jvm.Term.int (0 : Int32))).value args s none s [] = some true)
    (w1 : (Jvm.Cond.initialized C).before a0 s = true) (w2 : (Jvm.Cond.laysStatic C n d).before a0 s = true) : ∃ nb, Sta s s.heap C n d (.ref nb) ∧ Ary s s.heap nb .int (0 : Int32) [] := by
  obtain ⟨nb, ev, S, -⟩ := own_fact h2 w1 w2
  obtain ⟨c, A⟩ := Arr.start ev h1
  have hA := A.fin (U := s) (Vm.Alike.refl _)
  have e := eqv_i (y := (0 : Int32)) rfl h3
  rw [own_le ev hA] at e
  by_cases q : c.slots.size < 2 ^ 31
  · rw [if_pos q] at e
    have e2 : c.slots.size.toInt32 = (0 : Int32) := Value.int.inj (Option.some.inj e)
    have e3 := len_toInt q
    rw [e2] at e3
    have e4 : (0 : Int32).toInt = 0 := rfl
    have e5 : c.slots.size = 0 := by omega
    exact ⟨nb, S, ⟨c.cls, ⟨c, A, rfl, by rw [e5]; rfl, by decide, fun k hk => absurd hk (by omega), fun k hk => absurd hk (by omega)⟩, fun C hC => by cases hC⟩, rfl⟩
  · rw [if_neg q] at e; cases e
set_option maxRecDepth 65536 in
set_option maxHeartbeats 40000000 in
theorem own_f1 {nq : Int32} {dd : Int32} {r10 : Int32} {k0 : Int32} {k1 : Int32} {k2 : Int32} {k3 : Int32} (hb_nq : nq = 0 ∨ nq = 1 ∨ nq = 2 ∨ nq = 3) (hb_dd : dd = 0 ∨ dd = 1 ∨ dd = 2 ∨ dd = 3) (hr10 : r10 = (own_min dd nq)) (hk0 : k0 = (0 : Int32)) (hk1 : k1 = (if nq < (1 : Int32) then k0 else (k0 + 1))) (hk2 : k2 = (if nq < (2 : Int32) then k1 else (k1 + 1))) (hk3 : k3 = (if nq < (3 : Int32) then k2 else (k2 + 1))) (hc120 : ¬ r10 < (1 : Int32)) : k3 ≠ 0 := by
  rcases hb_nq with rfl | rfl | rfl | rfl <;> rcases hb_dd with rfl | rfl | rfl | rfl <;> subst hr10 hk0 hk1 hk2 hk3 <;> revert hc120 <;> decide
set_option maxRecDepth 65536 in
set_option maxHeartbeats 40000000 in
theorem own_f2 {nq : Int32} {dd : Int32} {r10 : Int32} {k0 : Int32} {k1 : Int32} {k2 : Int32} {k3 : Int32} {k4 : Int32} (hb_nq : nq = 0 ∨ nq = 1 ∨ nq = 2 ∨ nq = 3) (hb_dd : dd = 0 ∨ dd = 1 ∨ dd = 2 ∨ dd = 3) (hr10 : r10 = (own_min dd nq)) (hk0 : k0 = (0 : Int32)) (hk1 : k1 = (if nq < (1 : Int32) then k0 else (k0 + 1))) (hk2 : k2 = (if nq < (2 : Int32) then k1 else (k1 + 1))) (hk3 : k3 = (if nq < (3 : Int32) then k2 else (k2 + 1))) (hk4 : k4 = (if r10 < (1 : Int32) then k3 else (k3 - 1))) (hc131 : ¬ r10 < (2 : Int32)) : k4 ≠ 0 := by
  rcases hb_nq with rfl | rfl | rfl | rfl <;> rcases hb_dd with rfl | rfl | rfl | rfl <;> subst hr10 hk0 hk1 hk2 hk3 hk4 <;> revert hc131 <;> decide
set_option maxRecDepth 65536 in
set_option maxHeartbeats 40000000 in
theorem own_f3 {nq : Int32} {dd : Int32} {r10 : Int32} {k0 : Int32} {k1 : Int32} {k2 : Int32} {k3 : Int32} {k4 : Int32} {k5 : Int32} (hb_nq : nq = 0 ∨ nq = 1 ∨ nq = 2 ∨ nq = 3) (hb_dd : dd = 0 ∨ dd = 1 ∨ dd = 2 ∨ dd = 3) (hr10 : r10 = (own_min dd nq)) (hk0 : k0 = (0 : Int32)) (hk1 : k1 = (if nq < (1 : Int32) then k0 else (k0 + 1))) (hk2 : k2 = (if nq < (2 : Int32) then k1 else (k1 + 1))) (hk3 : k3 = (if nq < (3 : Int32) then k2 else (k2 + 1))) (hk4 : k4 = (if r10 < (1 : Int32) then k3 else (k3 - 1))) (hk5 : k5 = (if r10 < (2 : Int32) then k4 else (k4 - 1))) (hc142 : ¬ r10 < (3 : Int32)) : k5 ≠ 0 := by
  rcases hb_nq with rfl | rfl | rfl | rfl <;> rcases hb_dd with rfl | rfl | rfl | rfl <;> subst hr10 hk0 hk1 hk2 hk3 hk4 hk5 <;> revert hc142 <;> decide
set_option maxRecDepth 65536 in
set_option maxHeartbeats 40000000 in
theorem own_f4 {nq : Int32} {dd : Int32} {v27 : Int32} {r10 : Int32} {k0 : Int32} {k1 : Int32} {k2 : Int32} {k3 : Int32} {k4 : Int32} {k5 : Int32} {k6 : Int32} {k7 : Int32} {e13 : Int32} (hb_nq : nq = 0 ∨ nq = 1 ∨ nq = 2 ∨ nq = 3) (hb_dd : dd = 0 ∨ dd = 1 ∨ dd = 2 ∨ dd = 3) (hb_v27 : v27 = 0 ∨ v27 = 1) (hr10 : r10 = (own_min dd nq)) (hk0 : k0 = (0 : Int32)) (hk1 : k1 = (if nq < (1 : Int32) then k0 else (k0 + 1))) (hk2 : k2 = (if nq < (2 : Int32) then k1 else (k1 + 1))) (hk3 : k3 = (if nq < (3 : Int32) then k2 else (k2 + 1))) (hk4 : k4 = (if r10 < (1 : Int32) then k3 else (k3 - 1))) (hk5 : k5 = (if r10 < (2 : Int32) then k4 else (k4 - 1))) (hk6 : k6 = (if r10 < (3 : Int32) then k5 else (k5 - 1))) (hk7 : k7 = (if v27 = (0 : Int32) then k6 else (k6 + 1))) (he13 : e13 = (if v27 = (0 : Int32) then (nq - r10) else ((nq - r10) + (1 : Int32)))) : k7 = e13 := by
  rcases hb_nq with rfl | rfl | rfl | rfl <;> rcases hb_dd with rfl | rfl | rfl | rfl <;> rcases hb_v27 with rfl | rfl <;> subst hr10 hk0 hk1 hk2 hk3 hk4 hk5 hk6 hk7 he13 <;> decide
theorem ef_rm0 (m : MethodId) (p0 : Int32) (p1 : Int32) (p2 : Int32) (p3 : Int32) (p4 : Int32) : entryFrame m #[(.int p0), (.int p1), (.int p2), (.int p3), (.int p4)] maxLocals = (mkF m 0 #[.val (.int p0), .val (.int p1), .val (.int p2), .val (.int p3), .val (.int p4), .unset, .unset, .unset, .unset, .unset, .unset, .unset, .unset, .unset] []) := by first | (simp [entryFrame, mkF, argsToLocals, Value.category, maxLocals]; done) | rfl
set_option maxRecDepth 65536 in
set_option maxHeartbeats 40000000 in
theorem rm0 (l : Launch) (Z : State) (a0 : Array Value) (hw : ∀ d ∈ tables_1, d.before a0 Z = true) (n0 : Nat) (p0 : Int32) (p1 : Int32) (p2 : Int32) (p3 : Int32) (p4 : Int32) (nb : Addr) (hS : Sta Z Z.heap "com/example/vistrace/vistrace/checker/RunSet" "NONE" "[I" (.ref nb)) (hA : Ary Z Z.heap nb .int (0 : Int32) []) :
    Con l Z n0 x code maxLocals ret room_1 #[(.int p0), (.int p1), (.int p2), (.int p3), (.int p4)] [] (fun v _ => v = some (.int 1)) := by
  refine Con.of (plainFor_of_name pn2) ?_
  intro p e s m below meth c T cx Y
  obtain ⟨hx, hby, hml, hown, hnm, hret, hlk, hZ⟩ := cx
  rw [ef_rm0]
  generalize hF : Fi Z n0 below s _ _ _ = F
  refine Rn.go (T' := T) (g' := (mkF m 5 #[.val (.int p0), .val (.int p1), .val (.int p2), .val (.int p3), .val (.int p4), .val (.int (p2 &&& (3 : Int32))), .unset, .unset, .unset, .unset, .unset, .unset, .unset, .unset] [])) (fun t k => ?_) ?_
  · show Steps p.tables e below (T.setTop (mkF m 0 #[.val (.int p0), .val (.int p1), .val (.int p2), .val (.int p3), .val (.int p4), .unset, .unset, .unset, .unset, .unset, .unset, .unset, .unset, .unset] [])) t
    refine XS.iloadN Y.here hx rfl (hb hby at_0) rfl ?_
    show Steps p.tables e below (T.setTop (mkF m 1 #[.val (.int p0), .val (.int p1), .val (.int p2), .val (.int p3), .val (.int p4), .unset, .unset, .unset, .unset, .unset, .unset, .unset, .unset, .unset] [(.int p2)])) t
    refine XS.iconst Y.here hx rfl (hb hby at_1) ?_
    show Steps p.tables e below (T.setTop (mkF m 2 #[.val (.int p0), .val (.int p1), .val (.int p2), .val (.int p3), .val (.int p4), .unset, .unset, .unset, .unset, .unset, .unset, .unset, .unset, .unset] [(.int (3 : Int32)), (.int p2)])) t
    refine XS.iand Y.here hx rfl (hb hby at_2) rfl ?_
    show Steps p.tables e below (T.setTop (mkF m 3 #[.val (.int p0), .val (.int p1), .val (.int p2), .val (.int p3), .val (.int p4), .unset, .unset, .unset, .unset, .unset, .unset, .unset, .unset, .unset] [(.int (p2 &&& (3 : Int32)))])) t
    refine XS.istore Y.here hx rfl (hb hby at_3) rfl (l' := #[.val (.int p0), .val (.int p1), .val (.int p2), .val (.int p3), .val (.int p4), .val (.int (p2 &&& (3 : Int32))), .unset, .unset, .unset, .unset, .unset, .unset, .unset, .unset]) rfl ?_
    show Steps p.tables e below (T.setTop (mkF m 5 #[.val (.int p0), .val (.int p1), .val (.int p2), .val (.int p3), .val (.int p4), .val (.int (p2 &&& (3 : Int32))), .unset, .unset, .unset, .unset, .unset, .unset, .unset, .unset] [])) t
    exact k
  obtain ⟨nq, hnq⟩ : ∃ z : Int32, z = (p2 &&& (3 : Int32)) := ⟨_, rfl⟩
  rw [← hnq]
  have bnq : nq = 0 ∨ nq = 1 ∨ nq = 2 ∨ nq = 3 := by have h := own_m3 p2; rw [← hnq] at h; exact own_le3 h.1 h.2
  refine Rn.go (T' := T) (g' := (mkF m 8 #[.val (.int p0), .val (.int p1), .val (.int p2), .val (.int p3), .val (.int p4), .val (.int nq), .unset, .unset, .unset, .unset, .unset, .unset, .unset, .unset] [(.int (p3 &&& (3 : Int32)))])) (fun t k => ?_) ?_
  · show Steps p.tables e below (T.setTop (mkF m 5 #[.val (.int p0), .val (.int p1), .val (.int p2), .val (.int p3), .val (.int p4), .val (.int nq), .unset, .unset, .unset, .unset, .unset, .unset, .unset, .unset] [])) t
    refine XS.iloadN Y.here hx rfl (hb hby at_5) rfl ?_
    show Steps p.tables e below (T.setTop (mkF m 6 #[.val (.int p0), .val (.int p1), .val (.int p2), .val (.int p3), .val (.int p4), .val (.int nq), .unset, .unset, .unset, .unset, .unset, .unset, .unset, .unset] [(.int p3)])) t
    refine XS.iconst Y.here hx rfl (hb hby at_6) ?_
    show Steps p.tables e below (T.setTop (mkF m 7 #[.val (.int p0), .val (.int p1), .val (.int p2), .val (.int p3), .val (.int p4), .val (.int nq), .unset, .unset, .unset, .unset, .unset, .unset, .unset, .unset] [(.int (3 : Int32)), (.int p3)])) t
    refine XS.iand Y.here hx rfl (hb hby at_7) rfl ?_
    show Steps p.tables e below (T.setTop (mkF m 8 #[.val (.int p0), .val (.int p1), .val (.int p2), .val (.int p3), .val (.int p4), .val (.int nq), .unset, .unset, .unset, .unset, .unset, .unset, .unset, .unset] [(.int (p3 &&& (3 : Int32)))])) t
    exact k
  obtain ⟨dd, hdd⟩ : ∃ z : Int32, z = (p3 &&& (3 : Int32)) := ⟨_, rfl⟩
  rw [← hdd]
  have bdd : dd = 0 ∨ dd = 1 ∨ dd = 2 ∨ dd = 3 := by have h := own_m3 p3; rw [← hdd] at h; exact own_le3 h.1 h.2
  refine Rn.go (T' := T) (g' := (mkF m 10 #[.val (.int p0), .val (.int p1), .val (.int p2), .val (.int p3), .val (.int p4), .val (.int nq), .unset, .unset, .unset, .unset, .unset, .unset, .unset, .unset] [(.int nq), (.int dd)])) (fun t k => ?_) ?_
  · show Steps p.tables e below (T.setTop (mkF m 8 #[.val (.int p0), .val (.int p1), .val (.int p2), .val (.int p3), .val (.int p4), .val (.int nq), .unset, .unset, .unset, .unset, .unset, .unset, .unset, .unset] [(.int dd)])) t
    refine XS.iload Y.here hx rfl (hb hby at_8) rfl ?_
    show Steps p.tables e below (T.setTop (mkF m 10 #[.val (.int p0), .val (.int p1), .val (.int p2), .val (.int p3), .val (.int p4), .val (.int nq), .unset, .unset, .unset, .unset, .unset, .unset, .unset, .unset] [(.int nq), (.int dd)])) t
    exact k
  refine On.static Y hx hZ (y := (⟨"java/lang/Math", "min", "(II)I"⟩ : MethodName)) hown (w0 hw) (w1 hw) (w3 hw) (w2 hw) (by decide) (argsL := [(.int dd), (.int nq)]) (rest := []) (rm1 l Z a0 hw n0 dd nq []) (W := 0) (by decide) (by decide) (by decide) (by decide) (g := (mkF m 10 #[.val (.int p0), .val (.int p1), .val (.int p2), .val (.int p3), .val (.int p4), .val (.int nq), .unset, .unset, .unset, .unset, .unset, .unset, .unset, .unset] [(.int nq), (.int dd)])) rfl (by rw [hml]; rfl) (lenOf pd0 rfl) rfl (by show 2 * 0 + _ ≤ _; exact Nat.le_of_eq rfl) (hb hby at_10) ?_
  intro T1 u3 D4 hp5 Y2
  obtain ⟨r10, hr10, rfl, rfl⟩ : ∃ z : Int32, z = (own_min dd nq) ∧ u3 = some (.int z) ∧ D4 = _ := ⟨_, rfl, hp5.1, hp5.2⟩
  replace Y2 : On p l e _ s m _ below meth c Z n0 T1 0 0 [] := Y2
  show Rn p e below F T1 (mkF m 13 #[.val (.int p0), .val (.int p1), .val (.int p2), .val (.int p3), .val (.int p4), .val (.int nq), .unset, .unset, .unset, .unset, .unset, .unset, .unset, .unset] [(.int r10)])
  refine Rn.go (T' := T1) (g' := (mkF m 19 #[.val (.int p0), .val (.int p1), .val (.int p2), .val (.int p3), .val (.int p4), .val (.int nq), .val (.int r10), .unset, .unset, .unset, .unset, .unset, .unset, .unset] [(.int (p4 &&& (1 : Int32)))])) (fun t k => ?_) ?_
  · show Steps p.tables e below (T1.setTop (mkF m 13 #[.val (.int p0), .val (.int p1), .val (.int p2), .val (.int p3), .val (.int p4), .val (.int nq), .unset, .unset, .unset, .unset, .unset, .unset, .unset, .unset] [(.int r10)])) t
    refine XS.istore Y2.here hx rfl (hb hby at_13) rfl (l' := #[.val (.int p0), .val (.int p1), .val (.int p2), .val (.int p3), .val (.int p4), .val (.int nq), .val (.int r10), .unset, .unset, .unset, .unset, .unset, .unset, .unset]) rfl ?_
    show Steps p.tables e below (T1.setTop (mkF m 15 #[.val (.int p0), .val (.int p1), .val (.int p2), .val (.int p3), .val (.int p4), .val (.int nq), .val (.int r10), .unset, .unset, .unset, .unset, .unset, .unset, .unset] [])) t
    refine XS.iload Y2.here hx rfl (hb hby at_15) rfl ?_
    show Steps p.tables e below (T1.setTop (mkF m 17 #[.val (.int p0), .val (.int p1), .val (.int p2), .val (.int p3), .val (.int p4), .val (.int nq), .val (.int r10), .unset, .unset, .unset, .unset, .unset, .unset, .unset] [(.int p4)])) t
    refine XS.iconst Y2.here hx rfl (hb hby at_17) ?_
    show Steps p.tables e below (T1.setTop (mkF m 18 #[.val (.int p0), .val (.int p1), .val (.int p2), .val (.int p3), .val (.int p4), .val (.int nq), .val (.int r10), .unset, .unset, .unset, .unset, .unset, .unset, .unset] [(.int (1 : Int32)), (.int p4)])) t
    refine XS.iand Y2.here hx rfl (hb hby at_18) rfl ?_
    show Steps p.tables e below (T1.setTop (mkF m 19 #[.val (.int p0), .val (.int p1), .val (.int p2), .val (.int p3), .val (.int p4), .val (.int nq), .val (.int r10), .unset, .unset, .unset, .unset, .unset, .unset, .unset] [(.int (p4 &&& (1 : Int32)))])) t
    exact k
  obtain ⟨v27, hv27⟩ : ∃ z : Int32, z = (if (p4 &&& (1 : Int32)) = (0 : Int32) then (0 : Int32) else (1 : Int32)) := ⟨_, rfl⟩
  refine Rn.go (T' := T1) (g' := (mkF m 27 #[.val (.int p0), .val (.int p1), .val (.int p2), .val (.int p3), .val (.int p4), .val (.int nq), .val (.int r10), .unset, .unset, .unset, .unset, .unset, .unset, .unset] [(.int v27)])) (fun t k => ?_) ?_
  · show Steps p.tables e below (T1.setTop (mkF m 19 #[.val (.int p0), .val (.int p1), .val (.int p2), .val (.int p3), .val (.int p4), .val (.int nq), .val (.int r10), .unset, .unset, .unset, .unset, .unset, .unset, .unset] [(.int (p4 &&& (1 : Int32)))])) t
    by_cases hc19 : (p4 &&& (1 : Int32)) = (0 : Int32)
    · refine XS.ifYes Y2.here hx rfl (pc0 := 19) (pc' := 26) rfl (hb hby at_19) rfl ((if0 _ _).trans (teq hc19).1) (by decide) (by decide) ?_
      show Steps p.tables e below (T1.setTop (mkF m 26 #[.val (.int p0), .val (.int p1), .val (.int p2), .val (.int p3), .val (.int p4), .val (.int nq), .val (.int r10), .unset, .unset, .unset, .unset, .unset, .unset, .unset] [])) t
      refine XS.iconst Y2.here hx rfl (hb hby at_26) ?_
      show Steps p.tables e below (T1.setTop (mkF m 27 #[.val (.int p0), .val (.int p1), .val (.int p2), .val (.int p3), .val (.int p4), .val (.int nq), .val (.int r10), .unset, .unset, .unset, .unset, .unset, .unset, .unset] [(.int (0 : Int32))])) t
      rw [hv27, if_pos hc19] at k
      exact k
    · refine XS.ifNo Y2.here hx rfl (hb hby at_19) rfl ((if0 _ _).trans (feq hc19).1) ?_
      show Steps p.tables e below (T1.setTop (mkF m 22 #[.val (.int p0), .val (.int p1), .val (.int p2), .val (.int p3), .val (.int p4), .val (.int nq), .val (.int r10), .unset, .unset, .unset, .unset, .unset, .unset, .unset] [])) t
      refine XS.iconst Y2.here hx rfl (hb hby at_22) ?_
      show Steps p.tables e below (T1.setTop (mkF m 23 #[.val (.int p0), .val (.int p1), .val (.int p2), .val (.int p3), .val (.int p4), .val (.int nq), .val (.int r10), .unset, .unset, .unset, .unset, .unset, .unset, .unset] [(.int (1 : Int32))])) t
      refine XS.goto Y2.here hx rfl (pc0 := 23) (pc' := 27) rfl (hb hby at_23) (by decide) (by decide) ?_
      show Steps p.tables e below (T1.setTop (mkF m 27 #[.val (.int p0), .val (.int p1), .val (.int p2), .val (.int p3), .val (.int p4), .val (.int nq), .val (.int r10), .unset, .unset, .unset, .unset, .unset, .unset, .unset] [(.int (1 : Int32))])) t
      rw [hv27, if_neg hc19] at k
      exact k
  refine Rn.go (T' := T1) (g' := (mkF m 35 #[.val (.int p0), .val (.int p1), .val (.int p2), .val (.int p3), .val (.int p4), .val (.int nq), .val (.int r10), .val (.int v27), .val (.int (p0 &&& (1073741823 : Int32))), .unset, .unset, .unset, .unset, .unset] [])) (fun t k => ?_) ?_
  · show Steps p.tables e below (T1.setTop (mkF m 27 #[.val (.int p0), .val (.int p1), .val (.int p2), .val (.int p3), .val (.int p4), .val (.int nq), .val (.int r10), .unset, .unset, .unset, .unset, .unset, .unset, .unset] [(.int v27)])) t
    refine XS.istore Y2.here hx rfl (hb hby at_27) rfl (l' := #[.val (.int p0), .val (.int p1), .val (.int p2), .val (.int p3), .val (.int p4), .val (.int nq), .val (.int r10), .val (.int v27), .unset, .unset, .unset, .unset, .unset, .unset]) rfl ?_
    show Steps p.tables e below (T1.setTop (mkF m 29 #[.val (.int p0), .val (.int p1), .val (.int p2), .val (.int p3), .val (.int p4), .val (.int nq), .val (.int r10), .val (.int v27), .unset, .unset, .unset, .unset, .unset, .unset] [])) t
    refine XS.iloadN Y2.here hx rfl (hb hby at_29) rfl ?_
    show Steps p.tables e below (T1.setTop (mkF m 30 #[.val (.int p0), .val (.int p1), .val (.int p2), .val (.int p3), .val (.int p4), .val (.int nq), .val (.int r10), .val (.int v27), .unset, .unset, .unset, .unset, .unset, .unset] [(.int p0)])) t
    refine On.sldcI Y2 hx hZ hown (w4 hw) (g := (mkF m 30 #[.val (.int p0), .val (.int p1), .val (.int p2), .val (.int p3), .val (.int p4), .val (.int nq), .val (.int r10), .val (.int v27), .unset, .unset, .unset, .unset, .unset, .unset] [(.int p0)])) rfl (hb hby at_30) _ ?_
    show Steps p.tables e below (T1.setTop (mkF m 32 #[.val (.int p0), .val (.int p1), .val (.int p2), .val (.int p3), .val (.int p4), .val (.int nq), .val (.int r10), .val (.int v27), .unset, .unset, .unset, .unset, .unset, .unset] [(.int (1073741823 : Int32)), (.int p0)])) t
    refine XS.iand Y2.here hx rfl (hb hby at_32) rfl ?_
    show Steps p.tables e below (T1.setTop (mkF m 33 #[.val (.int p0), .val (.int p1), .val (.int p2), .val (.int p3), .val (.int p4), .val (.int nq), .val (.int r10), .val (.int v27), .unset, .unset, .unset, .unset, .unset, .unset] [(.int (p0 &&& (1073741823 : Int32)))])) t
    refine XS.istore Y2.here hx rfl (hb hby at_33) rfl (l' := #[.val (.int p0), .val (.int p1), .val (.int p2), .val (.int p3), .val (.int p4), .val (.int nq), .val (.int r10), .val (.int v27), .val (.int (p0 &&& (1073741823 : Int32))), .unset, .unset, .unset, .unset, .unset]) rfl ?_
    show Steps p.tables e below (T1.setTop (mkF m 35 #[.val (.int p0), .val (.int p1), .val (.int p2), .val (.int p3), .val (.int p4), .val (.int nq), .val (.int r10), .val (.int v27), .val (.int (p0 &&& (1073741823 : Int32))), .unset, .unset, .unset, .unset, .unset] [])) t
    exact k
  obtain ⟨v0, hv0⟩ : ∃ z : Int32, z = (p0 &&& (1073741823 : Int32)) := ⟨_, rfl⟩
  rw [← hv0]
  have bv0 := own_v0 p0
  rw [← hv0] at bv0
  refine Rn.go (T' := T1) (g' := (mkF m 45 #[.val (.int p0), .val (.int p1), .val (.int p2), .val (.int p3), .val (.int p4), .val (.int nq), .val (.int r10), .val (.int v27), .val (.int v0), .val (.int ((v0 + (1 : Int32)) + (p1 &&& (3 : Int32)))), .unset, .unset, .unset, .unset] [])) (fun t k => ?_) ?_
  · show Steps p.tables e below (T1.setTop (mkF m 35 #[.val (.int p0), .val (.int p1), .val (.int p2), .val (.int p3), .val (.int p4), .val (.int nq), .val (.int r10), .val (.int v27), .val (.int v0), .unset, .unset, .unset, .unset, .unset] [])) t
    refine XS.iload Y2.here hx rfl (hb hby at_35) rfl ?_
    show Steps p.tables e below (T1.setTop (mkF m 37 #[.val (.int p0), .val (.int p1), .val (.int p2), .val (.int p3), .val (.int p4), .val (.int nq), .val (.int r10), .val (.int v27), .val (.int v0), .unset, .unset, .unset, .unset, .unset] [(.int v0)])) t
    refine XS.iconst Y2.here hx rfl (hb hby at_37) ?_
    show Steps p.tables e below (T1.setTop (mkF m 38 #[.val (.int p0), .val (.int p1), .val (.int p2), .val (.int p3), .val (.int p4), .val (.int nq), .val (.int r10), .val (.int v27), .val (.int v0), .unset, .unset, .unset, .unset, .unset] [(.int (1 : Int32)), (.int v0)])) t
    refine XS.iadd Y2.here hx rfl (hb hby at_38) rfl ?_
    show Steps p.tables e below (T1.setTop (mkF m 39 #[.val (.int p0), .val (.int p1), .val (.int p2), .val (.int p3), .val (.int p4), .val (.int nq), .val (.int r10), .val (.int v27), .val (.int v0), .unset, .unset, .unset, .unset, .unset] [(.int (v0 + (1 : Int32)))])) t
    refine XS.iloadN Y2.here hx rfl (hb hby at_39) rfl ?_
    show Steps p.tables e below (T1.setTop (mkF m 40 #[.val (.int p0), .val (.int p1), .val (.int p2), .val (.int p3), .val (.int p4), .val (.int nq), .val (.int r10), .val (.int v27), .val (.int v0), .unset, .unset, .unset, .unset, .unset] [(.int p1), (.int (v0 + (1 : Int32)))])) t
    refine XS.iconst Y2.here hx rfl (hb hby at_40) ?_
    show Steps p.tables e below (T1.setTop (mkF m 41 #[.val (.int p0), .val (.int p1), .val (.int p2), .val (.int p3), .val (.int p4), .val (.int nq), .val (.int r10), .val (.int v27), .val (.int v0), .unset, .unset, .unset, .unset, .unset] [(.int (3 : Int32)), (.int p1), (.int (v0 + (1 : Int32)))])) t
    refine XS.iand Y2.here hx rfl (hb hby at_41) rfl ?_
    show Steps p.tables e below (T1.setTop (mkF m 42 #[.val (.int p0), .val (.int p1), .val (.int p2), .val (.int p3), .val (.int p4), .val (.int nq), .val (.int r10), .val (.int v27), .val (.int v0), .unset, .unset, .unset, .unset, .unset] [(.int (p1 &&& (3 : Int32))), (.int (v0 + (1 : Int32)))])) t
    refine XS.iadd Y2.here hx rfl (hb hby at_42) rfl ?_
    show Steps p.tables e below (T1.setTop (mkF m 43 #[.val (.int p0), .val (.int p1), .val (.int p2), .val (.int p3), .val (.int p4), .val (.int nq), .val (.int r10), .val (.int v27), .val (.int v0), .unset, .unset, .unset, .unset, .unset] [(.int ((v0 + (1 : Int32)) + (p1 &&& (3 : Int32))))])) t
    refine XS.istore Y2.here hx rfl (hb hby at_43) rfl (l' := #[.val (.int p0), .val (.int p1), .val (.int p2), .val (.int p3), .val (.int p4), .val (.int nq), .val (.int r10), .val (.int v27), .val (.int v0), .val (.int ((v0 + (1 : Int32)) + (p1 &&& (3 : Int32)))), .unset, .unset, .unset, .unset]) rfl ?_
    show Steps p.tables e below (T1.setTop (mkF m 45 #[.val (.int p0), .val (.int p1), .val (.int p2), .val (.int p3), .val (.int p4), .val (.int nq), .val (.int r10), .val (.int v27), .val (.int v0), .val (.int ((v0 + (1 : Int32)) + (p1 &&& (3 : Int32)))), .unset, .unset, .unset, .unset] [])) t
    exact k
  obtain ⟨v1, hv1⟩ : ∃ z : Int32, z = ((v0 + (1 : Int32)) + (p1 &&& (3 : Int32))) := ⟨_, rfl⟩
  rw [← hv1]
  have bv1 := own_v1 (x := p1) bv0.1 (by omega)
  rw [← hv1] at bv1
  refine Rn.go (T' := T1) (g' := (mkF m 57 #[.val (.int p0), .val (.int p1), .val (.int p2), .val (.int p3), .val (.int p4), .val (.int nq), .val (.int r10), .val (.int v27), .val (.int v0), .val (.int v1), .val (.int ((v1 + (1 : Int32)) + (((p1.toUInt32 >>> ((2 : Int32) &&& 31).toUInt32).toInt32) &&& (3 : Int32)))), .unset, .unset, .unset] [])) (fun t k => ?_) ?_
  · show Steps p.tables e below (T1.setTop (mkF m 45 #[.val (.int p0), .val (.int p1), .val (.int p2), .val (.int p3), .val (.int p4), .val (.int nq), .val (.int r10), .val (.int v27), .val (.int v0), .val (.int v1), .unset, .unset, .unset, .unset] [])) t
    refine XS.iload Y2.here hx rfl (hb hby at_45) rfl ?_
    show Steps p.tables e below (T1.setTop (mkF m 47 #[.val (.int p0), .val (.int p1), .val (.int p2), .val (.int p3), .val (.int p4), .val (.int nq), .val (.int r10), .val (.int v27), .val (.int v0), .val (.int v1), .unset, .unset, .unset, .unset] [(.int v1)])) t
    refine XS.iconst Y2.here hx rfl (hb hby at_47) ?_
    show Steps p.tables e below (T1.setTop (mkF m 48 #[.val (.int p0), .val (.int p1), .val (.int p2), .val (.int p3), .val (.int p4), .val (.int nq), .val (.int r10), .val (.int v27), .val (.int v0), .val (.int v1), .unset, .unset, .unset, .unset] [(.int (1 : Int32)), (.int v1)])) t
    refine XS.iadd Y2.here hx rfl (hb hby at_48) rfl ?_
    show Steps p.tables e below (T1.setTop (mkF m 49 #[.val (.int p0), .val (.int p1), .val (.int p2), .val (.int p3), .val (.int p4), .val (.int nq), .val (.int r10), .val (.int v27), .val (.int v0), .val (.int v1), .unset, .unset, .unset, .unset] [(.int (v1 + (1 : Int32)))])) t
    refine XS.iloadN Y2.here hx rfl (hb hby at_49) rfl ?_
    show Steps p.tables e below (T1.setTop (mkF m 50 #[.val (.int p0), .val (.int p1), .val (.int p2), .val (.int p3), .val (.int p4), .val (.int nq), .val (.int r10), .val (.int v27), .val (.int v0), .val (.int v1), .unset, .unset, .unset, .unset] [(.int p1), (.int (v1 + (1 : Int32)))])) t
    refine XS.iconst Y2.here hx rfl (hb hby at_50) ?_
    show Steps p.tables e below (T1.setTop (mkF m 51 #[.val (.int p0), .val (.int p1), .val (.int p2), .val (.int p3), .val (.int p4), .val (.int nq), .val (.int r10), .val (.int v27), .val (.int v0), .val (.int v1), .unset, .unset, .unset, .unset] [(.int (2 : Int32)), (.int p1), (.int (v1 + (1 : Int32)))])) t
    refine XS.iushr Y2.here hx rfl (hb hby at_51) rfl ?_
    show Steps p.tables e below (T1.setTop (mkF m 52 #[.val (.int p0), .val (.int p1), .val (.int p2), .val (.int p3), .val (.int p4), .val (.int nq), .val (.int r10), .val (.int v27), .val (.int v0), .val (.int v1), .unset, .unset, .unset, .unset] [(.int ((p1.toUInt32 >>> ((2 : Int32) &&& 31).toUInt32).toInt32)), (.int (v1 + (1 : Int32)))])) t
    refine XS.iconst Y2.here hx rfl (hb hby at_52) ?_
    show Steps p.tables e below (T1.setTop (mkF m 53 #[.val (.int p0), .val (.int p1), .val (.int p2), .val (.int p3), .val (.int p4), .val (.int nq), .val (.int r10), .val (.int v27), .val (.int v0), .val (.int v1), .unset, .unset, .unset, .unset] [(.int (3 : Int32)), (.int ((p1.toUInt32 >>> ((2 : Int32) &&& 31).toUInt32).toInt32)), (.int (v1 + (1 : Int32)))])) t
    refine XS.iand Y2.here hx rfl (hb hby at_53) rfl ?_
    show Steps p.tables e below (T1.setTop (mkF m 54 #[.val (.int p0), .val (.int p1), .val (.int p2), .val (.int p3), .val (.int p4), .val (.int nq), .val (.int r10), .val (.int v27), .val (.int v0), .val (.int v1), .unset, .unset, .unset, .unset] [(.int (((p1.toUInt32 >>> ((2 : Int32) &&& 31).toUInt32).toInt32) &&& (3 : Int32))), (.int (v1 + (1 : Int32)))])) t
    refine XS.iadd Y2.here hx rfl (hb hby at_54) rfl ?_
    show Steps p.tables e below (T1.setTop (mkF m 55 #[.val (.int p0), .val (.int p1), .val (.int p2), .val (.int p3), .val (.int p4), .val (.int nq), .val (.int r10), .val (.int v27), .val (.int v0), .val (.int v1), .unset, .unset, .unset, .unset] [(.int ((v1 + (1 : Int32)) + (((p1.toUInt32 >>> ((2 : Int32) &&& 31).toUInt32).toInt32) &&& (3 : Int32))))])) t
    refine XS.istore Y2.here hx rfl (hb hby at_55) rfl (l' := #[.val (.int p0), .val (.int p1), .val (.int p2), .val (.int p3), .val (.int p4), .val (.int nq), .val (.int r10), .val (.int v27), .val (.int v0), .val (.int v1), .val (.int ((v1 + (1 : Int32)) + (((p1.toUInt32 >>> ((2 : Int32) &&& 31).toUInt32).toInt32) &&& (3 : Int32)))), .unset, .unset, .unset]) rfl ?_
    show Steps p.tables e below (T1.setTop (mkF m 57 #[.val (.int p0), .val (.int p1), .val (.int p2), .val (.int p3), .val (.int p4), .val (.int nq), .val (.int r10), .val (.int v27), .val (.int v0), .val (.int v1), .val (.int ((v1 + (1 : Int32)) + (((p1.toUInt32 >>> ((2 : Int32) &&& 31).toUInt32).toInt32) &&& (3 : Int32)))), .unset, .unset, .unset] [])) t
    exact k
  obtain ⟨v2, hv2⟩ : ∃ z : Int32, z = ((v1 + (1 : Int32)) + (((p1.toUInt32 >>> ((2 : Int32) &&& 31).toUInt32).toInt32) &&& (3 : Int32))) := ⟨_, rfl⟩
  rw [← hv2]
  have bv2 := own_v1 (v := v1) (x := ((p1.toUInt32 >>> ((2 : Int32) &&& 31).toUInt32).toInt32)) (by omega) (by omega)
  rw [← hv2] at bv2
  refine Rn.go (T' := T1) (g' := (mkF m 69 #[.val (.int p0), .val (.int p1), .val (.int p2), .val (.int p3), .val (.int p4), .val (.int nq), .val (.int r10), .val (.int v27), .val (.int v0), .val (.int v1), .val (.int v2), .val (.int ((v2 + (1 : Int32)) + (((p1.toUInt32 >>> ((4 : Int32) &&& 31).toUInt32).toInt32) &&& (3 : Int32)))), .unset, .unset] [])) (fun t k => ?_) ?_
  · show Steps p.tables e below (T1.setTop (mkF m 57 #[.val (.int p0), .val (.int p1), .val (.int p2), .val (.int p3), .val (.int p4), .val (.int nq), .val (.int r10), .val (.int v27), .val (.int v0), .val (.int v1), .val (.int v2), .unset, .unset, .unset] [])) t
    refine XS.iload Y2.here hx rfl (hb hby at_57) rfl ?_
    show Steps p.tables e below (T1.setTop (mkF m 59 #[.val (.int p0), .val (.int p1), .val (.int p2), .val (.int p3), .val (.int p4), .val (.int nq), .val (.int r10), .val (.int v27), .val (.int v0), .val (.int v1), .val (.int v2), .unset, .unset, .unset] [(.int v2)])) t
    refine XS.iconst Y2.here hx rfl (hb hby at_59) ?_
    show Steps p.tables e below (T1.setTop (mkF m 60 #[.val (.int p0), .val (.int p1), .val (.int p2), .val (.int p3), .val (.int p4), .val (.int nq), .val (.int r10), .val (.int v27), .val (.int v0), .val (.int v1), .val (.int v2), .unset, .unset, .unset] [(.int (1 : Int32)), (.int v2)])) t
    refine XS.iadd Y2.here hx rfl (hb hby at_60) rfl ?_
    show Steps p.tables e below (T1.setTop (mkF m 61 #[.val (.int p0), .val (.int p1), .val (.int p2), .val (.int p3), .val (.int p4), .val (.int nq), .val (.int r10), .val (.int v27), .val (.int v0), .val (.int v1), .val (.int v2), .unset, .unset, .unset] [(.int (v2 + (1 : Int32)))])) t
    refine XS.iloadN Y2.here hx rfl (hb hby at_61) rfl ?_
    show Steps p.tables e below (T1.setTop (mkF m 62 #[.val (.int p0), .val (.int p1), .val (.int p2), .val (.int p3), .val (.int p4), .val (.int nq), .val (.int r10), .val (.int v27), .val (.int v0), .val (.int v1), .val (.int v2), .unset, .unset, .unset] [(.int p1), (.int (v2 + (1 : Int32)))])) t
    refine XS.iconst Y2.here hx rfl (hb hby at_62) ?_
    show Steps p.tables e below (T1.setTop (mkF m 63 #[.val (.int p0), .val (.int p1), .val (.int p2), .val (.int p3), .val (.int p4), .val (.int nq), .val (.int r10), .val (.int v27), .val (.int v0), .val (.int v1), .val (.int v2), .unset, .unset, .unset] [(.int (4 : Int32)), (.int p1), (.int (v2 + (1 : Int32)))])) t
    refine XS.iushr Y2.here hx rfl (hb hby at_63) rfl ?_
    show Steps p.tables e below (T1.setTop (mkF m 64 #[.val (.int p0), .val (.int p1), .val (.int p2), .val (.int p3), .val (.int p4), .val (.int nq), .val (.int r10), .val (.int v27), .val (.int v0), .val (.int v1), .val (.int v2), .unset, .unset, .unset] [(.int ((p1.toUInt32 >>> ((4 : Int32) &&& 31).toUInt32).toInt32)), (.int (v2 + (1 : Int32)))])) t
    refine XS.iconst Y2.here hx rfl (hb hby at_64) ?_
    show Steps p.tables e below (T1.setTop (mkF m 65 #[.val (.int p0), .val (.int p1), .val (.int p2), .val (.int p3), .val (.int p4), .val (.int nq), .val (.int r10), .val (.int v27), .val (.int v0), .val (.int v1), .val (.int v2), .unset, .unset, .unset] [(.int (3 : Int32)), (.int ((p1.toUInt32 >>> ((4 : Int32) &&& 31).toUInt32).toInt32)), (.int (v2 + (1 : Int32)))])) t
    refine XS.iand Y2.here hx rfl (hb hby at_65) rfl ?_
    show Steps p.tables e below (T1.setTop (mkF m 66 #[.val (.int p0), .val (.int p1), .val (.int p2), .val (.int p3), .val (.int p4), .val (.int nq), .val (.int r10), .val (.int v27), .val (.int v0), .val (.int v1), .val (.int v2), .unset, .unset, .unset] [(.int (((p1.toUInt32 >>> ((4 : Int32) &&& 31).toUInt32).toInt32) &&& (3 : Int32))), (.int (v2 + (1 : Int32)))])) t
    refine XS.iadd Y2.here hx rfl (hb hby at_66) rfl ?_
    show Steps p.tables e below (T1.setTop (mkF m 67 #[.val (.int p0), .val (.int p1), .val (.int p2), .val (.int p3), .val (.int p4), .val (.int nq), .val (.int r10), .val (.int v27), .val (.int v0), .val (.int v1), .val (.int v2), .unset, .unset, .unset] [(.int ((v2 + (1 : Int32)) + (((p1.toUInt32 >>> ((4 : Int32) &&& 31).toUInt32).toInt32) &&& (3 : Int32))))])) t
    refine XS.istore Y2.here hx rfl (hb hby at_67) rfl (l' := #[.val (.int p0), .val (.int p1), .val (.int p2), .val (.int p3), .val (.int p4), .val (.int nq), .val (.int r10), .val (.int v27), .val (.int v0), .val (.int v1), .val (.int v2), .val (.int ((v2 + (1 : Int32)) + (((p1.toUInt32 >>> ((4 : Int32) &&& 31).toUInt32).toInt32) &&& (3 : Int32)))), .unset, .unset]) rfl ?_
    show Steps p.tables e below (T1.setTop (mkF m 69 #[.val (.int p0), .val (.int p1), .val (.int p2), .val (.int p3), .val (.int p4), .val (.int nq), .val (.int r10), .val (.int v27), .val (.int v0), .val (.int v1), .val (.int v2), .val (.int ((v2 + (1 : Int32)) + (((p1.toUInt32 >>> ((4 : Int32) &&& 31).toUInt32).toInt32) &&& (3 : Int32)))), .unset, .unset] [])) t
    exact k
  obtain ⟨v3, hv3⟩ : ∃ z : Int32, z = ((v2 + (1 : Int32)) + (((p1.toUInt32 >>> ((4 : Int32) &&& 31).toUInt32).toInt32) &&& (3 : Int32))) := ⟨_, rfl⟩
  rw [← hv3]
  have bv3 := own_v1 (v := v2) (x := ((p1.toUInt32 >>> ((4 : Int32) &&& 31).toUInt32).toInt32)) (by omega) (by omega)
  rw [← hv3] at bv3
  refine On.newo Y2 hx hZ hown (w5 hw) (w6 hw) (w7 hw) _ (own_lay_0 hw) (by decide) (g := (mkF m 69 #[.val (.int p0), .val (.int p1), .val (.int p2), .val (.int p3), .val (.int p4), .val (.int nq), .val (.int r10), .val (.int v27), .val (.int v0), .val (.int v1), .val (.int v2), .val (.int v3), .unset, .unset] [])) rfl (hb hby at_69) (by decide) (by decide) fun T6 a8 Y7 => ?_
  replace Y7 : On p l e _ s m _ below meth c Z n0 T6 1 2 [ob a8 own_C0 (own_F0 .null (.int (0 : Int32)))] := Y7
  show Rn p e below F T6 (mkF m 72 #[.val (.int p0), .val (.int p1), .val (.int p2), .val (.int p3), .val (.int p4), .val (.int nq), .val (.int r10), .val (.int v27), .val (.int v0), .val (.int v1), .val (.int v2), .val (.int v3), .unset, .unset] [(.ref a8)])
  refine Rn.go (T' := T6) (g' := (mkF m 73 #[.val (.int p0), .val (.int p1), .val (.int p2), .val (.int p3), .val (.int p4), .val (.int nq), .val (.int r10), .val (.int v27), .val (.int v0), .val (.int v1), .val (.int v2), .val (.int v3), .unset, .unset] [(.ref a8), (.ref a8)])) (fun t k => ?_) ?_
  · show Steps p.tables e below (T6.setTop (mkF m 72 #[.val (.int p0), .val (.int p1), .val (.int p2), .val (.int p3), .val (.int p4), .val (.int nq), .val (.int r10), .val (.int v27), .val (.int v0), .val (.int v1), .val (.int v2), .val (.int v3), .unset, .unset] [(.ref a8)])) t
    refine XS.dup Y7.here hx rfl (hb hby at_72) rfl rfl ?_
    show Steps p.tables e below (T6.setTop (mkF m 73 #[.val (.int p0), .val (.int p1), .val (.int p2), .val (.int p3), .val (.int p4), .val (.int nq), .val (.int r10), .val (.int v27), .val (.int v0), .val (.int v1), .val (.int v2), .val (.int v3), .unset, .unset] [(.ref a8), (.ref a8)])) t
    exact k
  refine On.special Y7 hx hZ (y := (⟨"com/example/vistrace/vistrace/checker/RunSet", "<init>", "()V"⟩ : MethodName)) rfl hown (w8 hw) (w9 hw) (w10 hw) (w7 hw) (by decide) (a := a8) (argsL := []) (rest := [(.ref a8)]) (rm2 l Z a0 hw n0 a8 nb hS hA) (W := 1) (by decide) (by decide) (by decide) (by decide) (g := (mkF m 73 #[.val (.int p0), .val (.int p1), .val (.int p2), .val (.int p3), .val (.int p4), .val (.int nq), .val (.int r10), .val (.int v27), .val (.int v0), .val (.int v1), .val (.int v2), .val (.int v3), .unset, .unset] [(.ref a8), (.ref a8)])) rfl (by rw [hml]; rfl) (lenOf pd4 rfl) rfl (by show 2 * 0 + _ ≤ _; exact Nat.le_of_eq rfl) (hb hby at_73) ?_
  intro T9 u11 D12 hp13 Y10
  obtain ⟨rfl, rfl⟩ := hp13
  replace Y10 : On p l e _ s m _ below meth c Z n0 T9 1 2 [ob a8 own_C0 (own_F0 (.ref nb) (.int (0 : Int32))), ari nb .int (0 : Int32) []] := Y10
  show Rn p e below F T9 (mkF m 76 #[.val (.int p0), .val (.int p1), .val (.int p2), .val (.int p3), .val (.int p4), .val (.int nq), .val (.int r10), .val (.int v27), .val (.int v0), .val (.int v1), .val (.int v2), .val (.int v3), .unset, .unset] [(.ref a8)])
  refine Rn.go (T' := T9) (g' := (mkF m 78 #[.val (.int p0), .val (.int p1), .val (.int p2), .val (.int p3), .val (.int p4), .val (.int nq), .val (.int r10), .val (.int v27), .val (.int v0), .val (.int v1), .val (.int v2), .val (.int v3), .val (.ref a8), .unset] [])) (fun t k => ?_) ?_
  · show Steps p.tables e below (T9.setTop (mkF m 76 #[.val (.int p0), .val (.int p1), .val (.int p2), .val (.int p3), .val (.int p4), .val (.int nq), .val (.int r10), .val (.int v27), .val (.int v0), .val (.int v1), .val (.int v2), .val (.int v3), .unset, .unset] [(.ref a8)])) t
    refine XS.astore Y10.here hx rfl (hb hby at_76) rfl rfl (l' := #[.val (.int p0), .val (.int p1), .val (.int p2), .val (.int p3), .val (.int p4), .val (.int nq), .val (.int r10), .val (.int v27), .val (.int v0), .val (.int v1), .val (.int v2), .val (.int v3), .val (.ref a8), .unset]) rfl ?_
    show Steps p.tables e below (T9.setTop (mkF m 78 #[.val (.int p0), .val (.int p1), .val (.int p2), .val (.int p3), .val (.int p4), .val (.int nq), .val (.int r10), .val (.int v27), .val (.int v0), .val (.int v1), .val (.int v2), .val (.int v3), .val (.ref a8), .unset] [])) t
    exact k
  obtain ⟨k0, hk0⟩ : ∃ z : Int32, z = (0 : Int32) := ⟨_, rfl⟩
  have hI_0 : own_inv 0 0 0 [] k0 0 := by rw [hk0]; exact own_inv0
  refine Rn.go (T' := T9) (g' := (mkF m 81 #[.val (.int p0), .val (.int p1), .val (.int p2), .val (.int p3), .val (.int p4), .val (.int nq), .val (.int r10), .val (.int v27), .val (.int v0), .val (.int v1), .val (.int v2), .val (.int v3), .val (.ref a8), .unset] [(.int (1 : Int32)), (.int nq)])) (fun t k => ?_) ?_
  · show Steps p.tables e below (T9.setTop (mkF m 78 #[.val (.int p0), .val (.int p1), .val (.int p2), .val (.int p3), .val (.int p4), .val (.int nq), .val (.int r10), .val (.int v27), .val (.int v0), .val (.int v1), .val (.int v2), .val (.int v3), .val (.ref a8), .unset] [])) t
    refine XS.iload Y10.here hx rfl (hb hby at_78) rfl ?_
    show Steps p.tables e below (T9.setTop (mkF m 80 #[.val (.int p0), .val (.int p1), .val (.int p2), .val (.int p3), .val (.int p4), .val (.int nq), .val (.int r10), .val (.int v27), .val (.int v0), .val (.int v1), .val (.int v2), .val (.int v3), .val (.ref a8), .unset] [(.int nq)])) t
    refine XS.iconst Y10.here hx rfl (hb hby at_80) ?_
    show Steps p.tables e below (T9.setTop (mkF m 81 #[.val (.int p0), .val (.int p1), .val (.int p2), .val (.int p3), .val (.int p4), .val (.int nq), .val (.int r10), .val (.int v27), .val (.int v0), .val (.int v1), .val (.int v2), .val (.int v3), .val (.ref a8), .unset] [(.int (1 : Int32)), (.int nq)])) t
    exact k
  suffices HJ91 : ∀ (T14 : State) (b_1 : Addr) (R_1 : Int32) (n_1 : Int32) (L_1 : List Int32) (k1 : Int32) (hk1 : k1 = (if nq < (1 : Int32) then k0 else (k0 + 1))) (hI_1 : own_inv 1 R_1 n_1 L_1 k1 (v0.toInt + 1)), On p l e room_1 s m #[(.int p0), (.int p1), (.int p2), (.int p3), (.int p4)] below meth c Z n0 T14 2 10 [ob a8 own_C0 (own_F0 (.ref b_1) (.int R_1)), ari b_1 .int n_1 L_1] → Rn p e below F T14 (mkF m 91 #[.val (.int p0), .val (.int p1), .val (.int p2), .val (.int p3), .val (.int p4), .val (.int nq), .val (.int r10), .val (.int v27), .val (.int v0), .val (.int v1), .val (.int v2), .val (.int v3), .val (.ref a8), .unset] []) by
    by_cases hc81 : nq < (1 : Int32)
    · refine Rn.go (T' := T9) (g' := (mkF m 91 #[.val (.int p0), .val (.int p1), .val (.int p2), .val (.int p3), .val (.int p4), .val (.int nq), .val (.int r10), .val (.int v27), .val (.int v0), .val (.int v1), .val (.int v2), .val (.int v3), .val (.ref a8), .unset] [])) (fun t k => XS.icmpYes Y10.here hx rfl (pc0 := 81) (pc' := 91) rfl (hb hby at_81) rfl (tlt hc81).1 (by decide) (by decide) k) ?_
      exact HJ91 _ _ _ _ _ _ (by rw [if_pos hc81]) (own_invB hI_0 (by omega) (by decide)) (On.more Y10 (by decide) (by decide))
    · refine Rn.go (T' := T9) (g' := (mkF m 84 #[.val (.int p0), .val (.int p1), .val (.int p2), .val (.int p3), .val (.int p4), .val (.int nq), .val (.int r10), .val (.int v27), .val (.int v0), .val (.int v1), .val (.int v2), .val (.int v3), .val (.ref a8), .unset] [])) (fun t k => XS.icmpNo Y10.here hx rfl (hb hby at_81) rfl (flt hc81).1 k) ?_
      refine Rn.go (T' := T9) (g' := (mkF m 88 #[.val (.int p0), .val (.int p1), .val (.int p2), .val (.int p3), .val (.int p4), .val (.int nq), .val (.int r10), .val (.int v27), .val (.int v0), .val (.int v1), .val (.int v2), .val (.int v3), .val (.ref a8), .unset] [(.int v0), (.ref a8)])) (fun t k => ?_) ?_
      · show Steps p.tables e below (T9.setTop (mkF m 84 #[.val (.int p0), .val (.int p1), .val (.int p2), .val (.int p3), .val (.int p4), .val (.int nq), .val (.int r10), .val (.int v27), .val (.int v0), .val (.int v1), .val (.int v2), .val (.int v3), .val (.ref a8), .unset] [])) t
        refine XS.aload Y10.here hx rfl (hb hby at_84) rfl rfl ?_
        show Steps p.tables e below (T9.setTop (mkF m 86 #[.val (.int p0), .val (.int p1), .val (.int p2), .val (.int p3), .val (.int p4), .val (.int nq), .val (.int r10), .val (.int v27), .val (.int v0), .val (.int v1), .val (.int v2), .val (.int v3), .val (.ref a8), .unset] [(.ref a8)])) t
        refine XS.iload Y10.here hx rfl (hb hby at_86) rfl ?_
        show Steps p.tables e below (T9.setTop (mkF m 88 #[.val (.int p0), .val (.int p1), .val (.int p2), .val (.int p3), .val (.int p4), .val (.int nq), .val (.int r10), .val (.int v27), .val (.int v0), .val (.int v1), .val (.int v2), .val (.int v3), .val (.ref a8), .unset] [(.int v0), (.ref a8)])) t
        exact k
      refine On.virtual Y10 hx hZ (y := (⟨"com/example/vistrace/vistrace/checker/RunSet", "add", "(I)V"⟩ : MethodName)) (C := "com/example/vistrace/vistrace/checker/RunSet") hown (w18 hw) (w19 hw) (w20 hw) (w21 hw) (w22 hw) (w7 hw) (by decide) (a := a8) (argsL := [(.int v0)]) (rest := []) (i := 0) rfl (rm4 l Z a0 hw n0 a8 v0 nb (0 : Int32) (0 : Int32) [] 0 k0 0 hI_0 (by decide) (by omega) (by omega) (by omega)) (W := 0) (by decide) (by decide) (by decide) (by decide) (g := (mkF m 88 #[.val (.int p0), .val (.int p1), .val (.int p2), .val (.int p3), .val (.int p4), .val (.int nq), .val (.int r10), .val (.int v27), .val (.int v0), .val (.int v1), .val (.int v2), .val (.int v3), .val (.ref a8), .unset] [(.int v0), (.ref a8)])) rfl (by rw [hml]; rfl) (lenOf pd5 rfl) rfl (by show 2 * 0 + _ ≤ _; exact Nat.le_of_eq rfl) (hb hby at_88) ?_
      intro T16 u18 D19 hp20 Y17
      obtain ⟨rfl, b21, R22, n23, L24, rfl, hI25⟩ := hp20
      show Rn p e below F T16 (mkF m 91 #[.val (.int p0), .val (.int p1), .val (.int p2), .val (.int p3), .val (.int p4), .val (.int nq), .val (.int r10), .val (.int v27), .val (.int v0), .val (.int v1), .val (.int v2), .val (.int v3), .val (.ref a8), .unset] [])
      exact HJ91 _ _ _ _ _ _ (by rw [if_neg hc81]) hI25 Y17
  intro T14 b_1 R_1 n_1 L_1 k1 hk1 hI_1 Y15
  refine Rn.go (T' := T14) (g' := (mkF m 94 #[.val (.int p0), .val (.int p1), .val (.int p2), .val (.int p3), .val (.int p4), .val (.int nq), .val (.int r10), .val (.int v27), .val (.int v0), .val (.int v1), .val (.int v2), .val (.int v3), .val (.ref a8), .unset] [(.int (2 : Int32)), (.int nq)])) (fun t k => ?_) ?_
  · show Steps p.tables e below (T14.setTop (mkF m 91 #[.val (.int p0), .val (.int p1), .val (.int p2), .val (.int p3), .val (.int p4), .val (.int nq), .val (.int r10), .val (.int v27), .val (.int v0), .val (.int v1), .val (.int v2), .val (.int v3), .val (.ref a8), .unset] [])) t
    refine XS.iload Y15.here hx rfl (hb hby at_91) rfl ?_
    show Steps p.tables e below (T14.setTop (mkF m 93 #[.val (.int p0), .val (.int p1), .val (.int p2), .val (.int p3), .val (.int p4), .val (.int nq), .val (.int r10), .val (.int v27), .val (.int v0), .val (.int v1), .val (.int v2), .val (.int v3), .val (.ref a8), .unset] [(.int nq)])) t
    refine XS.iconst Y15.here hx rfl (hb hby at_93) ?_
    show Steps p.tables e below (T14.setTop (mkF m 94 #[.val (.int p0), .val (.int p1), .val (.int p2), .val (.int p3), .val (.int p4), .val (.int nq), .val (.int r10), .val (.int v27), .val (.int v0), .val (.int v1), .val (.int v2), .val (.int v3), .val (.ref a8), .unset] [(.int (2 : Int32)), (.int nq)])) t
    exact k
  suffices HJ104 : ∀ (T26 : State) (b_2 : Addr) (R_2 : Int32) (n_2 : Int32) (L_2 : List Int32) (k2 : Int32) (hk2 : k2 = (if nq < (2 : Int32) then k1 else (k1 + 1))) (hI_2 : own_inv 2 R_2 n_2 L_2 k2 (v1.toInt + 1)), On p l e room_1 s m #[(.int p0), (.int p1), (.int p2), (.int p3), (.int p4)] below meth c Z n0 T26 3 18 [ob a8 own_C0 (own_F0 (.ref b_2) (.int R_2)), ari b_2 .int n_2 L_2] → Rn p e below F T26 (mkF m 104 #[.val (.int p0), .val (.int p1), .val (.int p2), .val (.int p3), .val (.int p4), .val (.int nq), .val (.int r10), .val (.int v27), .val (.int v0), .val (.int v1), .val (.int v2), .val (.int v3), .val (.ref a8), .unset] []) by
    by_cases hc94 : nq < (2 : Int32)
    · refine Rn.go (T' := T14) (g' := (mkF m 104 #[.val (.int p0), .val (.int p1), .val (.int p2), .val (.int p3), .val (.int p4), .val (.int nq), .val (.int r10), .val (.int v27), .val (.int v0), .val (.int v1), .val (.int v2), .val (.int v3), .val (.ref a8), .unset] [])) (fun t k => XS.icmpYes Y15.here hx rfl (pc0 := 94) (pc' := 104) rfl (hb hby at_94) rfl (tlt hc94).1 (by decide) (by decide) k) ?_
      exact HJ104 _ _ _ _ _ _ (by rw [if_pos hc94]) (own_invB hI_1 (by omega) (by decide)) (On.more Y15 (by decide) (by decide))
    · refine Rn.go (T' := T14) (g' := (mkF m 97 #[.val (.int p0), .val (.int p1), .val (.int p2), .val (.int p3), .val (.int p4), .val (.int nq), .val (.int r10), .val (.int v27), .val (.int v0), .val (.int v1), .val (.int v2), .val (.int v3), .val (.ref a8), .unset] [])) (fun t k => XS.icmpNo Y15.here hx rfl (hb hby at_94) rfl (flt hc94).1 k) ?_
      refine Rn.go (T' := T14) (g' := (mkF m 101 #[.val (.int p0), .val (.int p1), .val (.int p2), .val (.int p3), .val (.int p4), .val (.int nq), .val (.int r10), .val (.int v27), .val (.int v0), .val (.int v1), .val (.int v2), .val (.int v3), .val (.ref a8), .unset] [(.int v1), (.ref a8)])) (fun t k => ?_) ?_
      · show Steps p.tables e below (T14.setTop (mkF m 97 #[.val (.int p0), .val (.int p1), .val (.int p2), .val (.int p3), .val (.int p4), .val (.int nq), .val (.int r10), .val (.int v27), .val (.int v0), .val (.int v1), .val (.int v2), .val (.int v3), .val (.ref a8), .unset] [])) t
        refine XS.aload Y15.here hx rfl (hb hby at_97) rfl rfl ?_
        show Steps p.tables e below (T14.setTop (mkF m 99 #[.val (.int p0), .val (.int p1), .val (.int p2), .val (.int p3), .val (.int p4), .val (.int nq), .val (.int r10), .val (.int v27), .val (.int v0), .val (.int v1), .val (.int v2), .val (.int v3), .val (.ref a8), .unset] [(.ref a8)])) t
        refine XS.iload Y15.here hx rfl (hb hby at_99) rfl ?_
        show Steps p.tables e below (T14.setTop (mkF m 101 #[.val (.int p0), .val (.int p1), .val (.int p2), .val (.int p3), .val (.int p4), .val (.int nq), .val (.int r10), .val (.int v27), .val (.int v0), .val (.int v1), .val (.int v2), .val (.int v3), .val (.ref a8), .unset] [(.int v1), (.ref a8)])) t
        exact k
      refine On.virtual Y15 hx hZ (y := (⟨"com/example/vistrace/vistrace/checker/RunSet", "add", "(I)V"⟩ : MethodName)) (C := "com/example/vistrace/vistrace/checker/RunSet") hown (w18 hw) (w19 hw) (w20 hw) (w21 hw) (w22 hw) (w7 hw) (by decide) (a := a8) (argsL := [(.int v1)]) (rest := []) (i := 0) rfl (rm4 l Z a0 hw n0 a8 v1 b_1 R_1 n_1 L_1 1 k1 (v0.toInt + 1) hI_1 (by decide) (by omega) (by omega) (by omega)) (W := 0) (by decide) (by decide) (by decide) (by decide) (g := (mkF m 101 #[.val (.int p0), .val (.int p1), .val (.int p2), .val (.int p3), .val (.int p4), .val (.int nq), .val (.int r10), .val (.int v27), .val (.int v0), .val (.int v1), .val (.int v2), .val (.int v3), .val (.ref a8), .unset] [(.int v1), (.ref a8)])) rfl (by rw [hml]; rfl) (lenOf pd5 rfl) rfl (by show 2 * 0 + _ ≤ _; exact Nat.le_of_eq rfl) (hb hby at_101) ?_
      intro T28 u30 D31 hp32 Y29
      obtain ⟨rfl, b33, R34, n35, L36, rfl, hI37⟩ := hp32
      show Rn p e below F T28 (mkF m 104 #[.val (.int p0), .val (.int p1), .val (.int p2), .val (.int p3), .val (.int p4), .val (.int nq), .val (.int r10), .val (.int v27), .val (.int v0), .val (.int v1), .val (.int v2), .val (.int v3), .val (.ref a8), .unset] [])
      exact HJ104 _ _ _ _ _ _ (by rw [if_neg hc94]) hI37 Y29
  intro T26 b_2 R_2 n_2 L_2 k2 hk2 hI_2 Y27
  refine Rn.go (T' := T26) (g' := (mkF m 107 #[.val (.int p0), .val (.int p1), .val (.int p2), .val (.int p3), .val (.int p4), .val (.int nq), .val (.int r10), .val (.int v27), .val (.int v0), .val (.int v1), .val (.int v2), .val (.int v3), .val (.ref a8), .unset] [(.int (3 : Int32)), (.int nq)])) (fun t k => ?_) ?_
  · show Steps p.tables e below (T26.setTop (mkF m 104 #[.val (.int p0), .val (.int p1), .val (.int p2), .val (.int p3), .val (.int p4), .val (.int nq), .val (.int r10), .val (.int v27), .val (.int v0), .val (.int v1), .val (.int v2), .val (.int v3), .val (.ref a8), .unset] [])) t
    refine XS.iload Y27.here hx rfl (hb hby at_104) rfl ?_
    show Steps p.tables e below (T26.setTop (mkF m 106 #[.val (.int p0), .val (.int p1), .val (.int p2), .val (.int p3), .val (.int p4), .val (.int nq), .val (.int r10), .val (.int v27), .val (.int v0), .val (.int v1), .val (.int v2), .val (.int v3), .val (.ref a8), .unset] [(.int nq)])) t
    refine XS.iconst Y27.here hx rfl (hb hby at_106) ?_
    show Steps p.tables e below (T26.setTop (mkF m 107 #[.val (.int p0), .val (.int p1), .val (.int p2), .val (.int p3), .val (.int p4), .val (.int nq), .val (.int r10), .val (.int v27), .val (.int v0), .val (.int v1), .val (.int v2), .val (.int v3), .val (.ref a8), .unset] [(.int (3 : Int32)), (.int nq)])) t
    exact k
  suffices HJ117 : ∀ (T38 : State) (b_3 : Addr) (R_3 : Int32) (n_3 : Int32) (L_3 : List Int32) (k3 : Int32) (hk3 : k3 = (if nq < (3 : Int32) then k2 else (k2 + 1))) (hI_3 : own_inv 3 R_3 n_3 L_3 k3 (v2.toInt + 1)), On p l e room_1 s m #[(.int p0), (.int p1), (.int p2), (.int p3), (.int p4)] below meth c Z n0 T38 4 26 [ob a8 own_C0 (own_F0 (.ref b_3) (.int R_3)), ari b_3 .int n_3 L_3] → Rn p e below F T38 (mkF m 117 #[.val (.int p0), .val (.int p1), .val (.int p2), .val (.int p3), .val (.int p4), .val (.int nq), .val (.int r10), .val (.int v27), .val (.int v0), .val (.int v1), .val (.int v2), .val (.int v3), .val (.ref a8), .unset] []) by
    by_cases hc107 : nq < (3 : Int32)
    · refine Rn.go (T' := T26) (g' := (mkF m 117 #[.val (.int p0), .val (.int p1), .val (.int p2), .val (.int p3), .val (.int p4), .val (.int nq), .val (.int r10), .val (.int v27), .val (.int v0), .val (.int v1), .val (.int v2), .val (.int v3), .val (.ref a8), .unset] [])) (fun t k => XS.icmpYes Y27.here hx rfl (pc0 := 107) (pc' := 117) rfl (hb hby at_107) rfl (tlt hc107).1 (by decide) (by decide) k) ?_
      exact HJ117 _ _ _ _ _ _ (by rw [if_pos hc107]) (own_invB hI_2 (by omega) (by decide)) (On.more Y27 (by decide) (by decide))
    · refine Rn.go (T' := T26) (g' := (mkF m 110 #[.val (.int p0), .val (.int p1), .val (.int p2), .val (.int p3), .val (.int p4), .val (.int nq), .val (.int r10), .val (.int v27), .val (.int v0), .val (.int v1), .val (.int v2), .val (.int v3), .val (.ref a8), .unset] [])) (fun t k => XS.icmpNo Y27.here hx rfl (hb hby at_107) rfl (flt hc107).1 k) ?_
      refine Rn.go (T' := T26) (g' := (mkF m 114 #[.val (.int p0), .val (.int p1), .val (.int p2), .val (.int p3), .val (.int p4), .val (.int nq), .val (.int r10), .val (.int v27), .val (.int v0), .val (.int v1), .val (.int v2), .val (.int v3), .val (.ref a8), .unset] [(.int v2), (.ref a8)])) (fun t k => ?_) ?_
      · show Steps p.tables e below (T26.setTop (mkF m 110 #[.val (.int p0), .val (.int p1), .val (.int p2), .val (.int p3), .val (.int p4), .val (.int nq), .val (.int r10), .val (.int v27), .val (.int v0), .val (.int v1), .val (.int v2), .val (.int v3), .val (.ref a8), .unset] [])) t
        refine XS.aload Y27.here hx rfl (hb hby at_110) rfl rfl ?_
        show Steps p.tables e below (T26.setTop (mkF m 112 #[.val (.int p0), .val (.int p1), .val (.int p2), .val (.int p3), .val (.int p4), .val (.int nq), .val (.int r10), .val (.int v27), .val (.int v0), .val (.int v1), .val (.int v2), .val (.int v3), .val (.ref a8), .unset] [(.ref a8)])) t
        refine XS.iload Y27.here hx rfl (hb hby at_112) rfl ?_
        show Steps p.tables e below (T26.setTop (mkF m 114 #[.val (.int p0), .val (.int p1), .val (.int p2), .val (.int p3), .val (.int p4), .val (.int nq), .val (.int r10), .val (.int v27), .val (.int v0), .val (.int v1), .val (.int v2), .val (.int v3), .val (.ref a8), .unset] [(.int v2), (.ref a8)])) t
        exact k
      refine On.virtual Y27 hx hZ (y := (⟨"com/example/vistrace/vistrace/checker/RunSet", "add", "(I)V"⟩ : MethodName)) (C := "com/example/vistrace/vistrace/checker/RunSet") hown (w18 hw) (w19 hw) (w20 hw) (w21 hw) (w22 hw) (w7 hw) (by decide) (a := a8) (argsL := [(.int v2)]) (rest := []) (i := 0) rfl (rm4 l Z a0 hw n0 a8 v2 b_2 R_2 n_2 L_2 2 k2 (v1.toInt + 1) hI_2 (by decide) (by omega) (by omega) (by omega)) (W := 0) (by decide) (by decide) (by decide) (by decide) (g := (mkF m 114 #[.val (.int p0), .val (.int p1), .val (.int p2), .val (.int p3), .val (.int p4), .val (.int nq), .val (.int r10), .val (.int v27), .val (.int v0), .val (.int v1), .val (.int v2), .val (.int v3), .val (.ref a8), .unset] [(.int v2), (.ref a8)])) rfl (by rw [hml]; rfl) (lenOf pd5 rfl) rfl (by show 2 * 0 + _ ≤ _; exact Nat.le_of_eq rfl) (hb hby at_114) ?_
      intro T40 u42 D43 hp44 Y41
      obtain ⟨rfl, b45, R46, n47, L48, rfl, hI49⟩ := hp44
      show Rn p e below F T40 (mkF m 117 #[.val (.int p0), .val (.int p1), .val (.int p2), .val (.int p3), .val (.int p4), .val (.int nq), .val (.int r10), .val (.int v27), .val (.int v0), .val (.int v1), .val (.int v2), .val (.int v3), .val (.ref a8), .unset] [])
      exact HJ117 _ _ _ _ _ _ (by rw [if_neg hc107]) hI49 Y41
  intro T38 b_3 R_3 n_3 L_3 k3 hk3 hI_3 Y39
  refine Rn.go (T' := T38) (g' := (mkF m 120 #[.val (.int p0), .val (.int p1), .val (.int p2), .val (.int p3), .val (.int p4), .val (.int nq), .val (.int r10), .val (.int v27), .val (.int v0), .val (.int v1), .val (.int v2), .val (.int v3), .val (.ref a8), .unset] [(.int (1 : Int32)), (.int r10)])) (fun t k => ?_) ?_
  · show Steps p.tables e below (T38.setTop (mkF m 117 #[.val (.int p0), .val (.int p1), .val (.int p2), .val (.int p3), .val (.int p4), .val (.int nq), .val (.int r10), .val (.int v27), .val (.int v0), .val (.int v1), .val (.int v2), .val (.int v3), .val (.ref a8), .unset] [])) t
    refine XS.iload Y39.here hx rfl (hb hby at_117) rfl ?_
    show Steps p.tables e below (T38.setTop (mkF m 119 #[.val (.int p0), .val (.int p1), .val (.int p2), .val (.int p3), .val (.int p4), .val (.int nq), .val (.int r10), .val (.int v27), .val (.int v0), .val (.int v1), .val (.int v2), .val (.int v3), .val (.ref a8), .unset] [(.int r10)])) t
    refine XS.iconst Y39.here hx rfl (hb hby at_119) ?_
    show Steps p.tables e below (T38.setTop (mkF m 120 #[.val (.int p0), .val (.int p1), .val (.int p2), .val (.int p3), .val (.int p4), .val (.int nq), .val (.int r10), .val (.int v27), .val (.int v0), .val (.int v1), .val (.int v2), .val (.int v3), .val (.ref a8), .unset] [(.int (1 : Int32)), (.int r10)])) t
    exact k
  suffices HJ128 : ∀ (T50 : State) (b_4 : Addr) (R_4 : Int32) (n_4 : Int32) (L_4 : List Int32) (k4 : Int32) (hk4 : k4 = (if r10 < (1 : Int32) then k3 else (k3 - 1))) (hI_4 : own_inv 3 R_4 n_4 L_4 k4 (v2.toInt + 1)), On p l e room_1 s m #[(.int p0), (.int p1), (.int p2), (.int p3), (.int p4)] below meth c Z n0 T50 4 26 [ob a8 own_C0 (own_F0 (.ref b_4) (.int R_4)), ari b_4 .int n_4 L_4] → Rn p e below F T50 (mkF m 128 #[.val (.int p0), .val (.int p1), .val (.int p2), .val (.int p3), .val (.int p4), .val (.int nq), .val (.int r10), .val (.int v27), .val (.int v0), .val (.int v1), .val (.int v2), .val (.int v3), .val (.ref a8), .unset] []) by
    by_cases hc120 : r10 < (1 : Int32)
    · refine Rn.go (T' := T38) (g' := (mkF m 128 #[.val (.int p0), .val (.int p1), .val (.int p2), .val (.int p3), .val (.int p4), .val (.int nq), .val (.int r10), .val (.int v27), .val (.int v0), .val (.int v1), .val (.int v2), .val (.int v3), .val (.ref a8), .unset] [])) (fun t k => XS.icmpYes Y39.here hx rfl (pc0 := 120) (pc' := 128) rfl (hb hby at_120) rfl (tlt hc120).1 (by decide) (by decide) k) ?_
      exact HJ128 _ _ _ _ _ _ (by rw [if_pos hc120]) (own_invB hI_3 (by omega) (by decide)) (On.more Y39 (by decide) (by decide))
    · refine Rn.go (T' := T38) (g' := (mkF m 123 #[.val (.int p0), .val (.int p1), .val (.int p2), .val (.int p3), .val (.int p4), .val (.int nq), .val (.int r10), .val (.int v27), .val (.int v0), .val (.int v1), .val (.int v2), .val (.int v3), .val (.ref a8), .unset] [])) (fun t k => XS.icmpNo Y39.here hx rfl (hb hby at_120) rfl (flt hc120).1 k) ?_
      refine Rn.go (T' := T38) (g' := (mkF m 125 #[.val (.int p0), .val (.int p1), .val (.int p2), .val (.int p3), .val (.int p4), .val (.int nq), .val (.int r10), .val (.int v27), .val (.int v0), .val (.int v1), .val (.int v2), .val (.int v3), .val (.ref a8), .unset] [(.ref a8)])) (fun t k => ?_) ?_
      · show Steps p.tables e below (T38.setTop (mkF m 123 #[.val (.int p0), .val (.int p1), .val (.int p2), .val (.int p3), .val (.int p4), .val (.int nq), .val (.int r10), .val (.int v27), .val (.int v0), .val (.int v1), .val (.int v2), .val (.int v3), .val (.ref a8), .unset] [])) t
        refine XS.aload Y39.here hx rfl (hb hby at_123) rfl rfl ?_
        show Steps p.tables e below (T38.setTop (mkF m 125 #[.val (.int p0), .val (.int p1), .val (.int p2), .val (.int p3), .val (.int p4), .val (.int nq), .val (.int r10), .val (.int v27), .val (.int v0), .val (.int v1), .val (.int v2), .val (.int v3), .val (.ref a8), .unset] [(.ref a8)])) t
        exact k
      refine On.virtual Y39 hx hZ (y := (⟨"com/example/vistrace/vistrace/checker/RunSet", "removeLargest", "()V"⟩ : MethodName)) (C := "com/example/vistrace/vistrace/checker/RunSet") hown (w42 hw) (w43 hw) (w44 hw) (w45 hw) (w46 hw) (w7 hw) (by decide) (a := a8) (argsL := []) (rest := []) (i := 0) rfl (rm8 l Z a0 hw n0 a8 b_3 R_3 n_3 L_3 3 k3 (v2.toInt + 1) hI_3 (own_f1 bnq bdd hr10 hk0 hk1 hk2 hk3 hc120)) (W := 0) (by decide) (by decide) (by decide) (by decide) (g := (mkF m 125 #[.val (.int p0), .val (.int p1), .val (.int p2), .val (.int p3), .val (.int p4), .val (.int nq), .val (.int r10), .val (.int v27), .val (.int v0), .val (.int v1), .val (.int v2), .val (.int v3), .val (.ref a8), .unset] [(.ref a8)])) rfl (by rw [hml]; rfl) (lenOf pd4 rfl) rfl (by show 2 * 0 + _ ≤ _; exact Nat.le_of_eq rfl) (hb hby at_125) ?_
      intro T52 u54 D55 hp56 Y53
      obtain ⟨rfl, b57, R58, n59, L60, rfl, hI61⟩ := hp56
      show Rn p e below F T52 (mkF m 128 #[.val (.int p0), .val (.int p1), .val (.int p2), .val (.int p3), .val (.int p4), .val (.int nq), .val (.int r10), .val (.int v27), .val (.int v0), .val (.int v1), .val (.int v2), .val (.int v3), .val (.ref a8), .unset] [])
      exact HJ128 _ _ _ _ _ _ (by rw [if_neg hc120]) hI61 Y53
  intro T50 b_4 R_4 n_4 L_4 k4 hk4 hI_4 Y51
  refine Rn.go (T' := T50) (g' := (mkF m 131 #[.val (.int p0), .val (.int p1), .val (.int p2), .val (.int p3), .val (.int p4), .val (.int nq), .val (.int r10), .val (.int v27), .val (.int v0), .val (.int v1), .val (.int v2), .val (.int v3), .val (.ref a8), .unset] [(.int (2 : Int32)), (.int r10)])) (fun t k => ?_) ?_
  · show Steps p.tables e below (T50.setTop (mkF m 128 #[.val (.int p0), .val (.int p1), .val (.int p2), .val (.int p3), .val (.int p4), .val (.int nq), .val (.int r10), .val (.int v27), .val (.int v0), .val (.int v1), .val (.int v2), .val (.int v3), .val (.ref a8), .unset] [])) t
    refine XS.iload Y51.here hx rfl (hb hby at_128) rfl ?_
    show Steps p.tables e below (T50.setTop (mkF m 130 #[.val (.int p0), .val (.int p1), .val (.int p2), .val (.int p3), .val (.int p4), .val (.int nq), .val (.int r10), .val (.int v27), .val (.int v0), .val (.int v1), .val (.int v2), .val (.int v3), .val (.ref a8), .unset] [(.int r10)])) t
    refine XS.iconst Y51.here hx rfl (hb hby at_130) ?_
    show Steps p.tables e below (T50.setTop (mkF m 131 #[.val (.int p0), .val (.int p1), .val (.int p2), .val (.int p3), .val (.int p4), .val (.int nq), .val (.int r10), .val (.int v27), .val (.int v0), .val (.int v1), .val (.int v2), .val (.int v3), .val (.ref a8), .unset] [(.int (2 : Int32)), (.int r10)])) t
    exact k
  suffices HJ139 : ∀ (T62 : State) (b_5 : Addr) (R_5 : Int32) (n_5 : Int32) (L_5 : List Int32) (k5 : Int32) (hk5 : k5 = (if r10 < (2 : Int32) then k4 else (k4 - 1))) (hI_5 : own_inv 3 R_5 n_5 L_5 k5 (v2.toInt + 1)), On p l e room_1 s m #[(.int p0), (.int p1), (.int p2), (.int p3), (.int p4)] below meth c Z n0 T62 4 26 [ob a8 own_C0 (own_F0 (.ref b_5) (.int R_5)), ari b_5 .int n_5 L_5] → Rn p e below F T62 (mkF m 139 #[.val (.int p0), .val (.int p1), .val (.int p2), .val (.int p3), .val (.int p4), .val (.int nq), .val (.int r10), .val (.int v27), .val (.int v0), .val (.int v1), .val (.int v2), .val (.int v3), .val (.ref a8), .unset] []) by
    by_cases hc131 : r10 < (2 : Int32)
    · refine Rn.go (T' := T50) (g' := (mkF m 139 #[.val (.int p0), .val (.int p1), .val (.int p2), .val (.int p3), .val (.int p4), .val (.int nq), .val (.int r10), .val (.int v27), .val (.int v0), .val (.int v1), .val (.int v2), .val (.int v3), .val (.ref a8), .unset] [])) (fun t k => XS.icmpYes Y51.here hx rfl (pc0 := 131) (pc' := 139) rfl (hb hby at_131) rfl (tlt hc131).1 (by decide) (by decide) k) ?_
      exact HJ139 _ _ _ _ _ _ (by rw [if_pos hc131]) (own_invB hI_4 (by omega) (by decide)) (On.more Y51 (by decide) (by decide))
    · refine Rn.go (T' := T50) (g' := (mkF m 134 #[.val (.int p0), .val (.int p1), .val (.int p2), .val (.int p3), .val (.int p4), .val (.int nq), .val (.int r10), .val (.int v27), .val (.int v0), .val (.int v1), .val (.int v2), .val (.int v3), .val (.ref a8), .unset] [])) (fun t k => XS.icmpNo Y51.here hx rfl (hb hby at_131) rfl (flt hc131).1 k) ?_
      refine Rn.go (T' := T50) (g' := (mkF m 136 #[.val (.int p0), .val (.int p1), .val (.int p2), .val (.int p3), .val (.int p4), .val (.int nq), .val (.int r10), .val (.int v27), .val (.int v0), .val (.int v1), .val (.int v2), .val (.int v3), .val (.ref a8), .unset] [(.ref a8)])) (fun t k => ?_) ?_
      · show Steps p.tables e below (T50.setTop (mkF m 134 #[.val (.int p0), .val (.int p1), .val (.int p2), .val (.int p3), .val (.int p4), .val (.int nq), .val (.int r10), .val (.int v27), .val (.int v0), .val (.int v1), .val (.int v2), .val (.int v3), .val (.ref a8), .unset] [])) t
        refine XS.aload Y51.here hx rfl (hb hby at_134) rfl rfl ?_
        show Steps p.tables e below (T50.setTop (mkF m 136 #[.val (.int p0), .val (.int p1), .val (.int p2), .val (.int p3), .val (.int p4), .val (.int nq), .val (.int r10), .val (.int v27), .val (.int v0), .val (.int v1), .val (.int v2), .val (.int v3), .val (.ref a8), .unset] [(.ref a8)])) t
        exact k
      refine On.virtual Y51 hx hZ (y := (⟨"com/example/vistrace/vistrace/checker/RunSet", "removeLargest", "()V"⟩ : MethodName)) (C := "com/example/vistrace/vistrace/checker/RunSet") hown (w42 hw) (w43 hw) (w44 hw) (w45 hw) (w46 hw) (w7 hw) (by decide) (a := a8) (argsL := []) (rest := []) (i := 0) rfl (rm8 l Z a0 hw n0 a8 b_4 R_4 n_4 L_4 3 k4 (v2.toInt + 1) hI_4 (own_f2 bnq bdd hr10 hk0 hk1 hk2 hk3 hk4 hc131)) (W := 0) (by decide) (by decide) (by decide) (by decide) (g := (mkF m 136 #[.val (.int p0), .val (.int p1), .val (.int p2), .val (.int p3), .val (.int p4), .val (.int nq), .val (.int r10), .val (.int v27), .val (.int v0), .val (.int v1), .val (.int v2), .val (.int v3), .val (.ref a8), .unset] [(.ref a8)])) rfl (by rw [hml]; rfl) (lenOf pd4 rfl) rfl (by show 2 * 0 + _ ≤ _; exact Nat.le_of_eq rfl) (hb hby at_136) ?_
      intro T64 u66 D67 hp68 Y65
      obtain ⟨rfl, b69, R70, n71, L72, rfl, hI73⟩ := hp68
      show Rn p e below F T64 (mkF m 139 #[.val (.int p0), .val (.int p1), .val (.int p2), .val (.int p3), .val (.int p4), .val (.int nq), .val (.int r10), .val (.int v27), .val (.int v0), .val (.int v1), .val (.int v2), .val (.int v3), .val (.ref a8), .unset] [])
      exact HJ139 _ _ _ _ _ _ (by rw [if_neg hc131]) hI73 Y65
  intro T62 b_5 R_5 n_5 L_5 k5 hk5 hI_5 Y63
  refine Rn.go (T' := T62) (g' := (mkF m 142 #[.val (.int p0), .val (.int p1), .val (.int p2), .val (.int p3), .val (.int p4), .val (.int nq), .val (.int r10), .val (.int v27), .val (.int v0), .val (.int v1), .val (.int v2), .val (.int v3), .val (.ref a8), .unset] [(.int (3 : Int32)), (.int r10)])) (fun t k => ?_) ?_
  · show Steps p.tables e below (T62.setTop (mkF m 139 #[.val (.int p0), .val (.int p1), .val (.int p2), .val (.int p3), .val (.int p4), .val (.int nq), .val (.int r10), .val (.int v27), .val (.int v0), .val (.int v1), .val (.int v2), .val (.int v3), .val (.ref a8), .unset] [])) t
    refine XS.iload Y63.here hx rfl (hb hby at_139) rfl ?_
    show Steps p.tables e below (T62.setTop (mkF m 141 #[.val (.int p0), .val (.int p1), .val (.int p2), .val (.int p3), .val (.int p4), .val (.int nq), .val (.int r10), .val (.int v27), .val (.int v0), .val (.int v1), .val (.int v2), .val (.int v3), .val (.ref a8), .unset] [(.int r10)])) t
    refine XS.iconst Y63.here hx rfl (hb hby at_141) ?_
    show Steps p.tables e below (T62.setTop (mkF m 142 #[.val (.int p0), .val (.int p1), .val (.int p2), .val (.int p3), .val (.int p4), .val (.int nq), .val (.int r10), .val (.int v27), .val (.int v0), .val (.int v1), .val (.int v2), .val (.int v3), .val (.ref a8), .unset] [(.int (3 : Int32)), (.int r10)])) t
    exact k
  suffices HJ150 : ∀ (T74 : State) (b_6 : Addr) (R_6 : Int32) (n_6 : Int32) (L_6 : List Int32) (k6 : Int32) (hk6 : k6 = (if r10 < (3 : Int32) then k5 else (k5 - 1))) (hI_6 : own_inv 3 R_6 n_6 L_6 k6 (v2.toInt + 1)), On p l e room_1 s m #[(.int p0), (.int p1), (.int p2), (.int p3), (.int p4)] below meth c Z n0 T74 4 26 [ob a8 own_C0 (own_F0 (.ref b_6) (.int R_6)), ari b_6 .int n_6 L_6] → Rn p e below F T74 (mkF m 150 #[.val (.int p0), .val (.int p1), .val (.int p2), .val (.int p3), .val (.int p4), .val (.int nq), .val (.int r10), .val (.int v27), .val (.int v0), .val (.int v1), .val (.int v2), .val (.int v3), .val (.ref a8), .unset] []) by
    by_cases hc142 : r10 < (3 : Int32)
    · refine Rn.go (T' := T62) (g' := (mkF m 150 #[.val (.int p0), .val (.int p1), .val (.int p2), .val (.int p3), .val (.int p4), .val (.int nq), .val (.int r10), .val (.int v27), .val (.int v0), .val (.int v1), .val (.int v2), .val (.int v3), .val (.ref a8), .unset] [])) (fun t k => XS.icmpYes Y63.here hx rfl (pc0 := 142) (pc' := 150) rfl (hb hby at_142) rfl (tlt hc142).1 (by decide) (by decide) k) ?_
      exact HJ150 _ _ _ _ _ _ (by rw [if_pos hc142]) (own_invB hI_5 (by omega) (by decide)) (On.more Y63 (by decide) (by decide))
    · refine Rn.go (T' := T62) (g' := (mkF m 145 #[.val (.int p0), .val (.int p1), .val (.int p2), .val (.int p3), .val (.int p4), .val (.int nq), .val (.int r10), .val (.int v27), .val (.int v0), .val (.int v1), .val (.int v2), .val (.int v3), .val (.ref a8), .unset] [])) (fun t k => XS.icmpNo Y63.here hx rfl (hb hby at_142) rfl (flt hc142).1 k) ?_
      refine Rn.go (T' := T62) (g' := (mkF m 147 #[.val (.int p0), .val (.int p1), .val (.int p2), .val (.int p3), .val (.int p4), .val (.int nq), .val (.int r10), .val (.int v27), .val (.int v0), .val (.int v1), .val (.int v2), .val (.int v3), .val (.ref a8), .unset] [(.ref a8)])) (fun t k => ?_) ?_
      · show Steps p.tables e below (T62.setTop (mkF m 145 #[.val (.int p0), .val (.int p1), .val (.int p2), .val (.int p3), .val (.int p4), .val (.int nq), .val (.int r10), .val (.int v27), .val (.int v0), .val (.int v1), .val (.int v2), .val (.int v3), .val (.ref a8), .unset] [])) t
        refine XS.aload Y63.here hx rfl (hb hby at_145) rfl rfl ?_
        show Steps p.tables e below (T62.setTop (mkF m 147 #[.val (.int p0), .val (.int p1), .val (.int p2), .val (.int p3), .val (.int p4), .val (.int nq), .val (.int r10), .val (.int v27), .val (.int v0), .val (.int v1), .val (.int v2), .val (.int v3), .val (.ref a8), .unset] [(.ref a8)])) t
        exact k
      refine On.virtual Y63 hx hZ (y := (⟨"com/example/vistrace/vistrace/checker/RunSet", "removeLargest", "()V"⟩ : MethodName)) (C := "com/example/vistrace/vistrace/checker/RunSet") hown (w42 hw) (w43 hw) (w44 hw) (w45 hw) (w46 hw) (w7 hw) (by decide) (a := a8) (argsL := []) (rest := []) (i := 0) rfl (rm8 l Z a0 hw n0 a8 b_5 R_5 n_5 L_5 3 k5 (v2.toInt + 1) hI_5 (own_f3 bnq bdd hr10 hk0 hk1 hk2 hk3 hk4 hk5 hc142)) (W := 0) (by decide) (by decide) (by decide) (by decide) (g := (mkF m 147 #[.val (.int p0), .val (.int p1), .val (.int p2), .val (.int p3), .val (.int p4), .val (.int nq), .val (.int r10), .val (.int v27), .val (.int v0), .val (.int v1), .val (.int v2), .val (.int v3), .val (.ref a8), .unset] [(.ref a8)])) rfl (by rw [hml]; rfl) (lenOf pd4 rfl) rfl (by show 2 * 0 + _ ≤ _; exact Nat.le_of_eq rfl) (hb hby at_147) ?_
      intro T76 u78 D79 hp80 Y77
      obtain ⟨rfl, b81, R82, n83, L84, rfl, hI85⟩ := hp80
      show Rn p e below F T76 (mkF m 150 #[.val (.int p0), .val (.int p1), .val (.int p2), .val (.int p3), .val (.int p4), .val (.int nq), .val (.int r10), .val (.int v27), .val (.int v0), .val (.int v1), .val (.int v2), .val (.int v3), .val (.ref a8), .unset] [])
      exact HJ150 _ _ _ _ _ _ (by rw [if_neg hc142]) hI85 Y77
  intro T74 b_6 R_6 n_6 L_6 k6 hk6 hI_6 Y75
  refine Rn.go (T' := T74) (g' := (mkF m 159 #[.val (.int p0), .val (.int p1), .val (.int p2), .val (.int p3), .val (.int p4), .val (.int nq), .val (.int r10), .val (.int v27), .val (.int v0), .val (.int v1), .val (.int v2), .val (.int v3), .val (.ref a8), .val (.int (nq - r10))] [(.int v27)])) (fun t k => ?_) ?_
  · show Steps p.tables e below (T74.setTop (mkF m 150 #[.val (.int p0), .val (.int p1), .val (.int p2), .val (.int p3), .val (.int p4), .val (.int nq), .val (.int r10), .val (.int v27), .val (.int v0), .val (.int v1), .val (.int v2), .val (.int v3), .val (.ref a8), .unset] [])) t
    refine XS.iload Y75.here hx rfl (hb hby at_150) rfl ?_
    show Steps p.tables e below (T74.setTop (mkF m 152 #[.val (.int p0), .val (.int p1), .val (.int p2), .val (.int p3), .val (.int p4), .val (.int nq), .val (.int r10), .val (.int v27), .val (.int v0), .val (.int v1), .val (.int v2), .val (.int v3), .val (.ref a8), .unset] [(.int nq)])) t
    refine XS.iload Y75.here hx rfl (hb hby at_152) rfl ?_
    show Steps p.tables e below (T74.setTop (mkF m 154 #[.val (.int p0), .val (.int p1), .val (.int p2), .val (.int p3), .val (.int p4), .val (.int nq), .val (.int r10), .val (.int v27), .val (.int v0), .val (.int v1), .val (.int v2), .val (.int v3), .val (.ref a8), .unset] [(.int r10), (.int nq)])) t
    refine XS.isub Y75.here hx rfl (hb hby at_154) rfl ?_
    show Steps p.tables e below (T74.setTop (mkF m 155 #[.val (.int p0), .val (.int p1), .val (.int p2), .val (.int p3), .val (.int p4), .val (.int nq), .val (.int r10), .val (.int v27), .val (.int v0), .val (.int v1), .val (.int v2), .val (.int v3), .val (.ref a8), .unset] [(.int (nq - r10))])) t
    refine XS.istore Y75.here hx rfl (hb hby at_155) rfl (l' := #[.val (.int p0), .val (.int p1), .val (.int p2), .val (.int p3), .val (.int p4), .val (.int nq), .val (.int r10), .val (.int v27), .val (.int v0), .val (.int v1), .val (.int v2), .val (.int v3), .val (.ref a8), .val (.int (nq - r10))]) rfl ?_
    show Steps p.tables e below (T74.setTop (mkF m 157 #[.val (.int p0), .val (.int p1), .val (.int p2), .val (.int p3), .val (.int p4), .val (.int nq), .val (.int r10), .val (.int v27), .val (.int v0), .val (.int v1), .val (.int v2), .val (.int v3), .val (.ref a8), .val (.int (nq - r10))] [])) t
    refine XS.iload Y75.here hx rfl (hb hby at_157) rfl ?_
    show Steps p.tables e below (T74.setTop (mkF m 159 #[.val (.int p0), .val (.int p1), .val (.int p2), .val (.int p3), .val (.int p4), .val (.int nq), .val (.int r10), .val (.int v27), .val (.int v0), .val (.int v1), .val (.int v2), .val (.int v3), .val (.ref a8), .val (.int (nq - r10))] [(.int v27)])) t
    exact k
  suffices HJ175 : ∀ (T86 : State) (b_7 : Addr) (R_7 : Int32) (n_7 : Int32) (L_7 : List Int32) (k7 : Int32) (e13 : Int32) (hk7 : k7 = (if v27 = (0 : Int32) then k6 else (k6 + 1))) (he13 : e13 = (if v27 = (0 : Int32) then (nq - r10) else ((nq - r10) + (1 : Int32)))) (hI_7 : own_inv 4 R_7 n_7 L_7 k7 (v3.toInt + 1)), On p l e room_1 s m #[(.int p0), (.int p1), (.int p2), (.int p3), (.int p4)] below meth c Z n0 T86 5 34 [ob a8 own_C0 (own_F0 (.ref b_7) (.int R_7)), ari b_7 .int n_7 L_7] → Rn p e below F T86 (mkF m 175 #[.val (.int p0), .val (.int p1), .val (.int p2), .val (.int p3), .val (.int p4), .val (.int nq), .val (.int r10), .val (.int v27), .val (.int v0), .val (.int v1), .val (.int v2), .val (.int v3), .val (.ref a8), .val (.int e13)] []) by
    by_cases hc159 : v27 = (0 : Int32)
    · refine Rn.go (T' := T74) (g' := (mkF m 175 #[.val (.int p0), .val (.int p1), .val (.int p2), .val (.int p3), .val (.int p4), .val (.int nq), .val (.int r10), .val (.int v27), .val (.int v0), .val (.int v1), .val (.int v2), .val (.int v3), .val (.ref a8), .val (.int (nq - r10))] [])) (fun t k => XS.ifYes Y75.here hx rfl (pc0 := 159) (pc' := 175) rfl (hb hby at_159) rfl ((if0 _ _).trans (teq hc159).1) (by decide) (by decide) k) ?_
      exact HJ175 _ _ _ _ _ _ _ (by rw [if_pos hc159]) (by rw [if_pos hc159]) (own_invB hI_6 (by omega) (by decide)) (On.more Y75 (by decide) (by decide))
    · refine Rn.go (T' := T74) (g' := (mkF m 162 #[.val (.int p0), .val (.int p1), .val (.int p2), .val (.int p3), .val (.int p4), .val (.int nq), .val (.int r10), .val (.int v27), .val (.int v0), .val (.int v1), .val (.int v2), .val (.int v3), .val (.ref a8), .val (.int (nq - r10))] [])) (fun t k => XS.ifNo Y75.here hx rfl (hb hby at_159) rfl ((if0 _ _).trans (feq hc159).1) k) ?_
      refine Rn.go (T' := T74) (g' := (mkF m 166 #[.val (.int p0), .val (.int p1), .val (.int p2), .val (.int p3), .val (.int p4), .val (.int nq), .val (.int r10), .val (.int v27), .val (.int v0), .val (.int v1), .val (.int v2), .val (.int v3), .val (.ref a8), .val (.int (nq - r10))] [(.int v3), (.ref a8)])) (fun t k => ?_) ?_
      · show Steps p.tables e below (T74.setTop (mkF m 162 #[.val (.int p0), .val (.int p1), .val (.int p2), .val (.int p3), .val (.int p4), .val (.int nq), .val (.int r10), .val (.int v27), .val (.int v0), .val (.int v1), .val (.int v2), .val (.int v3), .val (.ref a8), .val (.int (nq - r10))] [])) t
        refine XS.aload Y75.here hx rfl (hb hby at_162) rfl rfl ?_
        show Steps p.tables e below (T74.setTop (mkF m 164 #[.val (.int p0), .val (.int p1), .val (.int p2), .val (.int p3), .val (.int p4), .val (.int nq), .val (.int r10), .val (.int v27), .val (.int v0), .val (.int v1), .val (.int v2), .val (.int v3), .val (.ref a8), .val (.int (nq - r10))] [(.ref a8)])) t
        refine XS.iload Y75.here hx rfl (hb hby at_164) rfl ?_
        show Steps p.tables e below (T74.setTop (mkF m 166 #[.val (.int p0), .val (.int p1), .val (.int p2), .val (.int p3), .val (.int p4), .val (.int nq), .val (.int r10), .val (.int v27), .val (.int v0), .val (.int v1), .val (.int v2), .val (.int v3), .val (.ref a8), .val (.int (nq - r10))] [(.int v3), (.ref a8)])) t
        exact k
      refine On.virtual Y75 hx hZ (y := (⟨"com/example/vistrace/vistrace/checker/RunSet", "add", "(I)V"⟩ : MethodName)) (C := "com/example/vistrace/vistrace/checker/RunSet") hown (w18 hw) (w19 hw) (w20 hw) (w21 hw) (w22 hw) (w7 hw) (by decide) (a := a8) (argsL := [(.int v3)]) (rest := []) (i := 0) rfl (rm4 l Z a0 hw n0 a8 v3 b_6 R_6 n_6 L_6 3 k6 (v2.toInt + 1) hI_6 (by decide) (by omega) (by omega) (by omega)) (W := 0) (by decide) (by decide) (by decide) (by decide) (g := (mkF m 166 #[.val (.int p0), .val (.int p1), .val (.int p2), .val (.int p3), .val (.int p4), .val (.int nq), .val (.int r10), .val (.int v27), .val (.int v0), .val (.int v1), .val (.int v2), .val (.int v3), .val (.ref a8), .val (.int (nq - r10))] [(.int v3), (.ref a8)])) rfl (by rw [hml]; rfl) (lenOf pd5 rfl) rfl (by show 2 * 0 + _ ≤ _; exact Nat.le_of_eq rfl) (hb hby at_166) ?_
      intro T88 u90 D91 hp92 Y89
      obtain ⟨rfl, b93, R94, n95, L96, rfl, hI97⟩ := hp92
      show Rn p e below F T88 (mkF m 169 #[.val (.int p0), .val (.int p1), .val (.int p2), .val (.int p3), .val (.int p4), .val (.int nq), .val (.int r10), .val (.int v27), .val (.int v0), .val (.int v1), .val (.int v2), .val (.int v3), .val (.ref a8), .val (.int (nq - r10))] [])
      refine Rn.go (T' := T88) (g' := (mkF m 175 #[.val (.int p0), .val (.int p1), .val (.int p2), .val (.int p3), .val (.int p4), .val (.int nq), .val (.int r10), .val (.int v27), .val (.int v0), .val (.int v1), .val (.int v2), .val (.int v3), .val (.ref a8), .val (.int ((nq - r10) + (1 : Int32)))] [])) (fun t k => ?_) ?_
      · show Steps p.tables e below (T88.setTop (mkF m 169 #[.val (.int p0), .val (.int p1), .val (.int p2), .val (.int p3), .val (.int p4), .val (.int nq), .val (.int r10), .val (.int v27), .val (.int v0), .val (.int v1), .val (.int v2), .val (.int v3), .val (.ref a8), .val (.int (nq - r10))] [])) t
        refine XS.iload Y89.here hx rfl (hb hby at_169) rfl ?_
        show Steps p.tables e below (T88.setTop (mkF m 171 #[.val (.int p0), .val (.int p1), .val (.int p2), .val (.int p3), .val (.int p4), .val (.int nq), .val (.int r10), .val (.int v27), .val (.int v0), .val (.int v1), .val (.int v2), .val (.int v3), .val (.ref a8), .val (.int (nq - r10))] [(.int (nq - r10))])) t
        refine XS.iconst Y89.here hx rfl (hb hby at_171) ?_
        show Steps p.tables e below (T88.setTop (mkF m 172 #[.val (.int p0), .val (.int p1), .val (.int p2), .val (.int p3), .val (.int p4), .val (.int nq), .val (.int r10), .val (.int v27), .val (.int v0), .val (.int v1), .val (.int v2), .val (.int v3), .val (.ref a8), .val (.int (nq - r10))] [(.int (1 : Int32)), (.int (nq - r10))])) t
        refine XS.iadd Y89.here hx rfl (hb hby at_172) rfl ?_
        show Steps p.tables e below (T88.setTop (mkF m 173 #[.val (.int p0), .val (.int p1), .val (.int p2), .val (.int p3), .val (.int p4), .val (.int nq), .val (.int r10), .val (.int v27), .val (.int v0), .val (.int v1), .val (.int v2), .val (.int v3), .val (.ref a8), .val (.int (nq - r10))] [(.int ((nq - r10) + (1 : Int32)))])) t
        refine XS.istore Y89.here hx rfl (hb hby at_173) rfl (l' := #[.val (.int p0), .val (.int p1), .val (.int p2), .val (.int p3), .val (.int p4), .val (.int nq), .val (.int r10), .val (.int v27), .val (.int v0), .val (.int v1), .val (.int v2), .val (.int v3), .val (.ref a8), .val (.int ((nq - r10) + (1 : Int32)))]) rfl ?_
        show Steps p.tables e below (T88.setTop (mkF m 175 #[.val (.int p0), .val (.int p1), .val (.int p2), .val (.int p3), .val (.int p4), .val (.int nq), .val (.int r10), .val (.int v27), .val (.int v0), .val (.int v1), .val (.int v2), .val (.int v3), .val (.ref a8), .val (.int ((nq - r10) + (1 : Int32)))] [])) t
        exact k
      exact HJ175 _ _ _ _ _ _ _ (by rw [if_neg hc159]) (by rw [if_neg hc159]) hI97 Y89
  intro T86 b_7 R_7 n_7 L_7 k7 e13 hk7 he13 hI_7 Y87
  refine Rn.go (T' := T86) (g' := (mkF m 177 #[.val (.int p0), .val (.int p1), .val (.int p2), .val (.int p3), .val (.int p4), .val (.int nq), .val (.int r10), .val (.int v27), .val (.int v0), .val (.int v1), .val (.int v2), .val (.int v3), .val (.ref a8), .val (.int e13)] [(.ref a8)])) (fun t k => ?_) ?_
  · show Steps p.tables e below (T86.setTop (mkF m 175 #[.val (.int p0), .val (.int p1), .val (.int p2), .val (.int p3), .val (.int p4), .val (.int nq), .val (.int r10), .val (.int v27), .val (.int v0), .val (.int v1), .val (.int v2), .val (.int v3), .val (.ref a8), .val (.int e13)] [])) t
    refine XS.aload Y87.here hx rfl (hb hby at_175) rfl rfl ?_
    show Steps p.tables e below (T86.setTop (mkF m 177 #[.val (.int p0), .val (.int p1), .val (.int p2), .val (.int p3), .val (.int p4), .val (.int nq), .val (.int r10), .val (.int v27), .val (.int v0), .val (.int v1), .val (.int v2), .val (.int v3), .val (.ref a8), .val (.int e13)] [(.ref a8)])) t
    exact k
  refine On.virtual Y87 hx hZ (y := (⟨"com/example/vistrace/vistrace/checker/RunSet", "size", "()I"⟩ : MethodName)) (C := "com/example/vistrace/vistrace/checker/RunSet") hown (w47 hw) (w48 hw) (w49 hw) (w50 hw) (w51 hw) (w7 hw) (by decide) (a := a8) (argsL := []) (rest := []) (i := 0) rfl (rm9 l Z a0 hw n0 a8 b_7 R_7 n_7 L_7 hI_7.2.1 hI_7.2.2.2.1 (own_i1 hI_7).2.2.1) (W := 0) (by decide) (by decide) (by decide) (by decide) (g := (mkF m 177 #[.val (.int p0), .val (.int p1), .val (.int p2), .val (.int p3), .val (.int p4), .val (.int nq), .val (.int r10), .val (.int v27), .val (.int v0), .val (.int v1), .val (.int v2), .val (.int v3), .val (.ref a8), .val (.int e13)] [(.ref a8)])) rfl (by rw [hml]; rfl) (lenOf pd6 rfl) rfl (by show 2 * 0 + _ ≤ _; exact Nat.le_of_eq rfl) (hb hby at_177) ?_
  intro T98 u100 D101 hp102 Y99
  obtain ⟨r177, hr177, rfl, rfl⟩ : ∃ z : Int32, z = (own_sz L_7 R_7.toInt.toNat) ∧ u100 = some (.int z) ∧ D101 = _ := ⟨_, rfl, hp102.1, hp102.2⟩
  replace Y99 : On p l e _ s m _ below meth c Z n0 T98 5 34 [ob a8 own_C0 (own_F0 (.ref b_7) (.int R_7)), ari b_7 .int n_7 L_7] := Y99
  show Rn p e below F T98 (mkF m 180 #[.val (.int p0), .val (.int p1), .val (.int p2), .val (.int p3), .val (.int p4), .val (.int nq), .val (.int r10), .val (.int v27), .val (.int v0), .val (.int v1), .val (.int v2), .val (.int v3), .val (.ref a8), .val (.int e13)] [(.int r177)])
  refine Rn.go (T' := T98) (g' := (mkF m 182 #[.val (.int p0), .val (.int p1), .val (.int p2), .val (.int p3), .val (.int p4), .val (.int nq), .val (.int r10), .val (.int v27), .val (.int v0), .val (.int v1), .val (.int v2), .val (.int v3), .val (.ref a8), .val (.int e13)] [(.int e13), (.int r177)])) (fun t k => ?_) ?_
  · show Steps p.tables e below (T98.setTop (mkF m 180 #[.val (.int p0), .val (.int p1), .val (.int p2), .val (.int p3), .val (.int p4), .val (.int nq), .val (.int r10), .val (.int v27), .val (.int v0), .val (.int v1), .val (.int v2), .val (.int v3), .val (.ref a8), .val (.int e13)] [(.int r177)])) t
    refine XS.iload Y99.here hx rfl (hb hby at_180) rfl ?_
    show Steps p.tables e below (T98.setTop (mkF m 182 #[.val (.int p0), .val (.int p1), .val (.int p2), .val (.int p3), .val (.int p4), .val (.int nq), .val (.int r10), .val (.int v27), .val (.int v0), .val (.int v1), .val (.int v2), .val (.int v3), .val (.ref a8), .val (.int e13)] [(.int e13), (.int r177)])) t
    exact k
  refine Rn.go (T' := T98) (g' := (mkF m 185 #[.val (.int p0), .val (.int p1), .val (.int p2), .val (.int p3), .val (.int p4), .val (.int nq), .val (.int r10), .val (.int v27), .val (.int v0), .val (.int v1), .val (.int v2), .val (.int v3), .val (.ref a8), .val (.int e13)] [])) (fun t k => XS.icmpNo Y99.here hx rfl (hb hby at_182) rfl (teq (by rw [hr177, hI_7.2.2.2.2.2.2.2]; exact (own_f4 bnq bdd (own_bit hv27) hr10 hk0 hk1 hk2 hk3 hk4 hk5 hk6 hk7 he13))).2 k) ?_
  refine Rn.go (T' := T98) (g' := (mkF m 190 #[.val (.int p0), .val (.int p1), .val (.int p2), .val (.int p3), .val (.int p4), .val (.int nq), .val (.int r10), .val (.int v27), .val (.int v0), .val (.int v1), .val (.int v2), .val (.int v3), .val (.ref a8), .val (.int e13)] [(.int (1 : Int32))])) (fun t k => ?_) ?_
  · show Steps p.tables e below (T98.setTop (mkF m 185 #[.val (.int p0), .val (.int p1), .val (.int p2), .val (.int p3), .val (.int p4), .val (.int nq), .val (.int r10), .val (.int v27), .val (.int v0), .val (.int v1), .val (.int v2), .val (.int v3), .val (.ref a8), .val (.int e13)] [])) t
    refine XS.iconst Y99.here hx rfl (hb hby at_185) ?_
    show Steps p.tables e below (T98.setTop (mkF m 186 #[.val (.int p0), .val (.int p1), .val (.int p2), .val (.int p3), .val (.int p4), .val (.int nq), .val (.int r10), .val (.int v27), .val (.int v0), .val (.int v1), .val (.int v2), .val (.int v3), .val (.ref a8), .val (.int e13)] [(.int (1 : Int32))])) t
    refine XS.goto Y99.here hx rfl (pc0 := 186) (pc' := 190) rfl (hb hby at_186) (by decide) (by decide) ?_
    show Steps p.tables e below (T98.setTop (mkF m 190 #[.val (.int p0), .val (.int p1), .val (.int p2), .val (.int p3), .val (.int p4), .val (.int nq), .val (.int r10), .val (.int v27), .val (.int v0), .val (.int v1), .val (.int v2), .val (.int v3), .val (.ref a8), .val (.int e13)] [(.int (1 : Int32))])) t
    exact k
  rw [← hF]; exact On.retn Y99 hx hret (by simp) hlk (z' := (1 : Int32)) (by decide) (hb hby at_190) (by decide) (by decide) rfl
set_option maxRecDepth 65536 in
set_option maxHeartbeats 40000000 in
theorem comes_1 {Post : Tables → Env → Array Value → State → Outcome → State → Prop} (hpost : ∀ tb e args s v u, (limb_1_1.after args s (.returned v) u = true ∧ limb_1_2.after args s (.returned v) u = true ∧ True) → FrameEnd s (.returned v) u (Jvm.fieldLocs frame_1_writes args s ++ Jvm.arrayLocs frame_1_arrays args s ++ Jvm.staticLocs frame_1_statics s) 16 128 → Post tb e args s (.returned v) u) :
    ArmFor flags0 classFile x code maxLocals ret World_1 tables_1 room_1 Calls_1 rest_1 Pre_1 Post := by
  intro l hfl _ _ p e ha hc hk s m args below hf hA hF happ hP
  obtain ⟨hcalls, hrest, hpre⟩ := hP
  obtain ⟨-, -, -, hnamed, -, -, -, hat⟩ := (Spec.applies_iff hf).mp happ
  obtain ⟨hg, hn⟩ := and_e (Cond.before_iff.mp (show (Jvm.Cond.and given_1 narrow_1).before args s = true from hpre))
  obtain ⟨g1, g2⟩ := and_e hg
  obtain ⟨g3, g4⟩ := and_e g2
  obtain ⟨g5, g6⟩ := and_e g4
  obtain ⟨g7, g8⟩ := and_e g6
  obtain ⟨g9, g10⟩ := and_e g8
  obtain ⟨w0, w1, w2, w3, w4, rfl⟩ : ∃ w0 w1 w2 w3 w4 : Value, args = #[w0, w1, w2, w3, w4] := by
    have hs : args.size = 5 := by simpa [Cond.value, given_1] using g1
    obtain ⟨L⟩ := args
    match L, hs with
    | [w0, w1, w2, w3, w4], _ => exact ⟨w0, w1, w2, w3, w4, rfl⟩
  have hw := fun d (hd : d ∈ tables_1) => atoms_spec (ws := Jvm.Cond.code x code maxLocals ret :: tables_1) hat d (List.mem_cons_of_mem _ hd)
  obtain ⟨i0, ei0⟩ := is_v g3
  obtain rfl : w0 = (.int i0) := Option.some.inj ei0
  obtain ⟨i1, ei1⟩ := is_v g5
  obtain rfl : w1 = (.int i1) := Option.some.inj ei1
  obtain ⟨i2, ei2⟩ := is_v g7
  obtain rfl : w2 = (.int i2) := Option.some.inj ei2
  obtain ⟨i3, ei3⟩ := is_v g9
  obtain rfl : w3 = (.int i3) := Option.some.inj ei3
  obtain ⟨i4, ei4⟩ := is_v g10
  obtain rfl : w4 = (.int i4) := Option.some.inj ei4
  obtain ⟨u1, u2⟩ := and_e hn
  obtain ⟨u3, u4⟩ := and_e u2
  obtain ⟨nb, hS, hA⟩ := own_narrow u1 u3 u4 (w7 hw) (w15 hw)
  obtain ⟨n, o, h1, h2, h3, _, L, rfl, ⟨D', rfl, N, -⟩, hq⟩ := rm0 l s _ hw s.heap.size i0 i1 i2 i3 i4 nb hS hA tables_1 s.heap (Hp.nil s) p e ha hc hk s m _ below hf ((Spec.applies_iff_loose hf).mp happ).1 ⟨rfl, State.Warmed39.refl s, rfl⟩ trivial
  refine ⟨n, _, h1, h2, h3, hpost _ _ _ _ _ _ ⟨Cond.after_iff.mpr rfl, Cond.after_iff.mpr (eq_i res_at (Term.int_eval (1)) rfl), trivial⟩ ⟨hq.1, hq.2.1, (hq.2.2.sift fun y hy => Or.inr (N y hy)).mono (by decide) (by decide)⟩⟩
theorem main_1_1 : Claimed_1_1 := comes_1 fun _ _ _ _ _ _ h hF => ⟨h.1, hF⟩
theorem main_1_2 : Claimed_1_2 := comes_1 fun _ _ _ _ _ _ h hF => ⟨h.2.1, hF⟩
end Jvm.Pilot.@@N@@
namespace Jvm.Pilot.@@N@@
open Jvm Jvm.ClassFile Sem Op Lib Jvm.Free Jvm.Stand Jvm.Pilot.@@N@@.Jvm.D
/-! MADE BY PROGRAM (witnessworld.py) out of the Statement's table words and the real class files: 12 classes; the members and pool entries that the words name. The judged class is class 1, her method 1. -/
namespace start1
open Jvm.ClassFile
def u (s : String) : CpInfo := .utf8 (stringToUtf16 s)
/-- a pool by its gaps: so many unusable entries, then the entry; so many at the end -/
def gap : Nat → List CpInfo → List CpInfo
  | 0, r => r
  | n + 1, r => .unusable :: gap n r
def poolList (es : List (Nat × CpInfo)) (last : Nat) : List CpInfo := es.foldr (fun e r => gap e.1 (e.2 :: r)) (gap last [])
def pool (es : List (Nat × CpInfo)) (last : Nat) : Array CpInfo := ⟨poolList es last⟩
def fileOf (pool : Array CpInfo) (this : Nat) (attrs : Array Attribute := #[]) (ms : Array MethodInfo := #[]) (fl : Nat := 33) (sup : Nat := 0) (ifs : Array Nat := #[]) (fds : Array FieldInfo := #[]) : ClassFile where
  minorVersion := 0
  majorVersion := 65
  constantPool := pool
  accessFlags := fl
  thisClass := this
  superClass := sup
  interfaces := ifs
  fields := fds
  methods := ms
  attributes := attrs
def plain (name : String) (sup : Option ClassId) : Class where
  name := name
  kind := .ordinary
  loader := none
  accessFlags := 33
  super := sup
  interfaces := #[]
  cf := none
  fields := #[]
  methods := #[]
  instanceTypes := #[]
  staticTypes := #[]
  resolved := #[]
  callSites := []
  init := .initialized
  statics := none
  mirror := none

def pool0 : Array CpInfo := pool [(5, u "<init>"), (0, u "()V"), (1, .class_ 10), (1, u "java/lang/Object")] 113

def k0c0 : Code := { maxStack := 0, maxLocals := 1, code := object_method_1_code, exceptionTable := #[], attributes := #[] }
def k0m0 : Method := { name := "<init>", desc := "()V", sig := { parameters := [], returnType := none }, accessFlags := 1, code := some k0c0 }
/-- java/lang/Object -/
def k0 : Class := { plain "java/lang/Object" none with
  accessFlags := 33
  interfaces := #[]
  cf := some (fileOf pool0 8 #[] #[{ accessFlags := 1, nameIndex := 5, descriptorIndex := 6, attributes := #[] }] 33 0 #[] #[])
  fields := #[]
  methods := #[k0m0]
  instanceTypes := #[]
  staticTypes := #[]
  resolved := Array.replicate 124 none
  statics := none }

def pool1 : Array CpInfo := pool [(2, .class_ 4), (0, .nameAndType 5 6), (0, u "java/lang/Object"), (0, u "<init>"), (0, u "()V"), (0, .methodref 8 9), (0, .class_ 10), (0, .nameAndType 11 12), (0, u "java/lang/Math"), (0, u "min"), (0, u "(II)I"), (0, .integer 1073741823), (0, .class_ 15), (0, u "com/example/vistrace/vistrace/checker/RunSet"), (0, .methodref 14 3), (0, .methodref 14 18), (0, .nameAndType 19 20), (0, u "add"), (0, u "(I)V"), (0, .methodref 14 22), (0, .nameAndType 23 6), (0, u "removeLargest"), (0, .methodref 14 25), (0, .nameAndType 26 27), (0, u "size"), (0, u "()I"), (0, .class_ 29), (0, u "com/example/vistrace/vistrace/checker/RunSetSizePinLaw"), (2, u "law"), (0, u "(IIIII)Z")] 3

def k1m0 : Method := { name := "<init>", desc := "()V", sig := { parameters := [], returnType := none }, accessFlags := 1, code := none }
def k1c1 : Code := { maxStack := 3, maxLocals := 14, code := code, exceptionTable := #[], attributes := #[] }
def k1m1 : Method := { name := "law", desc := "(IIIII)Z", sig := { parameters := [.int, .int, .int, .int, .int], returnType := some .boolean }, accessFlags := 9, code := some k1c1 }
/-- com/example/vistrace/vistrace/checker/RunSetSizePinLaw -/
def k1 : Class := { plain "com/example/vistrace/vistrace/checker/RunSetSizePinLaw" (some 0) with
  accessFlags := 49
  interfaces := #[]
  cf := some (fileOf pool1 28 #[] #[{ accessFlags := 1, nameIndex := 5, descriptorIndex := 6, attributes := #[] }, { accessFlags := 9, nameIndex := 32, descriptorIndex := 33, attributes := #[] }] 49 2 #[] #[])
  fields := #[]
  methods := #[k1m0, k1m1]
  instanceTypes := #[]
  staticTypes := #[]
  resolved := Array.replicate 37 none
  statics := none }

def pool2 : Array CpInfo := pool [(1, .class_ 2), (0, u "java/lang/Math"), (1, .class_ 6), (1, u "java/lang/Object"), (0, u "<init>"), (0, u "()V"), (89, .class_ 100), (1, u "java/lang/Math$RandomNumberGeneratorHolder"), (71, u "negativeZeroFloatBits"), (0, u "J"), (2, u "negativeZeroDoubleBits"), (21, u "max"), (2, u "min"), (43, u "$assertionsDisabled"), (0, u "Z"), (88, u "(II)I"), (2, u "twoToTheDoubleScaleDown"), (0, u "D"), (4, u "twoToTheDoubleScaleUp"), (9, u "E"), (3, u "PI"), (2, u "TAU"), (2, u "DEGREES_TO_RADIANS"), (0, u "RADIANS_TO_DEGREES")] 94

def k2m0 : Method := { name := "<init>", desc := "()V", sig := { parameters := [], returnType := none }, accessFlags := 2, code := none }
def k2c1 : Code := { maxStack := 2, maxLocals := 2, code := jdk_29_method_65_code, exceptionTable := #[], attributes := #[] }
def k2m1 : Method := { name := "max", desc := "(II)I", sig := { parameters := [.int, .int], returnType := some .int }, accessFlags := 9, code := some k2c1 }
def k2c2 : Code := { maxStack := 2, maxLocals := 2, code := jdk_29_method_69_code, exceptionTable := #[], attributes := #[] }
def k2m2 : Method := { name := "min", desc := "(II)I", sig := { parameters := [.int, .int], returnType := some .int }, accessFlags := 9, code := some k2c2 }
/-- java/lang/Math -/
def k2 : Class := { plain "java/lang/Math" (some 0) with
  accessFlags := 49
  interfaces := #[]
  cf := some (fileOf pool2 1 #[.nestMembers #[98]] #[{ accessFlags := 2, nameIndex := 7, descriptorIndex := 8, attributes := #[] }, { accessFlags := 9, nameIndex := 198, descriptorIndex := 335, attributes := #[] }, { accessFlags := 9, nameIndex := 201, descriptorIndex := 335, attributes := #[] }] 49 4 #[] #[{ accessFlags := 25, nameIndex := 354, descriptorIndex := 339, attributes := #[] }, { accessFlags := 25, nameIndex := 358, descriptorIndex := 339, attributes := #[] }, { accessFlags := 25, nameIndex := 361, descriptorIndex := 339, attributes := #[] }, { accessFlags := 26, nameIndex := 364, descriptorIndex := 339, attributes := #[] }, { accessFlags := 26, nameIndex := 365, descriptorIndex := 339, attributes := #[] }, { accessFlags := 26, nameIndex := 172, descriptorIndex := 173, attributes := #[] }, { accessFlags := 26, nameIndex := 176, descriptorIndex := 173, attributes := #[] }, { accessFlags := 8, nameIndex := 344, descriptorIndex := 339, attributes := #[] }, { accessFlags := 8, nameIndex := 338, descriptorIndex := 339, attributes := #[] }, { accessFlags := 4120, nameIndex := 245, descriptorIndex := 246, attributes := #[] }])
  fields := #[{ name := "E", type := .double, accessFlags := 25, slot := 0, constantValue := 0 }, { name := "PI", type := .double, accessFlags := 25, slot := 1, constantValue := 0 }, { name := "TAU", type := .double, accessFlags := 25, slot := 2, constantValue := 0 }, { name := "DEGREES_TO_RADIANS", type := .double, accessFlags := 26, slot := 3, constantValue := 0 }, { name := "RADIANS_TO_DEGREES", type := .double, accessFlags := 26, slot := 4, constantValue := 0 }, { name := "negativeZeroFloatBits", type := .long, accessFlags := 26, slot := 5, constantValue := 0 }, { name := "negativeZeroDoubleBits", type := .long, accessFlags := 26, slot := 6, constantValue := 0 }, { name := "twoToTheDoubleScaleUp", type := .double, accessFlags := 8, slot := 7, constantValue := 0 }, { name := "twoToTheDoubleScaleDown", type := .double, accessFlags := 8, slot := 8, constantValue := 0 }, { name := "$assertionsDisabled", type := .boolean, accessFlags := 4120, slot := 9, constantValue := 0 }]
  methods := #[k2m0, k2m1, k2m2]
  instanceTypes := #[]
  staticTypes := #[.double, .double, .double, .double, .double, .long, .long, .double, .double, .boolean]
  resolved := Array.replicate 460 none
  statics := none }

def pool3 : Array CpInfo := pool [(1, .methodref 2 3), (0, .class_ 4), (0, .nameAndType 5 6), (0, u "java/lang/Object"), (0, u "<init>"), (0, u "()V"), (0, .fieldref 8 9), (0, .class_ 10), (0, .nameAndType 11 12), (0, u "com/example/vistrace/vistrace/checker/RunSet"), (0, u "NONE"), (0, u "[I"), (0, .fieldref 8 14), (0, .nameAndType 15 12), (0, u "bounds"), (6, u "(I)I"), (3, .methodref 8 27), (0, .nameAndType 28 29), (0, u "addRun"), (0, u "(II)V"), (0, .fieldref 8 31), (0, .nameAndType 32 33), (0, u "runs"), (0, u "I"), (0, .methodref 35 36), (0, .class_ 37), (0, .nameAndType 38 39), (0, u "java/util/Arrays"), (0, u "copyOf"), (0, u "([II)[I"), (14, .methodref 8 55), (0, .nameAndType 56 22), (0, u "end"), (0, .methodref 8 58), (0, .nameAndType 59 22), (0, u "start"), (17, .methodref 78 79), (0, .class_ 80), (0, .nameAndType 81 82), (0, u "java/lang/Math"), (0, u "max"), (0, u "(II)I"), (5, u "add"), (0, u "(I)V"), (0, u "removeLargest"), (0, u "()I"), (0, u "size")] 37

def k3c0 : Code := { maxStack := 2, maxLocals := 1, code := prog_8_method_1_code, exceptionTable := #[], attributes := #[] }
def k3m0 : Method := { name := "<init>", desc := "()V", sig := { parameters := [], returnType := none }, accessFlags := 0, code := some k3c0 }
def k3c1 : Code := { maxStack := 4, maxLocals := 2, code := prog_8_method_3_code, exceptionTable := #[], attributes := #[] }
def k3m1 : Method := { name := "add", desc := "(I)V", sig := { parameters := [.int], returnType := none }, accessFlags := 0, code := some k3c1 }
def k3c2 : Code := { maxStack := 4, maxLocals := 1, code := prog_8_method_4_code, exceptionTable := #[], attributes := #[] }
def k3m2 : Method := { name := "removeLargest", desc := "()V", sig := { parameters := [], returnType := none }, accessFlags := 0, code := some k3c2 }
def k3c3 : Code := { maxStack := 4, maxLocals := 3, code := prog_8_method_6_code, exceptionTable := #[], attributes := #[] }
def k3m3 : Method := { name := "size", desc := "()I", sig := { parameters := [], returnType := some .int }, accessFlags := 0, code := some k3c3 }
def k3c4 : Code := { maxStack := 3, maxLocals := 2, code := prog_8_method_7_code, exceptionTable := #[], attributes := #[] }
def k3m4 : Method := { name := "start", desc := "(I)I", sig := { parameters := [.int], returnType := some .int }, accessFlags := 0, code := some k3c4 }
def k3c5 : Code := { maxStack := 3, maxLocals := 2, code := prog_8_method_8_code, exceptionTable := #[], attributes := #[] }
def k3m5 : Method := { name := "end", desc := "(I)I", sig := { parameters := [.int], returnType := some .int }, accessFlags := 0, code := some k3c5 }
def k3c6 : Code := { maxStack := 5, maxLocals := 3, code := prog_8_method_11_code, exceptionTable := #[], attributes := #[] }
def k3m6 : Method := { name := "addRun", desc := "(II)V", sig := { parameters := [.int, .int], returnType := none }, accessFlags := 2, code := some k3c6 }
/-- com/example/vistrace/vistrace/checker/RunSet -/
def k3 : Class := { plain "com/example/vistrace/vistrace/checker/RunSet" (some 0) with
  accessFlags := 48
  interfaces := #[]
  cf := some (fileOf pool3 8 #[] #[{ accessFlags := 0, nameIndex := 5, descriptorIndex := 6, attributes := #[] }, { accessFlags := 0, nameIndex := 88, descriptorIndex := 89, attributes := #[] }, { accessFlags := 0, nameIndex := 90, descriptorIndex := 6, attributes := #[] }, { accessFlags := 0, nameIndex := 92, descriptorIndex := 91, attributes := #[] }, { accessFlags := 0, nameIndex := 59, descriptorIndex := 22, attributes := #[] }, { accessFlags := 0, nameIndex := 56, descriptorIndex := 22, attributes := #[] }, { accessFlags := 2, nameIndex := 28, descriptorIndex := 29, attributes := #[] }] 48 2 #[] #[{ accessFlags := 26, nameIndex := 11, descriptorIndex := 12, attributes := #[] }, { accessFlags := 2, nameIndex := 15, descriptorIndex := 12, attributes := #[] }, { accessFlags := 2, nameIndex := 32, descriptorIndex := 33, attributes := #[] }])
  fields := #[{ name := "NONE", type := (.array .int), accessFlags := 26, slot := 0, constantValue := 0 }, { name := "bounds", type := (.array .int), accessFlags := 2, slot := 0, constantValue := 0 }, { name := "runs", type := .int, accessFlags := 2, slot := 1, constantValue := 0 }]
  methods := #[k3m0, k3m1, k3m2, k3m3, k3m4, k3m5, k3m6]
  instanceTypes := #[(.array .int), .int]
  staticTypes := #[(.array .int)]
  resolved := Array.replicate 130 none
  statics := some 0 }

def pool4 : Array CpInfo := pool [(2, .class_ 4), (1, u "java/lang/Object"), (0, u "<init>"), (0, u "()V"), (7, .class_ 16), (1, u "java/util/Arrays"), (57, .class_ 76), (1, u "java/util/Arrays$NaturalOrder"), (36, .class_ 115), (1, u "java/util/Arrays$LegacyMergeSort"), (1, u "Z"), (32, .methodref 151 152), (0, .class_ 153), (0, .nameAndType 154 155), (0, u "java/lang/System"), (0, u "arraycopy"), (0, u "(Ljava/lang/Object;ILjava/lang/Object;II)V"), (146, u "copyOf"), (1, .methodref 305 306), (0, .class_ 307), (0, .nameAndType 308 309), (0, u "java/lang/Math"), (0, u "min"), (0, u "(II)I"), (65, .class_ 376), (0, u "java/util/Arrays$ArrayList"), (68, u "$assertionsDisabled"), (269, u "MIN_ARRAY_SORT_GRAN"), (0, u "I"), (2, u "INSERTIONSORT_THRESHOLD"), (151, u "([II)[I"), (103, .class_ 976), (0, u "java/util/Arrays$ArrayItr")] 52

def k4m0 : Method := { name := "<init>", desc := "()V", sig := { parameters := [], returnType := none }, accessFlags := 2, code := none }
def k4c1 : Code := { maxStack := 6, maxLocals := 3, code := jdk_65_method_123_code, exceptionTable := #[], attributes := #[] }
def k4m1 : Method := { name := "copyOf", desc := "([II)[I", sig := { parameters := [(.array .int), .int], returnType := some (.array .int) }, accessFlags := 9, code := some k4c1 }
/-- java/util/Arrays -/
def k4 : Class := { plain "java/util/Arrays" (some 0) with
  accessFlags := 49
  interfaces := #[]
  cf := some (fileOf pool4 14 #[.nestMembers #[975, 375, 113, 74]] #[{ accessFlags := 2, nameIndex := 5, descriptorIndex := 6, attributes := #[] }, { accessFlags := 9, nameIndex := 302, descriptorIndex := 871, attributes := #[] }] 49 2 #[] #[{ accessFlags := 26, nameIndex := 715, descriptorIndex := 716, attributes := #[] }, { accessFlags := 26, nameIndex := 719, descriptorIndex := 716, attributes := #[] }, { accessFlags := 4120, nameIndex := 445, descriptorIndex := 117, attributes := #[] }])
  fields := #[{ name := "MIN_ARRAY_SORT_GRAN", type := .int, accessFlags := 26, slot := 0, constantValue := 0 }, { name := "INSERTIONSORT_THRESHOLD", type := .int, accessFlags := 26, slot := 1, constantValue := 0 }, { name := "$assertionsDisabled", type := .boolean, accessFlags := 4120, slot := 2, constantValue := 0 }]
  methods := #[k4m0, k4m1]
  instanceTypes := #[]
  staticTypes := #[.int, .int, .boolean]
  resolved := Array.replicate 1029 none
  statics := none }

def pool5 : Array CpInfo := pool [(2, .class_ 4), (1, u "java/lang/Object"), (0, u "<init>"), (0, u "()V"), (1, .class_ 10), (1, u "java/lang/System"), (0, u "allowSecurityManager"), (0, u "I"), (16, u "cons"), (0, u "Ljava/io/Console;"), (77, .class_ 110), (1, u "java/lang/System$CallersHolder"), (43, u "initialErrStream"), (0, u "Ljava/io/PrintStream;"), (19, u "security"), (0, u "Ljava/lang/SecurityManager;"), (31, .class_ 209), (0, u "java/lang/System$1"), (7, u "props"), (0, u "Ljava/util/Properties;"), (2, u "lineSeparator"), (0, u "Ljava/lang/String;"), (96, .class_ 321), (1, u "java/lang/System$LoggerFinder"), (5, .class_ 328), (0, u "java/lang/System$Logger"), (67, u "err"), (2, u "out"), (91, u "notSupportedJnuEncoding"), (15, u "in"), (17, u "initialIn"), (0, u "Ljava/io/InputStream;"), (35, u "bootLayer"), (0, u "Ljava/lang/ModuleLayer;"), (99, .class_ 664), (0, u "java/lang/System$2"), (9, u "NEVER"), (2, u "MAYBE"), (49, u "arraycopy"), (0, u "(Ljava/lang/Object;ILjava/lang/Object;II)V"), (72, .class_ 802), (0, u "java/lang/System$Logger$Level")] 31

def k5m0 : Method := { name := "<init>", desc := "()V", sig := { parameters := [], returnType := none }, accessFlags := 2, code := none }
def k5m1 : Method := { name := "arraycopy", desc := "(Ljava/lang/Object;ILjava/lang/Object;II)V", sig := { parameters := [(.object "java/lang/Object"), .int, (.object "java/lang/Object"), .int, .int], returnType := none }, accessFlags := 265, code := none }
/-- java/lang/System -/
def k5 : Class := { plain "java/lang/System" (some 0) with
  accessFlags := 49
  interfaces := #[]
  cf := some (fileOf pool5 8 #[.nestMembers #[319, 327, 801, 108, 663, 208]] #[{ accessFlags := 2, nameIndex := 5, descriptorIndex := 6, attributes := #[] }, { accessFlags := 265, nameIndex := 727, descriptorIndex := 728, attributes := #[] }] 49 2 #[] #[{ accessFlags := 25, nameIndex := 507, descriptorIndex := 526, attributes := #[] }, { accessFlags := 25, nameIndex := 399, descriptorIndex := 155, attributes := #[] }, { accessFlags := 25, nameIndex := 396, descriptorIndex := 155, attributes := #[] }, { accessFlags := 10, nameIndex := 525, descriptorIndex := 526, attributes := #[] }, { accessFlags := 26, nameIndex := 674, descriptorIndex := 12, attributes := #[] }, { accessFlags := 26, nameIndex := 677, descriptorIndex := 12, attributes := #[] }, { accessFlags := 10, nameIndex := 11, descriptorIndex := 12, attributes := #[] }, { accessFlags := 74, nameIndex := 175, descriptorIndex := 176, attributes := #[] }, { accessFlags := 10, nameIndex := 491, descriptorIndex := 222, attributes := #[] }, { accessFlags := 74, nameIndex := 29, descriptorIndex := 30, attributes := #[] }, { accessFlags := 74, nameIndex := 154, descriptorIndex := 155, attributes := #[] }, { accessFlags := 10, nameIndex := 217, descriptorIndex := 218, attributes := #[] }, { accessFlags := 10, nameIndex := 221, descriptorIndex := 222, attributes := #[] }, { accessFlags := 8, nameIndex := 562, descriptorIndex := 563, attributes := #[] }])
  fields := #[{ name := "in", type := (.object "java/io/InputStream"), accessFlags := 25, slot := 0, constantValue := 0 }, { name := "out", type := (.object "java/io/PrintStream"), accessFlags := 25, slot := 1, constantValue := 0 }, { name := "err", type := (.object "java/io/PrintStream"), accessFlags := 25, slot := 2, constantValue := 0 }, { name := "initialIn", type := (.object "java/io/InputStream"), accessFlags := 10, slot := 3, constantValue := 0 }, { name := "NEVER", type := .int, accessFlags := 26, slot := 4, constantValue := 0 }, { name := "MAYBE", type := .int, accessFlags := 26, slot := 5, constantValue := 0 }, { name := "allowSecurityManager", type := .int, accessFlags := 10, slot := 6, constantValue := 0 }, { name := "security", type := (.object "java/lang/SecurityManager"), accessFlags := 74, slot := 7, constantValue := 0 }, { name := "notSupportedJnuEncoding", type := (.object "java/lang/String"), accessFlags := 10, slot := 8, constantValue := 0 }, { name := "cons", type := (.object "java/io/Console"), accessFlags := 74, slot := 9, constantValue := 0 }, { name := "initialErrStream", type := (.object "java/io/PrintStream"), accessFlags := 74, slot := 10, constantValue := 0 }, { name := "props", type := (.object "java/util/Properties"), accessFlags := 10, slot := 11, constantValue := 0 }, { name := "lineSeparator", type := (.object "java/lang/String"), accessFlags := 10, slot := 12, constantValue := 0 }, { name := "bootLayer", type := (.object "java/lang/ModuleLayer"), accessFlags := 8, slot := 13, constantValue := 0 }]
  methods := #[k5m0, k5m1]
  instanceTypes := #[]
  staticTypes := #[(.object "java/io/InputStream"), (.object "java/io/PrintStream"), (.object "java/io/PrintStream"), (.object "java/io/InputStream"), .int, .int, .int, (.object "java/lang/SecurityManager"), (.object "java/lang/String"), (.object "java/io/Console"), (.object "java/io/PrintStream"), (.object "java/util/Properties"), (.object "java/lang/String"), (.object "java/lang/ModuleLayer")]
  resolved := Array.replicate 834 none
  statics := none }

def pool6 : Array CpInfo := pool [(1, u "java/lang/Cloneable"), (0, .class_ 1), (0, u "java/lang/Object"), (0, .class_ 3)] 3

/-- java/lang/Cloneable -/
def k6 : Class := { plain "java/lang/Cloneable" (some 0) with
  accessFlags := 1537
  interfaces := #[]
  cf := some (fileOf pool6 2 #[] #[] 1537 4 #[] #[])
  fields := #[]
  methods := #[]
  instanceTypes := #[]
  staticTypes := #[]
  resolved := Array.replicate 8 none
  statics := none }

def pool7 : Array CpInfo := pool [(1, u "java/io/Serializable"), (0, .class_ 1), (0, u "java/lang/Object"), (0, .class_ 3)] 3

/-- java/io/Serializable -/
def k7 : Class := { plain "java/io/Serializable" (some 0) with
  accessFlags := 1537
  interfaces := #[]
  cf := some (fileOf pool7 2 #[] #[] 1537 4 #[] #[])
  fields := #[]
  methods := #[]
  instanceTypes := #[]
  staticTypes := #[]
  resolved := Array.replicate 8 none
  statics := none }

/-- the primitive byte -/
def k8 : Class := { plain "byte" none with kind := .primitive 'B', accessFlags := 0x411 }
/-- [B -/
def k9 : Class := { plain "[B" (some 0) with kind := .array 8 .byte, interfaces := #[6, 7], accessFlags := 1041 }

/-- the primitive int -/
def k10 : Class := { plain "int" none with kind := .primitive 'I', accessFlags := 0x411 }
/-- [I -/
def k11 : Class := { plain "[I" (some 0) with kind := .array 10 .int, interfaces := #[6, 7], accessFlags := 1041 }

def heap : Heap := #[{ cls := 3, slots := #[.ref 1], vm := .statics 3 },
  { cls := 11, slots := #[], vm := .none }]
def classes : Array Class := #[k0, k1, k2, k3, k4, k5, k6, k7, k8, k9, k10, k11]
def interned : List (Array UInt16 × Addr) := []
def slotsUsed : Nat := 1
def theMethod : MethodId := ⟨1, 1⟩
def args0 : Array Value := #[.int 1, .int 2, .int 3, .int 4, .int 5]
def aboutOver (below : List Frame) : State where
  vm := { classes := classes, interned := interned.toArray }
  heap := heap
  slotsUsed := slotsUsed
  threads := #[{ frames := .invoking theMethod args0 :: below }]
def below0 : List Frame := [.native { method := ⟨0, 0⟩, args := #[] }]
def about1 : State := aboutOver below0
def p0 : Program := .bare "" "" ""
def e0 : Env := launch0.env 0 0 0
theorem w_frames : about1.frames = Frame.invoking theMethod args0 :: below0 := rfl
set_option maxRecDepth 65536 in
theorem w_args : argsFit about1.vm theMethod args0 = true := by decide +kernel
set_option maxRecDepth 65536 in
theorem w_heap : heapFits about1 = true := by decide +kernel
set_option maxRecDepth 65536 in
theorem w_runnable : about1.curStatus? = some .runnable := by decide +kernel
set_option maxRecDepth 65536 in
theorem w_alone : about1.alone = true := by decide +kernel
set_option maxRecDepth 65536 in
theorem w_named : about1.methodNamed? x = some theMethod := by decide +kernel
set_option maxRecDepth 65536 in
theorem w_hears : about1.hears theMethod below0 = true := by decide +kernel
set_option maxRecDepth 65536 in
theorem w_ripe : about1.ripe theMethod args0 below0 = true := by decide +kernel
theorem w_running : about1.status = .running := rfl
set_option maxRecDepth 65536 in
theorem w_room : about1.hasRoom e0.platform room_1 = true :=
  launch0.hasRoom_least _ room_1 (by decide +kernel) (by decide +kernel) (by decide +kernel) (by decide +kernel) (by decide +kernel) (by decide +kernel)
theorem allAtoms_all (ts : List Jvm.Cond) (a : Array Jvm.Value) (st : Jvm.State) : (allAtoms ts).before a st = ts.all (fun c => c.before a st) := by
  induction ts with
  | nil => rfl
  | cons c t ih =>
    show (Jvm.Cond.and c (allAtoms t)).before a st = _
    rw [Jvm.Cond.before_and, ih, List.all_cons]
def words1 : List Jvm.Cond := Jvm.Cond.code x code maxLocals ret :: tables_1
/-- a 'code' word, met by the world's own term for the bytes: nothing is compared byte by byte -/
theorem code_word {y : MethodName} {bytes : ByteArray} {mx : Nat} {rt : Option FieldType} {a : Array Value} {s : State} {m : MethodId} {meth : Method} {c : Code} (h1 : s.methodNamed? y = some m) (h2 : s.vm.method? m = some meth) (h3 : meth.code = some c) (h4 : c.code = bytes)
    (h5 : (c.maxLocals == mx && c.exceptionTable.isEmpty && decide (c.maxStack ≤ mostOperands) && decide (meth.sig.returnType = rt) && !meth.locks && decide (parseMethodDescriptor y.desc = some meth.sig)) = true) : (Jvm.Cond.code y bytes mx rt).before a s = true := by
  simp only [Bool.and_eq_true, beq_iff_eq, Bool.not_eq_true', decide_eq_true_eq] at h5
  obtain ⟨⟨⟨⟨⟨g1, g2⟩, g3⟩, g4⟩, g5⟩, g6⟩ := h5
  simp [Cond.before, Cond.holds, Cond.value, h1, h2, h3, h4, g1, g2, g3, g4, g5, g6]
def isCode : Jvm.Cond → Bool
  | .code _ _ _ _ => true
  | _ => false
theorem all_split {L : List Jvm.Cond} {P : Jvm.Cond → Bool} (h1 : L.all (fun c => isCode c || P c) = true) (h2 : ∀ c ∈ L.filter isCode, P c = true) : L.all P = true := by
  refine List.all_eq_true.mpr fun c hc => ?_
  have h := List.all_eq_true.mp h1 c hc
  rcases Bool.eq_false_or_eq_true (isCode c) with hi | hi
  · exact h2 c (List.mem_filter.mpr ⟨hc, hi⟩)
  · simpa [hi] using h
set_option maxRecDepth 65536 in
theorem w_c0 : (Jvm.Cond.code x code maxLocals ret).before args0 about1 = true := code_word (m := ⟨1, 1⟩) (meth := k1m1) (c := k1c1) (by decide +kernel) rfl rfl rfl (by decide +kernel)
set_option maxRecDepth 65536 in
theorem w_c1 : (Jvm.Cond.code ({ cls := "java/lang/Math", name := "min", desc := "(II)I" } : Jvm.MethodName) jdk_29_method_69_code (2 : Nat) (Option.some Jvm.ClassFile.FieldType.int)).before args0 about1 = true := code_word (m := ⟨2, 2⟩) (meth := k2m2) (c := k2c2) (by decide +kernel) rfl rfl rfl (by decide +kernel)
set_option maxRecDepth 65536 in
theorem w_c2 : (Jvm.Cond.code ({ cls := "com/example/vistrace/vistrace/checker/RunSet", name := "<init>", desc := "()V" } : Jvm.MethodName) prog_8_method_1_code (1 : Nat) (Option.none : Option Jvm.ClassFile.FieldType)).before args0 about1 = true := code_word (m := ⟨3, 0⟩) (meth := k3m0) (c := k3c0) (by decide +kernel) rfl rfl rfl (by decide +kernel)
set_option maxRecDepth 65536 in
theorem w_c3 : (Jvm.Cond.code ({ cls := "java/lang/Object", name := "<init>", desc := "()V" } : Jvm.MethodName) object_method_1_code (1 : Nat) (Option.none : Option Jvm.ClassFile.FieldType)).before args0 about1 = true := code_word (m := ⟨0, 0⟩) (meth := k0m0) (c := k0c0) (by decide +kernel) rfl rfl rfl (by decide +kernel)
set_option maxRecDepth 65536 in
theorem w_c4 : (Jvm.Cond.code ({ cls := "com/example/vistrace/vistrace/checker/RunSet", name := "add", desc := "(I)V" } : Jvm.MethodName) prog_8_method_3_code (2 : Nat) (Option.none : Option Jvm.ClassFile.FieldType)).before args0 about1 = true := code_word (m := ⟨3, 1⟩) (meth := k3m1) (c := k3c1) (by decide +kernel) rfl rfl rfl (by decide +kernel)
set_option maxRecDepth 65536 in
theorem w_c5 : (Jvm.Cond.code ({ cls := "com/example/vistrace/vistrace/checker/RunSet", name := "addRun", desc := "(II)V" } : Jvm.MethodName) prog_8_method_11_code (3 : Nat) (Option.none : Option Jvm.ClassFile.FieldType)).before args0 about1 = true := code_word (m := ⟨3, 6⟩) (meth := k3m6) (c := k3c6) (by decide +kernel) rfl rfl rfl (by decide +kernel)
set_option maxRecDepth 65536 in
theorem w_c6 : (Jvm.Cond.code ({ cls := "java/lang/Math", name := "max", desc := "(II)I" } : Jvm.MethodName) jdk_29_method_65_code (2 : Nat) (Option.some Jvm.ClassFile.FieldType.int)).before args0 about1 = true := code_word (m := ⟨2, 1⟩) (meth := k2m1) (c := k2c1) (by decide +kernel) rfl rfl rfl (by decide +kernel)
set_option maxRecDepth 65536 in
theorem w_c7 : (Jvm.Cond.code ({ cls := "java/util/Arrays", name := "copyOf", desc := "([II)[I" } : Jvm.MethodName) jdk_65_method_123_code (3 : Nat) (Option.some (Jvm.ClassFile.FieldType.array Jvm.ClassFile.FieldType.int))).before args0 about1 = true := code_word (m := ⟨4, 1⟩) (meth := k4m1) (c := k4c1) (by decide +kernel) rfl rfl rfl (by decide +kernel)
set_option maxRecDepth 65536 in
theorem w_c8 : (Jvm.Cond.code ({ cls := "com/example/vistrace/vistrace/checker/RunSet", name := "removeLargest", desc := "()V" } : Jvm.MethodName) prog_8_method_4_code (1 : Nat) (Option.none : Option Jvm.ClassFile.FieldType)).before args0 about1 = true := code_word (m := ⟨3, 2⟩) (meth := k3m2) (c := k3c2) (by decide +kernel) rfl rfl rfl (by decide +kernel)
set_option maxRecDepth 65536 in
theorem w_c9 : (Jvm.Cond.code ({ cls := "com/example/vistrace/vistrace/checker/RunSet", name := "size", desc := "()I" } : Jvm.MethodName) prog_8_method_6_code (3 : Nat) (Option.some Jvm.ClassFile.FieldType.int)).before args0 about1 = true := code_word (m := ⟨3, 3⟩) (meth := k3m3) (c := k3c3) (by decide +kernel) rfl rfl rfl (by decide +kernel)
set_option maxRecDepth 65536 in
theorem w_c10 : (Jvm.Cond.code ({ cls := "com/example/vistrace/vistrace/checker/RunSet", name := "end", desc := "(I)I" } : Jvm.MethodName) prog_8_method_8_code (2 : Nat) (Option.some Jvm.ClassFile.FieldType.int)).before args0 about1 = true := code_word (m := ⟨3, 5⟩) (meth := k3m5) (c := k3c5) (by decide +kernel) rfl rfl rfl (by decide +kernel)
set_option maxRecDepth 65536 in
theorem w_c11 : (Jvm.Cond.code ({ cls := "com/example/vistrace/vistrace/checker/RunSet", name := "start", desc := "(I)I" } : Jvm.MethodName) prog_8_method_7_code (2 : Nat) (Option.some Jvm.ClassFile.FieldType.int)).before args0 about1 = true := code_word (m := ⟨3, 4⟩) (meth := k3m4) (c := k3c4) (by decide +kernel) rfl rfl rfl (by decide +kernel)
def codes1 : List Jvm.Cond := [Jvm.Cond.code x code maxLocals ret, Jvm.Cond.code ({ cls := "java/lang/Math", name := "min", desc := "(II)I" } : Jvm.MethodName) jdk_29_method_69_code (2 : Nat) (Option.some Jvm.ClassFile.FieldType.int), Jvm.Cond.code ({ cls := "com/example/vistrace/vistrace/checker/RunSet", name := "<init>", desc := "()V" } : Jvm.MethodName) prog_8_method_1_code (1 : Nat) (Option.none : Option Jvm.ClassFile.FieldType), Jvm.Cond.code ({ cls := "java/lang/Object", name := "<init>", desc := "()V" } : Jvm.MethodName) object_method_1_code (1 : Nat) (Option.none : Option Jvm.ClassFile.FieldType), Jvm.Cond.code ({ cls := "com/example/vistrace/vistrace/checker/RunSet", name := "add", desc := "(I)V" } : Jvm.MethodName) prog_8_method_3_code (2 : Nat) (Option.none : Option Jvm.ClassFile.FieldType), Jvm.Cond.code ({ cls := "com/example/vistrace/vistrace/checker/RunSet", name := "addRun", desc := "(II)V" } : Jvm.MethodName) prog_8_method_11_code (3 : Nat) (Option.none : Option Jvm.ClassFile.FieldType), Jvm.Cond.code ({ cls := "java/lang/Math", name := "max", desc := "(II)I" } : Jvm.MethodName) jdk_29_method_65_code (2 : Nat) (Option.some Jvm.ClassFile.FieldType.int), Jvm.Cond.code ({ cls := "java/util/Arrays", name := "copyOf", desc := "([II)[I" } : Jvm.MethodName) jdk_65_method_123_code (3 : Nat) (Option.some (Jvm.ClassFile.FieldType.array Jvm.ClassFile.FieldType.int)), Jvm.Cond.code ({ cls := "com/example/vistrace/vistrace/checker/RunSet", name := "removeLargest", desc := "()V" } : Jvm.MethodName) prog_8_method_4_code (1 : Nat) (Option.none : Option Jvm.ClassFile.FieldType), Jvm.Cond.code ({ cls := "com/example/vistrace/vistrace/checker/RunSet", name := "size", desc := "()I" } : Jvm.MethodName) prog_8_method_6_code (3 : Nat) (Option.some Jvm.ClassFile.FieldType.int), Jvm.Cond.code ({ cls := "com/example/vistrace/vistrace/checker/RunSet", name := "end", desc := "(I)I" } : Jvm.MethodName) prog_8_method_8_code (2 : Nat) (Option.some Jvm.ClassFile.FieldType.int), Jvm.Cond.code ({ cls := "com/example/vistrace/vistrace/checker/RunSet", name := "start", desc := "(I)I" } : Jvm.MethodName) prog_8_method_7_code (2 : Nat) (Option.some Jvm.ClassFile.FieldType.int)]
set_option maxRecDepth 65536 in
theorem codes_eq : words1.filter isCode = codes1 := rfl
theorem w_codes : ∀ c ∈ words1.filter isCode, c.before args0 about1 = true := by
  rw [codes_eq]
  intro c hc
  simp only [codes1, List.mem_cons, List.not_mem_nil, or_false] at hc
  rcases hc with rfl | rfl | rfl | rfl | rfl | rfl | rfl | rfl | rfl | rfl | rfl | rfl
  · exact w_c0
  · exact w_c1
  · exact w_c2
  · exact w_c3
  · exact w_c4
  · exact w_c5
  · exact w_c6
  · exact w_c7
  · exact w_c8
  · exact w_c9
  · exact w_c10
  · exact w_c11
set_option maxRecDepth 65536 in
theorem w_t1 : (words1.take 24).all (fun c => isCode c || c.before args0 about1) = true := by decide +kernel
set_option maxRecDepth 65536 in
theorem w_t2 : ((words1.drop 24).take 24).all (fun c => isCode c || c.before args0 about1) = true := by decide +kernel
set_option maxRecDepth 65536 in
theorem w_t3 : ((words1.drop 24).drop 24).all (fun c => isCode c || c.before args0 about1) = true := by decide +kernel
theorem w_tables : (allAtoms (Jvm.Cond.code x code maxLocals ret :: tables_1)).before args0 about1 = true := by
  rw [allAtoms_all]
  show words1.all (fun c => c.before args0 about1) = true
  refine all_split ?_ w_codes
  rw [← List.take_append_drop 24 words1, List.all_append, w_t1, ← List.take_append_drop 24 (words1.drop 24), List.all_append, w_t2, w_t3]
  rfl
set_option maxRecDepth 65536 in
theorem w_case : (Jvm.Cond.and given_1 narrow_1).before args0 about1 = true := by decide +kernel
theorem w_applies : (headSpec (Jvm.Cond.code x code maxLocals ret :: tables_1) room_1).applies x e0.platform about1 = true :=
  (Spec.applies_iff w_frames).mpr ⟨w_running, w_runnable, w_alone, w_named, w_hears, w_ripe, w_room, w_tables⟩
theorem atStart : AtStart classFile x code maxLocals ret World_1 tables_1 room_1 Calls_1 rest_1 Pre_1 launch0 p0 e0 about1 theMethod args0 below0 :=
  ⟨lists_1, trivial, launch0.admits_env _ _ _, launch0.least_env, fairChoices_fair.cas, fairChoices_fair.clock, w_frames, w_args, w_heap, w_applies, trivial, trivial, w_case⟩
end start1
theorem witness_1 : WitnessClaimed_1 := ⟨start1.p0, start1.e0, start1.about1, start1.theMethod, start1.args0, start1.below0, start1.atStart⟩
end Jvm.Pilot.@@N@@
