import JvmDerived
import JvmDerived.Pilot.@@N@@Statement
import JvmDerived.Pilot.@@N@@Code
set_option linter.unusedVariables false
set_option linter.unusedSimpArgs false
@@BLOCK:NumsL.lean.txt@@
namespace Jvm.Pilot.@@N@@
open Jvm Jvm.ClassFile Sem Op Lib Jvm.Free Jvm.Stand Jvm.LawKit Jvm.RoadKit Bundle Jvm.Pilot.@@N@@.Jvm.D
/-! ## A. The run goes on: a walk in steps, its end left open -/
section Base
variable {p : Program} {l : Launch} {e : Env} {R : Room} {s : State} {m : MethodId} {args : Array Value} {below : List Frame} {meth : Method} {c : Code} {T T' : State} {locs : List Loc} {cells slots : Nat} {Z : State} {a0 : Array Value} {F : State → Prop} {g g' : JFrame} {n0 : Nat} {h h' : Heap} {a b : Addr} {C n d : String} {v w : Value} {sl : Nat}
/-- the run from T with the frame g on top comes to a state of which F holds -/
def Rn (p : Program) (e : Env) (below : List Frame) (F : State → Prop) (T : State) (g : JFrame) : Prop := ∃ U, Steps p.tables e below (T.setTop g) U ∧ F U
theorem Rn.go (st : ∀ t, Steps p.tables e below (T'.setTop g') t → Steps p.tables e below (T.setTop g) t) (k : Rn p e below F T' g') : Rn p e below F T g := by
  obtain ⟨U, h1, h2⟩ := k; exact ⟨U, st _ h1, h2⟩
theorem Rn.to (st : Steps p.tables e below (T.setTop g) (T'.setTop g')) (k : Rn p e below F T' g') : Rn p e below F T g := by
  obtain ⟨U, h1, h2⟩ := k; exact ⟨U, st.trans h1, h2⟩
theorem own_lcW (x y : Int64) : lcmpW x y = if x > y then 1 else if x = y then 0 else -1 := rfl
theorem own_nat (x : Int32) : x.toNatClampNeg = x.toInt.toNat := rfl
theorem own_remI {x y : Int32} {k : Int} (hy : y.toInt = k) (hx : 0 ≤ x.toInt) : (x % y).toInt = x.toInt % k := by rw [Jvm.Kit.i32_rem_nonneg hx, hy]
theorem own_irem {g : JFrame} {target : State} (h : At T m c below) (hx : p.tables.exec = Jvm.exec) (hg : g.method = m) {x y : Int32} {rest : List Value} (hd : decode c.code g.pc = .ok (.irem, 1)) (hs : g.stack = .int y :: .int x :: rest) (hy : y ≠ 0)
    (hr : Steps p.tables e below (T.setTop { g with pc := g.pc + 1, stack := .int (x % y) :: rest }) target) : Steps p.tables e below (T.setTop g) target := by
  have q : x - x / y * y = x % y := irem_eq_mod x y
  exact XS.irem h hx hg hd hs hy (by rw [q]; exact hr)
/-! ## B. What the heap holds: a list of the objects and arrays that the law has made -/
abbrev Itm : Type := (String × List (String × String × Value)) ⊕ (FieldType × Int32 × List Value)
abbrev ob (a : Addr) (C : String) (fs : List (String × String × Value)) : Addr × Itm := (a, .inl (C, fs))
abbrev ar (a : Addr) (ty : FieldType) (n : Int32) (vs : List Value) : Addr × Itm := (a, .inr (ty, n, vs))
abbrev ari (a : Addr) (ty : FieldType) (n : Int32) (xs : List Int32) : Addr × Itm := ar a ty n (xs.map Value.int)
abbrev arj (a : Addr) (n : Int32) (xs : List Int64) : Addr × Itm := ar a .long n (xs.map Value.long)
def Obj (Z : State) (h : Heap) (a : Addr) (C : String) (fs : List (String × String × Value)) : Prop := Exa Z h a C ∧ (∀ f ∈ fs, Fld Z h a C f.1 f.2.1 f.2.2) ∧ (fs.map fun f => Jvm.RoadKit.slotOf Z C f.1 f.2.1).Nodup
def Ary (Z : State) (h : Heap) (a : Addr) (ty : FieldType) (n : Int32) (vs : List Value) : Prop := (∃ k, Arv Z h a k ty n vs (defaultValue ty) ∧ ∀ C, ty = .object C → Ovr Z k C) ∧ vs.length = n.toNatClampNeg
def itm (Z : State) (h : Heap) (x : Addr × Itm) : Prop := match x.2 with
  | .inl o => Obj Z h x.1 o.1 o.2
  | .inr o => Ary Z h x.1 o.1 o.2.1 o.2.2
/-- made by the law, or an array of no places (which nobody can write) -/
def Frs (n0 : Nat) (x : Addr × Itm) : Prop := n0 ≤ x.1 ∨ ∃ ty n, x.2 = .inr (ty, n, [])
def Hp (Z : State) (n0 : Nat) (h : Heap) (D : List (Addr × Itm)) : Prop := Old Z n0 h ∧ (∀ x ∈ D, Frs n0 x ∧ itm Z h x) ∧ (D.map (·.1)).Nodup
variable {fs : List (String × String × Value)} {vs : List Value} {ty : FieldType} {z : Int32} {x : Addr × Itm} {D : List (Addr × Itm)} {I J : Itm} {i j : Nat}
theorem map_same {α β : Type} (f : α → β) (L : List α) (i : Nat) (x y : α) (h : L[i]? = some x) (q : f y = f x) : (L.set i y).map f = L.map f := by
  apply List.ext_getElem?
  intro k
  rw [List.getElem?_map, List.getElem?_map, List.getElem?_set]
  by_cases e : i = k
  · subst e
    rw [if_pos rfl, if_pos (List.getElem?_eq_some_iff.mp h).1, h]; simp [q]
  · rw [if_neg e]
theorem Obj.lt (O : Obj Z h a C fs) : a < h.size := O.1.lt
theorem Ary.lt (O : Ary Z h a ty z vs) : a < h.size := by obtain ⟨⟨k, V, -⟩, -⟩ := O; exact V.lt
theorem itm.lt (O : itm Z h x) : x.1 < h.size := by
  obtain ⟨a, I⟩ := x
  cases I with
  | inl o => exact Obj.lt (show Obj Z h a o.1 o.2 from O)
  | inr o => exact Ary.lt (show Ary Z h a o.1 o.2.1 o.2.2 from O)
theorem itm.ext (E : Ext h h') (O : itm Z h x) : itm Z h' x := by
  obtain ⟨a, I⟩ := x
  cases I with
  | inl o =>
    have O' : Obj Z h a o.1 o.2 := O
    exact (show Obj Z h' a o.1 o.2 from ⟨O'.1.ext E, fun f hf => (O'.2.1 f hf).ext E, O'.2.2⟩)
  | inr o =>
    have O' : Ary Z h a o.1 o.2.1 o.2.2 := O
    obtain ⟨⟨k, V, u⟩, q⟩ := O'
    exact (show Ary Z h' a o.1 o.2.1 o.2.2 from ⟨⟨k, V.ext E, u⟩, q⟩)
theorem itm.other (W : Wr h h' b sl v) (q : x.1 ≠ b) (O : itm Z h x) : itm Z h' x := by
  obtain ⟨a, I⟩ := x
  cases I with
  | inl o =>
    have O' : Obj Z h a o.1 o.2 := O
    exact (show Obj Z h' a o.1 o.2 from ⟨O'.1.wr W, fun f hf => (O'.2.1 f hf).other W (Or.inl q), O'.2.2⟩)
  | inr o =>
    have O' : Ary Z h a o.1 o.2.1 o.2.2 := O
    obtain ⟨⟨k, V, u⟩, r⟩ := O'
    exact (show Ary Z h' a o.1 o.2.1 o.2.2 from ⟨⟨k, V.other W q, u⟩, r⟩)
theorem Obj.put (hj : fs[j]? = some (n, d, w)) (W : Wr h h' a (Jvm.RoadKit.slotOf Z C n d) v) (O : Obj Z h a C fs) : Obj Z h' a C (fs.set j (n, d, v)) := by
  have hjl : j < fs.length := (List.getElem?_eq_some_iff.mp hj).1
  refine ⟨O.1.wr W, fun f hf => ?_, ?_⟩
  · obtain ⟨i, hi⟩ := List.mem_iff_getElem?.mp hf
    by_cases e : j = i
    · subst e
      rw [List.getElem?_set_self hjl] at hi
      cases hi
      exact (O.2.1 _ (List.mem_of_getElem? hj)).same W
    · rw [List.getElem?_set_ne e] at hi
      refine (O.2.1 f (List.mem_of_getElem? hi)).other W (Or.inr fun q => e ?_)
      have hil : i < fs.length := (List.getElem?_eq_some_iff.mp hi).1
      refine ((List.getElem?_inj (i := i) (j := j) (by simpa using hil) O.2.2).mp ?_).symm
      rw [List.getElem?_map, List.getElem?_map, hi, hj]
      simp [q]
  · rw [map_same _ fs j (n, d, w) (n, d, v) hj rfl]; exact O.2.2
theorem Ary.put {k : Int32} (hk : ¬ k < 0) (hl : k.toNatClampNeg < vs.length) (hv : fits ty v = true) (W : Wr h h' a k.toNatClampNeg v) (O : Ary Z h a ty z vs) : Ary Z h' a ty z (vs.set k.toNatClampNeg v) := by
  obtain ⟨⟨kc, ⟨cl, A, q1, S, q3, H, G⟩, u⟩, q⟩ := O
  exact ⟨⟨kc, Arv.set A q1 S q3 H G hv W _ rfl hl, u⟩, by rw [List.length_set]; exact q⟩
theorem Frs.obj (q : Frs n0 (ob a C fs)) : n0 ≤ a := q.elim id fun ⟨_, _, r⟩ => by cases r
theorem Frs.arr {k : Nat} (q : Frs n0 (ar a ty z vs)) (hl : k < vs.length) : n0 ≤ a := q.elim id fun ⟨_, _, r⟩ => by cases r; cases hl
theorem Hp.get (H : Hp Z n0 h D) (hi : D[i]? = some x) : Frs n0 x ∧ itm Z h x := H.2.1 _ (List.mem_of_getElem? hi)
theorem Hp.obj (H : Hp Z n0 h D) (hi : D[i]? = some (ob a C fs)) : Obj Z h a C fs := (H.get hi).2
theorem Hp.ary (H : Hp Z n0 h D) (hi : D[i]? = some (ar a ty z vs)) : Ary Z h a ty z vs := (H.get hi).2
theorem Hp.fld (H : Hp Z n0 h D) (hi : D[i]? = some (ob a C fs)) (hj : fs[j]? = some (n, d, v)) : Fld Z h a C n d v := (H.obj hi).2.1 _ (List.mem_of_getElem? hj)
theorem Hp.exa (H : Hp Z n0 h D) (hi : D[i]? = some (ob a C fs)) : Exa Z h a C := (H.obj hi).1
theorem Hp.upd (H : Hp Z n0 h D) (hi : D[i]? = some (a, I)) (hfr : n0 ≤ a) (W : Wr h h' a sl v) (q : itm Z h (a, I) → itm Z h' (a, J)) : Hp Z n0 h' (D.set i (a, J)) := by
  have hil : i < D.length := (List.getElem?_eq_some_iff.mp hi).1
  refine ⟨H.1.wr W hfr, fun x hx => ?_, ?_⟩
  · obtain ⟨k, hk⟩ := List.mem_iff_getElem?.mp hx
    by_cases e : i = k
    · subst e
      rw [List.getElem?_set_self hil] at hk
      cases hk
      exact ⟨Or.inl hfr, q (H.get hi).2⟩
    · rw [List.getElem?_set_ne e] at hk
      refine ⟨(H.get hk).1, (H.get hk).2.other W fun r => e ?_⟩
      refine (List.getElem?_inj (i := i) (j := k) (by simpa using hil) H.2.2).mp ?_
      rw [List.getElem?_map, List.getElem?_map, hi, hk]
      simp [r]
  · rw [map_same _ D i (a, I) (a, J) hi rfl]; exact H.2.2
theorem Hp.new (H : Hp Z n0 h D) (E : Ext h h') (q : itm Z h' (h.size, I)) : Hp Z n0 h' (D ++ [(h.size, I)]) := by
  have hsz : n0 ≤ h.size := by rw [← H.1.1]; exact H.1.2.1
  refine ⟨H.1.ext E, fun x hx => ?_, ?_⟩
  · rcases List.mem_append.mp hx with r | r
    · exact ⟨(H.2.1 x r).1, (H.2.1 x r).2.ext E⟩
    · cases List.mem_singleton.mp r; exact ⟨Or.inl hsz, q⟩
  · rw [List.map_append, List.nodup_append]
    refine ⟨H.2.2, by simp, fun y hy z hz => ?_⟩
    obtain ⟨x, hx, rfl⟩ := List.mem_map.mp hy
    have : z = h.size := by simpa using hz
    rw [this]
    exact Nat.ne_of_lt (H.2.1 x hx).2.lt
theorem Hp.nil (Z : State) : Hp Z Z.heap.size Z.heap [] := ⟨Old.start Z, (fun _ q => by cases q), List.nodup_nil⟩
theorem Hp.ext (H : Hp Z n0 h D) (E : Ext h h') : Hp Z n0 h' D := ⟨H.1.ext E, fun x hx => ⟨(H.2.1 x hx).1, (H.2.1 x hx).2.ext E⟩, H.2.2⟩
/-- a walk stands at T, has made so many cells and slots, has written nothing old, and its heap holds D -/
def On (p : Program) (l : Launch) (e : Env) (R : Room) (s : State) (m : MethodId) (args : Array Value) (below : List Frame) (meth : Method) (c : Code) (Z : State) (n0 : Nat) (T : State) (cells slots : Nat) (D : List (Addr × Itm)) : Prop := ∃ locs, Stand p l e R s m args below meth c T locs cells slots ∧ Fr n0 locs ∧ Hp Z n0 T.heap D
theorem On.here (Y : On p l e R s m args below meth c Z n0 T cells slots D) : At T m c below := by obtain ⟨_, X, -⟩ := Y; exact X.here
/-- what is known of the heap may be forgotten -/
theorem On.weak {D D' : List (Addr × Itm)} (Y : On p l e R s m args below meth c Z n0 T cells slots D) (q : D'.Sublist D) : On p l e R s m args below meth c Z n0 T cells slots D' := by
  obtain ⟨locs, X, N, H⟩ := Y
  exact ⟨locs, X, N, H.1, fun x hx => H.2.1 x (q.subset hx), H.2.2.sublist (q.map _)⟩
/-! ## C. One law a step -/
theorem On.getf (Y : On p l e R s m args below meth c Z n0 T cells slots D) (hx : p.tables.exec = Jvm.exec) (hZ : Z.Warmed39 s.vm) {own : String} {index : Nat} (hown : s.vm.findClass own = some m.cls) (w : (Cond.fieldLink own index C n d).before a0 Z = true) (hi : D[i]? = some (ob a C fs)) (hj : fs[j]? = some (n, d, v))
    {g : JFrame} (hg : g.method = m) {rest : List Value} (hs : g.stack = .ref a :: rest) (hd : decode c.code g.pc = .ok (.getfield index, 3)) (k : ∀ T', On p l e R s m args below meth c Z n0 T' cells slots D → Rn p e below F T' { g with pc := g.pc + 3, stack := v :: rest }) : Rn p e below F T g := by
  obtain ⟨locs, X, N, H⟩ := Y
  obtain ⟨T', X', e', st⟩ := getF X hx hZ hown (host := "") (Or.inl w) Via.refl rfl (H.fld hi hj) hg hs hd
  exact Rn.go st (k T' ⟨locs, X', N, by rw [e']; exact H⟩)
theorem On.putf (Y : On p l e R s m args below meth c Z n0 T cells slots D) (hx : p.tables.exec = Jvm.exec) (hZ : Z.Warmed39 s.vm) {own : String} {index kk : Nat} (hown : s.vm.findClass own = some m.cls) (wl : (Cond.fieldLink own index C n d).before a0 Z = true) (hi : D[i]? = some (ob a C fs)) (hj : fs[j]? = some (n, d, w))
    (L : (Cond.lays C C n d).before a0 Z = true ∨ ((Cond.laysFinal C C n d).before a0 Z = true ∧ own = C ∧ meth.name = "<init>")) (wi : (Cond.instantiable C kk).before a0 Z = true) (hty : parseFieldDescriptor d = some ty) {v v' : Value} (hn : narrow ty v = v') (hf : fits ty v' = true)
    {g : JFrame} (hg : g.method = m) {rest : List Value} (hs : g.stack = v :: .ref a :: rest) (hd : decode c.code g.pc = .ok (.putfield index, 3)) (k : ∀ T', On p l e R s m args below meth c Z n0 T' cells slots (D.set i (ob a C (fs.set j (n, d, v')))) → Rn p e below F T' { g with pc := g.pc + 3, stack := rest }) : Rn p e below F T g := by
  obtain ⟨locs, X, N, H⟩ := Y
  obtain ⟨T', h', X', e', W, st⟩ := putFN X hx hZ hown wl Via.refl rfl (H.fld hi hj) (H.exa hi) L wi hty hn hf hg hs hd
  have hfr := (H.get hi).1.obj
  refine Rn.go st (k T' ⟨_, X', Fr.snoc X' N hfr, ?_⟩)
  rw [e']
  exact H.upd hi hfr W fun O => Obj.put hj W O
theorem On.newo (Y : On p l e R s m args below meth c Z n0 T cells slots D) (hx : p.tables.exec = Jvm.exec) (hZ : Z.Warmed39 s.vm) {own : String} {index k : Nat} (hown : s.vm.findClass own = some m.cls) (w : (Cond.classLink own index C).before a0 Z = true) (wi : (Cond.instantiable C k).before a0 Z = true) (wz : (Cond.initialized C).before a0 Z = true)
    (fs : List (String × String × Value)) (hl : ∀ f ∈ fs, Laid Z a0 C C f.1 f.2.1 ∧ ∃ ty, parseFieldDescriptor f.2.1 = some ty ∧ f.2.2 = defaultValue ty) (hn : (fs.map (·.1)).Nodup)
    {g : JFrame} (hg : g.method = m) (hd : decode c.code g.pc = .ok (.new index, 3)) (hc : cells + 1 ≤ R.cells) (hs : slots + k ≤ R.slots)
    (kk : ∀ T' a, On p l e R s m args below meth c Z n0 T' (cells + 1) (slots + k) (D ++ [ob a C fs]) → Rn p e below F T' { g with pc := g.pc + 3, stack := .ref a :: g.stack }) : Rn p e below F T g := by
  obtain ⟨locs, X, N, H⟩ := Y
  obtain ⟨T', h', X', e', E, A, Df, -, st⟩ := newO X hx hZ hown w wi wz rfl hg hd hc hs
  refine Rn.go st (kk T' _ ⟨_, X', N, ?_⟩)
  rw [e']
  refine H.new E (show Obj Z h' _ C fs from ⟨A, fun f hf => ?_, ?_⟩)
  · obtain ⟨L, ty, h1, h2⟩ := hl f hf
    rw [h2]; exact Df L h1
  · rw [List.nodup_iff_pairwise_ne, List.pairwise_map] at hn ⊢
    refine List.Pairwise.imp_of_mem (fun {x y} hx hy q => ?_) hn
    obtain ⟨L, ty, h1, -⟩ := hl x hx
    obtain ⟨L', ty', h1', -⟩ := hl y hy
    exact slot_ne L L' q h1 h1'
theorem On.newp (Y : On p l e R s m args below meth c Z n0 T cells slots D) (hx : p.tables.exec = Jvm.exec) (hZ : Z.Warmed39 s.vm) {aty : ArrayType} (w : (Cond.arrayClass (newarray.typeOf aty)).before a0 Z = true) {g : JFrame} (hg : g.method = m) (hd : decode c.code g.pc = .ok (.newarray aty, 2)) {z : Int32} {rest : List Value} (hs : g.stack = .int z :: rest)
    (hn : ¬ z < 0) {cap N : Nat} (hN : z.toNatClampNeg = N) (hcap : N ≤ cap) (hb : cap * 8 ≤ 536870912) (hc : cells + 1 ≤ R.cells) (hl : slots + cap ≤ R.slots) {dv : Value} (hdv : defaultValue (newarray.typeOf aty) = dv)
    (k : ∀ T' a, On p l e R s m args below meth c Z n0 T' (cells + 1) (slots + cap) (D ++ [ar a (newarray.typeOf aty) z (List.replicate N dv)]) → Rn p e below F T' { g with pc := g.pc + 2, stack := .ref a :: rest }) : Rn p e below F T g := by
  obtain ⟨locs, X, Nl, H⟩ := Y
  subst hN hdv
  obtain ⟨T', h', cA, X', e', E, A, st⟩ := newP X hx hZ w rfl hg hd hs hn hcap hb hc hl
  refine Rn.go st (k T' _ ⟨_, X', Nl, ?_⟩)
  rw [e']
  exact H.new E (show Ary Z h' _ _ z _ from ⟨⟨_, (Arv.new A hn).pad (pad_rep [] _ _), fun C hC => by cases aty <;> cases hC⟩, by simp⟩)
theorem On.newr (Y : On p l e R s m args below meth c Z n0 T cells slots D) (hx : p.tables.exec = Jvm.exec) (hZ : Z.Warmed39 s.vm) {own : String} {index : Nat} (hown : s.vm.findClass own = some m.cls) (w1 : (Cond.classLink own index C).before a0 Z = true) (w2 : (Cond.arrayOver (.object C)).before a0 Z = true) {g : JFrame} (hg : g.method = m) (hd : decode c.code g.pc = .ok (.anewarray index, 3)) {z : Int32} {rest : List Value} (hs : g.stack = .int z :: rest)
    (hn : ¬ z < 0) {cap N : Nat} (hN : z.toNatClampNeg = N) (hcap : N ≤ cap) (hb : cap * 8 ≤ 536870912) (hc : cells + 1 ≤ R.cells) (hl : slots + cap ≤ R.slots)
    (k : ∀ T' a, On p l e R s m args below meth c Z n0 T' (cells + 1) (slots + cap) (D ++ [ar a (.object C) z (List.replicate N .null)]) → Rn p e below F T' { g with pc := g.pc + 3, stack := .ref a :: rest }) : Rn p e below F T g := by
  obtain ⟨locs, X, Nl, H⟩ := Y
  subst hN
  obtain ⟨T', h', cA, X', e', E, A, O, st⟩ := newR X hx hZ hown w1 w2 rfl hg hd hs hn hcap hb hc hl
  refine Rn.go st (k T' _ ⟨_, X', Nl, ?_⟩)
  rw [e']
  exact H.new E (show Ary Z h' _ _ z _ from ⟨⟨_, (Arv.new A hn).pad (pad_rep [] _ _), fun C' hC => by cases hC; exact O⟩, by simp⟩)
theorem On.isto (Y : On p l e R s m args below meth c Z n0 T cells slots D) (hx : p.tables.exec = Jvm.exec) (hZ : Z.Warmed39 s.vm) {xs : List Int32} (hi : D[i]? = some (ari a .int z xs)) {k x : Int32} (hk : ¬ k < 0) (hl : k.toNatClampNeg < xs.length)
    {g : JFrame} (hg : g.method = m) {rest : List Value} (hs : g.stack = .int x :: .int k :: .ref a :: rest) (hd : decode c.code g.pc = .ok (.iastore, 1))
    (kk : ∀ T', On p l e R s m args below meth c Z n0 T' cells slots (D.set i (ari a .int z (xs.set k.toNatClampNeg x))) → Rn p e below F T' { g with pc := g.pc + 1, stack := rest }) : Rn p e below F T g := by
  obtain ⟨locs, X, N, H⟩ := Y
  obtain ⟨⟨kc, ⟨cl, A, q1, S, q3, Hh, G⟩, -⟩, q⟩ := H.ary hi
  have hl' : k.toNatClampNeg < (xs.map Value.int).length := by simpa using hl
  obtain ⟨T', h', X', e', W, st⟩ := stI X hx hZ rfl A (fun r => r.elim hk fun r => absurd hl' (by rw [q, ← S]; exact Nat.not_lt.mpr r)) hg hs hd
  have hfr := (H.get hi).1.arr hl'
  refine Rn.go st (kk T' ⟨_, X', Fr.snoc X' N hfr, ?_⟩)
  rw [e']
  refine H.upd hi hfr W fun O => ?_
  have := Ary.put hk hl' rfl W O
  rw [← List.map_set] at this
  exact this
theorem On.bsto (Y : On p l e R s m args below meth c Z n0 T cells slots D) (hx : p.tables.exec = Jvm.exec) (hZ : Z.Warmed39 s.vm) {xs : List Int32} (hi : D[i]? = some (ari a .byte z xs)) {k x : Int32} (hk : ¬ k < 0) (hl : k.toNatClampNeg < xs.length)
    {g : JFrame} (hg : g.method = m) {rest : List Value} (hs : g.stack = .int x :: .int k :: .ref a :: rest) (hd : decode c.code g.pc = .ok (.bastore, 1))
    (kk : ∀ T', On p l e R s m args below meth c Z n0 T' cells slots (D.set i (ari a .byte z (xs.set k.toNatClampNeg x.toInt8.toInt32))) → Rn p e below F T' { g with pc := g.pc + 1, stack := rest }) : Rn p e below F T g := by
  obtain ⟨locs, X, N, H⟩ := Y
  obtain ⟨⟨kc, ⟨cl, A, q1, S, q3, Hh, G⟩, -⟩, q⟩ := H.ary hi
  have hl' : k.toNatClampNeg < (xs.map Value.int).length := by simpa using hl
  obtain ⟨T', h', X', e', W, st⟩ := stB X hx hZ rfl A (fun r => r.elim hk fun r => absurd hl' (by rw [q, ← S]; exact Nat.not_lt.mpr r)) hg hs hd
  have hfr := (H.get hi).1.arr hl'
  refine Rn.go st (kk T' ⟨_, X', Fr.snoc X' N hfr, ?_⟩)
  rw [e']
  refine H.upd hi hfr W fun O => ?_
  have := Ary.put hk hl' (fits_nar_byte _) W O
  rw [← List.map_set] at this
  exact this
theorem On.zsto (Y : On p l e R s m args below meth c Z n0 T cells slots D) (hx : p.tables.exec = Jvm.exec) (hZ : Z.Warmed39 s.vm) {xs : List Int32} (hi : D[i]? = some (ari a .boolean z xs)) {k x : Int32} (hk : ¬ k < 0) (hl : k.toNatClampNeg < xs.length)
    {g : JFrame} (hg : g.method = m) {rest : List Value} (hs : g.stack = .int x :: .int k :: .ref a :: rest) (hd : decode c.code g.pc = .ok (.bastore, 1))
    (kk : ∀ T', On p l e R s m args below meth c Z n0 T' cells slots (D.set i (ari a .boolean z (xs.set k.toNatClampNeg (x &&& 1)))) → Rn p e below F T' { g with pc := g.pc + 1, stack := rest }) : Rn p e below F T g := by
  obtain ⟨locs, X, N, H⟩ := Y
  obtain ⟨⟨kc, ⟨cl, A, q1, S, q3, Hh, G⟩, -⟩, q⟩ := H.ary hi
  have hl' : k.toNatClampNeg < (xs.map Value.int).length := by simpa using hl
  obtain ⟨T', h', X', e', W, st⟩ := stZ X hx hZ rfl A (fun r => r.elim hk fun r => absurd hl' (by rw [q, ← S]; exact Nat.not_lt.mpr r)) hg hs hd
  have hfr := (H.get hi).1.arr hl'
  refine Rn.go st (kk T' ⟨_, X', Fr.snoc X' N hfr, ?_⟩)
  rw [e']
  refine H.upd hi hfr W fun O => ?_
  have := Ary.put hk hl' (fits_nar_bool _) W O
  rw [← List.map_set] at this
  exact this
theorem On.jsto (Y : On p l e R s m args below meth c Z n0 T cells slots D) (hx : p.tables.exec = Jvm.exec) (hZ : Z.Warmed39 s.vm) {xs : List Int64} (hi : D[i]? = some (arj a z xs)) {k : Int32} {x : Int64} (hk : ¬ k < 0) (hl : k.toNatClampNeg < xs.length)
    {g : JFrame} (hg : g.method = m) {rest : List Value} (hs : g.stack = .long x :: .int k :: .ref a :: rest) (hd : decode c.code g.pc = .ok (.lastore, 1))
    (kk : ∀ T', On p l e R s m args below meth c Z n0 T' cells slots (D.set i (arj a z (xs.set k.toNatClampNeg x))) → Rn p e below F T' { g with pc := g.pc + 1, stack := rest }) : Rn p e below F T g := by
  obtain ⟨locs, X, N, H⟩ := Y
  obtain ⟨⟨kc, ⟨cl, A, q1, S, q3, Hh, G⟩, -⟩, q⟩ := H.ary hi
  have hl' : k.toNatClampNeg < (xs.map Value.long).length := by simpa using hl
  obtain ⟨T', h', X', e', W, st⟩ := stJ X hx hZ rfl A (fun r => r.elim hk fun r => absurd hl' (by rw [q, ← S]; exact Nat.not_lt.mpr r)) hg hs hd
  have hfr := (H.get hi).1.arr hl'
  refine Rn.go st (kk T' ⟨_, X', Fr.snoc X' N hfr, ?_⟩)
  rw [e']
  refine H.upd hi hfr W fun O => ?_
  have := Ary.put hk hl' rfl W O
  rw [← List.map_set] at this
  exact this
/-- the cell of an array, opened for a load -/
theorem Ary.at (O : Ary Z h a ty z vs) {k : Int32} (hk : ¬ k < 0) (hv : vs[k.toNatClampNeg]? = some v) : ∃ cl, Arr Z h a cl ty ∧ ¬ (k < 0 ∨ cl.slots.size ≤ k.toNatClampNeg) ∧ cl.slots[k.toNatClampNeg]? = some v := by
  obtain ⟨⟨kc, ⟨cl, A, q1, S, q3, H, G⟩, -⟩, q⟩ := O
  have hl := (List.getElem?_eq_some_iff.mp hv).1
  have hl2 : k.toNatClampNeg < cl.slots.size := by rw [S, ← q]; exact hl
  exact ⟨cl, A, fun r => r.elim hk (Nat.not_le.mpr hl2), by rw [H _ hl2, List.getD_eq_getElem?_getD, hv]; rfl⟩
theorem On.ild (Y : On p l e R s m args below meth c Z n0 T cells slots D) (hx : p.tables.exec = Jvm.exec) (hZ : Z.Warmed39 s.vm) {xs : List Int32} (hi : D[i]? = some (ari a .int z xs)) {k x : Int32} (hk : ¬ k < 0) (hv : xs[k.toNatClampNeg]? = some x)
    {g : JFrame} (hg : g.method = m) {rest : List Value} (hs : g.stack = .int k :: .ref a :: rest) (hd : decode c.code g.pc = .ok (.iaload, 1))
    (kk : Rn p e below F T { g with pc := g.pc + 1, stack := .int x :: rest }) : Rn p e below F T g := by
  obtain ⟨locs, X, N, H⟩ := Y
  obtain ⟨cl, A, h1, h2⟩ := (H.ary hi).at (v := .int x) hk (by simp [List.getElem?_map, hv])
  exact Rn.go (fun t kt => X.iaload hx A.1 (State.isArrayOf_alike hZ.alike A.2.1) A.2.2 h1 h2 hg hs hd t kt) kk
theorem On.bld (Y : On p l e R s m args below meth c Z n0 T cells slots D) (hx : p.tables.exec = Jvm.exec) (hZ : Z.Warmed39 s.vm) {xs : List Int32} (hi : D[i]? = some (ari a .byte z xs)) {k x : Int32} (hk : ¬ k < 0) (hv : xs[k.toNatClampNeg]? = some x)
    {g : JFrame} (hg : g.method = m) {rest : List Value} (hs : g.stack = .int k :: .ref a :: rest) (hd : decode c.code g.pc = .ok (.baload, 1))
    (kk : Rn p e below F T { g with pc := g.pc + 1, stack := .int x :: rest }) : Rn p e below F T g := by
  obtain ⟨locs, X, N, H⟩ := Y
  obtain ⟨cl, A, h1, h2⟩ := (H.ary hi).at (v := .int x) hk (by simp [List.getElem?_map, hv])
  exact Rn.go (fun t kt => X.baloadBytes hx A.1 (State.isArrayOf_alike hZ.alike A.2.1) A.2.2 h1 h2 hg hs hd t kt) kk
theorem On.zld (Y : On p l e R s m args below meth c Z n0 T cells slots D) (hx : p.tables.exec = Jvm.exec) (hZ : Z.Warmed39 s.vm) {xs : List Int32} (hi : D[i]? = some (ari a .boolean z xs)) {k x : Int32} (hk : ¬ k < 0) (hv : xs[k.toNatClampNeg]? = some x)
    {g : JFrame} (hg : g.method = m) {rest : List Value} (hs : g.stack = .int k :: .ref a :: rest) (hd : decode c.code g.pc = .ok (.baload, 1))
    (kk : Rn p e below F T { g with pc := g.pc + 1, stack := .int x :: rest }) : Rn p e below F T g := by
  obtain ⟨locs, X, N, H⟩ := Y
  obtain ⟨cl, A, h1, h2⟩ := (H.ary hi).at (v := .int x) hk (by simp [List.getElem?_map, hv])
  exact Rn.go (fun t kt => X.baloadBooleans hx A.1 (State.isArrayOf_alike hZ.alike A.2.1) A.2.2 h1 h2 hg hs hd t kt) kk
theorem On.jld (Y : On p l e R s m args below meth c Z n0 T cells slots D) (hx : p.tables.exec = Jvm.exec) (hZ : Z.Warmed39 s.vm) {xs : List Int64} (hi : D[i]? = some (arj a z xs)) {k : Int32} {x : Int64} (hk : ¬ k < 0) (hv : xs[k.toNatClampNeg]? = some x)
    {g : JFrame} (hg : g.method = m) {rest : List Value} (hs : g.stack = .int k :: .ref a :: rest) (hd : decode c.code g.pc = .ok (.laload, 1))
    (kk : Rn p e below F T { g with pc := g.pc + 1, stack := .long x :: rest }) : Rn p e below F T g := by
  obtain ⟨locs, X, N, H⟩ := Y
  obtain ⟨cl, A, h1, h2⟩ := (H.ary hi).at (v := .long x) hk (by simp [List.getElem?_map, hv])
  exact Rn.go (fun t kt => X.laload hx A.1 (State.isArrayOf_alike hZ.alike A.2.1) A.2.2 h1 h2 hg hs hd t kt) kk
theorem On.alen (Y : On p l e R s m args below meth c Z n0 T cells slots D) (hx : p.tables.exec = Jvm.exec) (hZ : Z.Warmed39 s.vm) (hi : D[i]? = some (ar a ty z vs))
    {g : JFrame} (hg : g.method = m) {rest : List Value} (hs : g.stack = .ref a :: rest) (hd : decode c.code g.pc = .ok (.arraylength, 1))
    (kk : Rn p e below F T { g with pc := g.pc + 1, stack := .int z :: rest }) : Rn p e below F T g := by
  obtain ⟨locs, X, N, H⟩ := Y
  obtain ⟨⟨kc, ⟨cl, A, q1, S, q3, Hh, G⟩, -⟩, q⟩ := H.ary hi
  refine Rn.go (fun t kt => X.arraylength hx A.1 (State.isArrayOf_alike hZ.alike A.2.1) hg hs hd t kt) ?_
  rw [len_of S q3]; exact kk
theorem On.ldcI (Y : On p l e R s m args below meth c Z n0 T cells slots D) (hx : p.tables.exec = Jvm.exec) (hZ : Z.Warmed39 s.vm) {own : String} {index : Nat} {x : Int32} (hown : s.vm.findClass own = some m.cls) (w : (Cond.constant own index x).before a0 Z = true)
    {g : JFrame} (hg : g.method = m) (hd : decode c.code g.pc = .ok (.ldc index, 2)) (kk : Rn p e below F T { g with pc := g.pc + 2, stack := .int x :: g.stack }) : Rn p e below F T g := by
  obtain ⟨locs, X, N, H⟩ := Y
  exact Rn.go (X.ldcInt hx hown (mvT hZ w) hg hd) kk
theorem On.ldcJ (Y : On p l e R s m args below meth c Z n0 T cells slots D) (hx : p.tables.exec = Jvm.exec) (hZ : Z.Warmed39 s.vm) {own : String} {index : Nat} {x : Int64} (hown : s.vm.findClass own = some m.cls) (w : (Cond.constantLong own index x).before a0 Z = true)
    {g : JFrame} (hg : g.method = m) (hd : decode c.code g.pc = .ok (.ldc2_w index, 3)) (kk : Rn p e below F T { g with pc := g.pc + 3, stack := .long x :: g.stack }) : Rn p e below F T g := by
  obtain ⟨locs, X, N, H⟩ := Y
  exact Rn.go (X.ldc2Long hx hown (mvT hZ w) hg hd) kk
theorem On.sldcI (Y : On p l e R s m args below meth c Z n0 T cells slots D) (hx : p.tables.exec = Jvm.exec) (hZ : Z.Warmed39 s.vm) {own : String} {index : Nat} {x : Int32} (hown : s.vm.findClass own = some m.cls) (w : (Cond.constant own index x).before a0 Z = true)
    {g : JFrame} (hg : g.method = m) (hd : decode c.code g.pc = .ok (.ldc index, 2)) : ∀ t, Steps p.tables e below (T.setTop { g with pc := g.pc + 2, stack := .int x :: g.stack }) t → Steps p.tables e below (T.setTop g) t := by
  obtain ⟨locs, X, N, H⟩ := Y
  exact X.ldcInt hx hown (mvT hZ w) hg hd
theorem On.sldcJ (Y : On p l e R s m args below meth c Z n0 T cells slots D) (hx : p.tables.exec = Jvm.exec) (hZ : Z.Warmed39 s.vm) {own : String} {index : Nat} {x : Int64} (hown : s.vm.findClass own = some m.cls) (w : (Cond.constantLong own index x).before a0 Z = true)
    {g : JFrame} (hg : g.method = m) (hd : decode c.code g.pc = .ok (.ldc2_w index, 3)) : ∀ t, Steps p.tables e below (T.setTop { g with pc := g.pc + 3, stack := .long x :: g.stack }) t → Steps p.tables e below (T.setTop g) t := by
  obtain ⟨locs, X, N, H⟩ := Y
  exact X.ldc2Long hx hown (mvT hZ w) hg hd
theorem On.ini (Y : On p l e R s m args below meth c Z n0 T cells slots D) (hx : p.tables.exec = Jvm.exec) (hZ : Z.Warmed39 s.vm) {own : String} {idx : Nat} (hown : s.vm.findClass own = some m.cls) (w1 : (Cond.methodLink own idx Lib.objectInit).before a0 Z = true) (w2 : (Cond.instanceMethod Lib.objectInit).before a0 Z = true)
    (w3 : (Cond.code Lib.objectInit ⟨#[0xb1]⟩ 1 none).before a0 Z = true) {g : JFrame} (hg : g.method = m) (hsize : g.locals.size = c.maxLocals) {a : Addr} {rest : List Value} (hs : g.stack = .ref a :: rest) (hd : decode c.code g.pc = .ok (.invokespecial idx, 3))
    (hf : 1 ≤ R.frames) {W : Nat} (hW : 2 * g.monitorRoom + (rest.map fun v => v.category).sum ≤ W) (hl : W + 12 ≤ R.locals)
    (k : ∀ T', On p l e R s m args below meth c Z n0 T' cells slots D → Rn p e below F T' { g with pc := g.pc + 3, stack := rest }) : Rn p e below F T g := by
  obtain ⟨locs, X, N, H⟩ := Y
  obtain ⟨T', X', e', st⟩ := initO X hx hZ hown w1 w2 w3 rfl hg hsize hs hd hf hW hl
  exact Rn.go st (k T' ⟨locs, X', N, by rw [e']; exact H⟩)
/-! ## D. A method's contract: from a heap that holds D, with these arguments, it returns v and leaves a heap that holds D', where P v D' -/
def QP (Z : State) (n0 : Nat) (P : Option Value → List (Addr × Itm) → Prop) (v : Option Value) (h : Heap) (L : List Loc) : Prop := ∃ D', P v D' ∧ Fr n0 L ∧ Hp Z n0 h D'
def Con (l : Launch) (Z : State) (n0 : Nat) (y : MethodName) (bytes : ByteArray) (maxL : Nat) (ret : Option FieldType) (rm : Room) (as : Array Value) (D : List (Addr × Itm)) (P : Option Value → List (Addr × Itm) → Prop) : Prop :=
  ∀ (ws : List Cond) (h0 : Heap), Hp Z n0 h0 D → MetFree l y (head1 (Cond.code y bytes maxL ret :: ws) rm) (fun a U => a = as ∧ Z.Warmed39 U.vm ∧ U.heap = h0) (fun _ _ _ _ _ => True) (fun _ U o U' => ∃ v L, o = .returned v ∧ QP Z n0 P v U'.heap L ∧ FrameEnd U o U' L rm.cells rm.slots)
def Cx (p : Program) (s : State) (m : MethodId) (meth : Method) (c : Code) (Z : State) (y : MethodName) (bytes : ByteArray) (maxL : Nat) (ret : Option FieldType) : Prop :=
  p.tables.exec = Jvm.exec ∧ c.code = bytes ∧ c.maxLocals = maxL ∧ s.vm.findClass y.cls = some m.cls ∧ meth.name = y.name ∧ meth.sig.returnType = ret ∧ meth.locks = false ∧ Z.Warmed39 s.vm
def Fi (Z : State) (n0 : Nat) (below : List Frame) (s : State) (kc ks : Nat) (P : Option Value → List (Addr × Itm) → Prop) (U : State) : Prop := ∃ o, U.status = .running ∧ Ended U below o ∧ ∃ v L, o = .returned v ∧ QP Z n0 P v U.heap L ∧ FrameEnd s o U L kc ks
variable {y : MethodName} {bytes : ByteArray} {maxL : Nat} {ret : Option FieldType} {rm : Room} {as : Array Value} {P : Option Value → List (Addr × Itm) → Prop} {kc ks : Nat}
theorem Con.of (hp : plainFor y = true) (body : ∀ {p : Program} {e : Env} {s : State} {m : MethodId} {below : List Frame} {meth : Method} {c : Code} {T : State}, Cx p s m meth c Z y bytes maxL ret → On p l e rm s m as below meth c Z n0 T 0 0 D → Rn p e below (Fi Z n0 below s rm.cells rm.slots P) T (entryFrame m as maxL)) :
    Con l Z n0 y bytes maxL ret rm as D P := by
  intro ws h0 H
  refine MetFree.of_bodySF hp hisR ?_
  intro p e s m args below meth c s₁ Bd hml0 hP hK
  obtain ⟨rfl, hZ, hh⟩ := hP
  have X0 : Stand p l e rm s m args below meth c s₁ [] 0 0 := Stand.of_body Bd
  have e0 : s₁.heap = h0 := by rw [← hh, Bd.state]; rfl
  obtain ⟨U, h1, o, h2, h3, h4⟩ := body ⟨Bd.exec, Bd.bytes, hml0, findClass_of_methodNamed Bd.named, (name_of_methodNamed Bd.named Bd.method).1, Bd.returns, Bd.notSynchronized, hZ⟩ ⟨[], X0, Fr.nil n0, by rw [e0]; exact H⟩
  exact ⟨U, o, h1, h2, h3, h4⟩
theorem On.out (Y : On p l e R s m args below meth c Z n0 T cells slots D) {v : Option Value} (hv : meth.sig.returnType = none → v = none) (hlk : meth.locks = false) (hc : cells ≤ kc) (hs : slots ≤ ks) (hP : P v D)
    (st : ∀ locs fs, Stand p l e R s m args below meth c T locs cells slots → (∀ (f : JFrame) (acts : List Action), f.method = m → f.locked = none → f.entered = [] → (doReturn e (T.setTop f) acts v).1 = T.setFrames fs) → Steps p.tables e below (T.setTop g) (T.setFrames fs)) : Rn p e below (Fi Z n0 below s kc ks P) T g := by
  obtain ⟨locs, X, N, H⟩ := Y
  obtain ⟨fs, hr, hrun, hended, hW, hsame⟩ := X.leave hv hlk
  exact ⟨_, st locs fs X hr, _, hrun, hended, _, _, rfl, ⟨D, hP, N, H⟩, ⟨_, rfl⟩, hW, hsame.mono hc hs⟩
theorem On.retv (Y : On p l e R s m args below meth c Z n0 T cells slots D) (hx : p.tables.exec = Jvm.exec) (hret : meth.sig.returnType = none) (hlk : meth.locks = false) {pc : Nat} {Ls : Array Slot} (hd : decode c.code pc = .ok (.return_, 1)) (hc : cells ≤ kc) (hs : slots ≤ ks) (hP : P none D) : Rn p e below (Fi Z n0 below s kc ks P) T (mkF m pc Ls []) :=
  Y.out (fun _ => rfl) hlk hc hs hP fun locs fs X hr => X.returnOut hx hret hd hr
theorem On.reti (Y : On p l e R s m args below meth c Z n0 T cells slots D) (hx : p.tables.exec = Jvm.exec) (hret : meth.sig.returnType = some .int) (hlk : meth.locks = false) {pc : Nat} {Ls : Array Slot} {z : Int32} {rest : List Value} (hd : decode c.code pc = .ok (.ireturn, 1)) (hc : cells ≤ kc) (hs : slots ≤ ks) (hP : P (some (.int z)) D) : Rn p e below (Fi Z n0 below s kc ks P) T (mkF m pc Ls (.int z :: rest)) :=
  Y.out (fun q => by rw [hret] at q; cases q) hlk hc hs hP fun locs fs X hr => retOut X hx hret rfl (Or.inl ⟨rfl, Or.inl rfl, _, rfl⟩) hd hr
theorem On.retn (Y : On p l e R s m args below meth c Z n0 T cells slots D) (hx : p.tables.exec = Jvm.exec) {t : FieldType} (hret : meth.sig.returnType = some t) (ht : t = .boolean ∨ t = .byte ∨ t = .char ∨ t = .short) (hlk : meth.locks = false) {pc : Nat} {Ls : Array Slot} {z z' : Int32} (hz : nar t z = z') {rest : List Value} (hd : decode c.code pc = .ok (.ireturn, 1)) (hc : cells ≤ kc) (hs : slots ≤ ks) (hP : P (some (.int z')) D) : Rn p e below (Fi Z n0 below s kc ks P) T (mkF m pc Ls (.int z :: rest)) := by
  subst hz
  exact Y.out (fun q => by rw [hret] at q; cases q) hlk hc hs hP fun locs fs X hr => retN X hx hret ht hd hr
theorem On.retj (Y : On p l e R s m args below meth c Z n0 T cells slots D) (hx : p.tables.exec = Jvm.exec) (hret : meth.sig.returnType = some .long) (hlk : meth.locks = false) {pc : Nat} {Ls : Array Slot} {z : Int64} {rest : List Value} (hd : decode c.code pc = .ok (.lreturn, 1)) (hc : cells ≤ kc) (hs : slots ≤ ks) (hP : P (some (.long z)) D) : Rn p e below (Fi Z n0 below s kc ks P) T (mkF m pc Ls (.long z :: rest)) :=
  Y.out (fun q => by rw [hret] at q; cases q) hlk hc hs hP fun locs fs X hr => retOut X hx hret rfl (Or.inr (Or.inl ⟨rfl, rfl, _, rfl⟩)) hd hr
theorem On.reta (Y : On p l e R s m args below meth c Z n0 T cells slots D) (hx : p.tables.exec = Jvm.exec) {t : FieldType} (hret : meth.sig.returnType = some t) (ht : t.isReference = true) (hlk : meth.locks = false) {pc : Nat} {Ls : Array Slot} {z : Value} (hz : z.isRef = true) (hn : narrow t z = z) {rest : List Value} (hd : decode c.code pc = .ok (.areturn, 1)) (hc : cells ≤ kc) (hs : slots ≤ ks) (hP : P (some z) D) : Rn p e below (Fi Z n0 below s kc ks P) T (mkF m pc Ls (z :: rest)) :=
  Y.out (fun q => by rw [hret] at q; cases q) hlk hc hs hP fun locs fs X hr => retOut X hx hret hn (Or.inr (Or.inr (Or.inr (Or.inr ⟨rfl, ht, hz⟩)))) hd hr
/-! ## E. Calls -/
theorem On.special (Y : On p l e R s m args below meth c Z n0 T cells slots D) (hx : p.tables.exec = Jvm.exec) (hZ : Z.Warmed39 s.vm) {own : String} {index : Nat} (hy1 : y.name = "<init>") (hown : s.vm.findClass own = some m.cls) (w1 : (Cond.methodLink own index y).before a0 Z = true) (w2 : (Cond.instanceMethod y).before a0 Z = true) (w3 : (Cond.code y bytes maxL none).before a0 Z = true) (w4 : (Cond.initialized y.cls).before a0 Z = true)
    (hy : y.cls ≠ "java/lang/invoke/MethodHandle" ∧ y.cls ≠ "java/lang/invoke/VarHandle") {a : Addr} {argsL rest : List Value} (K : Con l Z n0 y bytes maxL none rm (.ref a :: argsL).toArray D P)
    {W : Nat} (hf : rm.frames + 1 ≤ R.frames) (hl : W + (maxL + 11) + rm.locals ≤ R.locals) (hc : cells + rm.cells ≤ R.cells) (hs : slots + rm.slots ≤ R.slots)
    {g : JFrame} (hg : g.method = m) (hsize : g.locals.size = c.maxLocals) (hlen : ∀ sig, parseMethodDescriptor y.desc = some sig → argsL.length = sig.parameters.length) (hstack : g.stack = argsL.reverse ++ .ref a :: rest) (hW : 2 * g.monitorRoom + (rest.map fun v => v.category).sum ≤ W) (hd : decode c.code g.pc = .ok (.invokespecial index, 3))
    (k : ∀ T' v D', P v D' → On p l e R s m args below meth c Z n0 T' (cells + rm.cells) (slots + rm.slots) D' → Rn p e below F T' { g with pc := g.pc + 3, stack := v.toList ++ rest }) : Rn p e below F T g := by
  obtain ⟨locs, X, N, H⟩ := Y
  obtain ⟨v, _, ⟨T', L', k', n'⟩, -, X', ⟨Lc, hQ, l', y', z'⟩, st⟩ := X.specialBack hx hy1 hown (mvT hZ w1) (mvT hZ w2) (mvT hZ w3) hy (backOf (W := W) (K [] T.heap H) hZ w3 w4 hf hl) hg hsize (Steps.refl _) (a := a) (argsL := argsL) (rest := rest) hlen hstack hW hd (fun _ _ => ⟨rfl, rfl, hc, hs⟩)
  dsimp only [Pt.U, Pt.locs, Pt.cells, Pt.slots] at X' l' y' z' st hQ
  subst l' y' z'
  obtain ⟨D', hP, N', H'⟩ := hQ
  exact Rn.to st (k T' v D' hP ⟨_, X', Fr.app N N', H'⟩)
theorem On.virtual (Y : On p l e R s m args below meth c Z n0 T cells slots D) (hx : p.tables.exec = Jvm.exec) (hZ : Z.Warmed39 s.vm) {own : String} {index : Nat} (hown : s.vm.findClass own = some m.cls) (w1 : (Cond.methodLink own index y).before a0 Z = true) (w2 : (Cond.declares y).before a0 Z = true) (w3 : (Cond.instanceMethod y).before a0 Z = true) (w4 : (Cond.selects C y y).before a0 Z = true) (w5 : (Cond.code y bytes maxL ret).before a0 Z = true) (w6 : (Cond.initialized y.cls).before a0 Z = true)
    (hy : y.cls ≠ "java/lang/invoke/MethodHandle" ∧ y.cls ≠ "java/lang/invoke/VarHandle") {a : Addr} {argsL rest : List Value} (hi : D[i]? = some (ob a C fs)) (K : Con l Z n0 y bytes maxL ret rm (.ref a :: argsL).toArray D P)
    {W : Nat} (hf : rm.frames + 1 ≤ R.frames) (hl : W + (maxL + 11) + rm.locals ≤ R.locals) (hc : cells + rm.cells ≤ R.cells) (hs : slots + rm.slots ≤ R.slots)
    {g : JFrame} (hg : g.method = m) (hsize : g.locals.size = c.maxLocals) (hlen : ∀ sig, parseMethodDescriptor y.desc = some sig → argsL.length = sig.parameters.length) (hstack : g.stack = argsL.reverse ++ .ref a :: rest) (hW : 2 * g.monitorRoom + (rest.map fun v => v.category).sum ≤ W) (hd : decode c.code g.pc = .ok (.invokevirtual index, 3))
    (k : ∀ T' v D', P v D' → On p l e R s m args below meth c Z n0 T' (cells + rm.cells) (slots + rm.slots) D' → Rn p e below F T' { g with pc := g.pc + 3, stack := v.toList ++ rest }) : Rn p e below F T g := by
  obtain ⟨locs, X, N, H⟩ := Y
  obtain ⟨cq, kq, qa, qb, qc⟩ := isOf hZ rfl (H.exa hi)
  obtain ⟨v, _, ⟨T', L', k', n'⟩, -, X', ⟨Lc, hQ, l', y', z'⟩, st⟩ := X.virtualBack hx (y := y) (z := y) hown (mvT hZ w1) (mvT hZ w2) (notFace_of_selects (args := #[]) (mvT hZ w4)) (mvT hZ w4) (mvT hZ w3) hy (backOf (W := W) (K [] T.heap H) hZ w5 w6 hf hl) qa qc hg hsize (Steps.refl _) (argsL := argsL) (rest := rest) hlen hstack hW hd (fun _ _ => ⟨rfl, rfl, hc, hs⟩)
  dsimp only [Pt.U, Pt.locs, Pt.cells, Pt.slots] at X' l' y' z' st hQ
  subst l' y' z'
  obtain ⟨D', hP, N', H'⟩ := hQ
  exact Rn.to st (k T' v D' hP ⟨_, X', Fr.app N N', H'⟩)
theorem On.static (Y : On p l e R s m args below meth c Z n0 T cells slots D) (hx : p.tables.exec = Jvm.exec) (hZ : Z.Warmed39 s.vm) {own : String} {index : Nat} (hown : s.vm.findClass own = some m.cls) (w1 : (Cond.methodLink own index y).before a0 Z = true) (w2 : (Cond.static y).before a0 Z = true) (w3 : (Cond.code y bytes maxL ret).before a0 Z = true) (w4 : (Cond.initialized y.cls).before a0 Z = true)
    (hy : y.cls ≠ "java/lang/invoke/MethodHandle" ∧ y.cls ≠ "java/lang/invoke/VarHandle") {argsL rest : List Value} (K : Con l Z n0 y bytes maxL ret rm argsL.toArray D P)
    {W : Nat} (hf : rm.frames + 1 ≤ R.frames) (hl : W + (maxL + 11) + rm.locals ≤ R.locals) (hc : cells + rm.cells ≤ R.cells) (hs : slots + rm.slots ≤ R.slots)
    {g : JFrame} (hg : g.method = m) (hsize : g.locals.size = c.maxLocals) (hlen : ∀ sig, parseMethodDescriptor y.desc = some sig → argsL.length = sig.parameters.length) (hstack : g.stack = argsL.reverse ++ rest) (hW : 2 * g.monitorRoom + (rest.map fun v => v.category).sum ≤ W) (hd : decode c.code g.pc = .ok (.invokestatic index, 3))
    (k : ∀ T' v D', P v D' → On p l e R s m args below meth c Z n0 T' (cells + rm.cells) (slots + rm.slots) D' → Rn p e below F T' { g with pc := g.pc + 3, stack := v.toList ++ rest }) : Rn p e below F T g := by
  obtain ⟨locs, X, N, H⟩ := Y
  obtain ⟨v, _, ⟨T', L', k', n'⟩, -, X', ⟨Lc, hQ, l', y', z'⟩, st⟩ := Jvm.LawKit.callS X hx hown (mvT hZ w1) (mvT hZ w2) (mvT hZ w4) (mvT hZ w3) hy (backOf (W := W) (K [] T.heap H) hZ w3 w4 hf hl) hg hsize (argsL := argsL) (rest := rest) hlen hstack hW hd (fun _ _ => ⟨rfl, rfl, hc, hs⟩)
  dsimp only [Pt.U, Pt.locs, Pt.cells, Pt.slots] at X' l' y' z' st hQ
  subst l' y' z'
  obtain ⟨D', hP, N', H'⟩ := hQ
  exact Rn.go st (k T' v D' hP ⟨_, X', Fr.app N N', H'⟩)
theorem On.priv (Y : On p l e R s m args below meth c Z n0 T cells slots D) (hx : p.tables.exec = Jvm.exec) (hZ : Z.Warmed39 s.vm) {own : String} {index kk : Nat} (hown : s.vm.findClass own = some m.cls) (w1 : (Cond.methodLink own index y).before a0 Z = true) (w2 : (Cond.instanceMethod y).before a0 Z = true) (w3 : (Cond.privateMethod y).before a0 Z = true) (wi : (Cond.instantiable y.cls kk).before a0 Z = true) (w4 : (Cond.code y bytes maxL ret).before a0 Z = true) (w5 : (Cond.initialized y.cls).before a0 Z = true)
    (hy : y.cls ≠ "java/lang/invoke/MethodHandle" ∧ y.cls ≠ "java/lang/invoke/VarHandle") {a : Addr} {argsL rest : List Value} (hi : D[i]? = some (ob a C fs)) (K : Con l Z n0 y bytes maxL ret rm (.ref a :: argsL).toArray D P)
    {W : Nat} (hf : rm.frames + 1 ≤ R.frames) (hl : W + (maxL + 11) + rm.locals ≤ R.locals) (hc : cells + rm.cells ≤ R.cells) (hs : slots + rm.slots ≤ R.slots)
    {g : JFrame} (hg : g.method = m) (hsize : g.locals.size = c.maxLocals) (hlen : ∀ sig, parseMethodDescriptor y.desc = some sig → argsL.length = sig.parameters.length) (hstack : g.stack = argsL.reverse ++ .ref a :: rest) (hW : 2 * g.monitorRoom + (rest.map fun v => v.category).sum ≤ W) (hd : decode c.code g.pc = .ok (.invokevirtual index, 3))
    (k : ∀ T' v D', P v D' → On p l e R s m args below meth c Z n0 T' (cells + rm.cells) (slots + rm.slots) D' → Rn p e below F T' { g with pc := g.pc + 3, stack := v.toList ++ rest }) : Rn p e below F T g := by
  obtain ⟨locs, X, N, H⟩ := Y
  have hp : s.PrivateAt y := Cond.privateMethod_at (mvP hZ w3 (args := #[]))
  have wi' : (Cond.instantiable y.cls kk).before args s = true := mvT hZ wi
  obtain ⟨cc, kc, i1, i2, -, i4, -⟩ := Cond.instantiable_spec wi'
  have hsel : (Cond.selects y.cls y y).before args s = true := selects_self_of_private i1 i2 (by simp at i4; exact i4.1) hp (mvT hZ w2) hy
  obtain ⟨cq, q, q'⟩ := (H.exa hi).cell
  obtain ⟨v, _, ⟨T', L', k', n'⟩, -, X', ⟨Lc, hQ, l', y', z'⟩, st⟩ := X.privateBack hx (y := y) hown (mvT hZ w1) (mvT hZ w2) hsel hp (mvT hZ w4) hy (backOf (W := W) (K [] T.heap H) hZ w4 w5 hf hl) hg hsize (Steps.refl _) (a := a) q q' (argsL := argsL) (rest := rest) hlen hstack hW hd (fun _ _ => ⟨rfl, rfl, hc, hs⟩)
  dsimp only [Pt.U, Pt.locs, Pt.cells, Pt.slots] at X' l' y' z' st hQ
  subst l' y' z'
  obtain ⟨D', hP, N', H'⟩ := hQ
  exact Rn.to st (k T' v D' hP ⟨_, X', Fr.app N N', H'⟩)
theorem On.insY (Y : On p l e R s m args below meth c Z n0 T cells slots D) (hx : p.tables.exec = Jvm.exec) (hZ : Z.Warmed39 s.vm) {own : String} {index : Nat} (hown : s.vm.findClass own = some m.cls) (w : (Cond.classLink own index C).before a0 Z = true) (hi : D[i]? = some (ob a C fs))
    {g : JFrame} (hg : g.method = m) {rest : List Value} (hs : g.stack = .ref a :: rest) (hd : decode c.code g.pc = .ok (.instanceof index, 3)) (k : ∀ T', On p l e R s m args below meth c Z n0 T' cells slots D → Rn p e below F T' { g with pc := g.pc + 3, stack := .int 1 :: rest }) : Rn p e below F T g := by
  obtain ⟨locs, X, N, H⟩ := Y
  obtain ⟨T', X', e', st⟩ := instY X hx hZ hown w rfl (Ins.self (H.exa hi)) hg hs hd
  exact Rn.go st (k T' ⟨locs, X', N, by rw [e']; exact H⟩)
theorem On.castS (Y : On p l e R s m args below meth c Z n0 T cells slots D) (hx : p.tables.exec = Jvm.exec) (hZ : Z.Warmed39 s.vm) {own : String} {index : Nat} (hown : s.vm.findClass own = some m.cls) (w : (Cond.classLink own index C).before a0 Z = true) (hi : D[i]? = some (ob a C fs))
    {g : JFrame} (hg : g.method = m) {rest : List Value} (hs : g.stack = .ref a :: rest) (hd : decode c.code g.pc = .ok (.checkcast index, 3)) (k : ∀ T', On p l e R s m args below meth c Z n0 T' cells slots D → Rn p e below F T' { g with pc := g.pc + 3 }) : Rn p e below F T g := by
  obtain ⟨locs, X, N, H⟩ := Y
  obtain ⟨T', X', e', st⟩ := castY X hx hZ hown w rfl (Ins.self (H.exa hi)) hg hs hd
  exact Rn.go st (k T' ⟨locs, X', N, by rw [e']; exact H⟩)
theorem On.insN (Y : On p l e R s m args below meth c Z n0 T cells slots D) (hx : p.tables.exec = Jvm.exec) (hZ : Z.Warmed39 s.vm) {own K : String} {index kk : Nat} (hown : s.vm.findClass own = some m.cls) (w : (Cond.classLink own index K).before a0 Z = true) (hi : D[i]? = some (ob a C fs)) (wi : (Cond.instantiable K kk).before a0 Z = true) {ch : List String} (hw : ∀ w ∈ Cond.chainWords (C :: ch), w.before a0 Z = true) (hn : K ∉ C :: ch)
    {g : JFrame} (hg : g.method = m) {rest : List Value} (hs : g.stack = .ref a :: rest) (hd : decode c.code g.pc = .ok (.instanceof index, 3)) (k : ∀ T', On p l e R s m args below meth c Z n0 T' cells slots D → Rn p e below F T' { g with pc := g.pc + 3, stack := .int 0 :: rest }) : Rn p e below F T g := by
  obtain ⟨locs, X, N, H⟩ := Y
  obtain ⟨cy, ky, i1, i2, i3, i4, -⟩ := Cond.instantiable_spec wi
  obtain ⟨cx, kx, j1, -⟩ := Cond.chain_head hw
  obtain ⟨T', X', e', st⟩ := instNo X hx hZ hown w rfl (H.exa hi) ⟨cx, cy, j1, i1, Vm.notAssignable_of_chain j1 i1 i2 i3 (by simp at i4; exact i4.1) hw hn⟩ hg hs hd
  exact Rn.go st (k T' ⟨locs, X', N, by rw [e']; exact H⟩)
theorem On.insNull (Y : On p l e R s m args below meth c Z n0 T cells slots D) (hx : p.tables.exec = Jvm.exec) {index : Nat}
    {g : JFrame} (hg : g.method = m) {rest : List Value} (hs : g.stack = .null :: rest) (hd : decode c.code g.pc = .ok (.instanceof index, 3)) (k : Rn p e below F T { g with pc := g.pc + 3, stack := .int 0 :: rest }) : Rn p e below F T g := by
  obtain ⟨locs, X, N, H⟩ := Y
  exact Rn.go (fun t kt => X.instanceofNull hx hg hs hd t kt) k
end Base
theorem own_le2 {v : Int32} (h1 : 0 ≤ v.toInt) (h2 : v.toInt ≤ 2) : v = 0 ∨ v = 1 ∨ v = 2 := by
  have : v.toInt = 0 ∨ v.toInt = 1 ∨ v.toInt = 2 := by omega
  rcases this with h | h | h
  · exact Or.inl (Int32.toInt_inj.mp (h.trans rfl))
  · exact Or.inr (Or.inl (Int32.toInt_inj.mp (h.trans rfl)))
  · exact Or.inr (Or.inr (Int32.toInt_inj.mp (h.trans rfl)))
/-! ## F. The words, the instructions, the names -/
theorem w0 {Z : State} {a0 : Array Value} (hw : ∀ d ∈ tables_1, d.before a0 Z = true) : (Jvm.Cond.arrayClass Jvm.ClassFile.FieldType.byte).before a0 Z = true := hw _ (List.mem_of_getElem? (i := 0) rfl)
theorem w1 {Z : State} {a0 : Array Value} (hw : ∀ d ∈ tables_1, d.before a0 Z = true) : (Jvm.Cond.constant "com/example/strict_bytecode/strictbytecode/DexBufferU2PinLaw" (7 : Nat) (2147483647 : Int32)).before a0 Z = true := hw _ (List.mem_of_getElem? (i := 1) rfl)
theorem w2 {Z : State} {a0 : Array Value} (hw : ∀ d ∈ tables_1, d.before a0 Z = true) : (Jvm.Cond.methodLink "com/example/strict_bytecode/strictbytecode/DexBufferU2PinLaw" (8 : Nat) ({ cls := "com/example/strict_bytecode/strictbytecode/DexBufferU2PinLaw", name := "pick", desc := "(IIIII)I" } : Jvm.MethodName)).before a0 Z = true := hw _ (List.mem_of_getElem? (i := 2) rfl)
theorem w3 {Z : State} {a0 : Array Value} (hw : ∀ d ∈ tables_1, d.before a0 Z = true) : (Jvm.Cond.static ({ cls := "com/example/strict_bytecode/strictbytecode/DexBufferU2PinLaw", name := "pick", desc := "(IIIII)I" } : Jvm.MethodName)).before a0 Z = true := hw _ (List.mem_of_getElem? (i := 3) rfl)
theorem w4 {Z : State} {a0 : Array Value} (hw : ∀ d ∈ tables_1, d.before a0 Z = true) : (Jvm.Cond.initialized "com/example/strict_bytecode/strictbytecode/DexBufferU2PinLaw").before a0 Z = true := hw _ (List.mem_of_getElem? (i := 4) rfl)
theorem w5 {Z : State} {a0 : Array Value} (hw : ∀ d ∈ tables_1, d.before a0 Z = true) : (Jvm.Cond.code ({ cls := "com/example/strict_bytecode/strictbytecode/DexBufferU2PinLaw", name := "pick", desc := "(IIIII)I" } : Jvm.MethodName) method_3_code (5 : Nat) (Option.some Jvm.ClassFile.FieldType.int)).before a0 Z = true := hw _ (List.mem_of_getElem? (i := 5) rfl)
theorem w6 {Z : State} {a0 : Array Value} (hw : ∀ d ∈ tables_1, d.before a0 Z = true) : (Jvm.Cond.methodLink "com/example/strict_bytecode/strictbytecode/DexBufferU2PinLaw" (14 : Nat) ({ cls := "com/example/strict_bytecode/strictbytecode/DexBufferU2PinLaw", name := "unsignedByte", desc := "(I)I" } : Jvm.MethodName)).before a0 Z = true := hw _ (List.mem_of_getElem? (i := 6) rfl)
theorem w7 {Z : State} {a0 : Array Value} (hw : ∀ d ∈ tables_1, d.before a0 Z = true) : (Jvm.Cond.static ({ cls := "com/example/strict_bytecode/strictbytecode/DexBufferU2PinLaw", name := "unsignedByte", desc := "(I)I" } : Jvm.MethodName)).before a0 Z = true := hw _ (List.mem_of_getElem? (i := 7) rfl)
theorem w8 {Z : State} {a0 : Array Value} (hw : ∀ d ∈ tables_1, d.before a0 Z = true) : (Jvm.Cond.code ({ cls := "com/example/strict_bytecode/strictbytecode/DexBufferU2PinLaw", name := "unsignedByte", desc := "(I)I" } : Jvm.MethodName) method_2_code (2 : Nat) (Option.some Jvm.ClassFile.FieldType.int)).before a0 Z = true := hw _ (List.mem_of_getElem? (i := 8) rfl)
theorem w9 {Z : State} {a0 : Array Value} (hw : ∀ d ∈ tables_1, d.before a0 Z = true) : (Jvm.Cond.methodLink "com/example/strict_bytecode/strictbytecode/DexBufferU2PinLaw" (18 : Nat) ({ cls := "com/example/strict_bytecode/strictbytecode/DexBuffer", name := "u2", desc := "([BI)I" } : Jvm.MethodName)).before a0 Z = true := hw _ (List.mem_of_getElem? (i := 9) rfl)
theorem w10 {Z : State} {a0 : Array Value} (hw : ∀ d ∈ tables_1, d.before a0 Z = true) : (Jvm.Cond.static ({ cls := "com/example/strict_bytecode/strictbytecode/DexBuffer", name := "u2", desc := "([BI)I" } : Jvm.MethodName)).before a0 Z = true := hw _ (List.mem_of_getElem? (i := 10) rfl)
theorem w11 {Z : State} {a0 : Array Value} (hw : ∀ d ∈ tables_1, d.before a0 Z = true) : (Jvm.Cond.initialized "com/example/strict_bytecode/strictbytecode/DexBuffer").before a0 Z = true := hw _ (List.mem_of_getElem? (i := 11) rfl)
theorem w12 {Z : State} {a0 : Array Value} (hw : ∀ d ∈ tables_1, d.before a0 Z = true) : (Jvm.Cond.code ({ cls := "com/example/strict_bytecode/strictbytecode/DexBuffer", name := "u2", desc := "([BI)I" } : Jvm.MethodName) prog_32_method_8_code (2 : Nat) (Option.some Jvm.ClassFile.FieldType.int)).before a0 Z = true := hw _ (List.mem_of_getElem? (i := 12) rfl)
theorem w13 {Z : State} {a0 : Array Value} (hw : ∀ d ∈ tables_1, d.before a0 Z = true) : (Jvm.Cond.constant "com/example/strict_bytecode/strictbytecode/DexBufferU2PinLaw" (24 : Nat) (65535 : Int32)).before a0 Z = true := hw _ (List.mem_of_getElem? (i := 13) rfl)
theorem d1_0 : decode method_3_code 0 = .ok (.iload_n 0, 1) := by decide +kernel
theorem d1_1 : decode method_3_code 1 = .ok (.ifCond .ne 5, 3) := by decide +kernel
theorem d1_4 : decode method_3_code 4 = .ok (.iload_n 1, 1) := by decide +kernel
theorem d1_5 : decode method_3_code 5 = .ok (.ireturn, 1) := by decide +kernel
theorem d1_6 : decode method_3_code 6 = .ok (.iload_n 0, 1) := by decide +kernel
theorem d1_7 : decode method_3_code 7 = .ok (.iconst 1, 1) := by decide +kernel
theorem d1_8 : decode method_3_code 8 = .ok (.if_icmp .ne 5, 3) := by decide +kernel
theorem d1_11 : decode method_3_code 11 = .ok (.iload_n 2, 1) := by decide +kernel
theorem d1_12 : decode method_3_code 12 = .ok (.ireturn, 1) := by decide +kernel
theorem d1_13 : decode method_3_code 13 = .ok (.iload_n 0, 1) := by decide +kernel
theorem d1_14 : decode method_3_code 14 = .ok (.iconst 2, 1) := by decide +kernel
theorem d1_15 : decode method_3_code 15 = .ok (.if_icmp .ne 5, 3) := by decide +kernel
theorem d1_18 : decode method_3_code 18 = .ok (.iload_n 3, 1) := by decide +kernel
theorem d1_19 : decode method_3_code 19 = .ok (.ireturn, 1) := by decide +kernel
theorem d1_20 : decode method_3_code 20 = .ok (.iload 4, 2) := by decide +kernel
theorem d1_22 : decode method_3_code 22 = .ok (.ireturn, 1) := by decide +kernel
theorem d2_0 : decode method_2_code 0 = .ok (.iload_n 0, 1) := by decide +kernel
theorem d2_1 : decode method_2_code 1 = .ok (.sipush 256, 3) := by decide +kernel
theorem d2_4 : decode method_2_code 4 = .ok (.irem, 1) := by decide +kernel
theorem d2_5 : decode method_2_code 5 = .ok (.istore_n 1, 1) := by decide +kernel
theorem d2_6 : decode method_2_code 6 = .ok (.iload_n 1, 1) := by decide +kernel
theorem d2_7 : decode method_2_code 7 = .ok (.ifCond .ge 9, 3) := by decide +kernel
theorem d2_10 : decode method_2_code 10 = .ok (.iload_n 1, 1) := by decide +kernel
theorem d2_11 : decode method_2_code 11 = .ok (.sipush 256, 3) := by decide +kernel
theorem d2_14 : decode method_2_code 14 = .ok (.iadd, 1) := by decide +kernel
theorem d2_15 : decode method_2_code 15 = .ok (.istore_n 1, 1) := by decide +kernel
theorem d2_16 : decode method_2_code 16 = .ok (.iload_n 1, 1) := by decide +kernel
theorem d2_17 : decode method_2_code 17 = .ok (.ireturn, 1) := by decide +kernel
theorem d3_0 : decode prog_32_method_8_code 0 = .ok (.aload_n 0, 1) := by decide +kernel
theorem d3_1 : decode prog_32_method_8_code 1 = .ok (.iload_n 1, 1) := by decide +kernel
theorem d3_2 : decode prog_32_method_8_code 2 = .ok (.baload, 1) := by decide +kernel
theorem d3_3 : decode prog_32_method_8_code 3 = .ok (.sipush 255, 3) := by decide +kernel
theorem d3_6 : decode prog_32_method_8_code 6 = .ok (.iand, 1) := by decide +kernel
theorem d3_7 : decode prog_32_method_8_code 7 = .ok (.aload_n 0, 1) := by decide +kernel
theorem d3_8 : decode prog_32_method_8_code 8 = .ok (.iload_n 1, 1) := by decide +kernel
theorem d3_9 : decode prog_32_method_8_code 9 = .ok (.iconst 1, 1) := by decide +kernel
theorem d3_10 : decode prog_32_method_8_code 10 = .ok (.iadd, 1) := by decide +kernel
theorem d3_11 : decode prog_32_method_8_code 11 = .ok (.baload, 1) := by decide +kernel
theorem d3_12 : decode prog_32_method_8_code 12 = .ok (.sipush 255, 3) := by decide +kernel
theorem d3_15 : decode prog_32_method_8_code 15 = .ok (.iand, 1) := by decide +kernel
theorem d3_16 : decode prog_32_method_8_code 16 = .ok (.bipush 8, 2) := by decide +kernel
theorem d3_18 : decode prog_32_method_8_code 18 = .ok (.ishl, 1) := by decide +kernel
theorem d3_19 : decode prog_32_method_8_code 19 = .ok (.ior, 1) := by decide +kernel
theorem d3_20 : decode prog_32_method_8_code 20 = .ok (.ireturn, 1) := by decide +kernel
theorem pd0 : parseMethodDescriptor "(IIIII)I" = some ⟨[.int, .int, .int, .int, .int], some .int⟩ := by decide +kernel
theorem pd1 : parseMethodDescriptor "(I)I" = some ⟨[.int], some .int⟩ := by decide +kernel
theorem pd2 : parseMethodDescriptor "([BI)I" = some ⟨[(.array .byte), .int], some .int⟩ := by decide +kernel
theorem pn0 : plainName "com/example/strict_bytecode/strictbytecode/DexBufferU2PinLaw" = true := by first | (simp [plainName, overriddenIn]; done) | decide +kernel
theorem pn1 : plainName "com/example/strict_bytecode/strictbytecode/DexBuffer" = true := by first | (simp [plainName, overriddenIn]; done) | decide +kernel
def own_pick (x0 : Int32) (x1 : Int32) (x2 : Int32) (x3 : Int32) (x4 : Int32) : Int32 := (if x0 = (0 : Int32) then x1 else (if x0 = (1 : Int32) then x2 else (if x0 = (2 : Int32) then x3 else x4)))
theorem ef_rm1 (m : MethodId) (x0 : Int32) (x1 : Int32) (x2 : Int32) (x3 : Int32) (x4 : Int32) : entryFrame m #[(.int x0), (.int x1), (.int x2), (.int x3), (.int x4)] 5 = (mkF m 0 #[.val (.int x0), .val (.int x1), .val (.int x2), .val (.int x3), .val (.int x4)] []) := by first | (simp [entryFrame, mkF, argsToLocals, Value.category]; done) | rfl
set_option maxRecDepth 65536 in
set_option maxHeartbeats 40000000 in
theorem rm1 (l : Launch) (Z : State) (a0 : Array Value) (hw : ∀ d ∈ tables_1, d.before a0 Z = true) (n0 : Nat) (x0 : Int32) (x1 : Int32) (x2 : Int32) (x3 : Int32) (x4 : Int32) (Dr : List (Addr × Itm)) :
    Con l Z n0 (⟨"com/example/strict_bytecode/strictbytecode/DexBufferU2PinLaw", "pick", "(IIIII)I"⟩ : MethodName) method_3_code 5 (some .int) ({ frames := 0, cells := 0, slots := 0, locals := 0 } : Room) #[(.int x0), (.int x1), (.int x2), (.int x3), (.int x4)] Dr (fun v D' => v = some (.int (own_pick x0 x1 x2 x3 x4)) ∧ D' = Dr) := by
  refine Con.of (plainFor_of_name pn0) ?_
  intro p e s m below meth c T cx Y
  obtain ⟨hx, hby, hml, hown, hnm, hret, hlk, hZ⟩ := cx
  rw [ef_rm1]
  generalize hF : Fi Z n0 below s _ _ _ = F
  refine Rn.go (T' := T) (g' := (mkF m 1 #[.val (.int x0), .val (.int x1), .val (.int x2), .val (.int x3), .val (.int x4)] [(.int x0)])) (fun t k => ?_) ?_
  · show Steps p.tables e below (T.setTop (mkF m 0 #[.val (.int x0), .val (.int x1), .val (.int x2), .val (.int x3), .val (.int x4)] [])) t
    refine XS.iloadN Y.here hx rfl (hb hby d1_0) rfl ?_
    show Steps p.tables e below (T.setTop (mkF m 1 #[.val (.int x0), .val (.int x1), .val (.int x2), .val (.int x3), .val (.int x4)] [(.int x0)])) t
    exact k
  by_cases hc1 : x0 = (0 : Int32)
  · refine Rn.go (T' := T) (g' := (mkF m 4 #[.val (.int x0), .val (.int x1), .val (.int x2), .val (.int x3), .val (.int x4)] [])) (fun t k => XS.ifNo Y.here hx rfl (hb hby d1_1) rfl ((if0 _ _).trans (teq hc1).2) k) ?_
    refine Rn.go (T' := T) (g' := (mkF m 5 #[.val (.int x0), .val (.int x1), .val (.int x2), .val (.int x3), .val (.int x4)] [(.int x1)])) (fun t k => ?_) ?_
    · show Steps p.tables e below (T.setTop (mkF m 4 #[.val (.int x0), .val (.int x1), .val (.int x2), .val (.int x3), .val (.int x4)] [])) t
      refine XS.iloadN Y.here hx rfl (hb hby d1_4) rfl ?_
      show Steps p.tables e below (T.setTop (mkF m 5 #[.val (.int x0), .val (.int x1), .val (.int x2), .val (.int x3), .val (.int x4)] [(.int x1)])) t
      exact k
    rw [← hF]; exact On.reti Y hx hret hlk (hb hby d1_5) (by decide) (by decide) ⟨by unfold own_pick; rw [if_pos hc1], rfl⟩
  · refine Rn.go (T' := T) (g' := (mkF m 6 #[.val (.int x0), .val (.int x1), .val (.int x2), .val (.int x3), .val (.int x4)] [])) (fun t k => XS.ifYes Y.here hx rfl (pc0 := 1) (pc' := 6) rfl (hb hby d1_1) rfl ((if0 _ _).trans (feq hc1).2) (by decide) (by decide) k) ?_
    refine Rn.go (T' := T) (g' := (mkF m 8 #[.val (.int x0), .val (.int x1), .val (.int x2), .val (.int x3), .val (.int x4)] [(.int (1 : Int32)), (.int x0)])) (fun t k => ?_) ?_
    · show Steps p.tables e below (T.setTop (mkF m 6 #[.val (.int x0), .val (.int x1), .val (.int x2), .val (.int x3), .val (.int x4)] [])) t
      refine XS.iloadN Y.here hx rfl (hb hby d1_6) rfl ?_
      show Steps p.tables e below (T.setTop (mkF m 7 #[.val (.int x0), .val (.int x1), .val (.int x2), .val (.int x3), .val (.int x4)] [(.int x0)])) t
      refine XS.iconst Y.here hx rfl (hb hby d1_7) ?_
      show Steps p.tables e below (T.setTop (mkF m 8 #[.val (.int x0), .val (.int x1), .val (.int x2), .val (.int x3), .val (.int x4)] [(.int (1 : Int32)), (.int x0)])) t
      exact k
    by_cases hc8 : x0 = (1 : Int32)
    · refine Rn.go (T' := T) (g' := (mkF m 11 #[.val (.int x0), .val (.int x1), .val (.int x2), .val (.int x3), .val (.int x4)] [])) (fun t k => XS.icmpNo Y.here hx rfl (hb hby d1_8) rfl (teq hc8).2 k) ?_
      refine Rn.go (T' := T) (g' := (mkF m 12 #[.val (.int x0), .val (.int x1), .val (.int x2), .val (.int x3), .val (.int x4)] [(.int x2)])) (fun t k => ?_) ?_
      · show Steps p.tables e below (T.setTop (mkF m 11 #[.val (.int x0), .val (.int x1), .val (.int x2), .val (.int x3), .val (.int x4)] [])) t
        refine XS.iloadN Y.here hx rfl (hb hby d1_11) rfl ?_
        show Steps p.tables e below (T.setTop (mkF m 12 #[.val (.int x0), .val (.int x1), .val (.int x2), .val (.int x3), .val (.int x4)] [(.int x2)])) t
        exact k
      rw [← hF]; exact On.reti Y hx hret hlk (hb hby d1_12) (by decide) (by decide) ⟨by unfold own_pick; rw [if_neg hc1, if_pos hc8], rfl⟩
    · refine Rn.go (T' := T) (g' := (mkF m 13 #[.val (.int x0), .val (.int x1), .val (.int x2), .val (.int x3), .val (.int x4)] [])) (fun t k => XS.icmpYes Y.here hx rfl (pc0 := 8) (pc' := 13) rfl (hb hby d1_8) rfl (feq hc8).2 (by decide) (by decide) k) ?_
      refine Rn.go (T' := T) (g' := (mkF m 15 #[.val (.int x0), .val (.int x1), .val (.int x2), .val (.int x3), .val (.int x4)] [(.int (2 : Int32)), (.int x0)])) (fun t k => ?_) ?_
      · show Steps p.tables e below (T.setTop (mkF m 13 #[.val (.int x0), .val (.int x1), .val (.int x2), .val (.int x3), .val (.int x4)] [])) t
        refine XS.iloadN Y.here hx rfl (hb hby d1_13) rfl ?_
        show Steps p.tables e below (T.setTop (mkF m 14 #[.val (.int x0), .val (.int x1), .val (.int x2), .val (.int x3), .val (.int x4)] [(.int x0)])) t
        refine XS.iconst Y.here hx rfl (hb hby d1_14) ?_
        show Steps p.tables e below (T.setTop (mkF m 15 #[.val (.int x0), .val (.int x1), .val (.int x2), .val (.int x3), .val (.int x4)] [(.int (2 : Int32)), (.int x0)])) t
        exact k
      by_cases hc15 : x0 = (2 : Int32)
      · refine Rn.go (T' := T) (g' := (mkF m 18 #[.val (.int x0), .val (.int x1), .val (.int x2), .val (.int x3), .val (.int x4)] [])) (fun t k => XS.icmpNo Y.here hx rfl (hb hby d1_15) rfl (teq hc15).2 k) ?_
        refine Rn.go (T' := T) (g' := (mkF m 19 #[.val (.int x0), .val (.int x1), .val (.int x2), .val (.int x3), .val (.int x4)] [(.int x3)])) (fun t k => ?_) ?_
        · show Steps p.tables e below (T.setTop (mkF m 18 #[.val (.int x0), .val (.int x1), .val (.int x2), .val (.int x3), .val (.int x4)] [])) t
          refine XS.iloadN Y.here hx rfl (hb hby d1_18) rfl ?_
          show Steps p.tables e below (T.setTop (mkF m 19 #[.val (.int x0), .val (.int x1), .val (.int x2), .val (.int x3), .val (.int x4)] [(.int x3)])) t
          exact k
        rw [← hF]; exact On.reti Y hx hret hlk (hb hby d1_19) (by decide) (by decide) ⟨by unfold own_pick; rw [if_neg hc1, if_neg hc8, if_pos hc15], rfl⟩
      · refine Rn.go (T' := T) (g' := (mkF m 20 #[.val (.int x0), .val (.int x1), .val (.int x2), .val (.int x3), .val (.int x4)] [])) (fun t k => XS.icmpYes Y.here hx rfl (pc0 := 15) (pc' := 20) rfl (hb hby d1_15) rfl (feq hc15).2 (by decide) (by decide) k) ?_
        refine Rn.go (T' := T) (g' := (mkF m 22 #[.val (.int x0), .val (.int x1), .val (.int x2), .val (.int x3), .val (.int x4)] [(.int x4)])) (fun t k => ?_) ?_
        · show Steps p.tables e below (T.setTop (mkF m 20 #[.val (.int x0), .val (.int x1), .val (.int x2), .val (.int x3), .val (.int x4)] [])) t
          refine XS.iload Y.here hx rfl (hb hby d1_20) rfl ?_
          show Steps p.tables e below (T.setTop (mkF m 22 #[.val (.int x0), .val (.int x1), .val (.int x2), .val (.int x3), .val (.int x4)] [(.int x4)])) t
          exact k
        rw [← hF]; exact On.reti Y hx hret hlk (hb hby d1_22) (by decide) (by decide) ⟨by unfold own_pick; rw [if_neg hc1, if_neg hc8, if_neg hc15], rfl⟩
def own_ub (x0 : Int32) : Int32 := (if (x0 % (256 : Int32)) < (0 : Int32) then ((x0 % (256 : Int32)) + (256 : Int32)) else (x0 % (256 : Int32)))
theorem ef_rm2 (m : MethodId) (x0 : Int32) : entryFrame m #[(.int x0)] 2 = (mkF m 0 #[.val (.int x0), .unset] []) := by first | (simp [entryFrame, mkF, argsToLocals, Value.category]; done) | rfl
set_option maxRecDepth 65536 in
set_option maxHeartbeats 40000000 in
theorem rm2 (l : Launch) (Z : State) (a0 : Array Value) (hw : ∀ d ∈ tables_1, d.before a0 Z = true) (n0 : Nat) (x0 : Int32) (Dr : List (Addr × Itm)) :
    Con l Z n0 (⟨"com/example/strict_bytecode/strictbytecode/DexBufferU2PinLaw", "unsignedByte", "(I)I"⟩ : MethodName) method_2_code 2 (some .int) ({ frames := 0, cells := 0, slots := 0, locals := 0 } : Room) #[(.int x0)] Dr (fun v D' => v = some (.int (own_ub x0)) ∧ D' = Dr) := by
  refine Con.of (plainFor_of_name pn0) ?_
  intro p e s m below meth c T cx Y
  obtain ⟨hx, hby, hml, hown, hnm, hret, hlk, hZ⟩ := cx
  rw [ef_rm2]
  generalize hF : Fi Z n0 below s _ _ _ = F
  refine Rn.go (T' := T) (g' := (mkF m 7 #[.val (.int x0), .val (.int (x0 % (256 : Int32)))] [(.int (x0 % (256 : Int32)))])) (fun t k => ?_) ?_
  · show Steps p.tables e below (T.setTop (mkF m 0 #[.val (.int x0), .unset] [])) t
    refine XS.iloadN Y.here hx rfl (hb hby d2_0) rfl ?_
    show Steps p.tables e below (T.setTop (mkF m 1 #[.val (.int x0), .unset] [(.int x0)])) t
    refine XS.sipush Y.here hx rfl (hb hby d2_1) ?_
    show Steps p.tables e below (T.setTop (mkF m 4 #[.val (.int x0), .unset] [(.int (256 : Int32)), (.int x0)])) t
    refine own_irem Y.here hx rfl (hb hby d2_4) rfl (by decide) ?_
    show Steps p.tables e below (T.setTop (mkF m 5 #[.val (.int x0), .unset] [(.int (x0 % (256 : Int32)))])) t
    refine XS.istoreN Y.here hx rfl (hb hby d2_5) rfl (l' := #[.val (.int x0), .val (.int (x0 % (256 : Int32)))]) rfl ?_
    show Steps p.tables e below (T.setTop (mkF m 6 #[.val (.int x0), .val (.int (x0 % (256 : Int32)))] [])) t
    refine XS.iloadN Y.here hx rfl (hb hby d2_6) rfl ?_
    show Steps p.tables e below (T.setTop (mkF m 7 #[.val (.int x0), .val (.int (x0 % (256 : Int32)))] [(.int (x0 % (256 : Int32)))])) t
    exact k
  by_cases hc7 : (x0 % (256 : Int32)) < (0 : Int32)
  · refine Rn.go (T' := T) (g' := (mkF m 10 #[.val (.int x0), .val (.int (x0 % (256 : Int32)))] [])) (fun t k => XS.ifNo Y.here hx rfl (hb hby d2_7) rfl ((if0 _ _).trans (tlt hc7).2.1) k) ?_
    refine Rn.go (T' := T) (g' := (mkF m 17 #[.val (.int x0), .val (.int ((x0 % (256 : Int32)) + (256 : Int32)))] [(.int ((x0 % (256 : Int32)) + (256 : Int32)))])) (fun t k => ?_) ?_
    · show Steps p.tables e below (T.setTop (mkF m 10 #[.val (.int x0), .val (.int (x0 % (256 : Int32)))] [])) t
      refine XS.iloadN Y.here hx rfl (hb hby d2_10) rfl ?_
      show Steps p.tables e below (T.setTop (mkF m 11 #[.val (.int x0), .val (.int (x0 % (256 : Int32)))] [(.int (x0 % (256 : Int32)))])) t
      refine XS.sipush Y.here hx rfl (hb hby d2_11) ?_
      show Steps p.tables e below (T.setTop (mkF m 14 #[.val (.int x0), .val (.int (x0 % (256 : Int32)))] [(.int (256 : Int32)), (.int (x0 % (256 : Int32)))])) t
      refine XS.iadd Y.here hx rfl (hb hby d2_14) rfl ?_
      show Steps p.tables e below (T.setTop (mkF m 15 #[.val (.int x0), .val (.int (x0 % (256 : Int32)))] [(.int ((x0 % (256 : Int32)) + (256 : Int32)))])) t
      refine XS.istoreN Y.here hx rfl (hb hby d2_15) rfl (l' := #[.val (.int x0), .val (.int ((x0 % (256 : Int32)) + (256 : Int32)))]) rfl ?_
      show Steps p.tables e below (T.setTop (mkF m 16 #[.val (.int x0), .val (.int ((x0 % (256 : Int32)) + (256 : Int32)))] [])) t
      refine XS.iloadN Y.here hx rfl (hb hby d2_16) rfl ?_
      show Steps p.tables e below (T.setTop (mkF m 17 #[.val (.int x0), .val (.int ((x0 % (256 : Int32)) + (256 : Int32)))] [(.int ((x0 % (256 : Int32)) + (256 : Int32)))])) t
      exact k
    rw [← hF]; exact On.reti Y hx hret hlk (hb hby d2_17) (by decide) (by decide) ⟨by unfold own_ub; rw [if_pos hc7], rfl⟩
  · refine Rn.go (T' := T) (g' := (mkF m 16 #[.val (.int x0), .val (.int (x0 % (256 : Int32)))] [])) (fun t k => XS.ifYes Y.here hx rfl (pc0 := 7) (pc' := 16) rfl (hb hby d2_7) rfl ((if0 _ _).trans (flt hc7).2.1) (by decide) (by decide) k) ?_
    refine Rn.go (T' := T) (g' := (mkF m 17 #[.val (.int x0), .val (.int (x0 % (256 : Int32)))] [(.int (x0 % (256 : Int32)))])) (fun t k => ?_) ?_
    · show Steps p.tables e below (T.setTop (mkF m 16 #[.val (.int x0), .val (.int (x0 % (256 : Int32)))] [])) t
      refine XS.iloadN Y.here hx rfl (hb hby d2_16) rfl ?_
      show Steps p.tables e below (T.setTop (mkF m 17 #[.val (.int x0), .val (.int (x0 % (256 : Int32)))] [(.int (x0 % (256 : Int32)))])) t
      exact k
    rw [← hF]; exact On.reti Y hx hret hlk (hb hby d2_17) (by decide) (by decide) ⟨by unfold own_ub; rw [if_neg hc7], rfl⟩
theorem ef_rm3 (m : MethodId) (t0 : Addr) (j : Int32) : entryFrame m #[(.ref t0), (.int j)] 2 = (mkF m 0 #[.val (.ref t0), .val (.int j)] []) := by first | (simp [entryFrame, mkF, argsToLocals, Value.category]; done) | rfl
set_option maxRecDepth 65536 in
set_option maxHeartbeats 40000000 in
theorem rm3 (l : Launch) (Z : State) (a0 : Array Value) (hw : ∀ d ∈ tables_1, d.before a0 Z = true) (n0 : Nat) (t0 : Addr) (j : Int32) (z0 : Int32) (xs : List Int32) (b0 : Int32) (b1 : Int32) (Dr : List (Addr × Itm)) (hn0 : ¬ j < 0) (hn1 : ¬ (j + (1 : Int32)) < 0) (hv0 : xs[j.toNatClampNeg]? = some b0) (hv1 : xs[(j + (1 : Int32)).toNatClampNeg]? = some b1) :
    Con l Z n0 (⟨"com/example/strict_bytecode/strictbytecode/DexBuffer", "u2", "([BI)I"⟩ : MethodName) prog_32_method_8_code 2 (some .int) ({ frames := 0, cells := 0, slots := 0, locals := 0 } : Room) #[(.ref t0), (.int j)] ((ari t0 .byte z0 xs) :: Dr) (fun v D' => v = some (.int ((b0 &&& (255 : Int32)) ||| ((b1 &&& (255 : Int32)) <<< ((8 : Int32) &&& 31)))) ∧ D' = ((ari t0 .byte z0 xs) :: Dr)) := by
  refine Con.of (plainFor_of_name pn1) ?_
  intro p e s m below meth c T cx Y
  obtain ⟨hx, hby, hml, hown, hnm, hret, hlk, hZ⟩ := cx
  rw [ef_rm3]
  generalize hF : Fi Z n0 below s _ _ _ = F
  refine Rn.go (T' := T) (g' := (mkF m 2 #[.val (.ref t0), .val (.int j)] [(.int j), (.ref t0)])) (fun t k => ?_) ?_
  · show Steps p.tables e below (T.setTop (mkF m 0 #[.val (.ref t0), .val (.int j)] [])) t
    refine XS.aloadN Y.here hx rfl (hb hby d3_0) rfl rfl ?_
    show Steps p.tables e below (T.setTop (mkF m 1 #[.val (.ref t0), .val (.int j)] [(.ref t0)])) t
    refine XS.iloadN Y.here hx rfl (hb hby d3_1) rfl ?_
    show Steps p.tables e below (T.setTop (mkF m 2 #[.val (.ref t0), .val (.int j)] [(.int j), (.ref t0)])) t
    exact k
  refine On.bld Y hx hZ (i := 0) rfl (k := j) (x := b0) hn0 hv0 (g := (mkF m 2 #[.val (.ref t0), .val (.int j)] [(.int j), (.ref t0)])) rfl rfl (hb hby d3_2) ?_
  show Rn p e below F T (mkF m 3 #[.val (.ref t0), .val (.int j)] [(.int b0)])
  refine Rn.go (T' := T) (g' := (mkF m 11 #[.val (.ref t0), .val (.int j)] [(.int (j + (1 : Int32))), (.ref t0), (.int (b0 &&& (255 : Int32)))])) (fun t k => ?_) ?_
  · show Steps p.tables e below (T.setTop (mkF m 3 #[.val (.ref t0), .val (.int j)] [(.int b0)])) t
    refine XS.sipush Y.here hx rfl (hb hby d3_3) ?_
    show Steps p.tables e below (T.setTop (mkF m 6 #[.val (.ref t0), .val (.int j)] [(.int (255 : Int32)), (.int b0)])) t
    refine XS.iand Y.here hx rfl (hb hby d3_6) rfl ?_
    show Steps p.tables e below (T.setTop (mkF m 7 #[.val (.ref t0), .val (.int j)] [(.int (b0 &&& (255 : Int32)))])) t
    refine XS.aloadN Y.here hx rfl (hb hby d3_7) rfl rfl ?_
    show Steps p.tables e below (T.setTop (mkF m 8 #[.val (.ref t0), .val (.int j)] [(.ref t0), (.int (b0 &&& (255 : Int32)))])) t
    refine XS.iloadN Y.here hx rfl (hb hby d3_8) rfl ?_
    show Steps p.tables e below (T.setTop (mkF m 9 #[.val (.ref t0), .val (.int j)] [(.int j), (.ref t0), (.int (b0 &&& (255 : Int32)))])) t
    refine XS.iconst Y.here hx rfl (hb hby d3_9) ?_
    show Steps p.tables e below (T.setTop (mkF m 10 #[.val (.ref t0), .val (.int j)] [(.int (1 : Int32)), (.int j), (.ref t0), (.int (b0 &&& (255 : Int32)))])) t
    refine XS.iadd Y.here hx rfl (hb hby d3_10) rfl ?_
    show Steps p.tables e below (T.setTop (mkF m 11 #[.val (.ref t0), .val (.int j)] [(.int (j + (1 : Int32))), (.ref t0), (.int (b0 &&& (255 : Int32)))])) t
    exact k
  refine On.bld Y hx hZ (i := 0) rfl (k := (j + (1 : Int32))) (x := b1) hn1 hv1 (g := (mkF m 11 #[.val (.ref t0), .val (.int j)] [(.int (j + (1 : Int32))), (.ref t0), (.int (b0 &&& (255 : Int32)))])) rfl rfl (hb hby d3_11) ?_
  show Rn p e below F T (mkF m 12 #[.val (.ref t0), .val (.int j)] [(.int b1), (.int (b0 &&& (255 : Int32)))])
  refine Rn.go (T' := T) (g' := (mkF m 20 #[.val (.ref t0), .val (.int j)] [(.int ((b0 &&& (255 : Int32)) ||| ((b1 &&& (255 : Int32)) <<< ((8 : Int32) &&& 31))))])) (fun t k => ?_) ?_
  · show Steps p.tables e below (T.setTop (mkF m 12 #[.val (.ref t0), .val (.int j)] [(.int b1), (.int (b0 &&& (255 : Int32)))])) t
    refine XS.sipush Y.here hx rfl (hb hby d3_12) ?_
    show Steps p.tables e below (T.setTop (mkF m 15 #[.val (.ref t0), .val (.int j)] [(.int (255 : Int32)), (.int b1), (.int (b0 &&& (255 : Int32)))])) t
    refine XS.iand Y.here hx rfl (hb hby d3_15) rfl ?_
    show Steps p.tables e below (T.setTop (mkF m 16 #[.val (.ref t0), .val (.int j)] [(.int (b1 &&& (255 : Int32))), (.int (b0 &&& (255 : Int32)))])) t
    refine XS.bipush Y.here hx rfl (hb hby d3_16) ?_
    show Steps p.tables e below (T.setTop (mkF m 18 #[.val (.ref t0), .val (.int j)] [(.int (8 : Int32)), (.int (b1 &&& (255 : Int32))), (.int (b0 &&& (255 : Int32)))])) t
    refine XS.ishl Y.here hx rfl (hb hby d3_18) rfl ?_
    show Steps p.tables e below (T.setTop (mkF m 19 #[.val (.ref t0), .val (.int j)] [(.int ((b1 &&& (255 : Int32)) <<< ((8 : Int32) &&& 31))), (.int (b0 &&& (255 : Int32)))])) t
    refine XS.ior Y.here hx rfl (hb hby d3_19) rfl ?_
    show Steps p.tables e below (T.setTop (mkF m 20 #[.val (.ref t0), .val (.int j)] [(.int ((b0 &&& (255 : Int32)) ||| ((b1 &&& (255 : Int32)) <<< ((8 : Int32) &&& 31))))])) t
    exact k
  rw [← hF]; exact On.reti Y hx hret hlk (hb hby d3_20) (by decide) (by decide) ⟨rfl, rfl⟩
theorem own_c255 (x : Int32) : (x.toInt8.toInt32.toInt8.toInt32 &&& 255).toInt = x.toInt % 256 := by
  rw [Jvm.Kit.i32_mask _ 255 (k := 8) (by decide) (by decide), Int8.toInt8_toInt32, Int8.toInt_toInt32, Int32.toInt_toInt8, Int.bmod_def]
  split <;> omega
theorem own_ubI (x : Int32) : (own_ub x).toInt = x.toInt % 256 := by
  have h1 : (x % (256 : Int32)).toInt = x.toInt.tmod 256 := Int32.toInt_mod x 256
  have h2 : x.toInt.tmod 256 = x.toInt % 256 - (if 0 ≤ x.toInt ∨ (256 : Int) ∣ x.toInt then 0 else 256) := by rw [Int.tmod_eq_emod]; by_cases z : 0 ≤ x.toInt ∨ (256 : Int) ∣ x.toInt <;> simp [z]
  have h0 : (0 : Int32).toInt = 0 := rfl
  have h256 : (256 : Int32).toInt = 256 := rfl
  unfold own_ub
  by_cases q : x % (256 : Int32) < (0 : Int32)
  · rw [if_pos q]
    rw [Int32.lt_iff_toInt_lt, h0] at q
    have hb : -256 < (x % (256 : Int32)).toInt := by rw [h1, h2]; split <;> omega
    rw [Jvm.Kit.i32_add (by rw [h256]; omega) (by rw [h256]; omega), h256]
    rw [h1, h2] at q ⊢
    split at q <;> rename_i z <;> simp only [z, if_true, if_false] <;> omega
  · rw [if_neg q]
    rw [Int32.lt_iff_toInt_lt, h0] at q
    rw [h1, h2] at q ⊢
    split at q <;> rename_i z <;> simp only [z, if_true, if_false] <;> omega
theorem own_nnat {a : Int32} (h : 0 ≤ a.toInt) : a.toInt = (a.toBitVec.toNat : Int) := by
  have e : a.toInt = a.toBitVec.toInt := rfl
  by_cases q : 2 * a.toBitVec.toNat < 2 ^ 32
  · rw [e, BitVec.toInt_eq_toNat_cond, if_pos q]
  · exfalso; rw [e, BitVec.toInt_eq_toNat_cond, if_neg q] at h; have := a.toBitVec.isLt; omega
theorem own_or8 (a b : Int32) (ha : 0 ≤ a.toInt) (ha2 : a.toInt < 256) (hb : 0 ≤ b.toInt) (hb2 : b.toInt < 256) : (a ||| (b <<< ((8 : Int32) &&& 31))).toInt = a.toInt + b.toInt * 256 := by
  have e1 : (b <<< ((8 : Int32) &&& 31)).toInt = b.toInt * 2 ^ 8 := Jvm.Kit.i32_shl b _ (k := 8) (by decide) (by omega) (by omega)
  generalize hc : b <<< ((8 : Int32) &&& 31) = c at *
  have na := own_nnat ha
  have nc := own_nnat (show 0 ≤ c.toInt by omega)
  have e2 : (a ||| c).toBitVec.toNat = a.toBitVec.toNat + c.toBitVec.toNat := by
    rw [Int32.toBitVec_or, BitVec.toNat_or]
    obtain ⟨k, hk⟩ : ∃ k : Nat, c.toBitVec.toNat = 2 ^ 8 * k := ⟨b.toInt.toNat, by omega⟩
    have hlt : a.toBitVec.toNat < 2 ^ 8 := by omega
    rw [hk, Nat.or_comm, ← Nat.two_pow_add_eq_or_of_lt hlt k, Nat.add_comm]
  have e3 : (a ||| c).toInt = ((a ||| c).toBitVec.toNat : Int) := by
    have : (a ||| c).toInt = (a ||| c).toBitVec.toInt := rfl
    rw [this, BitVec.toInt_eq_toNat_cond, if_pos (by rw [e2]; omega)]
  rw [e3, e2]; omega
theorem own_u2 (x y : Int32) : ((x.toInt8.toInt32.toInt8.toInt32 &&& (255 : Int32)) ||| ((y.toInt8.toInt32.toInt8.toInt32 &&& (255 : Int32)) <<< ((8 : Int32) &&& 31))).toInt = x.toInt % 256 + y.toInt % 256 * 256 := by
  rw [own_or8 _ _ (by rw [own_c255]; omega) (by rw [own_c255]; omega) (by rw [own_c255]; omega) (by rw [own_c255]; omega), own_c255, own_c255]
theorem own_exp (x y : Int32) : (own_ub x + own_ub y * (256 : Int32)).toInt = x.toInt % 256 + y.toInt % 256 * 256 := by
  have h256 : (256 : Int32).toInt = 256 := rfl
  have e1 : (own_ub y * (256 : Int32)).toInt = y.toInt % 256 * 256 := by rw [Jvm.Kit.i32_mul (by rw [own_ubI, h256]; omega) (by rw [own_ubI, h256]; omega), own_ubI, h256]
  rw [Jvm.Kit.i32_add (by rw [own_ubI, e1]; omega) (by rw [own_ubI, e1]; omega), own_ubI, e1]
theorem own_fin (x y r lo hi : Int32) (hr : r = ((x.toInt8.toInt32.toInt8.toInt32 &&& (255 : Int32)) ||| ((y.toInt8.toInt32.toInt8.toInt32 &&& (255 : Int32)) <<< ((8 : Int32) &&& 31)))) (hlo : lo = own_ub x) (hhi : hi = own_ub y) :
    r = lo + hi * (256 : Int32) ∧ ¬ r < (0 : Int32) ∧ ¬ (65535 : Int32) < r := by
  have e1 : r.toInt = x.toInt % 256 + y.toInt % 256 * 256 := by rw [hr]; exact own_u2 x y
  refine ⟨Int32.toInt_inj.mp (by rw [e1, hlo, hhi, own_exp]), ?_, ?_⟩
  · rw [Int32.lt_iff_toInt_lt, e1]; have : (0 : Int32).toInt = 0 := rfl; omega
  · rw [Int32.lt_iff_toInt_lt, e1]; have : (65535 : Int32).toInt = 65535 := rfl; omega
theorem ef_rm0 (m : MethodId) (p0 : Int32) (p1 : Int32) (p2 : Int32) (p3 : Int32) (p4 : Int32) : entryFrame m #[(.int p0), (.int p1), (.int p2), (.int p3), (.int p4)] maxLocals = (mkF m 0 #[.val (.int p0), .val (.int p1), .val (.int p2), .val (.int p3), .val (.int p4), .unset, .unset, .unset, .unset, .unset, .unset] []) := by first | (simp [entryFrame, mkF, argsToLocals, Value.category, maxLocals]; done) | rfl
set_option maxRecDepth 65536 in
set_option maxHeartbeats 40000000 in
theorem rm0 (l : Launch) (Z : State) (a0 : Array Value) (hw : ∀ d ∈ tables_1, d.before a0 Z = true) (n0 : Nat) (p0 : Int32) (p1 : Int32) (p2 : Int32) (p3 : Int32) (p4 : Int32) :
    Con l Z n0 x code maxLocals ret room_1 #[(.int p0), (.int p1), (.int p2), (.int p3), (.int p4)] [] (fun v _ => v = some (.int 1)) := by
  refine Con.of (plainFor_of_name pn0) ?_
  intro p e s m below meth c T cx Y
  obtain ⟨hx, hby, hml, hown, hnm, hret, hlk, hZ⟩ := cx
  rw [ef_rm0]
  generalize hF : Fi Z n0 below s _ _ _ = F
  refine Rn.go (T' := T) (g' := (mkF m 1 #[.val (.int p0), .val (.int p1), .val (.int p2), .val (.int p3), .val (.int p4), .unset, .unset, .unset, .unset, .unset, .unset] [(.int (4 : Int32))])) (fun t k => ?_) ?_
  · show Steps p.tables e below (T.setTop (mkF m 0 #[.val (.int p0), .val (.int p1), .val (.int p2), .val (.int p3), .val (.int p4), .unset, .unset, .unset, .unset, .unset, .unset] [])) t
    refine XS.iconst Y.here hx rfl (hb hby at_0) ?_
    show Steps p.tables e below (T.setTop (mkF m 1 #[.val (.int p0), .val (.int p1), .val (.int p2), .val (.int p3), .val (.int p4), .unset, .unset, .unset, .unset, .unset, .unset] [(.int (4 : Int32))])) t
    exact k
  refine On.newp Y hx hZ (aty := .byte) (w0 hw) (g := (mkF m 1 #[.val (.int p0), .val (.int p1), .val (.int p2), .val (.int p3), .val (.int p4), .unset, .unset, .unset, .unset, .unset, .unset] [(.int (4 : Int32))])) rfl (hb hby at_1) rfl (by decide) (N := 4) (cap := 4) rfl (by decide) (by decide) (by decide) (by decide) (dv := (.int (0 : Int32))) rfl fun T1 a3 Y2 => ?_
  replace Y2 : On p l e _ s m _ below meth c Z n0 T1 1 4 [ari a3 .byte (4 : Int32) [(0 : Int32), (0 : Int32), (0 : Int32), (0 : Int32)]] := Y2
  show Rn p e below F T1 (mkF m 3 #[.val (.int p0), .val (.int p1), .val (.int p2), .val (.int p3), .val (.int p4), .unset, .unset, .unset, .unset, .unset, .unset] [(.ref a3)])
  refine Rn.go (T' := T1) (g' := (mkF m 10 #[.val (.int p0), .val (.int p1), .val (.int p2), .val (.int p3), .val (.int p4), .val (.ref a3), .unset, .unset, .unset, .unset, .unset] [(.int (p0.toInt8.toInt32)), (.int (0 : Int32)), (.ref a3)])) (fun t k => ?_) ?_
  · show Steps p.tables e below (T1.setTop (mkF m 3 #[.val (.int p0), .val (.int p1), .val (.int p2), .val (.int p3), .val (.int p4), .unset, .unset, .unset, .unset, .unset, .unset] [(.ref a3)])) t
    refine XS.astore Y2.here hx rfl (hb hby at_3) rfl rfl (l' := #[.val (.int p0), .val (.int p1), .val (.int p2), .val (.int p3), .val (.int p4), .val (.ref a3), .unset, .unset, .unset, .unset, .unset]) rfl ?_
    show Steps p.tables e below (T1.setTop (mkF m 5 #[.val (.int p0), .val (.int p1), .val (.int p2), .val (.int p3), .val (.int p4), .val (.ref a3), .unset, .unset, .unset, .unset, .unset] [])) t
    refine XS.aload Y2.here hx rfl (hb hby at_5) rfl rfl ?_
    show Steps p.tables e below (T1.setTop (mkF m 7 #[.val (.int p0), .val (.int p1), .val (.int p2), .val (.int p3), .val (.int p4), .val (.ref a3), .unset, .unset, .unset, .unset, .unset] [(.ref a3)])) t
    refine XS.iconst Y2.here hx rfl (hb hby at_7) ?_
    show Steps p.tables e below (T1.setTop (mkF m 8 #[.val (.int p0), .val (.int p1), .val (.int p2), .val (.int p3), .val (.int p4), .val (.ref a3), .unset, .unset, .unset, .unset, .unset] [(.int (0 : Int32)), (.ref a3)])) t
    refine XS.iloadN Y2.here hx rfl (hb hby at_8) rfl ?_
    show Steps p.tables e below (T1.setTop (mkF m 9 #[.val (.int p0), .val (.int p1), .val (.int p2), .val (.int p3), .val (.int p4), .val (.ref a3), .unset, .unset, .unset, .unset, .unset] [(.int p0), (.int (0 : Int32)), (.ref a3)])) t
    refine XS.i2b Y2.here hx rfl (hb hby at_9) rfl ?_
    show Steps p.tables e below (T1.setTop (mkF m 10 #[.val (.int p0), .val (.int p1), .val (.int p2), .val (.int p3), .val (.int p4), .val (.ref a3), .unset, .unset, .unset, .unset, .unset] [(.int (p0.toInt8.toInt32)), (.int (0 : Int32)), (.ref a3)])) t
    exact k
  refine On.bsto Y2 hx hZ (i := 0) rfl (by decide) (by show 0 < 4; decide) (g := (mkF m 10 #[.val (.int p0), .val (.int p1), .val (.int p2), .val (.int p3), .val (.int p4), .val (.ref a3), .unset, .unset, .unset, .unset, .unset] [(.int (p0.toInt8.toInt32)), (.int (0 : Int32)), (.ref a3)])) rfl rfl (hb hby at_10) fun T4 Y5 => ?_
  replace Y5 : On p l e _ s m _ below meth c Z n0 T4 1 4 [ari a3 .byte (4 : Int32) [(p0.toInt8.toInt32).toInt8.toInt32, (0 : Int32), (0 : Int32), (0 : Int32)]] := Y5
  show Rn p e below F T4 (mkF m 11 #[.val (.int p0), .val (.int p1), .val (.int p2), .val (.int p3), .val (.int p4), .val (.ref a3), .unset, .unset, .unset, .unset, .unset] [])
  refine Rn.go (T' := T4) (g' := (mkF m 16 #[.val (.int p0), .val (.int p1), .val (.int p2), .val (.int p3), .val (.int p4), .val (.ref a3), .unset, .unset, .unset, .unset, .unset] [(.int (p1.toInt8.toInt32)), (.int (1 : Int32)), (.ref a3)])) (fun t k => ?_) ?_
  · show Steps p.tables e below (T4.setTop (mkF m 11 #[.val (.int p0), .val (.int p1), .val (.int p2), .val (.int p3), .val (.int p4), .val (.ref a3), .unset, .unset, .unset, .unset, .unset] [])) t
    refine XS.aload Y5.here hx rfl (hb hby at_11) rfl rfl ?_
    show Steps p.tables e below (T4.setTop (mkF m 13 #[.val (.int p0), .val (.int p1), .val (.int p2), .val (.int p3), .val (.int p4), .val (.ref a3), .unset, .unset, .unset, .unset, .unset] [(.ref a3)])) t
    refine XS.iconst Y5.here hx rfl (hb hby at_13) ?_
    show Steps p.tables e below (T4.setTop (mkF m 14 #[.val (.int p0), .val (.int p1), .val (.int p2), .val (.int p3), .val (.int p4), .val (.ref a3), .unset, .unset, .unset, .unset, .unset] [(.int (1 : Int32)), (.ref a3)])) t
    refine XS.iloadN Y5.here hx rfl (hb hby at_14) rfl ?_
    show Steps p.tables e below (T4.setTop (mkF m 15 #[.val (.int p0), .val (.int p1), .val (.int p2), .val (.int p3), .val (.int p4), .val (.ref a3), .unset, .unset, .unset, .unset, .unset] [(.int p1), (.int (1 : Int32)), (.ref a3)])) t
    refine XS.i2b Y5.here hx rfl (hb hby at_15) rfl ?_
    show Steps p.tables e below (T4.setTop (mkF m 16 #[.val (.int p0), .val (.int p1), .val (.int p2), .val (.int p3), .val (.int p4), .val (.ref a3), .unset, .unset, .unset, .unset, .unset] [(.int (p1.toInt8.toInt32)), (.int (1 : Int32)), (.ref a3)])) t
    exact k
  refine On.bsto Y5 hx hZ (i := 0) rfl (by decide) (by show 1 < 4; decide) (g := (mkF m 16 #[.val (.int p0), .val (.int p1), .val (.int p2), .val (.int p3), .val (.int p4), .val (.ref a3), .unset, .unset, .unset, .unset, .unset] [(.int (p1.toInt8.toInt32)), (.int (1 : Int32)), (.ref a3)])) rfl rfl (hb hby at_16) fun T6 Y7 => ?_
  replace Y7 : On p l e _ s m _ below meth c Z n0 T6 1 4 [ari a3 .byte (4 : Int32) [(p0.toInt8.toInt32).toInt8.toInt32, (p1.toInt8.toInt32).toInt8.toInt32, (0 : Int32), (0 : Int32)]] := Y7
  show Rn p e below F T6 (mkF m 17 #[.val (.int p0), .val (.int p1), .val (.int p2), .val (.int p3), .val (.int p4), .val (.ref a3), .unset, .unset, .unset, .unset, .unset] [])
  refine Rn.go (T' := T6) (g' := (mkF m 22 #[.val (.int p0), .val (.int p1), .val (.int p2), .val (.int p3), .val (.int p4), .val (.ref a3), .unset, .unset, .unset, .unset, .unset] [(.int (p2.toInt8.toInt32)), (.int (2 : Int32)), (.ref a3)])) (fun t k => ?_) ?_
  · show Steps p.tables e below (T6.setTop (mkF m 17 #[.val (.int p0), .val (.int p1), .val (.int p2), .val (.int p3), .val (.int p4), .val (.ref a3), .unset, .unset, .unset, .unset, .unset] [])) t
    refine XS.aload Y7.here hx rfl (hb hby at_17) rfl rfl ?_
    show Steps p.tables e below (T6.setTop (mkF m 19 #[.val (.int p0), .val (.int p1), .val (.int p2), .val (.int p3), .val (.int p4), .val (.ref a3), .unset, .unset, .unset, .unset, .unset] [(.ref a3)])) t
    refine XS.iconst Y7.here hx rfl (hb hby at_19) ?_
    show Steps p.tables e below (T6.setTop (mkF m 20 #[.val (.int p0), .val (.int p1), .val (.int p2), .val (.int p3), .val (.int p4), .val (.ref a3), .unset, .unset, .unset, .unset, .unset] [(.int (2 : Int32)), (.ref a3)])) t
    refine XS.iloadN Y7.here hx rfl (hb hby at_20) rfl ?_
    show Steps p.tables e below (T6.setTop (mkF m 21 #[.val (.int p0), .val (.int p1), .val (.int p2), .val (.int p3), .val (.int p4), .val (.ref a3), .unset, .unset, .unset, .unset, .unset] [(.int p2), (.int (2 : Int32)), (.ref a3)])) t
    refine XS.i2b Y7.here hx rfl (hb hby at_21) rfl ?_
    show Steps p.tables e below (T6.setTop (mkF m 22 #[.val (.int p0), .val (.int p1), .val (.int p2), .val (.int p3), .val (.int p4), .val (.ref a3), .unset, .unset, .unset, .unset, .unset] [(.int (p2.toInt8.toInt32)), (.int (2 : Int32)), (.ref a3)])) t
    exact k
  refine On.bsto Y7 hx hZ (i := 0) rfl (by decide) (by show 2 < 4; decide) (g := (mkF m 22 #[.val (.int p0), .val (.int p1), .val (.int p2), .val (.int p3), .val (.int p4), .val (.ref a3), .unset, .unset, .unset, .unset, .unset] [(.int (p2.toInt8.toInt32)), (.int (2 : Int32)), (.ref a3)])) rfl rfl (hb hby at_22) fun T8 Y9 => ?_
  replace Y9 : On p l e _ s m _ below meth c Z n0 T8 1 4 [ari a3 .byte (4 : Int32) [(p0.toInt8.toInt32).toInt8.toInt32, (p1.toInt8.toInt32).toInt8.toInt32, (p2.toInt8.toInt32).toInt8.toInt32, (0 : Int32)]] := Y9
  show Rn p e below F T8 (mkF m 23 #[.val (.int p0), .val (.int p1), .val (.int p2), .val (.int p3), .val (.int p4), .val (.ref a3), .unset, .unset, .unset, .unset, .unset] [])
  refine Rn.go (T' := T8) (g' := (mkF m 28 #[.val (.int p0), .val (.int p1), .val (.int p2), .val (.int p3), .val (.int p4), .val (.ref a3), .unset, .unset, .unset, .unset, .unset] [(.int (p3.toInt8.toInt32)), (.int (3 : Int32)), (.ref a3)])) (fun t k => ?_) ?_
  · show Steps p.tables e below (T8.setTop (mkF m 23 #[.val (.int p0), .val (.int p1), .val (.int p2), .val (.int p3), .val (.int p4), .val (.ref a3), .unset, .unset, .unset, .unset, .unset] [])) t
    refine XS.aload Y9.here hx rfl (hb hby at_23) rfl rfl ?_
    show Steps p.tables e below (T8.setTop (mkF m 25 #[.val (.int p0), .val (.int p1), .val (.int p2), .val (.int p3), .val (.int p4), .val (.ref a3), .unset, .unset, .unset, .unset, .unset] [(.ref a3)])) t
    refine XS.iconst Y9.here hx rfl (hb hby at_25) ?_
    show Steps p.tables e below (T8.setTop (mkF m 26 #[.val (.int p0), .val (.int p1), .val (.int p2), .val (.int p3), .val (.int p4), .val (.ref a3), .unset, .unset, .unset, .unset, .unset] [(.int (3 : Int32)), (.ref a3)])) t
    refine XS.iloadN Y9.here hx rfl (hb hby at_26) rfl ?_
    show Steps p.tables e below (T8.setTop (mkF m 27 #[.val (.int p0), .val (.int p1), .val (.int p2), .val (.int p3), .val (.int p4), .val (.ref a3), .unset, .unset, .unset, .unset, .unset] [(.int p3), (.int (3 : Int32)), (.ref a3)])) t
    refine XS.i2b Y9.here hx rfl (hb hby at_27) rfl ?_
    show Steps p.tables e below (T8.setTop (mkF m 28 #[.val (.int p0), .val (.int p1), .val (.int p2), .val (.int p3), .val (.int p4), .val (.ref a3), .unset, .unset, .unset, .unset, .unset] [(.int (p3.toInt8.toInt32)), (.int (3 : Int32)), (.ref a3)])) t
    exact k
  refine On.bsto Y9 hx hZ (i := 0) rfl (by decide) (by show 3 < 4; decide) (g := (mkF m 28 #[.val (.int p0), .val (.int p1), .val (.int p2), .val (.int p3), .val (.int p4), .val (.ref a3), .unset, .unset, .unset, .unset, .unset] [(.int (p3.toInt8.toInt32)), (.int (3 : Int32)), (.ref a3)])) rfl rfl (hb hby at_28) fun T10 Y11 => ?_
  replace Y11 : On p l e _ s m _ below meth c Z n0 T10 1 4 [ari a3 .byte (4 : Int32) [(p0.toInt8.toInt32).toInt8.toInt32, (p1.toInt8.toInt32).toInt8.toInt32, (p2.toInt8.toInt32).toInt8.toInt32, (p3.toInt8.toInt32).toInt8.toInt32]] := Y11
  show Rn p e below F T10 (mkF m 29 #[.val (.int p0), .val (.int p1), .val (.int p2), .val (.int p3), .val (.int p4), .val (.ref a3), .unset, .unset, .unset, .unset, .unset] [])
  refine Rn.go (T' := T10) (g' := (mkF m 38 #[.val (.int p0), .val (.int p1), .val (.int p2), .val (.int p3), .val (.int p4), .val (.ref a3), .val (.int ((p4 &&& (2147483647 : Int32)) % (3 : Int32))), .unset, .unset, .unset, .unset] [])) (fun t k => ?_) ?_
  · show Steps p.tables e below (T10.setTop (mkF m 29 #[.val (.int p0), .val (.int p1), .val (.int p2), .val (.int p3), .val (.int p4), .val (.ref a3), .unset, .unset, .unset, .unset, .unset] [])) t
    refine XS.iload Y11.here hx rfl (hb hby at_29) rfl ?_
    show Steps p.tables e below (T10.setTop (mkF m 31 #[.val (.int p0), .val (.int p1), .val (.int p2), .val (.int p3), .val (.int p4), .val (.ref a3), .unset, .unset, .unset, .unset, .unset] [(.int p4)])) t
    refine On.sldcI Y11 hx hZ hown (w1 hw) (g := (mkF m 31 #[.val (.int p0), .val (.int p1), .val (.int p2), .val (.int p3), .val (.int p4), .val (.ref a3), .unset, .unset, .unset, .unset, .unset] [(.int p4)])) rfl (hb hby at_31) _ ?_
    show Steps p.tables e below (T10.setTop (mkF m 33 #[.val (.int p0), .val (.int p1), .val (.int p2), .val (.int p3), .val (.int p4), .val (.ref a3), .unset, .unset, .unset, .unset, .unset] [(.int (2147483647 : Int32)), (.int p4)])) t
    refine XS.iand Y11.here hx rfl (hb hby at_33) rfl ?_
    show Steps p.tables e below (T10.setTop (mkF m 34 #[.val (.int p0), .val (.int p1), .val (.int p2), .val (.int p3), .val (.int p4), .val (.ref a3), .unset, .unset, .unset, .unset, .unset] [(.int (p4 &&& (2147483647 : Int32)))])) t
    refine XS.iconst Y11.here hx rfl (hb hby at_34) ?_
    show Steps p.tables e below (T10.setTop (mkF m 35 #[.val (.int p0), .val (.int p1), .val (.int p2), .val (.int p3), .val (.int p4), .val (.ref a3), .unset, .unset, .unset, .unset, .unset] [(.int (3 : Int32)), (.int (p4 &&& (2147483647 : Int32)))])) t
    refine own_irem Y11.here hx rfl (hb hby at_35) rfl (by decide) ?_
    show Steps p.tables e below (T10.setTop (mkF m 36 #[.val (.int p0), .val (.int p1), .val (.int p2), .val (.int p3), .val (.int p4), .val (.ref a3), .unset, .unset, .unset, .unset, .unset] [(.int ((p4 &&& (2147483647 : Int32)) % (3 : Int32)))])) t
    refine XS.istore Y11.here hx rfl (hb hby at_36) rfl (l' := #[.val (.int p0), .val (.int p1), .val (.int p2), .val (.int p3), .val (.int p4), .val (.ref a3), .val (.int ((p4 &&& (2147483647 : Int32)) % (3 : Int32))), .unset, .unset, .unset, .unset]) rfl ?_
    show Steps p.tables e below (T10.setTop (mkF m 38 #[.val (.int p0), .val (.int p1), .val (.int p2), .val (.int p3), .val (.int p4), .val (.ref a3), .val (.int ((p4 &&& (2147483647 : Int32)) % (3 : Int32))), .unset, .unset, .unset, .unset] [])) t
    exact k
  obtain ⟨o, ho⟩ : ∃ z : Int32, z = ((p4 &&& (2147483647 : Int32)) % (3 : Int32)) := ⟨_, rfl⟩
  have hbo : 0 ≤ o.toInt ∧ o.toInt ≤ 2 := by have h := Jvm.Kit.i32_mask p4 2147483647 (k := 31) (by decide) (by decide); rw [ho, own_remI (k := 3) rfl (by omega)]; omega
  rw [← ho]
  rcases own_le2 hbo.1 hbo.2 with eo | eo | eo
  · subst eo
    show Rn p e below F T10 (mkF m 38 #[.val (.int p0), .val (.int p1), .val (.int p2), .val (.int p3), .val (.int p4), .val (.ref a3), .val (.int (0 : Int32)), .unset, .unset, .unset, .unset] [])
    refine Rn.go (T' := T10) (g' := (mkF m 44 #[.val (.int p0), .val (.int p1), .val (.int p2), .val (.int p3), .val (.int p4), .val (.ref a3), .val (.int (0 : Int32)), .unset, .unset, .unset, .unset] [(.int p3), (.int p2), (.int p1), (.int p0), (.int (0 : Int32))])) (fun t k => ?_) ?_
    · show Steps p.tables e below (T10.setTop (mkF m 38 #[.val (.int p0), .val (.int p1), .val (.int p2), .val (.int p3), .val (.int p4), .val (.ref a3), .val (.int (0 : Int32)), .unset, .unset, .unset, .unset] [])) t
      refine XS.iload Y11.here hx rfl (hb hby at_38) rfl ?_
      show Steps p.tables e below (T10.setTop (mkF m 40 #[.val (.int p0), .val (.int p1), .val (.int p2), .val (.int p3), .val (.int p4), .val (.ref a3), .val (.int (0 : Int32)), .unset, .unset, .unset, .unset] [(.int (0 : Int32))])) t
      refine XS.iloadN Y11.here hx rfl (hb hby at_40) rfl ?_
      show Steps p.tables e below (T10.setTop (mkF m 41 #[.val (.int p0), .val (.int p1), .val (.int p2), .val (.int p3), .val (.int p4), .val (.ref a3), .val (.int (0 : Int32)), .unset, .unset, .unset, .unset] [(.int p0), (.int (0 : Int32))])) t
      refine XS.iloadN Y11.here hx rfl (hb hby at_41) rfl ?_
      show Steps p.tables e below (T10.setTop (mkF m 42 #[.val (.int p0), .val (.int p1), .val (.int p2), .val (.int p3), .val (.int p4), .val (.ref a3), .val (.int (0 : Int32)), .unset, .unset, .unset, .unset] [(.int p1), (.int p0), (.int (0 : Int32))])) t
      refine XS.iloadN Y11.here hx rfl (hb hby at_42) rfl ?_
      show Steps p.tables e below (T10.setTop (mkF m 43 #[.val (.int p0), .val (.int p1), .val (.int p2), .val (.int p3), .val (.int p4), .val (.ref a3), .val (.int (0 : Int32)), .unset, .unset, .unset, .unset] [(.int p2), (.int p1), (.int p0), (.int (0 : Int32))])) t
      refine XS.iloadN Y11.here hx rfl (hb hby at_43) rfl ?_
      show Steps p.tables e below (T10.setTop (mkF m 44 #[.val (.int p0), .val (.int p1), .val (.int p2), .val (.int p3), .val (.int p4), .val (.ref a3), .val (.int (0 : Int32)), .unset, .unset, .unset, .unset] [(.int p3), (.int p2), (.int p1), (.int p0), (.int (0 : Int32))])) t
      exact k
    refine On.static Y11 hx hZ (y := (⟨"com/example/strict_bytecode/strictbytecode/DexBufferU2PinLaw", "pick", "(IIIII)I"⟩ : MethodName)) hown (w2 hw) (w3 hw) (w5 hw) (w4 hw) (by decide) (argsL := [(.int (0 : Int32)), (.int p0), (.int p1), (.int p2), (.int p3)]) (rest := []) (rm1 l Z a0 hw n0 (0 : Int32) p0 p1 p2 p3 [ari a3 .byte (4 : Int32) [(p0.toInt8.toInt32).toInt8.toInt32, (p1.toInt8.toInt32).toInt8.toInt32, (p2.toInt8.toInt32).toInt8.toInt32, (p3.toInt8.toInt32).toInt8.toInt32]]) (W := 0) (by decide) (by decide) (by decide) (by decide) (g := (mkF m 44 #[.val (.int p0), .val (.int p1), .val (.int p2), .val (.int p3), .val (.int p4), .val (.ref a3), .val (.int (0 : Int32)), .unset, .unset, .unset, .unset] [(.int p3), (.int p2), (.int p1), (.int p0), (.int (0 : Int32))])) rfl (by rw [hml]; rfl) (lenOf pd0 rfl) rfl (by show 2 * 0 + _ ≤ _; exact Nat.le_of_eq rfl) (hb hby at_44) ?_
    intro T12 u14 D15 hp16 Y13
    obtain ⟨r44, hr44, rfl, rfl⟩ : ∃ z : Int32, z = (own_pick (0 : Int32) p0 p1 p2 p3) ∧ u14 = some (.int z) ∧ D15 = _ := ⟨_, rfl, hp16.1, hp16.2⟩
    replace Y13 : On p l e _ s m _ below meth c Z n0 T12 1 4 [ari a3 .byte (4 : Int32) [(p0.toInt8.toInt32).toInt8.toInt32, (p1.toInt8.toInt32).toInt8.toInt32, (p2.toInt8.toInt32).toInt8.toInt32, (p3.toInt8.toInt32).toInt8.toInt32]] := Y13
    show Rn p e below F T12 (mkF m 47 #[.val (.int p0), .val (.int p1), .val (.int p2), .val (.int p3), .val (.int p4), .val (.ref a3), .val (.int (0 : Int32)), .unset, .unset, .unset, .unset] [(.int r44)])
    refine On.static Y13 hx hZ (y := (⟨"com/example/strict_bytecode/strictbytecode/DexBufferU2PinLaw", "unsignedByte", "(I)I"⟩ : MethodName)) hown (w6 hw) (w7 hw) (w8 hw) (w4 hw) (by decide) (argsL := [(.int r44)]) (rest := []) (rm2 l Z a0 hw n0 r44 [ari a3 .byte (4 : Int32) [(p0.toInt8.toInt32).toInt8.toInt32, (p1.toInt8.toInt32).toInt8.toInt32, (p2.toInt8.toInt32).toInt8.toInt32, (p3.toInt8.toInt32).toInt8.toInt32]]) (W := 0) (by decide) (by decide) (by decide) (by decide) (g := (mkF m 47 #[.val (.int p0), .val (.int p1), .val (.int p2), .val (.int p3), .val (.int p4), .val (.ref a3), .val (.int (0 : Int32)), .unset, .unset, .unset, .unset] [(.int r44)])) rfl (by rw [hml]; rfl) (lenOf pd1 rfl) rfl (by show 2 * 0 + _ ≤ _; exact Nat.le_of_eq rfl) (hb hby at_47) ?_
    intro T17 u19 D20 hp21 Y18
    obtain ⟨r47, hr47, rfl, rfl⟩ : ∃ z : Int32, z = (own_ub r44) ∧ u19 = some (.int z) ∧ D20 = _ := ⟨_, rfl, hp21.1, hp21.2⟩
    replace Y18 : On p l e _ s m _ below meth c Z n0 T17 1 4 [ari a3 .byte (4 : Int32) [(p0.toInt8.toInt32).toInt8.toInt32, (p1.toInt8.toInt32).toInt8.toInt32, (p2.toInt8.toInt32).toInt8.toInt32, (p3.toInt8.toInt32).toInt8.toInt32]] := Y18
    show Rn p e below F T17 (mkF m 50 #[.val (.int p0), .val (.int p1), .val (.int p2), .val (.int p3), .val (.int p4), .val (.ref a3), .val (.int (0 : Int32)), .unset, .unset, .unset, .unset] [(.int r47)])
    refine Rn.go (T' := T17) (g' := (mkF m 60 #[.val (.int p0), .val (.int p1), .val (.int p2), .val (.int p3), .val (.int p4), .val (.ref a3), .val (.int (0 : Int32)), .val (.int r47), .unset, .unset, .unset] [(.int p3), (.int p2), (.int p1), (.int p0), (.int (1 : Int32))])) (fun t k => ?_) ?_
    · show Steps p.tables e below (T17.setTop (mkF m 50 #[.val (.int p0), .val (.int p1), .val (.int p2), .val (.int p3), .val (.int p4), .val (.ref a3), .val (.int (0 : Int32)), .unset, .unset, .unset, .unset] [(.int r47)])) t
      refine XS.istore Y18.here hx rfl (hb hby at_50) rfl (l' := #[.val (.int p0), .val (.int p1), .val (.int p2), .val (.int p3), .val (.int p4), .val (.ref a3), .val (.int (0 : Int32)), .val (.int r47), .unset, .unset, .unset]) rfl ?_
      show Steps p.tables e below (T17.setTop (mkF m 52 #[.val (.int p0), .val (.int p1), .val (.int p2), .val (.int p3), .val (.int p4), .val (.ref a3), .val (.int (0 : Int32)), .val (.int r47), .unset, .unset, .unset] [])) t
      refine XS.iload Y18.here hx rfl (hb hby at_52) rfl ?_
      show Steps p.tables e below (T17.setTop (mkF m 54 #[.val (.int p0), .val (.int p1), .val (.int p2), .val (.int p3), .val (.int p4), .val (.ref a3), .val (.int (0 : Int32)), .val (.int r47), .unset, .unset, .unset] [(.int (0 : Int32))])) t
      refine XS.iconst Y18.here hx rfl (hb hby at_54) ?_
      show Steps p.tables e below (T17.setTop (mkF m 55 #[.val (.int p0), .val (.int p1), .val (.int p2), .val (.int p3), .val (.int p4), .val (.ref a3), .val (.int (0 : Int32)), .val (.int r47), .unset, .unset, .unset] [(.int (1 : Int32)), (.int (0 : Int32))])) t
      refine XS.iadd Y18.here hx rfl (hb hby at_55) rfl ?_
      show Steps p.tables e below (T17.setTop (mkF m 56 #[.val (.int p0), .val (.int p1), .val (.int p2), .val (.int p3), .val (.int p4), .val (.ref a3), .val (.int (0 : Int32)), .val (.int r47), .unset, .unset, .unset] [(.int (1 : Int32))])) t
      refine XS.iloadN Y18.here hx rfl (hb hby at_56) rfl ?_
      show Steps p.tables e below (T17.setTop (mkF m 57 #[.val (.int p0), .val (.int p1), .val (.int p2), .val (.int p3), .val (.int p4), .val (.ref a3), .val (.int (0 : Int32)), .val (.int r47), .unset, .unset, .unset] [(.int p0), (.int (1 : Int32))])) t
      refine XS.iloadN Y18.here hx rfl (hb hby at_57) rfl ?_
      show Steps p.tables e below (T17.setTop (mkF m 58 #[.val (.int p0), .val (.int p1), .val (.int p2), .val (.int p3), .val (.int p4), .val (.ref a3), .val (.int (0 : Int32)), .val (.int r47), .unset, .unset, .unset] [(.int p1), (.int p0), (.int (1 : Int32))])) t
      refine XS.iloadN Y18.here hx rfl (hb hby at_58) rfl ?_
      show Steps p.tables e below (T17.setTop (mkF m 59 #[.val (.int p0), .val (.int p1), .val (.int p2), .val (.int p3), .val (.int p4), .val (.ref a3), .val (.int (0 : Int32)), .val (.int r47), .unset, .unset, .unset] [(.int p2), (.int p1), (.int p0), (.int (1 : Int32))])) t
      refine XS.iloadN Y18.here hx rfl (hb hby at_59) rfl ?_
      show Steps p.tables e below (T17.setTop (mkF m 60 #[.val (.int p0), .val (.int p1), .val (.int p2), .val (.int p3), .val (.int p4), .val (.ref a3), .val (.int (0 : Int32)), .val (.int r47), .unset, .unset, .unset] [(.int p3), (.int p2), (.int p1), (.int p0), (.int (1 : Int32))])) t
      exact k
    refine On.static Y18 hx hZ (y := (⟨"com/example/strict_bytecode/strictbytecode/DexBufferU2PinLaw", "pick", "(IIIII)I"⟩ : MethodName)) hown (w2 hw) (w3 hw) (w5 hw) (w4 hw) (by decide) (argsL := [(.int (1 : Int32)), (.int p0), (.int p1), (.int p2), (.int p3)]) (rest := []) (rm1 l Z a0 hw n0 (1 : Int32) p0 p1 p2 p3 [ari a3 .byte (4 : Int32) [(p0.toInt8.toInt32).toInt8.toInt32, (p1.toInt8.toInt32).toInt8.toInt32, (p2.toInt8.toInt32).toInt8.toInt32, (p3.toInt8.toInt32).toInt8.toInt32]]) (W := 0) (by decide) (by decide) (by decide) (by decide) (g := (mkF m 60 #[.val (.int p0), .val (.int p1), .val (.int p2), .val (.int p3), .val (.int p4), .val (.ref a3), .val (.int (0 : Int32)), .val (.int r47), .unset, .unset, .unset] [(.int p3), (.int p2), (.int p1), (.int p0), (.int (1 : Int32))])) rfl (by rw [hml]; rfl) (lenOf pd0 rfl) rfl (by show 2 * 0 + _ ≤ _; exact Nat.le_of_eq rfl) (hb hby at_60) ?_
    intro T22 u24 D25 hp26 Y23
    obtain ⟨r60, hr60, rfl, rfl⟩ : ∃ z : Int32, z = (own_pick (1 : Int32) p0 p1 p2 p3) ∧ u24 = some (.int z) ∧ D25 = _ := ⟨_, rfl, hp26.1, hp26.2⟩
    replace Y23 : On p l e _ s m _ below meth c Z n0 T22 1 4 [ari a3 .byte (4 : Int32) [(p0.toInt8.toInt32).toInt8.toInt32, (p1.toInt8.toInt32).toInt8.toInt32, (p2.toInt8.toInt32).toInt8.toInt32, (p3.toInt8.toInt32).toInt8.toInt32]] := Y23
    show Rn p e below F T22 (mkF m 63 #[.val (.int p0), .val (.int p1), .val (.int p2), .val (.int p3), .val (.int p4), .val (.ref a3), .val (.int (0 : Int32)), .val (.int r47), .unset, .unset, .unset] [(.int r60)])
    refine On.static Y23 hx hZ (y := (⟨"com/example/strict_bytecode/strictbytecode/DexBufferU2PinLaw", "unsignedByte", "(I)I"⟩ : MethodName)) hown (w6 hw) (w7 hw) (w8 hw) (w4 hw) (by decide) (argsL := [(.int r60)]) (rest := []) (rm2 l Z a0 hw n0 r60 [ari a3 .byte (4 : Int32) [(p0.toInt8.toInt32).toInt8.toInt32, (p1.toInt8.toInt32).toInt8.toInt32, (p2.toInt8.toInt32).toInt8.toInt32, (p3.toInt8.toInt32).toInt8.toInt32]]) (W := 0) (by decide) (by decide) (by decide) (by decide) (g := (mkF m 63 #[.val (.int p0), .val (.int p1), .val (.int p2), .val (.int p3), .val (.int p4), .val (.ref a3), .val (.int (0 : Int32)), .val (.int r47), .unset, .unset, .unset] [(.int r60)])) rfl (by rw [hml]; rfl) (lenOf pd1 rfl) rfl (by show 2 * 0 + _ ≤ _; exact Nat.le_of_eq rfl) (hb hby at_63) ?_
    intro T27 u29 D30 hp31 Y28
    obtain ⟨r63, hr63, rfl, rfl⟩ : ∃ z : Int32, z = (own_ub r60) ∧ u29 = some (.int z) ∧ D30 = _ := ⟨_, rfl, hp31.1, hp31.2⟩
    replace Y28 : On p l e _ s m _ below meth c Z n0 T27 1 4 [ari a3 .byte (4 : Int32) [(p0.toInt8.toInt32).toInt8.toInt32, (p1.toInt8.toInt32).toInt8.toInt32, (p2.toInt8.toInt32).toInt8.toInt32, (p3.toInt8.toInt32).toInt8.toInt32]] := Y28
    show Rn p e below F T27 (mkF m 66 #[.val (.int p0), .val (.int p1), .val (.int p2), .val (.int p3), .val (.int p4), .val (.ref a3), .val (.int (0 : Int32)), .val (.int r47), .unset, .unset, .unset] [(.int r63)])
    refine Rn.go (T' := T27) (g' := (mkF m 83 #[.val (.int p0), .val (.int p1), .val (.int p2), .val (.int p3), .val (.int p4), .val (.ref a3), .val (.int (0 : Int32)), .val (.int r47), .val (.int r63), .val (.int (r47 + (r63 * (256 : Int32)))), .unset] [(.int (0 : Int32)), (.ref a3)])) (fun t k => ?_) ?_
    · show Steps p.tables e below (T27.setTop (mkF m 66 #[.val (.int p0), .val (.int p1), .val (.int p2), .val (.int p3), .val (.int p4), .val (.ref a3), .val (.int (0 : Int32)), .val (.int r47), .unset, .unset, .unset] [(.int r63)])) t
      refine XS.istore Y28.here hx rfl (hb hby at_66) rfl (l' := #[.val (.int p0), .val (.int p1), .val (.int p2), .val (.int p3), .val (.int p4), .val (.ref a3), .val (.int (0 : Int32)), .val (.int r47), .val (.int r63), .unset, .unset]) rfl ?_
      show Steps p.tables e below (T27.setTop (mkF m 68 #[.val (.int p0), .val (.int p1), .val (.int p2), .val (.int p3), .val (.int p4), .val (.ref a3), .val (.int (0 : Int32)), .val (.int r47), .val (.int r63), .unset, .unset] [])) t
      refine XS.iload Y28.here hx rfl (hb hby at_68) rfl ?_
      show Steps p.tables e below (T27.setTop (mkF m 70 #[.val (.int p0), .val (.int p1), .val (.int p2), .val (.int p3), .val (.int p4), .val (.ref a3), .val (.int (0 : Int32)), .val (.int r47), .val (.int r63), .unset, .unset] [(.int r47)])) t
      refine XS.iload Y28.here hx rfl (hb hby at_70) rfl ?_
      show Steps p.tables e below (T27.setTop (mkF m 72 #[.val (.int p0), .val (.int p1), .val (.int p2), .val (.int p3), .val (.int p4), .val (.ref a3), .val (.int (0 : Int32)), .val (.int r47), .val (.int r63), .unset, .unset] [(.int r63), (.int r47)])) t
      refine XS.sipush Y28.here hx rfl (hb hby at_72) ?_
      show Steps p.tables e below (T27.setTop (mkF m 75 #[.val (.int p0), .val (.int p1), .val (.int p2), .val (.int p3), .val (.int p4), .val (.ref a3), .val (.int (0 : Int32)), .val (.int r47), .val (.int r63), .unset, .unset] [(.int (256 : Int32)), (.int r63), (.int r47)])) t
      refine XS.imul Y28.here hx rfl (hb hby at_75) rfl ?_
      show Steps p.tables e below (T27.setTop (mkF m 76 #[.val (.int p0), .val (.int p1), .val (.int p2), .val (.int p3), .val (.int p4), .val (.ref a3), .val (.int (0 : Int32)), .val (.int r47), .val (.int r63), .unset, .unset] [(.int (r63 * (256 : Int32))), (.int r47)])) t
      refine XS.iadd Y28.here hx rfl (hb hby at_76) rfl ?_
      show Steps p.tables e below (T27.setTop (mkF m 77 #[.val (.int p0), .val (.int p1), .val (.int p2), .val (.int p3), .val (.int p4), .val (.ref a3), .val (.int (0 : Int32)), .val (.int r47), .val (.int r63), .unset, .unset] [(.int (r47 + (r63 * (256 : Int32))))])) t
      refine XS.istore Y28.here hx rfl (hb hby at_77) rfl (l' := #[.val (.int p0), .val (.int p1), .val (.int p2), .val (.int p3), .val (.int p4), .val (.ref a3), .val (.int (0 : Int32)), .val (.int r47), .val (.int r63), .val (.int (r47 + (r63 * (256 : Int32)))), .unset]) rfl ?_
      show Steps p.tables e below (T27.setTop (mkF m 79 #[.val (.int p0), .val (.int p1), .val (.int p2), .val (.int p3), .val (.int p4), .val (.ref a3), .val (.int (0 : Int32)), .val (.int r47), .val (.int r63), .val (.int (r47 + (r63 * (256 : Int32)))), .unset] [])) t
      refine XS.aload Y28.here hx rfl (hb hby at_79) rfl rfl ?_
      show Steps p.tables e below (T27.setTop (mkF m 81 #[.val (.int p0), .val (.int p1), .val (.int p2), .val (.int p3), .val (.int p4), .val (.ref a3), .val (.int (0 : Int32)), .val (.int r47), .val (.int r63), .val (.int (r47 + (r63 * (256 : Int32)))), .unset] [(.ref a3)])) t
      refine XS.iload Y28.here hx rfl (hb hby at_81) rfl ?_
      show Steps p.tables e below (T27.setTop (mkF m 83 #[.val (.int p0), .val (.int p1), .val (.int p2), .val (.int p3), .val (.int p4), .val (.ref a3), .val (.int (0 : Int32)), .val (.int r47), .val (.int r63), .val (.int (r47 + (r63 * (256 : Int32)))), .unset] [(.int (0 : Int32)), (.ref a3)])) t
      exact k
    refine On.static Y28 hx hZ (y := (⟨"com/example/strict_bytecode/strictbytecode/DexBuffer", "u2", "([BI)I"⟩ : MethodName)) hown (w9 hw) (w10 hw) (w12 hw) (w11 hw) (by decide) (argsL := [(.ref a3), (.int (0 : Int32))]) (rest := []) (rm3 l Z a0 hw n0 a3 (0 : Int32) (4 : Int32) [(p0.toInt8.toInt32).toInt8.toInt32, (p1.toInt8.toInt32).toInt8.toInt32, (p2.toInt8.toInt32).toInt8.toInt32, (p3.toInt8.toInt32).toInt8.toInt32] ((p0.toInt8.toInt32).toInt8.toInt32) ((p1.toInt8.toInt32).toInt8.toInt32) [] (by decide) (by decide) rfl rfl) (W := 0) (by decide) (by decide) (by decide) (by decide) (g := (mkF m 83 #[.val (.int p0), .val (.int p1), .val (.int p2), .val (.int p3), .val (.int p4), .val (.ref a3), .val (.int (0 : Int32)), .val (.int r47), .val (.int r63), .val (.int (r47 + (r63 * (256 : Int32)))), .unset] [(.int (0 : Int32)), (.ref a3)])) rfl (by rw [hml]; rfl) (lenOf pd2 rfl) rfl (by show 2 * 0 + _ ≤ _; exact Nat.le_of_eq rfl) (hb hby at_83) ?_
    intro T32 u34 D35 hp36 Y33
    obtain ⟨r83, hr83, rfl, rfl⟩ : ∃ z : Int32, z = (((p0.toInt8.toInt32).toInt8.toInt32 &&& (255 : Int32)) ||| (((p1.toInt8.toInt32).toInt8.toInt32 &&& (255 : Int32)) <<< ((8 : Int32) &&& 31))) ∧ u34 = some (.int z) ∧ D35 = _ := ⟨_, rfl, hp36.1, hp36.2⟩
    replace Y33 : On p l e _ s m _ below meth c Z n0 T32 1 4 [ari a3 .byte (4 : Int32) [(p0.toInt8.toInt32).toInt8.toInt32, (p1.toInt8.toInt32).toInt8.toInt32, (p2.toInt8.toInt32).toInt8.toInt32, (p3.toInt8.toInt32).toInt8.toInt32]] := Y33
    show Rn p e below F T32 (mkF m 86 #[.val (.int p0), .val (.int p1), .val (.int p2), .val (.int p3), .val (.int p4), .val (.ref a3), .val (.int (0 : Int32)), .val (.int r47), .val (.int r63), .val (.int (r47 + (r63 * (256 : Int32)))), .unset] [(.int r83)])
    have ep : r44 = p0 := by rw [hr44]; simp [own_pick]
    have eq : r60 = p1 := by rw [hr60]; simp [own_pick]
    rw [ep] at hr47; rw [eq] at hr63
    obtain ⟨f1, f2, f3⟩ := own_fin _ _ _ _ _ hr83 hr47 hr63
    refine Rn.go (T' := T32) (g' := (mkF m 92 #[.val (.int p0), .val (.int p1), .val (.int p2), .val (.int p3), .val (.int p4), .val (.ref a3), .val (.int (0 : Int32)), .val (.int r47), .val (.int r63), .val (.int (r47 + (r63 * (256 : Int32)))), .val (.int r83)] [(.int (r47 + (r63 * (256 : Int32)))), (.int r83)])) (fun t k => ?_) ?_
    · show Steps p.tables e below (T32.setTop (mkF m 86 #[.val (.int p0), .val (.int p1), .val (.int p2), .val (.int p3), .val (.int p4), .val (.ref a3), .val (.int (0 : Int32)), .val (.int r47), .val (.int r63), .val (.int (r47 + (r63 * (256 : Int32)))), .unset] [(.int r83)])) t
      refine XS.istore Y33.here hx rfl (hb hby at_86) rfl (l' := #[.val (.int p0), .val (.int p1), .val (.int p2), .val (.int p3), .val (.int p4), .val (.ref a3), .val (.int (0 : Int32)), .val (.int r47), .val (.int r63), .val (.int (r47 + (r63 * (256 : Int32)))), .val (.int r83)]) rfl ?_
      show Steps p.tables e below (T32.setTop (mkF m 88 #[.val (.int p0), .val (.int p1), .val (.int p2), .val (.int p3), .val (.int p4), .val (.ref a3), .val (.int (0 : Int32)), .val (.int r47), .val (.int r63), .val (.int (r47 + (r63 * (256 : Int32)))), .val (.int r83)] [])) t
      refine XS.iload Y33.here hx rfl (hb hby at_88) rfl ?_
      show Steps p.tables e below (T32.setTop (mkF m 90 #[.val (.int p0), .val (.int p1), .val (.int p2), .val (.int p3), .val (.int p4), .val (.ref a3), .val (.int (0 : Int32)), .val (.int r47), .val (.int r63), .val (.int (r47 + (r63 * (256 : Int32)))), .val (.int r83)] [(.int r83)])) t
      refine XS.iload Y33.here hx rfl (hb hby at_90) rfl ?_
      show Steps p.tables e below (T32.setTop (mkF m 92 #[.val (.int p0), .val (.int p1), .val (.int p2), .val (.int p3), .val (.int p4), .val (.ref a3), .val (.int (0 : Int32)), .val (.int r47), .val (.int r63), .val (.int (r47 + (r63 * (256 : Int32)))), .val (.int r83)] [(.int (r47 + (r63 * (256 : Int32)))), (.int r83)])) t
      exact k
    refine Rn.go (T' := T32) (g' := (mkF m 95 #[.val (.int p0), .val (.int p1), .val (.int p2), .val (.int p3), .val (.int p4), .val (.ref a3), .val (.int (0 : Int32)), .val (.int r47), .val (.int r63), .val (.int (r47 + (r63 * (256 : Int32)))), .val (.int r83)] [])) (fun t k => XS.icmpNo Y33.here hx rfl (hb hby at_92) rfl (teq f1).2 k) ?_
    refine Rn.go (T' := T32) (g' := (mkF m 97 #[.val (.int p0), .val (.int p1), .val (.int p2), .val (.int p3), .val (.int p4), .val (.ref a3), .val (.int (0 : Int32)), .val (.int r47), .val (.int r63), .val (.int (r47 + (r63 * (256 : Int32)))), .val (.int r83)] [(.int r83)])) (fun t k => ?_) ?_
    · show Steps p.tables e below (T32.setTop (mkF m 95 #[.val (.int p0), .val (.int p1), .val (.int p2), .val (.int p3), .val (.int p4), .val (.ref a3), .val (.int (0 : Int32)), .val (.int r47), .val (.int r63), .val (.int (r47 + (r63 * (256 : Int32)))), .val (.int r83)] [])) t
      refine XS.iload Y33.here hx rfl (hb hby at_95) rfl ?_
      show Steps p.tables e below (T32.setTop (mkF m 97 #[.val (.int p0), .val (.int p1), .val (.int p2), .val (.int p3), .val (.int p4), .val (.ref a3), .val (.int (0 : Int32)), .val (.int r47), .val (.int r63), .val (.int (r47 + (r63 * (256 : Int32)))), .val (.int r83)] [(.int r83)])) t
      exact k
    refine Rn.go (T' := T32) (g' := (mkF m 100 #[.val (.int p0), .val (.int p1), .val (.int p2), .val (.int p3), .val (.int p4), .val (.ref a3), .val (.int (0 : Int32)), .val (.int r47), .val (.int r63), .val (.int (r47 + (r63 * (256 : Int32)))), .val (.int r83)] [])) (fun t k => XS.ifNo Y33.here hx rfl (hb hby at_97) rfl ((if0 _ _).trans (flt f2).1) k) ?_
    refine Rn.go (T' := T32) (g' := (mkF m 104 #[.val (.int p0), .val (.int p1), .val (.int p2), .val (.int p3), .val (.int p4), .val (.ref a3), .val (.int (0 : Int32)), .val (.int r47), .val (.int r63), .val (.int (r47 + (r63 * (256 : Int32)))), .val (.int r83)] [(.int (65535 : Int32)), (.int r83)])) (fun t k => ?_) ?_
    · show Steps p.tables e below (T32.setTop (mkF m 100 #[.val (.int p0), .val (.int p1), .val (.int p2), .val (.int p3), .val (.int p4), .val (.ref a3), .val (.int (0 : Int32)), .val (.int r47), .val (.int r63), .val (.int (r47 + (r63 * (256 : Int32)))), .val (.int r83)] [])) t
      refine XS.iload Y33.here hx rfl (hb hby at_100) rfl ?_
      show Steps p.tables e below (T32.setTop (mkF m 102 #[.val (.int p0), .val (.int p1), .val (.int p2), .val (.int p3), .val (.int p4), .val (.ref a3), .val (.int (0 : Int32)), .val (.int r47), .val (.int r63), .val (.int (r47 + (r63 * (256 : Int32)))), .val (.int r83)] [(.int r83)])) t
      refine On.sldcI Y33 hx hZ hown (w13 hw) (g := (mkF m 102 #[.val (.int p0), .val (.int p1), .val (.int p2), .val (.int p3), .val (.int p4), .val (.ref a3), .val (.int (0 : Int32)), .val (.int r47), .val (.int r63), .val (.int (r47 + (r63 * (256 : Int32)))), .val (.int r83)] [(.int r83)])) rfl (hb hby at_102) _ ?_
      show Steps p.tables e below (T32.setTop (mkF m 104 #[.val (.int p0), .val (.int p1), .val (.int p2), .val (.int p3), .val (.int p4), .val (.ref a3), .val (.int (0 : Int32)), .val (.int r47), .val (.int r63), .val (.int (r47 + (r63 * (256 : Int32)))), .val (.int r83)] [(.int (65535 : Int32)), (.int r83)])) t
      exact k
    refine Rn.go (T' := T32) (g' := (mkF m 107 #[.val (.int p0), .val (.int p1), .val (.int p2), .val (.int p3), .val (.int p4), .val (.ref a3), .val (.int (0 : Int32)), .val (.int r47), .val (.int r63), .val (.int (r47 + (r63 * (256 : Int32)))), .val (.int r83)] [])) (fun t k => XS.icmpNo Y33.here hx rfl (hb hby at_104) rfl (flt f3).2.2.1 k) ?_
    refine Rn.go (T' := T32) (g' := (mkF m 112 #[.val (.int p0), .val (.int p1), .val (.int p2), .val (.int p3), .val (.int p4), .val (.ref a3), .val (.int (0 : Int32)), .val (.int r47), .val (.int r63), .val (.int (r47 + (r63 * (256 : Int32)))), .val (.int r83)] [(.int (1 : Int32))])) (fun t k => ?_) ?_
    · show Steps p.tables e below (T32.setTop (mkF m 107 #[.val (.int p0), .val (.int p1), .val (.int p2), .val (.int p3), .val (.int p4), .val (.ref a3), .val (.int (0 : Int32)), .val (.int r47), .val (.int r63), .val (.int (r47 + (r63 * (256 : Int32)))), .val (.int r83)] [])) t
      refine XS.iconst Y33.here hx rfl (hb hby at_107) ?_
      show Steps p.tables e below (T32.setTop (mkF m 108 #[.val (.int p0), .val (.int p1), .val (.int p2), .val (.int p3), .val (.int p4), .val (.ref a3), .val (.int (0 : Int32)), .val (.int r47), .val (.int r63), .val (.int (r47 + (r63 * (256 : Int32)))), .val (.int r83)] [(.int (1 : Int32))])) t
      refine XS.goto Y33.here hx rfl (pc0 := 108) (pc' := 112) rfl (hb hby at_108) (by decide) (by decide) ?_
      show Steps p.tables e below (T32.setTop (mkF m 112 #[.val (.int p0), .val (.int p1), .val (.int p2), .val (.int p3), .val (.int p4), .val (.ref a3), .val (.int (0 : Int32)), .val (.int r47), .val (.int r63), .val (.int (r47 + (r63 * (256 : Int32)))), .val (.int r83)] [(.int (1 : Int32))])) t
      exact k
    rw [← hF]; exact On.retn Y33 hx hret (by simp) hlk (z' := (1 : Int32)) (by decide) (hb hby at_112) (by decide) (by decide) rfl
  · subst eo
    show Rn p e below F T10 (mkF m 38 #[.val (.int p0), .val (.int p1), .val (.int p2), .val (.int p3), .val (.int p4), .val (.ref a3), .val (.int (1 : Int32)), .unset, .unset, .unset, .unset] [])
    refine Rn.go (T' := T10) (g' := (mkF m 44 #[.val (.int p0), .val (.int p1), .val (.int p2), .val (.int p3), .val (.int p4), .val (.ref a3), .val (.int (1 : Int32)), .unset, .unset, .unset, .unset] [(.int p3), (.int p2), (.int p1), (.int p0), (.int (1 : Int32))])) (fun t k => ?_) ?_
    · show Steps p.tables e below (T10.setTop (mkF m 38 #[.val (.int p0), .val (.int p1), .val (.int p2), .val (.int p3), .val (.int p4), .val (.ref a3), .val (.int (1 : Int32)), .unset, .unset, .unset, .unset] [])) t
      refine XS.iload Y11.here hx rfl (hb hby at_38) rfl ?_
      show Steps p.tables e below (T10.setTop (mkF m 40 #[.val (.int p0), .val (.int p1), .val (.int p2), .val (.int p3), .val (.int p4), .val (.ref a3), .val (.int (1 : Int32)), .unset, .unset, .unset, .unset] [(.int (1 : Int32))])) t
      refine XS.iloadN Y11.here hx rfl (hb hby at_40) rfl ?_
      show Steps p.tables e below (T10.setTop (mkF m 41 #[.val (.int p0), .val (.int p1), .val (.int p2), .val (.int p3), .val (.int p4), .val (.ref a3), .val (.int (1 : Int32)), .unset, .unset, .unset, .unset] [(.int p0), (.int (1 : Int32))])) t
      refine XS.iloadN Y11.here hx rfl (hb hby at_41) rfl ?_
      show Steps p.tables e below (T10.setTop (mkF m 42 #[.val (.int p0), .val (.int p1), .val (.int p2), .val (.int p3), .val (.int p4), .val (.ref a3), .val (.int (1 : Int32)), .unset, .unset, .unset, .unset] [(.int p1), (.int p0), (.int (1 : Int32))])) t
      refine XS.iloadN Y11.here hx rfl (hb hby at_42) rfl ?_
      show Steps p.tables e below (T10.setTop (mkF m 43 #[.val (.int p0), .val (.int p1), .val (.int p2), .val (.int p3), .val (.int p4), .val (.ref a3), .val (.int (1 : Int32)), .unset, .unset, .unset, .unset] [(.int p2), (.int p1), (.int p0), (.int (1 : Int32))])) t
      refine XS.iloadN Y11.here hx rfl (hb hby at_43) rfl ?_
      show Steps p.tables e below (T10.setTop (mkF m 44 #[.val (.int p0), .val (.int p1), .val (.int p2), .val (.int p3), .val (.int p4), .val (.ref a3), .val (.int (1 : Int32)), .unset, .unset, .unset, .unset] [(.int p3), (.int p2), (.int p1), (.int p0), (.int (1 : Int32))])) t
      exact k
    refine On.static Y11 hx hZ (y := (⟨"com/example/strict_bytecode/strictbytecode/DexBufferU2PinLaw", "pick", "(IIIII)I"⟩ : MethodName)) hown (w2 hw) (w3 hw) (w5 hw) (w4 hw) (by decide) (argsL := [(.int (1 : Int32)), (.int p0), (.int p1), (.int p2), (.int p3)]) (rest := []) (rm1 l Z a0 hw n0 (1 : Int32) p0 p1 p2 p3 [ari a3 .byte (4 : Int32) [(p0.toInt8.toInt32).toInt8.toInt32, (p1.toInt8.toInt32).toInt8.toInt32, (p2.toInt8.toInt32).toInt8.toInt32, (p3.toInt8.toInt32).toInt8.toInt32]]) (W := 0) (by decide) (by decide) (by decide) (by decide) (g := (mkF m 44 #[.val (.int p0), .val (.int p1), .val (.int p2), .val (.int p3), .val (.int p4), .val (.ref a3), .val (.int (1 : Int32)), .unset, .unset, .unset, .unset] [(.int p3), (.int p2), (.int p1), (.int p0), (.int (1 : Int32))])) rfl (by rw [hml]; rfl) (lenOf pd0 rfl) rfl (by show 2 * 0 + _ ≤ _; exact Nat.le_of_eq rfl) (hb hby at_44) ?_
    intro T37 u39 D40 hp41 Y38
    obtain ⟨r44, hr44, rfl, rfl⟩ : ∃ z : Int32, z = (own_pick (1 : Int32) p0 p1 p2 p3) ∧ u39 = some (.int z) ∧ D40 = _ := ⟨_, rfl, hp41.1, hp41.2⟩
    replace Y38 : On p l e _ s m _ below meth c Z n0 T37 1 4 [ari a3 .byte (4 : Int32) [(p0.toInt8.toInt32).toInt8.toInt32, (p1.toInt8.toInt32).toInt8.toInt32, (p2.toInt8.toInt32).toInt8.toInt32, (p3.toInt8.toInt32).toInt8.toInt32]] := Y38
    show Rn p e below F T37 (mkF m 47 #[.val (.int p0), .val (.int p1), .val (.int p2), .val (.int p3), .val (.int p4), .val (.ref a3), .val (.int (1 : Int32)), .unset, .unset, .unset, .unset] [(.int r44)])
    refine On.static Y38 hx hZ (y := (⟨"com/example/strict_bytecode/strictbytecode/DexBufferU2PinLaw", "unsignedByte", "(I)I"⟩ : MethodName)) hown (w6 hw) (w7 hw) (w8 hw) (w4 hw) (by decide) (argsL := [(.int r44)]) (rest := []) (rm2 l Z a0 hw n0 r44 [ari a3 .byte (4 : Int32) [(p0.toInt8.toInt32).toInt8.toInt32, (p1.toInt8.toInt32).toInt8.toInt32, (p2.toInt8.toInt32).toInt8.toInt32, (p3.toInt8.toInt32).toInt8.toInt32]]) (W := 0) (by decide) (by decide) (by decide) (by decide) (g := (mkF m 47 #[.val (.int p0), .val (.int p1), .val (.int p2), .val (.int p3), .val (.int p4), .val (.ref a3), .val (.int (1 : Int32)), .unset, .unset, .unset, .unset] [(.int r44)])) rfl (by rw [hml]; rfl) (lenOf pd1 rfl) rfl (by show 2 * 0 + _ ≤ _; exact Nat.le_of_eq rfl) (hb hby at_47) ?_
    intro T42 u44 D45 hp46 Y43
    obtain ⟨r47, hr47, rfl, rfl⟩ : ∃ z : Int32, z = (own_ub r44) ∧ u44 = some (.int z) ∧ D45 = _ := ⟨_, rfl, hp46.1, hp46.2⟩
    replace Y43 : On p l e _ s m _ below meth c Z n0 T42 1 4 [ari a3 .byte (4 : Int32) [(p0.toInt8.toInt32).toInt8.toInt32, (p1.toInt8.toInt32).toInt8.toInt32, (p2.toInt8.toInt32).toInt8.toInt32, (p3.toInt8.toInt32).toInt8.toInt32]] := Y43
    show Rn p e below F T42 (mkF m 50 #[.val (.int p0), .val (.int p1), .val (.int p2), .val (.int p3), .val (.int p4), .val (.ref a3), .val (.int (1 : Int32)), .unset, .unset, .unset, .unset] [(.int r47)])
    refine Rn.go (T' := T42) (g' := (mkF m 60 #[.val (.int p0), .val (.int p1), .val (.int p2), .val (.int p3), .val (.int p4), .val (.ref a3), .val (.int (1 : Int32)), .val (.int r47), .unset, .unset, .unset] [(.int p3), (.int p2), (.int p1), (.int p0), (.int (2 : Int32))])) (fun t k => ?_) ?_
    · show Steps p.tables e below (T42.setTop (mkF m 50 #[.val (.int p0), .val (.int p1), .val (.int p2), .val (.int p3), .val (.int p4), .val (.ref a3), .val (.int (1 : Int32)), .unset, .unset, .unset, .unset] [(.int r47)])) t
      refine XS.istore Y43.here hx rfl (hb hby at_50) rfl (l' := #[.val (.int p0), .val (.int p1), .val (.int p2), .val (.int p3), .val (.int p4), .val (.ref a3), .val (.int (1 : Int32)), .val (.int r47), .unset, .unset, .unset]) rfl ?_
      show Steps p.tables e below (T42.setTop (mkF m 52 #[.val (.int p0), .val (.int p1), .val (.int p2), .val (.int p3), .val (.int p4), .val (.ref a3), .val (.int (1 : Int32)), .val (.int r47), .unset, .unset, .unset] [])) t
      refine XS.iload Y43.here hx rfl (hb hby at_52) rfl ?_
      show Steps p.tables e below (T42.setTop (mkF m 54 #[.val (.int p0), .val (.int p1), .val (.int p2), .val (.int p3), .val (.int p4), .val (.ref a3), .val (.int (1 : Int32)), .val (.int r47), .unset, .unset, .unset] [(.int (1 : Int32))])) t
      refine XS.iconst Y43.here hx rfl (hb hby at_54) ?_
      show Steps p.tables e below (T42.setTop (mkF m 55 #[.val (.int p0), .val (.int p1), .val (.int p2), .val (.int p3), .val (.int p4), .val (.ref a3), .val (.int (1 : Int32)), .val (.int r47), .unset, .unset, .unset] [(.int (1 : Int32)), (.int (1 : Int32))])) t
      refine XS.iadd Y43.here hx rfl (hb hby at_55) rfl ?_
      show Steps p.tables e below (T42.setTop (mkF m 56 #[.val (.int p0), .val (.int p1), .val (.int p2), .val (.int p3), .val (.int p4), .val (.ref a3), .val (.int (1 : Int32)), .val (.int r47), .unset, .unset, .unset] [(.int (2 : Int32))])) t
      refine XS.iloadN Y43.here hx rfl (hb hby at_56) rfl ?_
      show Steps p.tables e below (T42.setTop (mkF m 57 #[.val (.int p0), .val (.int p1), .val (.int p2), .val (.int p3), .val (.int p4), .val (.ref a3), .val (.int (1 : Int32)), .val (.int r47), .unset, .unset, .unset] [(.int p0), (.int (2 : Int32))])) t
      refine XS.iloadN Y43.here hx rfl (hb hby at_57) rfl ?_
      show Steps p.tables e below (T42.setTop (mkF m 58 #[.val (.int p0), .val (.int p1), .val (.int p2), .val (.int p3), .val (.int p4), .val (.ref a3), .val (.int (1 : Int32)), .val (.int r47), .unset, .unset, .unset] [(.int p1), (.int p0), (.int (2 : Int32))])) t
      refine XS.iloadN Y43.here hx rfl (hb hby at_58) rfl ?_
      show Steps p.tables e below (T42.setTop (mkF m 59 #[.val (.int p0), .val (.int p1), .val (.int p2), .val (.int p3), .val (.int p4), .val (.ref a3), .val (.int (1 : Int32)), .val (.int r47), .unset, .unset, .unset] [(.int p2), (.int p1), (.int p0), (.int (2 : Int32))])) t
      refine XS.iloadN Y43.here hx rfl (hb hby at_59) rfl ?_
      show Steps p.tables e below (T42.setTop (mkF m 60 #[.val (.int p0), .val (.int p1), .val (.int p2), .val (.int p3), .val (.int p4), .val (.ref a3), .val (.int (1 : Int32)), .val (.int r47), .unset, .unset, .unset] [(.int p3), (.int p2), (.int p1), (.int p0), (.int (2 : Int32))])) t
      exact k
    refine On.static Y43 hx hZ (y := (⟨"com/example/strict_bytecode/strictbytecode/DexBufferU2PinLaw", "pick", "(IIIII)I"⟩ : MethodName)) hown (w2 hw) (w3 hw) (w5 hw) (w4 hw) (by decide) (argsL := [(.int (2 : Int32)), (.int p0), (.int p1), (.int p2), (.int p3)]) (rest := []) (rm1 l Z a0 hw n0 (2 : Int32) p0 p1 p2 p3 [ari a3 .byte (4 : Int32) [(p0.toInt8.toInt32).toInt8.toInt32, (p1.toInt8.toInt32).toInt8.toInt32, (p2.toInt8.toInt32).toInt8.toInt32, (p3.toInt8.toInt32).toInt8.toInt32]]) (W := 0) (by decide) (by decide) (by decide) (by decide) (g := (mkF m 60 #[.val (.int p0), .val (.int p1), .val (.int p2), .val (.int p3), .val (.int p4), .val (.ref a3), .val (.int (1 : Int32)), .val (.int r47), .unset, .unset, .unset] [(.int p3), (.int p2), (.int p1), (.int p0), (.int (2 : Int32))])) rfl (by rw [hml]; rfl) (lenOf pd0 rfl) rfl (by show 2 * 0 + _ ≤ _; exact Nat.le_of_eq rfl) (hb hby at_60) ?_
    intro T47 u49 D50 hp51 Y48
    obtain ⟨r60, hr60, rfl, rfl⟩ : ∃ z : Int32, z = (own_pick (2 : Int32) p0 p1 p2 p3) ∧ u49 = some (.int z) ∧ D50 = _ := ⟨_, rfl, hp51.1, hp51.2⟩
    replace Y48 : On p l e _ s m _ below meth c Z n0 T47 1 4 [ari a3 .byte (4 : Int32) [(p0.toInt8.toInt32).toInt8.toInt32, (p1.toInt8.toInt32).toInt8.toInt32, (p2.toInt8.toInt32).toInt8.toInt32, (p3.toInt8.toInt32).toInt8.toInt32]] := Y48
    show Rn p e below F T47 (mkF m 63 #[.val (.int p0), .val (.int p1), .val (.int p2), .val (.int p3), .val (.int p4), .val (.ref a3), .val (.int (1 : Int32)), .val (.int r47), .unset, .unset, .unset] [(.int r60)])
    refine On.static Y48 hx hZ (y := (⟨"com/example/strict_bytecode/strictbytecode/DexBufferU2PinLaw", "unsignedByte", "(I)I"⟩ : MethodName)) hown (w6 hw) (w7 hw) (w8 hw) (w4 hw) (by decide) (argsL := [(.int r60)]) (rest := []) (rm2 l Z a0 hw n0 r60 [ari a3 .byte (4 : Int32) [(p0.toInt8.toInt32).toInt8.toInt32, (p1.toInt8.toInt32).toInt8.toInt32, (p2.toInt8.toInt32).toInt8.toInt32, (p3.toInt8.toInt32).toInt8.toInt32]]) (W := 0) (by decide) (by decide) (by decide) (by decide) (g := (mkF m 63 #[.val (.int p0), .val (.int p1), .val (.int p2), .val (.int p3), .val (.int p4), .val (.ref a3), .val (.int (1 : Int32)), .val (.int r47), .unset, .unset, .unset] [(.int r60)])) rfl (by rw [hml]; rfl) (lenOf pd1 rfl) rfl (by show 2 * 0 + _ ≤ _; exact Nat.le_of_eq rfl) (hb hby at_63) ?_
    intro T52 u54 D55 hp56 Y53
    obtain ⟨r63, hr63, rfl, rfl⟩ : ∃ z : Int32, z = (own_ub r60) ∧ u54 = some (.int z) ∧ D55 = _ := ⟨_, rfl, hp56.1, hp56.2⟩
    replace Y53 : On p l e _ s m _ below meth c Z n0 T52 1 4 [ari a3 .byte (4 : Int32) [(p0.toInt8.toInt32).toInt8.toInt32, (p1.toInt8.toInt32).toInt8.toInt32, (p2.toInt8.toInt32).toInt8.toInt32, (p3.toInt8.toInt32).toInt8.toInt32]] := Y53
    show Rn p e below F T52 (mkF m 66 #[.val (.int p0), .val (.int p1), .val (.int p2), .val (.int p3), .val (.int p4), .val (.ref a3), .val (.int (1 : Int32)), .val (.int r47), .unset, .unset, .unset] [(.int r63)])
    refine Rn.go (T' := T52) (g' := (mkF m 83 #[.val (.int p0), .val (.int p1), .val (.int p2), .val (.int p3), .val (.int p4), .val (.ref a3), .val (.int (1 : Int32)), .val (.int r47), .val (.int r63), .val (.int (r47 + (r63 * (256 : Int32)))), .unset] [(.int (1 : Int32)), (.ref a3)])) (fun t k => ?_) ?_
    · show Steps p.tables e below (T52.setTop (mkF m 66 #[.val (.int p0), .val (.int p1), .val (.int p2), .val (.int p3), .val (.int p4), .val (.ref a3), .val (.int (1 : Int32)), .val (.int r47), .unset, .unset, .unset] [(.int r63)])) t
      refine XS.istore Y53.here hx rfl (hb hby at_66) rfl (l' := #[.val (.int p0), .val (.int p1), .val (.int p2), .val (.int p3), .val (.int p4), .val (.ref a3), .val (.int (1 : Int32)), .val (.int r47), .val (.int r63), .unset, .unset]) rfl ?_
      show Steps p.tables e below (T52.setTop (mkF m 68 #[.val (.int p0), .val (.int p1), .val (.int p2), .val (.int p3), .val (.int p4), .val (.ref a3), .val (.int (1 : Int32)), .val (.int r47), .val (.int r63), .unset, .unset] [])) t
      refine XS.iload Y53.here hx rfl (hb hby at_68) rfl ?_
      show Steps p.tables e below (T52.setTop (mkF m 70 #[.val (.int p0), .val (.int p1), .val (.int p2), .val (.int p3), .val (.int p4), .val (.ref a3), .val (.int (1 : Int32)), .val (.int r47), .val (.int r63), .unset, .unset] [(.int r47)])) t
      refine XS.iload Y53.here hx rfl (hb hby at_70) rfl ?_
      show Steps p.tables e below (T52.setTop (mkF m 72 #[.val (.int p0), .val (.int p1), .val (.int p2), .val (.int p3), .val (.int p4), .val (.ref a3), .val (.int (1 : Int32)), .val (.int r47), .val (.int r63), .unset, .unset] [(.int r63), (.int r47)])) t
      refine XS.sipush Y53.here hx rfl (hb hby at_72) ?_
      show Steps p.tables e below (T52.setTop (mkF m 75 #[.val (.int p0), .val (.int p1), .val (.int p2), .val (.int p3), .val (.int p4), .val (.ref a3), .val (.int (1 : Int32)), .val (.int r47), .val (.int r63), .unset, .unset] [(.int (256 : Int32)), (.int r63), (.int r47)])) t
      refine XS.imul Y53.here hx rfl (hb hby at_75) rfl ?_
      show Steps p.tables e below (T52.setTop (mkF m 76 #[.val (.int p0), .val (.int p1), .val (.int p2), .val (.int p3), .val (.int p4), .val (.ref a3), .val (.int (1 : Int32)), .val (.int r47), .val (.int r63), .unset, .unset] [(.int (r63 * (256 : Int32))), (.int r47)])) t
      refine XS.iadd Y53.here hx rfl (hb hby at_76) rfl ?_
      show Steps p.tables e below (T52.setTop (mkF m 77 #[.val (.int p0), .val (.int p1), .val (.int p2), .val (.int p3), .val (.int p4), .val (.ref a3), .val (.int (1 : Int32)), .val (.int r47), .val (.int r63), .unset, .unset] [(.int (r47 + (r63 * (256 : Int32))))])) t
      refine XS.istore Y53.here hx rfl (hb hby at_77) rfl (l' := #[.val (.int p0), .val (.int p1), .val (.int p2), .val (.int p3), .val (.int p4), .val (.ref a3), .val (.int (1 : Int32)), .val (.int r47), .val (.int r63), .val (.int (r47 + (r63 * (256 : Int32)))), .unset]) rfl ?_
      show Steps p.tables e below (T52.setTop (mkF m 79 #[.val (.int p0), .val (.int p1), .val (.int p2), .val (.int p3), .val (.int p4), .val (.ref a3), .val (.int (1 : Int32)), .val (.int r47), .val (.int r63), .val (.int (r47 + (r63 * (256 : Int32)))), .unset] [])) t
      refine XS.aload Y53.here hx rfl (hb hby at_79) rfl rfl ?_
      show Steps p.tables e below (T52.setTop (mkF m 81 #[.val (.int p0), .val (.int p1), .val (.int p2), .val (.int p3), .val (.int p4), .val (.ref a3), .val (.int (1 : Int32)), .val (.int r47), .val (.int r63), .val (.int (r47 + (r63 * (256 : Int32)))), .unset] [(.ref a3)])) t
      refine XS.iload Y53.here hx rfl (hb hby at_81) rfl ?_
      show Steps p.tables e below (T52.setTop (mkF m 83 #[.val (.int p0), .val (.int p1), .val (.int p2), .val (.int p3), .val (.int p4), .val (.ref a3), .val (.int (1 : Int32)), .val (.int r47), .val (.int r63), .val (.int (r47 + (r63 * (256 : Int32)))), .unset] [(.int (1 : Int32)), (.ref a3)])) t
      exact k
    refine On.static Y53 hx hZ (y := (⟨"com/example/strict_bytecode/strictbytecode/DexBuffer", "u2", "([BI)I"⟩ : MethodName)) hown (w9 hw) (w10 hw) (w12 hw) (w11 hw) (by decide) (argsL := [(.ref a3), (.int (1 : Int32))]) (rest := []) (rm3 l Z a0 hw n0 a3 (1 : Int32) (4 : Int32) [(p0.toInt8.toInt32).toInt8.toInt32, (p1.toInt8.toInt32).toInt8.toInt32, (p2.toInt8.toInt32).toInt8.toInt32, (p3.toInt8.toInt32).toInt8.toInt32] ((p1.toInt8.toInt32).toInt8.toInt32) ((p2.toInt8.toInt32).toInt8.toInt32) [] (by decide) (by decide) rfl rfl) (W := 0) (by decide) (by decide) (by decide) (by decide) (g := (mkF m 83 #[.val (.int p0), .val (.int p1), .val (.int p2), .val (.int p3), .val (.int p4), .val (.ref a3), .val (.int (1 : Int32)), .val (.int r47), .val (.int r63), .val (.int (r47 + (r63 * (256 : Int32)))), .unset] [(.int (1 : Int32)), (.ref a3)])) rfl (by rw [hml]; rfl) (lenOf pd2 rfl) rfl (by show 2 * 0 + _ ≤ _; exact Nat.le_of_eq rfl) (hb hby at_83) ?_
    intro T57 u59 D60 hp61 Y58
    obtain ⟨r83, hr83, rfl, rfl⟩ : ∃ z : Int32, z = (((p1.toInt8.toInt32).toInt8.toInt32 &&& (255 : Int32)) ||| (((p2.toInt8.toInt32).toInt8.toInt32 &&& (255 : Int32)) <<< ((8 : Int32) &&& 31))) ∧ u59 = some (.int z) ∧ D60 = _ := ⟨_, rfl, hp61.1, hp61.2⟩
    replace Y58 : On p l e _ s m _ below meth c Z n0 T57 1 4 [ari a3 .byte (4 : Int32) [(p0.toInt8.toInt32).toInt8.toInt32, (p1.toInt8.toInt32).toInt8.toInt32, (p2.toInt8.toInt32).toInt8.toInt32, (p3.toInt8.toInt32).toInt8.toInt32]] := Y58
    show Rn p e below F T57 (mkF m 86 #[.val (.int p0), .val (.int p1), .val (.int p2), .val (.int p3), .val (.int p4), .val (.ref a3), .val (.int (1 : Int32)), .val (.int r47), .val (.int r63), .val (.int (r47 + (r63 * (256 : Int32)))), .unset] [(.int r83)])
    have ep : r44 = p1 := by rw [hr44]; simp [own_pick]
    have eq : r60 = p2 := by rw [hr60]; simp [own_pick]
    rw [ep] at hr47; rw [eq] at hr63
    obtain ⟨f1, f2, f3⟩ := own_fin _ _ _ _ _ hr83 hr47 hr63
    refine Rn.go (T' := T57) (g' := (mkF m 92 #[.val (.int p0), .val (.int p1), .val (.int p2), .val (.int p3), .val (.int p4), .val (.ref a3), .val (.int (1 : Int32)), .val (.int r47), .val (.int r63), .val (.int (r47 + (r63 * (256 : Int32)))), .val (.int r83)] [(.int (r47 + (r63 * (256 : Int32)))), (.int r83)])) (fun t k => ?_) ?_
    · show Steps p.tables e below (T57.setTop (mkF m 86 #[.val (.int p0), .val (.int p1), .val (.int p2), .val (.int p3), .val (.int p4), .val (.ref a3), .val (.int (1 : Int32)), .val (.int r47), .val (.int r63), .val (.int (r47 + (r63 * (256 : Int32)))), .unset] [(.int r83)])) t
      refine XS.istore Y58.here hx rfl (hb hby at_86) rfl (l' := #[.val (.int p0), .val (.int p1), .val (.int p2), .val (.int p3), .val (.int p4), .val (.ref a3), .val (.int (1 : Int32)), .val (.int r47), .val (.int r63), .val (.int (r47 + (r63 * (256 : Int32)))), .val (.int r83)]) rfl ?_
      show Steps p.tables e below (T57.setTop (mkF m 88 #[.val (.int p0), .val (.int p1), .val (.int p2), .val (.int p3), .val (.int p4), .val (.ref a3), .val (.int (1 : Int32)), .val (.int r47), .val (.int r63), .val (.int (r47 + (r63 * (256 : Int32)))), .val (.int r83)] [])) t
      refine XS.iload Y58.here hx rfl (hb hby at_88) rfl ?_
      show Steps p.tables e below (T57.setTop (mkF m 90 #[.val (.int p0), .val (.int p1), .val (.int p2), .val (.int p3), .val (.int p4), .val (.ref a3), .val (.int (1 : Int32)), .val (.int r47), .val (.int r63), .val (.int (r47 + (r63 * (256 : Int32)))), .val (.int r83)] [(.int r83)])) t
      refine XS.iload Y58.here hx rfl (hb hby at_90) rfl ?_
      show Steps p.tables e below (T57.setTop (mkF m 92 #[.val (.int p0), .val (.int p1), .val (.int p2), .val (.int p3), .val (.int p4), .val (.ref a3), .val (.int (1 : Int32)), .val (.int r47), .val (.int r63), .val (.int (r47 + (r63 * (256 : Int32)))), .val (.int r83)] [(.int (r47 + (r63 * (256 : Int32)))), (.int r83)])) t
      exact k
    refine Rn.go (T' := T57) (g' := (mkF m 95 #[.val (.int p0), .val (.int p1), .val (.int p2), .val (.int p3), .val (.int p4), .val (.ref a3), .val (.int (1 : Int32)), .val (.int r47), .val (.int r63), .val (.int (r47 + (r63 * (256 : Int32)))), .val (.int r83)] [])) (fun t k => XS.icmpNo Y58.here hx rfl (hb hby at_92) rfl (teq f1).2 k) ?_
    refine Rn.go (T' := T57) (g' := (mkF m 97 #[.val (.int p0), .val (.int p1), .val (.int p2), .val (.int p3), .val (.int p4), .val (.ref a3), .val (.int (1 : Int32)), .val (.int r47), .val (.int r63), .val (.int (r47 + (r63 * (256 : Int32)))), .val (.int r83)] [(.int r83)])) (fun t k => ?_) ?_
    · show Steps p.tables e below (T57.setTop (mkF m 95 #[.val (.int p0), .val (.int p1), .val (.int p2), .val (.int p3), .val (.int p4), .val (.ref a3), .val (.int (1 : Int32)), .val (.int r47), .val (.int r63), .val (.int (r47 + (r63 * (256 : Int32)))), .val (.int r83)] [])) t
      refine XS.iload Y58.here hx rfl (hb hby at_95) rfl ?_
      show Steps p.tables e below (T57.setTop (mkF m 97 #[.val (.int p0), .val (.int p1), .val (.int p2), .val (.int p3), .val (.int p4), .val (.ref a3), .val (.int (1 : Int32)), .val (.int r47), .val (.int r63), .val (.int (r47 + (r63 * (256 : Int32)))), .val (.int r83)] [(.int r83)])) t
      exact k
    refine Rn.go (T' := T57) (g' := (mkF m 100 #[.val (.int p0), .val (.int p1), .val (.int p2), .val (.int p3), .val (.int p4), .val (.ref a3), .val (.int (1 : Int32)), .val (.int r47), .val (.int r63), .val (.int (r47 + (r63 * (256 : Int32)))), .val (.int r83)] [])) (fun t k => XS.ifNo Y58.here hx rfl (hb hby at_97) rfl ((if0 _ _).trans (flt f2).1) k) ?_
    refine Rn.go (T' := T57) (g' := (mkF m 104 #[.val (.int p0), .val (.int p1), .val (.int p2), .val (.int p3), .val (.int p4), .val (.ref a3), .val (.int (1 : Int32)), .val (.int r47), .val (.int r63), .val (.int (r47 + (r63 * (256 : Int32)))), .val (.int r83)] [(.int (65535 : Int32)), (.int r83)])) (fun t k => ?_) ?_
    · show Steps p.tables e below (T57.setTop (mkF m 100 #[.val (.int p0), .val (.int p1), .val (.int p2), .val (.int p3), .val (.int p4), .val (.ref a3), .val (.int (1 : Int32)), .val (.int r47), .val (.int r63), .val (.int (r47 + (r63 * (256 : Int32)))), .val (.int r83)] [])) t
      refine XS.iload Y58.here hx rfl (hb hby at_100) rfl ?_
      show Steps p.tables e below (T57.setTop (mkF m 102 #[.val (.int p0), .val (.int p1), .val (.int p2), .val (.int p3), .val (.int p4), .val (.ref a3), .val (.int (1 : Int32)), .val (.int r47), .val (.int r63), .val (.int (r47 + (r63 * (256 : Int32)))), .val (.int r83)] [(.int r83)])) t
      refine On.sldcI Y58 hx hZ hown (w13 hw) (g := (mkF m 102 #[.val (.int p0), .val (.int p1), .val (.int p2), .val (.int p3), .val (.int p4), .val (.ref a3), .val (.int (1 : Int32)), .val (.int r47), .val (.int r63), .val (.int (r47 + (r63 * (256 : Int32)))), .val (.int r83)] [(.int r83)])) rfl (hb hby at_102) _ ?_
      show Steps p.tables e below (T57.setTop (mkF m 104 #[.val (.int p0), .val (.int p1), .val (.int p2), .val (.int p3), .val (.int p4), .val (.ref a3), .val (.int (1 : Int32)), .val (.int r47), .val (.int r63), .val (.int (r47 + (r63 * (256 : Int32)))), .val (.int r83)] [(.int (65535 : Int32)), (.int r83)])) t
      exact k
    refine Rn.go (T' := T57) (g' := (mkF m 107 #[.val (.int p0), .val (.int p1), .val (.int p2), .val (.int p3), .val (.int p4), .val (.ref a3), .val (.int (1 : Int32)), .val (.int r47), .val (.int r63), .val (.int (r47 + (r63 * (256 : Int32)))), .val (.int r83)] [])) (fun t k => XS.icmpNo Y58.here hx rfl (hb hby at_104) rfl (flt f3).2.2.1 k) ?_
    refine Rn.go (T' := T57) (g' := (mkF m 112 #[.val (.int p0), .val (.int p1), .val (.int p2), .val (.int p3), .val (.int p4), .val (.ref a3), .val (.int (1 : Int32)), .val (.int r47), .val (.int r63), .val (.int (r47 + (r63 * (256 : Int32)))), .val (.int r83)] [(.int (1 : Int32))])) (fun t k => ?_) ?_
    · show Steps p.tables e below (T57.setTop (mkF m 107 #[.val (.int p0), .val (.int p1), .val (.int p2), .val (.int p3), .val (.int p4), .val (.ref a3), .val (.int (1 : Int32)), .val (.int r47), .val (.int r63), .val (.int (r47 + (r63 * (256 : Int32)))), .val (.int r83)] [])) t
      refine XS.iconst Y58.here hx rfl (hb hby at_107) ?_
      show Steps p.tables e below (T57.setTop (mkF m 108 #[.val (.int p0), .val (.int p1), .val (.int p2), .val (.int p3), .val (.int p4), .val (.ref a3), .val (.int (1 : Int32)), .val (.int r47), .val (.int r63), .val (.int (r47 + (r63 * (256 : Int32)))), .val (.int r83)] [(.int (1 : Int32))])) t
      refine XS.goto Y58.here hx rfl (pc0 := 108) (pc' := 112) rfl (hb hby at_108) (by decide) (by decide) ?_
      show Steps p.tables e below (T57.setTop (mkF m 112 #[.val (.int p0), .val (.int p1), .val (.int p2), .val (.int p3), .val (.int p4), .val (.ref a3), .val (.int (1 : Int32)), .val (.int r47), .val (.int r63), .val (.int (r47 + (r63 * (256 : Int32)))), .val (.int r83)] [(.int (1 : Int32))])) t
      exact k
    rw [← hF]; exact On.retn Y58 hx hret (by simp) hlk (z' := (1 : Int32)) (by decide) (hb hby at_112) (by decide) (by decide) rfl
  · subst eo
    show Rn p e below F T10 (mkF m 38 #[.val (.int p0), .val (.int p1), .val (.int p2), .val (.int p3), .val (.int p4), .val (.ref a3), .val (.int (2 : Int32)), .unset, .unset, .unset, .unset] [])
    refine Rn.go (T' := T10) (g' := (mkF m 44 #[.val (.int p0), .val (.int p1), .val (.int p2), .val (.int p3), .val (.int p4), .val (.ref a3), .val (.int (2 : Int32)), .unset, .unset, .unset, .unset] [(.int p3), (.int p2), (.int p1), (.int p0), (.int (2 : Int32))])) (fun t k => ?_) ?_
    · show Steps p.tables e below (T10.setTop (mkF m 38 #[.val (.int p0), .val (.int p1), .val (.int p2), .val (.int p3), .val (.int p4), .val (.ref a3), .val (.int (2 : Int32)), .unset, .unset, .unset, .unset] [])) t
      refine XS.iload Y11.here hx rfl (hb hby at_38) rfl ?_
      show Steps p.tables e below (T10.setTop (mkF m 40 #[.val (.int p0), .val (.int p1), .val (.int p2), .val (.int p3), .val (.int p4), .val (.ref a3), .val (.int (2 : Int32)), .unset, .unset, .unset, .unset] [(.int (2 : Int32))])) t
      refine XS.iloadN Y11.here hx rfl (hb hby at_40) rfl ?_
      show Steps p.tables e below (T10.setTop (mkF m 41 #[.val (.int p0), .val (.int p1), .val (.int p2), .val (.int p3), .val (.int p4), .val (.ref a3), .val (.int (2 : Int32)), .unset, .unset, .unset, .unset] [(.int p0), (.int (2 : Int32))])) t
      refine XS.iloadN Y11.here hx rfl (hb hby at_41) rfl ?_
      show Steps p.tables e below (T10.setTop (mkF m 42 #[.val (.int p0), .val (.int p1), .val (.int p2), .val (.int p3), .val (.int p4), .val (.ref a3), .val (.int (2 : Int32)), .unset, .unset, .unset, .unset] [(.int p1), (.int p0), (.int (2 : Int32))])) t
      refine XS.iloadN Y11.here hx rfl (hb hby at_42) rfl ?_
      show Steps p.tables e below (T10.setTop (mkF m 43 #[.val (.int p0), .val (.int p1), .val (.int p2), .val (.int p3), .val (.int p4), .val (.ref a3), .val (.int (2 : Int32)), .unset, .unset, .unset, .unset] [(.int p2), (.int p1), (.int p0), (.int (2 : Int32))])) t
      refine XS.iloadN Y11.here hx rfl (hb hby at_43) rfl ?_
      show Steps p.tables e below (T10.setTop (mkF m 44 #[.val (.int p0), .val (.int p1), .val (.int p2), .val (.int p3), .val (.int p4), .val (.ref a3), .val (.int (2 : Int32)), .unset, .unset, .unset, .unset] [(.int p3), (.int p2), (.int p1), (.int p0), (.int (2 : Int32))])) t
      exact k
    refine On.static Y11 hx hZ (y := (⟨"com/example/strict_bytecode/strictbytecode/DexBufferU2PinLaw", "pick", "(IIIII)I"⟩ : MethodName)) hown (w2 hw) (w3 hw) (w5 hw) (w4 hw) (by decide) (argsL := [(.int (2 : Int32)), (.int p0), (.int p1), (.int p2), (.int p3)]) (rest := []) (rm1 l Z a0 hw n0 (2 : Int32) p0 p1 p2 p3 [ari a3 .byte (4 : Int32) [(p0.toInt8.toInt32).toInt8.toInt32, (p1.toInt8.toInt32).toInt8.toInt32, (p2.toInt8.toInt32).toInt8.toInt32, (p3.toInt8.toInt32).toInt8.toInt32]]) (W := 0) (by decide) (by decide) (by decide) (by decide) (g := (mkF m 44 #[.val (.int p0), .val (.int p1), .val (.int p2), .val (.int p3), .val (.int p4), .val (.ref a3), .val (.int (2 : Int32)), .unset, .unset, .unset, .unset] [(.int p3), (.int p2), (.int p1), (.int p0), (.int (2 : Int32))])) rfl (by rw [hml]; rfl) (lenOf pd0 rfl) rfl (by show 2 * 0 + _ ≤ _; exact Nat.le_of_eq rfl) (hb hby at_44) ?_
    intro T62 u64 D65 hp66 Y63
    obtain ⟨r44, hr44, rfl, rfl⟩ : ∃ z : Int32, z = (own_pick (2 : Int32) p0 p1 p2 p3) ∧ u64 = some (.int z) ∧ D65 = _ := ⟨_, rfl, hp66.1, hp66.2⟩
    replace Y63 : On p l e _ s m _ below meth c Z n0 T62 1 4 [ari a3 .byte (4 : Int32) [(p0.toInt8.toInt32).toInt8.toInt32, (p1.toInt8.toInt32).toInt8.toInt32, (p2.toInt8.toInt32).toInt8.toInt32, (p3.toInt8.toInt32).toInt8.toInt32]] := Y63
    show Rn p e below F T62 (mkF m 47 #[.val (.int p0), .val (.int p1), .val (.int p2), .val (.int p3), .val (.int p4), .val (.ref a3), .val (.int (2 : Int32)), .unset, .unset, .unset, .unset] [(.int r44)])
    refine On.static Y63 hx hZ (y := (⟨"com/example/strict_bytecode/strictbytecode/DexBufferU2PinLaw", "unsignedByte", "(I)I"⟩ : MethodName)) hown (w6 hw) (w7 hw) (w8 hw) (w4 hw) (by decide) (argsL := [(.int r44)]) (rest := []) (rm2 l Z a0 hw n0 r44 [ari a3 .byte (4 : Int32) [(p0.toInt8.toInt32).toInt8.toInt32, (p1.toInt8.toInt32).toInt8.toInt32, (p2.toInt8.toInt32).toInt8.toInt32, (p3.toInt8.toInt32).toInt8.toInt32]]) (W := 0) (by decide) (by decide) (by decide) (by decide) (g := (mkF m 47 #[.val (.int p0), .val (.int p1), .val (.int p2), .val (.int p3), .val (.int p4), .val (.ref a3), .val (.int (2 : Int32)), .unset, .unset, .unset, .unset] [(.int r44)])) rfl (by rw [hml]; rfl) (lenOf pd1 rfl) rfl (by show 2 * 0 + _ ≤ _; exact Nat.le_of_eq rfl) (hb hby at_47) ?_
    intro T67 u69 D70 hp71 Y68
    obtain ⟨r47, hr47, rfl, rfl⟩ : ∃ z : Int32, z = (own_ub r44) ∧ u69 = some (.int z) ∧ D70 = _ := ⟨_, rfl, hp71.1, hp71.2⟩
    replace Y68 : On p l e _ s m _ below meth c Z n0 T67 1 4 [ari a3 .byte (4 : Int32) [(p0.toInt8.toInt32).toInt8.toInt32, (p1.toInt8.toInt32).toInt8.toInt32, (p2.toInt8.toInt32).toInt8.toInt32, (p3.toInt8.toInt32).toInt8.toInt32]] := Y68
    show Rn p e below F T67 (mkF m 50 #[.val (.int p0), .val (.int p1), .val (.int p2), .val (.int p3), .val (.int p4), .val (.ref a3), .val (.int (2 : Int32)), .unset, .unset, .unset, .unset] [(.int r47)])
    refine Rn.go (T' := T67) (g' := (mkF m 60 #[.val (.int p0), .val (.int p1), .val (.int p2), .val (.int p3), .val (.int p4), .val (.ref a3), .val (.int (2 : Int32)), .val (.int r47), .unset, .unset, .unset] [(.int p3), (.int p2), (.int p1), (.int p0), (.int (3 : Int32))])) (fun t k => ?_) ?_
    · show Steps p.tables e below (T67.setTop (mkF m 50 #[.val (.int p0), .val (.int p1), .val (.int p2), .val (.int p3), .val (.int p4), .val (.ref a3), .val (.int (2 : Int32)), .unset, .unset, .unset, .unset] [(.int r47)])) t
      refine XS.istore Y68.here hx rfl (hb hby at_50) rfl (l' := #[.val (.int p0), .val (.int p1), .val (.int p2), .val (.int p3), .val (.int p4), .val (.ref a3), .val (.int (2 : Int32)), .val (.int r47), .unset, .unset, .unset]) rfl ?_
      show Steps p.tables e below (T67.setTop (mkF m 52 #[.val (.int p0), .val (.int p1), .val (.int p2), .val (.int p3), .val (.int p4), .val (.ref a3), .val (.int (2 : Int32)), .val (.int r47), .unset, .unset, .unset] [])) t
      refine XS.iload Y68.here hx rfl (hb hby at_52) rfl ?_
      show Steps p.tables e below (T67.setTop (mkF m 54 #[.val (.int p0), .val (.int p1), .val (.int p2), .val (.int p3), .val (.int p4), .val (.ref a3), .val (.int (2 : Int32)), .val (.int r47), .unset, .unset, .unset] [(.int (2 : Int32))])) t
      refine XS.iconst Y68.here hx rfl (hb hby at_54) ?_
      show Steps p.tables e below (T67.setTop (mkF m 55 #[.val (.int p0), .val (.int p1), .val (.int p2), .val (.int p3), .val (.int p4), .val (.ref a3), .val (.int (2 : Int32)), .val (.int r47), .unset, .unset, .unset] [(.int (1 : Int32)), (.int (2 : Int32))])) t
      refine XS.iadd Y68.here hx rfl (hb hby at_55) rfl ?_
      show Steps p.tables e below (T67.setTop (mkF m 56 #[.val (.int p0), .val (.int p1), .val (.int p2), .val (.int p3), .val (.int p4), .val (.ref a3), .val (.int (2 : Int32)), .val (.int r47), .unset, .unset, .unset] [(.int (3 : Int32))])) t
      refine XS.iloadN Y68.here hx rfl (hb hby at_56) rfl ?_
      show Steps p.tables e below (T67.setTop (mkF m 57 #[.val (.int p0), .val (.int p1), .val (.int p2), .val (.int p3), .val (.int p4), .val (.ref a3), .val (.int (2 : Int32)), .val (.int r47), .unset, .unset, .unset] [(.int p0), (.int (3 : Int32))])) t
      refine XS.iloadN Y68.here hx rfl (hb hby at_57) rfl ?_
      show Steps p.tables e below (T67.setTop (mkF m 58 #[.val (.int p0), .val (.int p1), .val (.int p2), .val (.int p3), .val (.int p4), .val (.ref a3), .val (.int (2 : Int32)), .val (.int r47), .unset, .unset, .unset] [(.int p1), (.int p0), (.int (3 : Int32))])) t
      refine XS.iloadN Y68.here hx rfl (hb hby at_58) rfl ?_
      show Steps p.tables e below (T67.setTop (mkF m 59 #[.val (.int p0), .val (.int p1), .val (.int p2), .val (.int p3), .val (.int p4), .val (.ref a3), .val (.int (2 : Int32)), .val (.int r47), .unset, .unset, .unset] [(.int p2), (.int p1), (.int p0), (.int (3 : Int32))])) t
      refine XS.iloadN Y68.here hx rfl (hb hby at_59) rfl ?_
      show Steps p.tables e below (T67.setTop (mkF m 60 #[.val (.int p0), .val (.int p1), .val (.int p2), .val (.int p3), .val (.int p4), .val (.ref a3), .val (.int (2 : Int32)), .val (.int r47), .unset, .unset, .unset] [(.int p3), (.int p2), (.int p1), (.int p0), (.int (3 : Int32))])) t
      exact k
    refine On.static Y68 hx hZ (y := (⟨"com/example/strict_bytecode/strictbytecode/DexBufferU2PinLaw", "pick", "(IIIII)I"⟩ : MethodName)) hown (w2 hw) (w3 hw) (w5 hw) (w4 hw) (by decide) (argsL := [(.int (3 : Int32)), (.int p0), (.int p1), (.int p2), (.int p3)]) (rest := []) (rm1 l Z a0 hw n0 (3 : Int32) p0 p1 p2 p3 [ari a3 .byte (4 : Int32) [(p0.toInt8.toInt32).toInt8.toInt32, (p1.toInt8.toInt32).toInt8.toInt32, (p2.toInt8.toInt32).toInt8.toInt32, (p3.toInt8.toInt32).toInt8.toInt32]]) (W := 0) (by decide) (by decide) (by decide) (by decide) (g := (mkF m 60 #[.val (.int p0), .val (.int p1), .val (.int p2), .val (.int p3), .val (.int p4), .val (.ref a3), .val (.int (2 : Int32)), .val (.int r47), .unset, .unset, .unset] [(.int p3), (.int p2), (.int p1), (.int p0), (.int (3 : Int32))])) rfl (by rw [hml]; rfl) (lenOf pd0 rfl) rfl (by show 2 * 0 + _ ≤ _; exact Nat.le_of_eq rfl) (hb hby at_60) ?_
    intro T72 u74 D75 hp76 Y73
    obtain ⟨r60, hr60, rfl, rfl⟩ : ∃ z : Int32, z = (own_pick (3 : Int32) p0 p1 p2 p3) ∧ u74 = some (.int z) ∧ D75 = _ := ⟨_, rfl, hp76.1, hp76.2⟩
    replace Y73 : On p l e _ s m _ below meth c Z n0 T72 1 4 [ari a3 .byte (4 : Int32) [(p0.toInt8.toInt32).toInt8.toInt32, (p1.toInt8.toInt32).toInt8.toInt32, (p2.toInt8.toInt32).toInt8.toInt32, (p3.toInt8.toInt32).toInt8.toInt32]] := Y73
    show Rn p e below F T72 (mkF m 63 #[.val (.int p0), .val (.int p1), .val (.int p2), .val (.int p3), .val (.int p4), .val (.ref a3), .val (.int (2 : Int32)), .val (.int r47), .unset, .unset, .unset] [(.int r60)])
    refine On.static Y73 hx hZ (y := (⟨"com/example/strict_bytecode/strictbytecode/DexBufferU2PinLaw", "unsignedByte", "(I)I"⟩ : MethodName)) hown (w6 hw) (w7 hw) (w8 hw) (w4 hw) (by decide) (argsL := [(.int r60)]) (rest := []) (rm2 l Z a0 hw n0 r60 [ari a3 .byte (4 : Int32) [(p0.toInt8.toInt32).toInt8.toInt32, (p1.toInt8.toInt32).toInt8.toInt32, (p2.toInt8.toInt32).toInt8.toInt32, (p3.toInt8.toInt32).toInt8.toInt32]]) (W := 0) (by decide) (by decide) (by decide) (by decide) (g := (mkF m 63 #[.val (.int p0), .val (.int p1), .val (.int p2), .val (.int p3), .val (.int p4), .val (.ref a3), .val (.int (2 : Int32)), .val (.int r47), .unset, .unset, .unset] [(.int r60)])) rfl (by rw [hml]; rfl) (lenOf pd1 rfl) rfl (by show 2 * 0 + _ ≤ _; exact Nat.le_of_eq rfl) (hb hby at_63) ?_
    intro T77 u79 D80 hp81 Y78
    obtain ⟨r63, hr63, rfl, rfl⟩ : ∃ z : Int32, z = (own_ub r60) ∧ u79 = some (.int z) ∧ D80 = _ := ⟨_, rfl, hp81.1, hp81.2⟩
    replace Y78 : On p l e _ s m _ below meth c Z n0 T77 1 4 [ari a3 .byte (4 : Int32) [(p0.toInt8.toInt32).toInt8.toInt32, (p1.toInt8.toInt32).toInt8.toInt32, (p2.toInt8.toInt32).toInt8.toInt32, (p3.toInt8.toInt32).toInt8.toInt32]] := Y78
    show Rn p e below F T77 (mkF m 66 #[.val (.int p0), .val (.int p1), .val (.int p2), .val (.int p3), .val (.int p4), .val (.ref a3), .val (.int (2 : Int32)), .val (.int r47), .unset, .unset, .unset] [(.int r63)])
    refine Rn.go (T' := T77) (g' := (mkF m 83 #[.val (.int p0), .val (.int p1), .val (.int p2), .val (.int p3), .val (.int p4), .val (.ref a3), .val (.int (2 : Int32)), .val (.int r47), .val (.int r63), .val (.int (r47 + (r63 * (256 : Int32)))), .unset] [(.int (2 : Int32)), (.ref a3)])) (fun t k => ?_) ?_
    · show Steps p.tables e below (T77.setTop (mkF m 66 #[.val (.int p0), .val (.int p1), .val (.int p2), .val (.int p3), .val (.int p4), .val (.ref a3), .val (.int (2 : Int32)), .val (.int r47), .unset, .unset, .unset] [(.int r63)])) t
      refine XS.istore Y78.here hx rfl (hb hby at_66) rfl (l' := #[.val (.int p0), .val (.int p1), .val (.int p2), .val (.int p3), .val (.int p4), .val (.ref a3), .val (.int (2 : Int32)), .val (.int r47), .val (.int r63), .unset, .unset]) rfl ?_
      show Steps p.tables e below (T77.setTop (mkF m 68 #[.val (.int p0), .val (.int p1), .val (.int p2), .val (.int p3), .val (.int p4), .val (.ref a3), .val (.int (2 : Int32)), .val (.int r47), .val (.int r63), .unset, .unset] [])) t
      refine XS.iload Y78.here hx rfl (hb hby at_68) rfl ?_
      show Steps p.tables e below (T77.setTop (mkF m 70 #[.val (.int p0), .val (.int p1), .val (.int p2), .val (.int p3), .val (.int p4), .val (.ref a3), .val (.int (2 : Int32)), .val (.int r47), .val (.int r63), .unset, .unset] [(.int r47)])) t
      refine XS.iload Y78.here hx rfl (hb hby at_70) rfl ?_
      show Steps p.tables e below (T77.setTop (mkF m 72 #[.val (.int p0), .val (.int p1), .val (.int p2), .val (.int p3), .val (.int p4), .val (.ref a3), .val (.int (2 : Int32)), .val (.int r47), .val (.int r63), .unset, .unset] [(.int r63), (.int r47)])) t
      refine XS.sipush Y78.here hx rfl (hb hby at_72) ?_
      show Steps p.tables e below (T77.setTop (mkF m 75 #[.val (.int p0), .val (.int p1), .val (.int p2), .val (.int p3), .val (.int p4), .val (.ref a3), .val (.int (2 : Int32)), .val (.int r47), .val (.int r63), .unset, .unset] [(.int (256 : Int32)), (.int r63), (.int r47)])) t
      refine XS.imul Y78.here hx rfl (hb hby at_75) rfl ?_
      show Steps p.tables e below (T77.setTop (mkF m 76 #[.val (.int p0), .val (.int p1), .val (.int p2), .val (.int p3), .val (.int p4), .val (.ref a3), .val (.int (2 : Int32)), .val (.int r47), .val (.int r63), .unset, .unset] [(.int (r63 * (256 : Int32))), (.int r47)])) t
      refine XS.iadd Y78.here hx rfl (hb hby at_76) rfl ?_
      show Steps p.tables e below (T77.setTop (mkF m 77 #[.val (.int p0), .val (.int p1), .val (.int p2), .val (.int p3), .val (.int p4), .val (.ref a3), .val (.int (2 : Int32)), .val (.int r47), .val (.int r63), .unset, .unset] [(.int (r47 + (r63 * (256 : Int32))))])) t
      refine XS.istore Y78.here hx rfl (hb hby at_77) rfl (l' := #[.val (.int p0), .val (.int p1), .val (.int p2), .val (.int p3), .val (.int p4), .val (.ref a3), .val (.int (2 : Int32)), .val (.int r47), .val (.int r63), .val (.int (r47 + (r63 * (256 : Int32)))), .unset]) rfl ?_
      show Steps p.tables e below (T77.setTop (mkF m 79 #[.val (.int p0), .val (.int p1), .val (.int p2), .val (.int p3), .val (.int p4), .val (.ref a3), .val (.int (2 : Int32)), .val (.int r47), .val (.int r63), .val (.int (r47 + (r63 * (256 : Int32)))), .unset] [])) t
      refine XS.aload Y78.here hx rfl (hb hby at_79) rfl rfl ?_
      show Steps p.tables e below (T77.setTop (mkF m 81 #[.val (.int p0), .val (.int p1), .val (.int p2), .val (.int p3), .val (.int p4), .val (.ref a3), .val (.int (2 : Int32)), .val (.int r47), .val (.int r63), .val (.int (r47 + (r63 * (256 : Int32)))), .unset] [(.ref a3)])) t
      refine XS.iload Y78.here hx rfl (hb hby at_81) rfl ?_
      show Steps p.tables e below (T77.setTop (mkF m 83 #[.val (.int p0), .val (.int p1), .val (.int p2), .val (.int p3), .val (.int p4), .val (.ref a3), .val (.int (2 : Int32)), .val (.int r47), .val (.int r63), .val (.int (r47 + (r63 * (256 : Int32)))), .unset] [(.int (2 : Int32)), (.ref a3)])) t
      exact k
    refine On.static Y78 hx hZ (y := (⟨"com/example/strict_bytecode/strictbytecode/DexBuffer", "u2", "([BI)I"⟩ : MethodName)) hown (w9 hw) (w10 hw) (w12 hw) (w11 hw) (by decide) (argsL := [(.ref a3), (.int (2 : Int32))]) (rest := []) (rm3 l Z a0 hw n0 a3 (2 : Int32) (4 : Int32) [(p0.toInt8.toInt32).toInt8.toInt32, (p1.toInt8.toInt32).toInt8.toInt32, (p2.toInt8.toInt32).toInt8.toInt32, (p3.toInt8.toInt32).toInt8.toInt32] ((p2.toInt8.toInt32).toInt8.toInt32) ((p3.toInt8.toInt32).toInt8.toInt32) [] (by decide) (by decide) rfl rfl) (W := 0) (by decide) (by decide) (by decide) (by decide) (g := (mkF m 83 #[.val (.int p0), .val (.int p1), .val (.int p2), .val (.int p3), .val (.int p4), .val (.ref a3), .val (.int (2 : Int32)), .val (.int r47), .val (.int r63), .val (.int (r47 + (r63 * (256 : Int32)))), .unset] [(.int (2 : Int32)), (.ref a3)])) rfl (by rw [hml]; rfl) (lenOf pd2 rfl) rfl (by show 2 * 0 + _ ≤ _; exact Nat.le_of_eq rfl) (hb hby at_83) ?_
    intro T82 u84 D85 hp86 Y83
    obtain ⟨r83, hr83, rfl, rfl⟩ : ∃ z : Int32, z = (((p2.toInt8.toInt32).toInt8.toInt32 &&& (255 : Int32)) ||| (((p3.toInt8.toInt32).toInt8.toInt32 &&& (255 : Int32)) <<< ((8 : Int32) &&& 31))) ∧ u84 = some (.int z) ∧ D85 = _ := ⟨_, rfl, hp86.1, hp86.2⟩
    replace Y83 : On p l e _ s m _ below meth c Z n0 T82 1 4 [ari a3 .byte (4 : Int32) [(p0.toInt8.toInt32).toInt8.toInt32, (p1.toInt8.toInt32).toInt8.toInt32, (p2.toInt8.toInt32).toInt8.toInt32, (p3.toInt8.toInt32).toInt8.toInt32]] := Y83
    show Rn p e below F T82 (mkF m 86 #[.val (.int p0), .val (.int p1), .val (.int p2), .val (.int p3), .val (.int p4), .val (.ref a3), .val (.int (2 : Int32)), .val (.int r47), .val (.int r63), .val (.int (r47 + (r63 * (256 : Int32)))), .unset] [(.int r83)])
    have ep : r44 = p2 := by rw [hr44]; simp [own_pick]
    have eq : r60 = p3 := by rw [hr60]; simp [own_pick]
    rw [ep] at hr47; rw [eq] at hr63
    obtain ⟨f1, f2, f3⟩ := own_fin _ _ _ _ _ hr83 hr47 hr63
    refine Rn.go (T' := T82) (g' := (mkF m 92 #[.val (.int p0), .val (.int p1), .val (.int p2), .val (.int p3), .val (.int p4), .val (.ref a3), .val (.int (2 : Int32)), .val (.int r47), .val (.int r63), .val (.int (r47 + (r63 * (256 : Int32)))), .val (.int r83)] [(.int (r47 + (r63 * (256 : Int32)))), (.int r83)])) (fun t k => ?_) ?_
    · show Steps p.tables e below (T82.setTop (mkF m 86 #[.val (.int p0), .val (.int p1), .val (.int p2), .val (.int p3), .val (.int p4), .val (.ref a3), .val (.int (2 : Int32)), .val (.int r47), .val (.int r63), .val (.int (r47 + (r63 * (256 : Int32)))), .unset] [(.int r83)])) t
      refine XS.istore Y83.here hx rfl (hb hby at_86) rfl (l' := #[.val (.int p0), .val (.int p1), .val (.int p2), .val (.int p3), .val (.int p4), .val (.ref a3), .val (.int (2 : Int32)), .val (.int r47), .val (.int r63), .val (.int (r47 + (r63 * (256 : Int32)))), .val (.int r83)]) rfl ?_
      show Steps p.tables e below (T82.setTop (mkF m 88 #[.val (.int p0), .val (.int p1), .val (.int p2), .val (.int p3), .val (.int p4), .val (.ref a3), .val (.int (2 : Int32)), .val (.int r47), .val (.int r63), .val (.int (r47 + (r63 * (256 : Int32)))), .val (.int r83)] [])) t
      refine XS.iload Y83.here hx rfl (hb hby at_88) rfl ?_
      show Steps p.tables e below (T82.setTop (mkF m 90 #[.val (.int p0), .val (.int p1), .val (.int p2), .val (.int p3), .val (.int p4), .val (.ref a3), .val (.int (2 : Int32)), .val (.int r47), .val (.int r63), .val (.int (r47 + (r63 * (256 : Int32)))), .val (.int r83)] [(.int r83)])) t
      refine XS.iload Y83.here hx rfl (hb hby at_90) rfl ?_
      show Steps p.tables e below (T82.setTop (mkF m 92 #[.val (.int p0), .val (.int p1), .val (.int p2), .val (.int p3), .val (.int p4), .val (.ref a3), .val (.int (2 : Int32)), .val (.int r47), .val (.int r63), .val (.int (r47 + (r63 * (256 : Int32)))), .val (.int r83)] [(.int (r47 + (r63 * (256 : Int32)))), (.int r83)])) t
      exact k
    refine Rn.go (T' := T82) (g' := (mkF m 95 #[.val (.int p0), .val (.int p1), .val (.int p2), .val (.int p3), .val (.int p4), .val (.ref a3), .val (.int (2 : Int32)), .val (.int r47), .val (.int r63), .val (.int (r47 + (r63 * (256 : Int32)))), .val (.int r83)] [])) (fun t k => XS.icmpNo Y83.here hx rfl (hb hby at_92) rfl (teq f1).2 k) ?_
    refine Rn.go (T' := T82) (g' := (mkF m 97 #[.val (.int p0), .val (.int p1), .val (.int p2), .val (.int p3), .val (.int p4), .val (.ref a3), .val (.int (2 : Int32)), .val (.int r47), .val (.int r63), .val (.int (r47 + (r63 * (256 : Int32)))), .val (.int r83)] [(.int r83)])) (fun t k => ?_) ?_
    · show Steps p.tables e below (T82.setTop (mkF m 95 #[.val (.int p0), .val (.int p1), .val (.int p2), .val (.int p3), .val (.int p4), .val (.ref a3), .val (.int (2 : Int32)), .val (.int r47), .val (.int r63), .val (.int (r47 + (r63 * (256 : Int32)))), .val (.int r83)] [])) t
      refine XS.iload Y83.here hx rfl (hb hby at_95) rfl ?_
      show Steps p.tables e below (T82.setTop (mkF m 97 #[.val (.int p0), .val (.int p1), .val (.int p2), .val (.int p3), .val (.int p4), .val (.ref a3), .val (.int (2 : Int32)), .val (.int r47), .val (.int r63), .val (.int (r47 + (r63 * (256 : Int32)))), .val (.int r83)] [(.int r83)])) t
      exact k
    refine Rn.go (T' := T82) (g' := (mkF m 100 #[.val (.int p0), .val (.int p1), .val (.int p2), .val (.int p3), .val (.int p4), .val (.ref a3), .val (.int (2 : Int32)), .val (.int r47), .val (.int r63), .val (.int (r47 + (r63 * (256 : Int32)))), .val (.int r83)] [])) (fun t k => XS.ifNo Y83.here hx rfl (hb hby at_97) rfl ((if0 _ _).trans (flt f2).1) k) ?_
    refine Rn.go (T' := T82) (g' := (mkF m 104 #[.val (.int p0), .val (.int p1), .val (.int p2), .val (.int p3), .val (.int p4), .val (.ref a3), .val (.int (2 : Int32)), .val (.int r47), .val (.int r63), .val (.int (r47 + (r63 * (256 : Int32)))), .val (.int r83)] [(.int (65535 : Int32)), (.int r83)])) (fun t k => ?_) ?_
    · show Steps p.tables e below (T82.setTop (mkF m 100 #[.val (.int p0), .val (.int p1), .val (.int p2), .val (.int p3), .val (.int p4), .val (.ref a3), .val (.int (2 : Int32)), .val (.int r47), .val (.int r63), .val (.int (r47 + (r63 * (256 : Int32)))), .val (.int r83)] [])) t
      refine XS.iload Y83.here hx rfl (hb hby at_100) rfl ?_
      show Steps p.tables e below (T82.setTop (mkF m 102 #[.val (.int p0), .val (.int p1), .val (.int p2), .val (.int p3), .val (.int p4), .val (.ref a3), .val (.int (2 : Int32)), .val (.int r47), .val (.int r63), .val (.int (r47 + (r63 * (256 : Int32)))), .val (.int r83)] [(.int r83)])) t
      refine On.sldcI Y83 hx hZ hown (w13 hw) (g := (mkF m 102 #[.val (.int p0), .val (.int p1), .val (.int p2), .val (.int p3), .val (.int p4), .val (.ref a3), .val (.int (2 : Int32)), .val (.int r47), .val (.int r63), .val (.int (r47 + (r63 * (256 : Int32)))), .val (.int r83)] [(.int r83)])) rfl (hb hby at_102) _ ?_
      show Steps p.tables e below (T82.setTop (mkF m 104 #[.val (.int p0), .val (.int p1), .val (.int p2), .val (.int p3), .val (.int p4), .val (.ref a3), .val (.int (2 : Int32)), .val (.int r47), .val (.int r63), .val (.int (r47 + (r63 * (256 : Int32)))), .val (.int r83)] [(.int (65535 : Int32)), (.int r83)])) t
      exact k
    refine Rn.go (T' := T82) (g' := (mkF m 107 #[.val (.int p0), .val (.int p1), .val (.int p2), .val (.int p3), .val (.int p4), .val (.ref a3), .val (.int (2 : Int32)), .val (.int r47), .val (.int r63), .val (.int (r47 + (r63 * (256 : Int32)))), .val (.int r83)] [])) (fun t k => XS.icmpNo Y83.here hx rfl (hb hby at_104) rfl (flt f3).2.2.1 k) ?_
    refine Rn.go (T' := T82) (g' := (mkF m 112 #[.val (.int p0), .val (.int p1), .val (.int p2), .val (.int p3), .val (.int p4), .val (.ref a3), .val (.int (2 : Int32)), .val (.int r47), .val (.int r63), .val (.int (r47 + (r63 * (256 : Int32)))), .val (.int r83)] [(.int (1 : Int32))])) (fun t k => ?_) ?_
    · show Steps p.tables e below (T82.setTop (mkF m 107 #[.val (.int p0), .val (.int p1), .val (.int p2), .val (.int p3), .val (.int p4), .val (.ref a3), .val (.int (2 : Int32)), .val (.int r47), .val (.int r63), .val (.int (r47 + (r63 * (256 : Int32)))), .val (.int r83)] [])) t
      refine XS.iconst Y83.here hx rfl (hb hby at_107) ?_
      show Steps p.tables e below (T82.setTop (mkF m 108 #[.val (.int p0), .val (.int p1), .val (.int p2), .val (.int p3), .val (.int p4), .val (.ref a3), .val (.int (2 : Int32)), .val (.int r47), .val (.int r63), .val (.int (r47 + (r63 * (256 : Int32)))), .val (.int r83)] [(.int (1 : Int32))])) t
      refine XS.goto Y83.here hx rfl (pc0 := 108) (pc' := 112) rfl (hb hby at_108) (by decide) (by decide) ?_
      show Steps p.tables e below (T82.setTop (mkF m 112 #[.val (.int p0), .val (.int p1), .val (.int p2), .val (.int p3), .val (.int p4), .val (.ref a3), .val (.int (2 : Int32)), .val (.int r47), .val (.int r63), .val (.int (r47 + (r63 * (256 : Int32)))), .val (.int r83)] [(.int (1 : Int32))])) t
      exact k
    rw [← hF]; exact On.retn Y83 hx hret (by simp) hlk (z' := (1 : Int32)) (by decide) (hb hby at_112) (by decide) (by decide) rfl
set_option maxRecDepth 65536 in
set_option maxHeartbeats 40000000 in
theorem comes_1 {Post : Tables → Env → Array Value → State → Outcome → State → Prop} (hpost : ∀ tb e args s v u, (limb_1_1.after args s (.returned v) u = true ∧ limb_1_2.after args s (.returned v) u = true ∧ True) → FrameEnd s (.returned v) u (Jvm.fieldLocs frame_1_writes args s ++ Jvm.arrayLocs frame_1_arrays args s ++ Jvm.staticLocs frame_1_statics s) 16 128 → Post tb e args s (.returned v) u) :
    ArmFor flags0 classFile x code maxLocals ret World_1 tables_1 room_1 Calls_1 rest_1 Pre_1 Post := by
  intro l hfl _ _ p e ha hc hk s m args below hf hA hF happ hP
  obtain ⟨hcalls, hrest, hpre⟩ := hP
  obtain ⟨-, -, -, hnamed, -, -, -, hat⟩ := (Spec.applies_iff hf).mp happ
  obtain ⟨hg, hn⟩ := and_e (Cond.before_iff.mp (show (Jvm.Cond.and given_1 narrow_1).before args s = true from hpre))
  obtain ⟨g1, g2⟩ := and_e hg
  obtain ⟨g3, g4⟩ := and_e g2
  obtain ⟨g5, g6⟩ := and_e g4
  obtain ⟨g7, g8⟩ := and_e g6
  obtain ⟨g9, g10⟩ := and_e g8
  obtain ⟨w0, w1, w2, w3, w4, rfl⟩ : ∃ w0 w1 w2 w3 w4 : Value, args = #[w0, w1, w2, w3, w4] := by
    have hs : args.size = 5 := by simpa [Cond.value, given_1] using g1
    obtain ⟨L⟩ := args
    match L, hs with
    | [w0, w1, w2, w3, w4], _ => exact ⟨w0, w1, w2, w3, w4, rfl⟩
  have hw := fun d (hd : d ∈ tables_1) => atoms_spec (ws := Jvm.Cond.code x code maxLocals ret :: tables_1) hat d (List.mem_cons_of_mem _ hd)
  obtain ⟨i0, ei0⟩ := is_v g3
  obtain rfl : w0 = (.int i0) := Option.some.inj ei0
  obtain ⟨i1, ei1⟩ := is_v g5
  obtain rfl : w1 = (.int i1) := Option.some.inj ei1
  obtain ⟨i2, ei2⟩ := is_v g7
  obtain rfl : w2 = (.int i2) := Option.some.inj ei2
  obtain ⟨i3, ei3⟩ := is_v g9
  obtain rfl : w3 = (.int i3) := Option.some.inj ei3
  obtain ⟨i4, ei4⟩ := is_v g10
  obtain rfl : w4 = (.int i4) := Option.some.inj ei4
  obtain ⟨n, o, h1, h2, h3, _, L, rfl, ⟨D', rfl, N, -⟩, hq⟩ := rm0 l s _ hw s.heap.size i0 i1 i2 i3 i4 tables_1 s.heap (Hp.nil s) p e ha hc hk s m _ below hf ((Spec.applies_iff_loose hf).mp happ).1 ⟨rfl, State.Warmed39.refl s, rfl⟩ trivial
  refine ⟨n, _, h1, h2, h3, hpost _ _ _ _ _ _ ⟨Cond.after_iff.mpr rfl, Cond.after_iff.mpr (eq_i res_at (Term.int_eval (1)) rfl), trivial⟩ ⟨hq.1, hq.2.1, (hq.2.2.sift fun y hy => Or.inr (N y hy)).mono (by decide) (by decide)⟩⟩
theorem main_1_1 : Claimed_1_1 := comes_1 fun _ _ _ _ _ _ h hF => ⟨h.1, hF⟩
theorem main_1_2 : Claimed_1_2 := comes_1 fun _ _ _ _ _ _ h hF => ⟨h.2.1, hF⟩
end Jvm.Pilot.@@N@@
namespace Jvm.Pilot.@@N@@
open Jvm Jvm.ClassFile Sem Op Lib Jvm.Free Jvm.Stand Jvm.Pilot.@@N@@.Jvm.D
/-! MADE BY PROGRAM (witnessworld.py) out of the Statement's table words and the real class files: 9 classes; the members and pool entries that the words name. The judged class is class 1, her method 3. -/
namespace start1
open Jvm.ClassFile
def u (s : String) : CpInfo := .utf8 (stringToUtf16 s)
/-- a pool by its gaps: so many unusable entries, then the entry; so many at the end -/
def gap : Nat → List CpInfo → List CpInfo
  | 0, r => r
  | n + 1, r => .unusable :: gap n r
def poolList (es : List (Nat × CpInfo)) (last : Nat) : List CpInfo := es.foldr (fun e r => gap e.1 (e.2 :: r)) (gap last [])
def pool (es : List (Nat × CpInfo)) (last : Nat) : Array CpInfo := ⟨poolList es last⟩
def fileOf (pool : Array CpInfo) (this : Nat) (attrs : Array Attribute := #[]) (ms : Array MethodInfo := #[]) (fl : Nat := 33) (sup : Nat := 0) (ifs : Array Nat := #[]) (fds : Array FieldInfo := #[]) : ClassFile where
  minorVersion := 0
  majorVersion := 65
  constantPool := pool
  accessFlags := fl
  thisClass := this
  superClass := sup
  interfaces := ifs
  fields := fds
  methods := ms
  attributes := attrs
def plain (name : String) (sup : Option ClassId) : Class where
  name := name
  kind := .ordinary
  loader := none
  accessFlags := 33
  super := sup
  interfaces := #[]
  cf := none
  fields := #[]
  methods := #[]
  instanceTypes := #[]
  staticTypes := #[]
  resolved := #[]
  callSites := []
  init := .initialized
  statics := none
  mirror := none

def pool0 : Array CpInfo := pool [(5, u "<init>"), (0, u "()V"), (1, .class_ 10), (1, u "java/lang/Object")] 113

def k0m0 : Method := { name := "<init>", desc := "()V", sig := { parameters := [], returnType := none }, accessFlags := 1, code := none }
/-- java/lang/Object -/
def k0 : Class := { plain "java/lang/Object" none with
  accessFlags := 33
  interfaces := #[]
  cf := some (fileOf pool0 8 #[] #[{ accessFlags := 1, nameIndex := 5, descriptorIndex := 6, attributes := #[] }] 33 0 #[] #[])
  fields := #[]
  methods := #[k0m0]
  instanceTypes := #[]
  staticTypes := #[]
  resolved := Array.replicate 124 none
  statics := none }

def pool1 : Array CpInfo := pool [(2, .class_ 4), (1, u "java/lang/Object"), (0, u "<init>"), (0, u "()V"), (0, .integer 2147483647), (0, .methodref 9 10), (0, .class_ 11), (0, .nameAndType 12 13), (0, u "com/example/strict_bytecode/strictbytecode/DexBufferU2PinLaw"), (0, u "pick"), (0, u "(IIIII)I"), (0, .methodref 9 15), (0, .nameAndType 16 17), (0, u "unsignedByte"), (0, u "(I)I"), (0, .methodref 19 20), (0, .class_ 21), (0, .nameAndType 22 23), (0, u "com/example/strict_bytecode/strictbytecode/DexBuffer"), (0, u "u2"), (0, u "([BI)I"), (0, .integer 65535), (3, u "law"), (0, u "(IIIII)Z")] 4

def k1m0 : Method := { name := "<init>", desc := "()V", sig := { parameters := [], returnType := none }, accessFlags := 2, code := none }
def k1c1 : Code := { maxStack := 2, maxLocals := 2, code := method_2_code, exceptionTable := #[], attributes := #[] }
def k1m1 : Method := { name := "unsignedByte", desc := "(I)I", sig := { parameters := [.int], returnType := some .int }, accessFlags := 10, code := some k1c1 }
def k1c2 : Code := { maxStack := 2, maxLocals := 5, code := method_3_code, exceptionTable := #[], attributes := #[] }
def k1m2 : Method := { name := "pick", desc := "(IIIII)I", sig := { parameters := [.int, .int, .int, .int, .int], returnType := some .int }, accessFlags := 10, code := some k1c2 }
def k1c3 : Code := { maxStack := 5, maxLocals := 11, code := code, exceptionTable := #[], attributes := #[] }
def k1m3 : Method := { name := "law", desc := "(IIIII)Z", sig := { parameters := [.int, .int, .int, .int, .int], returnType := some .boolean }, accessFlags := 9, code := some k1c3 }
/-- com/example/strict_bytecode/strictbytecode/DexBufferU2PinLaw -/
def k1 : Class := { plain "com/example/strict_bytecode/strictbytecode/DexBufferU2PinLaw" (some 0) with
  accessFlags := 49
  interfaces := #[]
  cf := some (fileOf pool1 9 #[] #[{ accessFlags := 2, nameIndex := 5, descriptorIndex := 6, attributes := #[] }, { accessFlags := 10, nameIndex := 16, descriptorIndex := 17, attributes := #[] }, { accessFlags := 10, nameIndex := 12, descriptorIndex := 13, attributes := #[] }, { accessFlags := 9, nameIndex := 28, descriptorIndex := 29, attributes := #[] }] 49 2 #[] #[])
  fields := #[]
  methods := #[k1m0, k1m1, k1m2, k1m3]
  instanceTypes := #[]
  staticTypes := #[]
  resolved := Array.replicate 34 none
  statics := none }

def pool2 : Array CpInfo := pool [(2, .class_ 4), (1, u "com/example/strict_bytecode/strictbytecode/DexBuffer"), (7, .class_ 14), (1, u "java/lang/Object"), (3, u "bytes"), (0, u "[B"), (2, u "item"), (0, u "Ljava/util/function/Supplier;"), (2, u "position"), (0, u "I"), (2, u "end"), (2, u "next"), (41, u "u2"), (0, u "([BI)I"), (84, u "U4_MAX"), (0, u "J"), (1, u "LEB128_MAX_BYTES")] 54

def k2c0 : Code := { maxStack := 4, maxLocals := 2, code := prog_32_method_8_code, exceptionTable := #[], attributes := #[] }
def k2m0 : Method := { name := "u2", desc := "([BI)I", sig := { parameters := [(.array .byte), .int], returnType := some .int }, accessFlags := 8, code := some k2c0 }
/-- com/example/strict_bytecode/strictbytecode/DexBuffer -/
def k2 : Class := { plain "com/example/strict_bytecode/strictbytecode/DexBuffer" (some 0) with
  accessFlags := 48
  interfaces := #[]
  cf := some (fileOf pool2 2 #[] #[{ accessFlags := 8, nameIndex := 75, descriptorIndex := 76, attributes := #[] }] 48 12 #[] #[{ accessFlags := 26, nameIndex := 161, descriptorIndex := 162, attributes := #[] }, { accessFlags := 26, nameIndex := 164, descriptorIndex := 27, attributes := #[] }, { accessFlags := 18, nameIndex := 18, descriptorIndex := 19, attributes := #[] }, { accessFlags := 18, nameIndex := 22, descriptorIndex := 23, attributes := #[] }, { accessFlags := 18, nameIndex := 30, descriptorIndex := 27, attributes := #[] }, { accessFlags := 18, nameIndex := 33, descriptorIndex := 23, attributes := #[] }, { accessFlags := 2, nameIndex := 26, descriptorIndex := 27, attributes := #[] }])
  fields := #[{ name := "U4_MAX", type := .long, accessFlags := 26, slot := 0, constantValue := 0 }, { name := "LEB128_MAX_BYTES", type := .int, accessFlags := 26, slot := 1, constantValue := 0 }, { name := "bytes", type := (.array .byte), accessFlags := 18, slot := 0, constantValue := 0 }, { name := "item", type := (.object "java/util/function/Supplier"), accessFlags := 18, slot := 1, constantValue := 0 }, { name := "end", type := .int, accessFlags := 18, slot := 2, constantValue := 0 }, { name := "next", type := (.object "java/util/function/Supplier"), accessFlags := 18, slot := 3, constantValue := 0 }, { name := "position", type := .int, accessFlags := 2, slot := 4, constantValue := 0 }]
  methods := #[k2m0]
  instanceTypes := #[(.array .byte), (.object "java/util/function/Supplier"), .int, (.object "java/util/function/Supplier"), .int]
  staticTypes := #[.long, .int]
  resolved := Array.replicate 219 none
  statics := none }

def pool3 : Array CpInfo := pool [(1, u "java/lang/Cloneable"), (0, .class_ 1), (0, u "java/lang/Object"), (0, .class_ 3)] 3

/-- java/lang/Cloneable -/
def k3 : Class := { plain "java/lang/Cloneable" (some 0) with
  accessFlags := 1537
  interfaces := #[]
  cf := some (fileOf pool3 2 #[] #[] 1537 4 #[] #[])
  fields := #[]
  methods := #[]
  instanceTypes := #[]
  staticTypes := #[]
  resolved := Array.replicate 8 none
  statics := none }

def pool4 : Array CpInfo := pool [(1, u "java/io/Serializable"), (0, .class_ 1), (0, u "java/lang/Object"), (0, .class_ 3)] 3

/-- java/io/Serializable -/
def k4 : Class := { plain "java/io/Serializable" (some 0) with
  accessFlags := 1537
  interfaces := #[]
  cf := some (fileOf pool4 2 #[] #[] 1537 4 #[] #[])
  fields := #[]
  methods := #[]
  instanceTypes := #[]
  staticTypes := #[]
  resolved := Array.replicate 8 none
  statics := none }

/-- the primitive byte -/
def k5 : Class := { plain "byte" none with kind := .primitive 'B', accessFlags := 0x411 }
/-- [B -/
def k6 : Class := { plain "[B" (some 0) with kind := .array 5 .byte, interfaces := #[3, 4], accessFlags := 1041 }

/-- the primitive int -/
def k7 : Class := { plain "int" none with kind := .primitive 'I', accessFlags := 0x411 }
/-- [I -/
def k8 : Class := { plain "[I" (some 0) with kind := .array 7 .int, interfaces := #[3, 4], accessFlags := 1041 }

def heap : Heap := #[]
def classes : Array Class := #[k0, k1, k2, k3, k4, k5, k6, k7, k8]
def interned : List (Array UInt16 × Addr) := []
def slotsUsed : Nat := 0
def theMethod : MethodId := ⟨1, 3⟩
def args0 : Array Value := #[.int 1, .int 2, .int 5, .int 7, .int 3]
def aboutOver (below : List Frame) : State where
  vm := { classes := classes, interned := interned.toArray }
  heap := heap
  slotsUsed := slotsUsed
  threads := #[{ frames := .invoking theMethod args0 :: below }]
def below0 : List Frame := [.native { method := ⟨0, 0⟩, args := #[] }]
def about1 : State := aboutOver below0
def p0 : Program := .bare "" "" ""
def e0 : Env := launch0.env 0 0 0
theorem w_frames : about1.frames = Frame.invoking theMethod args0 :: below0 := rfl
set_option maxRecDepth 65536 in
theorem w_args : argsFit about1.vm theMethod args0 = true := by decide +kernel
set_option maxRecDepth 65536 in
theorem w_heap : heapFits about1 = true := by decide +kernel
set_option maxRecDepth 65536 in
theorem w_runnable : about1.curStatus? = some .runnable := by decide +kernel
set_option maxRecDepth 65536 in
theorem w_alone : about1.alone = true := by decide +kernel
set_option maxRecDepth 65536 in
theorem w_named : about1.methodNamed? x = some theMethod := by decide +kernel
set_option maxRecDepth 65536 in
theorem w_hears : about1.hears theMethod below0 = true := by decide +kernel
set_option maxRecDepth 65536 in
theorem w_ripe : about1.ripe theMethod args0 below0 = true := by decide +kernel
theorem w_running : about1.status = .running := rfl
set_option maxRecDepth 65536 in
theorem w_room : about1.hasRoom e0.platform room_1 = true :=
  launch0.hasRoom_least _ room_1 (by decide +kernel) (by decide +kernel) (by decide +kernel) (by decide +kernel) (by decide +kernel) (by decide +kernel)
theorem allAtoms_all (ts : List Jvm.Cond) (a : Array Jvm.Value) (st : Jvm.State) : (allAtoms ts).before a st = ts.all (fun c => c.before a st) := by
  induction ts with
  | nil => rfl
  | cons c t ih =>
    show (Jvm.Cond.and c (allAtoms t)).before a st = _
    rw [Jvm.Cond.before_and, ih, List.all_cons]
def words1 : List Jvm.Cond := Jvm.Cond.code x code maxLocals ret :: tables_1
/-- a 'code' word, met by the world's own term for the bytes: nothing is compared byte by byte -/
theorem code_word {y : MethodName} {bytes : ByteArray} {mx : Nat} {rt : Option FieldType} {a : Array Value} {s : State} {m : MethodId} {meth : Method} {c : Code} (h1 : s.methodNamed? y = some m) (h2 : s.vm.method? m = some meth) (h3 : meth.code = some c) (h4 : c.code = bytes)
    (h5 : (c.maxLocals == mx && c.exceptionTable.isEmpty && decide (c.maxStack ≤ mostOperands) && decide (meth.sig.returnType = rt) && !meth.locks && decide (parseMethodDescriptor y.desc = some meth.sig)) = true) : (Jvm.Cond.code y bytes mx rt).before a s = true := by
  simp only [Bool.and_eq_true, beq_iff_eq, Bool.not_eq_true', decide_eq_true_eq] at h5
  obtain ⟨⟨⟨⟨⟨g1, g2⟩, g3⟩, g4⟩, g5⟩, g6⟩ := h5
  simp [Cond.before, Cond.holds, Cond.value, h1, h2, h3, h4, g1, g2, g3, g4, g5, g6]
def isCode : Jvm.Cond → Bool
  | .code _ _ _ _ => true
  | _ => false
theorem all_split {L : List Jvm.Cond} {P : Jvm.Cond → Bool} (h1 : L.all (fun c => isCode c || P c) = true) (h2 : ∀ c ∈ L.filter isCode, P c = true) : L.all P = true := by
  refine List.all_eq_true.mpr fun c hc => ?_
  have h := List.all_eq_true.mp h1 c hc
  rcases Bool.eq_false_or_eq_true (isCode c) with hi | hi
  · exact h2 c (List.mem_filter.mpr ⟨hc, hi⟩)
  · simpa [hi] using h
set_option maxRecDepth 65536 in
theorem w_c0 : (Jvm.Cond.code x code maxLocals ret).before args0 about1 = true := code_word (m := ⟨1, 3⟩) (meth := k1m3) (c := k1c3) (by decide +kernel) rfl rfl rfl (by decide +kernel)
set_option maxRecDepth 65536 in
theorem w_c1 : (Jvm.Cond.code ({ cls := "com/example/strict_bytecode/strictbytecode/DexBufferU2PinLaw", name := "pick", desc := "(IIIII)I" } : Jvm.MethodName) method_3_code (5 : Nat) (Option.some Jvm.ClassFile.FieldType.int)).before args0 about1 = true := code_word (m := ⟨1, 2⟩) (meth := k1m2) (c := k1c2) (by decide +kernel) rfl rfl rfl (by decide +kernel)
set_option maxRecDepth 65536 in
theorem w_c2 : (Jvm.Cond.code ({ cls := "com/example/strict_bytecode/strictbytecode/DexBufferU2PinLaw", name := "unsignedByte", desc := "(I)I" } : Jvm.MethodName) method_2_code (2 : Nat) (Option.some Jvm.ClassFile.FieldType.int)).before args0 about1 = true := code_word (m := ⟨1, 1⟩) (meth := k1m1) (c := k1c1) (by decide +kernel) rfl rfl rfl (by decide +kernel)
set_option maxRecDepth 65536 in
theorem w_c3 : (Jvm.Cond.code ({ cls := "com/example/strict_bytecode/strictbytecode/DexBuffer", name := "u2", desc := "([BI)I" } : Jvm.MethodName) prog_32_method_8_code (2 : Nat) (Option.some Jvm.ClassFile.FieldType.int)).before args0 about1 = true := code_word (m := ⟨2, 0⟩) (meth := k2m0) (c := k2c0) (by decide +kernel) rfl rfl rfl (by decide +kernel)
def codes1 : List Jvm.Cond := [Jvm.Cond.code x code maxLocals ret, Jvm.Cond.code ({ cls := "com/example/strict_bytecode/strictbytecode/DexBufferU2PinLaw", name := "pick", desc := "(IIIII)I" } : Jvm.MethodName) method_3_code (5 : Nat) (Option.some Jvm.ClassFile.FieldType.int), Jvm.Cond.code ({ cls := "com/example/strict_bytecode/strictbytecode/DexBufferU2PinLaw", name := "unsignedByte", desc := "(I)I" } : Jvm.MethodName) method_2_code (2 : Nat) (Option.some Jvm.ClassFile.FieldType.int), Jvm.Cond.code ({ cls := "com/example/strict_bytecode/strictbytecode/DexBuffer", name := "u2", desc := "([BI)I" } : Jvm.MethodName) prog_32_method_8_code (2 : Nat) (Option.some Jvm.ClassFile.FieldType.int)]
set_option maxRecDepth 65536 in
theorem codes_eq : words1.filter isCode = codes1 := rfl
theorem w_codes : ∀ c ∈ words1.filter isCode, c.before args0 about1 = true := by
  rw [codes_eq]
  intro c hc
  simp only [codes1, List.mem_cons, List.not_mem_nil, or_false] at hc
  rcases hc with rfl | rfl | rfl | rfl
  · exact w_c0
  · exact w_c1
  · exact w_c2
  · exact w_c3
set_option maxRecDepth 65536 in
theorem w_t1 : words1.all (fun c => isCode c || c.before args0 about1) = true := by decide +kernel
theorem w_tables : (allAtoms (Jvm.Cond.code x code maxLocals ret :: tables_1)).before args0 about1 = true := by
  rw [allAtoms_all]
  show words1.all (fun c => c.before args0 about1) = true
  refine all_split ?_ w_codes
  rw [w_t1]
set_option maxRecDepth 65536 in
theorem w_case : (Jvm.Cond.and given_1 narrow_1).before args0 about1 = true := by decide +kernel
theorem w_applies : (headSpec (Jvm.Cond.code x code maxLocals ret :: tables_1) room_1).applies x e0.platform about1 = true :=
  (Spec.applies_iff w_frames).mpr ⟨w_running, w_runnable, w_alone, w_named, w_hears, w_ripe, w_room, w_tables⟩
theorem atStart : AtStart classFile x code maxLocals ret World_1 tables_1 room_1 Calls_1 rest_1 Pre_1 launch0 p0 e0 about1 theMethod args0 below0 :=
  ⟨lists_1, trivial, launch0.admits_env _ _ _, launch0.least_env, fairChoices_fair.cas, fairChoices_fair.clock, w_frames, w_args, w_heap, w_applies, trivial, trivial, w_case⟩
end start1
theorem witness_1 : WitnessClaimed_1 := ⟨start1.p0, start1.e0, start1.about1, start1.theMethod, start1.args0, start1.below0, start1.atStart⟩
end Jvm.Pilot.@@N@@
