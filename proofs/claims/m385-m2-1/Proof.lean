import JvmDerived
import JvmDerived.Pilot.@@N@@Statement
import JvmDerived.Pilot.@@N@@Code
set_option linter.unusedVariables false
set_option linter.unusedSimpArgs false
@@BLOCK:NumsL.lean.txt@@
namespace Jvm.Pilot.@@N@@
open Jvm Jvm.ClassFile Sem Op Lib Jvm.Free Jvm.Stand Jvm.LawKit Jvm.RoadKit Bundle Jvm.Pilot.@@N@@.Jvm.D
/-! ## A. The run goes on: a walk in steps, its end left open -/
section Base
variable {p : Program} {l : Launch} {e : Env} {R : Room} {s : State} {m : MethodId} {args : Array Value} {below : List Frame} {meth : Method} {c : Code} {T T' : State} {locs : List Loc} {cells slots : Nat} {Z : State} {a0 : Array Value} {F : State → Prop} {g g' : JFrame} {n0 : Nat} {h h' : Heap} {a b : Addr} {C n d : String} {v w : Value} {sl : Nat}
/-- the run from T with the frame g on top comes to a state of which F holds -/
def Rn (p : Program) (e : Env) (below : List Frame) (F : State → Prop) (T : State) (g : JFrame) : Prop := ∃ U, Steps p.tables e below (T.setTop g) U ∧ F U
theorem Rn.go (st : ∀ t, Steps p.tables e below (T'.setTop g') t → Steps p.tables e below (T.setTop g) t) (k : Rn p e below F T' g') : Rn p e below F T g := by
  obtain ⟨U, h1, h2⟩ := k; exact ⟨U, st _ h1, h2⟩
theorem Rn.to (st : Steps p.tables e below (T.setTop g) (T'.setTop g')) (k : Rn p e below F T' g') : Rn p e below F T g := by
  obtain ⟨U, h1, h2⟩ := k; exact ⟨U, st.trans h1, h2⟩
theorem own_lcW (x y : Int64) : lcmpW x y = if x > y then 1 else if x = y then 0 else -1 := rfl
theorem own_nat (x : Int32) : x.toNatClampNeg = x.toInt.toNat := rfl
theorem own_remI {x y : Int32} {k : Int} (hy : y.toInt = k) (hx : 0 ≤ x.toInt) : (x % y).toInt = x.toInt % k := by rw [Jvm.Kit.i32_rem_nonneg hx, hy]
theorem own_irem {g : JFrame} {target : State} (h : At T m c below) (hx : p.tables.exec = Jvm.exec) (hg : g.method = m) {x y : Int32} {rest : List Value} (hd : decode c.code g.pc = .ok (.irem, 1)) (hs : g.stack = .int y :: .int x :: rest) (hy : y ≠ 0)
    (hr : Steps p.tables e below (T.setTop { g with pc := g.pc + 1, stack := .int (x % y) :: rest }) target) : Steps p.tables e below (T.setTop g) target := by
  have q : x - x / y * y = x % y := irem_eq_mod x y
  exact XS.irem h hx hg hd hs hy (by rw [q]; exact hr)
/-! ## B. What the heap holds: a list of the objects and arrays that the law has made -/
abbrev Itm : Type := (String × List (String × String × Value)) ⊕ (FieldType × Int32 × List Value)
abbrev ob (a : Addr) (C : String) (fs : List (String × String × Value)) : Addr × Itm := (a, .inl (C, fs))
abbrev ar (a : Addr) (ty : FieldType) (n : Int32) (vs : List Value) : Addr × Itm := (a, .inr (ty, n, vs))
abbrev ari (a : Addr) (ty : FieldType) (n : Int32) (xs : List Int32) : Addr × Itm := ar a ty n (xs.map Value.int)
abbrev arj (a : Addr) (n : Int32) (xs : List Int64) : Addr × Itm := ar a .long n (xs.map Value.long)
def Obj (Z : State) (h : Heap) (a : Addr) (C : String) (fs : List (String × String × Value)) : Prop := Exa Z h a C ∧ (∀ f ∈ fs, Fld Z h a C f.1 f.2.1 f.2.2) ∧ (fs.map fun f => Jvm.RoadKit.slotOf Z C f.1 f.2.1).Nodup
def Ary (Z : State) (h : Heap) (a : Addr) (ty : FieldType) (n : Int32) (vs : List Value) : Prop := (∃ k, Arv Z h a k ty n vs (defaultValue ty) ∧ ∀ C, ty = .object C → Ovr Z k C) ∧ vs.length = n.toNatClampNeg
def itm (Z : State) (h : Heap) (x : Addr × Itm) : Prop := match x.2 with
  | .inl o => Obj Z h x.1 o.1 o.2
  | .inr o => Ary Z h x.1 o.1 o.2.1 o.2.2
/-- made by the law, or an array of no places (which nobody can write) -/
def Frs (n0 : Nat) (x : Addr × Itm) : Prop := n0 ≤ x.1 ∨ ∃ ty n, x.2 = .inr (ty, n, [])
def Hp (Z : State) (n0 : Nat) (h : Heap) (D : List (Addr × Itm)) : Prop := Old Z n0 h ∧ (∀ x ∈ D, Frs n0 x ∧ itm Z h x) ∧ (D.map (·.1)).Nodup
variable {fs : List (String × String × Value)} {vs : List Value} {ty : FieldType} {z : Int32} {x : Addr × Itm} {D : List (Addr × Itm)} {I J : Itm} {i j : Nat}
theorem map_same {α β : Type} (f : α → β) (L : List α) (i : Nat) (x y : α) (h : L[i]? = some x) (q : f y = f x) : (L.set i y).map f = L.map f := by
  apply List.ext_getElem?
  intro k
  rw [List.getElem?_map, List.getElem?_map, List.getElem?_set]
  by_cases e : i = k
  · subst e
    rw [if_pos rfl, if_pos (List.getElem?_eq_some_iff.mp h).1, h]; simp [q]
  · rw [if_neg e]
theorem Obj.lt (O : Obj Z h a C fs) : a < h.size := O.1.lt
theorem Ary.lt (O : Ary Z h a ty z vs) : a < h.size := by obtain ⟨⟨k, V, -⟩, -⟩ := O; exact V.lt
theorem itm.lt (O : itm Z h x) : x.1 < h.size := by
  obtain ⟨a, I⟩ := x
  cases I with
  | inl o => exact Obj.lt (show Obj Z h a o.1 o.2 from O)
  | inr o => exact Ary.lt (show Ary Z h a o.1 o.2.1 o.2.2 from O)
theorem itm.ext (E : Ext h h') (O : itm Z h x) : itm Z h' x := by
  obtain ⟨a, I⟩ := x
  cases I with
  | inl o =>
    have O' : Obj Z h a o.1 o.2 := O
    exact (show Obj Z h' a o.1 o.2 from ⟨O'.1.ext E, fun f hf => (O'.2.1 f hf).ext E, O'.2.2⟩)
  | inr o =>
    have O' : Ary Z h a o.1 o.2.1 o.2.2 := O
    obtain ⟨⟨k, V, u⟩, q⟩ := O'
    exact (show Ary Z h' a o.1 o.2.1 o.2.2 from ⟨⟨k, V.ext E, u⟩, q⟩)
theorem itm.other (W : Wr h h' b sl v) (q : x.1 ≠ b) (O : itm Z h x) : itm Z h' x := by
  obtain ⟨a, I⟩ := x
  cases I with
  | inl o =>
    have O' : Obj Z h a o.1 o.2 := O
    exact (show Obj Z h' a o.1 o.2 from ⟨O'.1.wr W, fun f hf => (O'.2.1 f hf).other W (Or.inl q), O'.2.2⟩)
  | inr o =>
    have O' : Ary Z h a o.1 o.2.1 o.2.2 := O
    obtain ⟨⟨k, V, u⟩, r⟩ := O'
    exact (show Ary Z h' a o.1 o.2.1 o.2.2 from ⟨⟨k, V.other W q, u⟩, r⟩)
theorem Obj.put (hj : fs[j]? = some (n, d, w)) (W : Wr h h' a (Jvm.RoadKit.slotOf Z C n d) v) (O : Obj Z h a C fs) : Obj Z h' a C (fs.set j (n, d, v)) := by
  have hjl : j < fs.length := (List.getElem?_eq_some_iff.mp hj).1
  refine ⟨O.1.wr W, fun f hf => ?_, ?_⟩
  · obtain ⟨i, hi⟩ := List.mem_iff_getElem?.mp hf
    by_cases e : j = i
    · subst e
      rw [List.getElem?_set_self hjl] at hi
      cases hi
      exact (O.2.1 _ (List.mem_of_getElem? hj)).same W
    · rw [List.getElem?_set_ne e] at hi
      refine (O.2.1 f (List.mem_of_getElem? hi)).other W (Or.inr fun q => e ?_)
      have hil : i < fs.length := (List.getElem?_eq_some_iff.mp hi).1
      refine ((List.getElem?_inj (i := i) (j := j) (by simpa using hil) O.2.2).mp ?_).symm
      rw [List.getElem?_map, List.getElem?_map, hi, hj]
      simp [q]
  · rw [map_same _ fs j (n, d, w) (n, d, v) hj rfl]; exact O.2.2
theorem Ary.put {k : Int32} (hk : ¬ k < 0) (hl : k.toNatClampNeg < vs.length) (hv : fits ty v = true) (W : Wr h h' a k.toNatClampNeg v) (O : Ary Z h a ty z vs) : Ary Z h' a ty z (vs.set k.toNatClampNeg v) := by
  obtain ⟨⟨kc, ⟨cl, A, q1, S, q3, H, G⟩, u⟩, q⟩ := O
  exact ⟨⟨kc, Arv.set A q1 S q3 H G hv W _ rfl hl, u⟩, by rw [List.length_set]; exact q⟩
theorem Frs.obj (q : Frs n0 (ob a C fs)) : n0 ≤ a := q.elim id fun ⟨_, _, r⟩ => by cases r
theorem Frs.arr {k : Nat} (q : Frs n0 (ar a ty z vs)) (hl : k < vs.length) : n0 ≤ a := q.elim id fun ⟨_, _, r⟩ => by cases r; cases hl
theorem Hp.get (H : Hp Z n0 h D) (hi : D[i]? = some x) : Frs n0 x ∧ itm Z h x := H.2.1 _ (List.mem_of_getElem? hi)
theorem Hp.obj (H : Hp Z n0 h D) (hi : D[i]? = some (ob a C fs)) : Obj Z h a C fs := (H.get hi).2
theorem Hp.ary (H : Hp Z n0 h D) (hi : D[i]? = some (ar a ty z vs)) : Ary Z h a ty z vs := (H.get hi).2
theorem Hp.fld (H : Hp Z n0 h D) (hi : D[i]? = some (ob a C fs)) (hj : fs[j]? = some (n, d, v)) : Fld Z h a C n d v := (H.obj hi).2.1 _ (List.mem_of_getElem? hj)
theorem Hp.exa (H : Hp Z n0 h D) (hi : D[i]? = some (ob a C fs)) : Exa Z h a C := (H.obj hi).1
theorem Hp.upd (H : Hp Z n0 h D) (hi : D[i]? = some (a, I)) (hfr : n0 ≤ a) (W : Wr h h' a sl v) (q : itm Z h (a, I) → itm Z h' (a, J)) : Hp Z n0 h' (D.set i (a, J)) := by
  have hil : i < D.length := (List.getElem?_eq_some_iff.mp hi).1
  refine ⟨H.1.wr W hfr, fun x hx => ?_, ?_⟩
  · obtain ⟨k, hk⟩ := List.mem_iff_getElem?.mp hx
    by_cases e : i = k
    · subst e
      rw [List.getElem?_set_self hil] at hk
      cases hk
      exact ⟨Or.inl hfr, q (H.get hi).2⟩
    · rw [List.getElem?_set_ne e] at hk
      refine ⟨(H.get hk).1, (H.get hk).2.other W fun r => e ?_⟩
      refine (List.getElem?_inj (i := i) (j := k) (by simpa using hil) H.2.2).mp ?_
      rw [List.getElem?_map, List.getElem?_map, hi, hk]
      simp [r]
  · rw [map_same _ D i (a, I) (a, J) hi rfl]; exact H.2.2
theorem Hp.new (H : Hp Z n0 h D) (E : Ext h h') (q : itm Z h' (h.size, I)) : Hp Z n0 h' (D ++ [(h.size, I)]) := by
  have hsz : n0 ≤ h.size := by rw [← H.1.1]; exact H.1.2.1
  refine ⟨H.1.ext E, fun x hx => ?_, ?_⟩
  · rcases List.mem_append.mp hx with r | r
    · exact ⟨(H.2.1 x r).1, (H.2.1 x r).2.ext E⟩
    · cases List.mem_singleton.mp r; exact ⟨Or.inl hsz, q⟩
  · rw [List.map_append, List.nodup_append]
    refine ⟨H.2.2, by simp, fun y hy z hz => ?_⟩
    obtain ⟨x, hx, rfl⟩ := List.mem_map.mp hy
    have : z = h.size := by simpa using hz
    rw [this]
    exact Nat.ne_of_lt (H.2.1 x hx).2.lt
theorem Hp.nil (Z : State) : Hp Z Z.heap.size Z.heap [] := ⟨Old.start Z, (fun _ q => by cases q), List.nodup_nil⟩
theorem Hp.ext (H : Hp Z n0 h D) (E : Ext h h') : Hp Z n0 h' D := ⟨H.1.ext E, fun x hx => ⟨(H.2.1 x hx).1, (H.2.1 x hx).2.ext E⟩, H.2.2⟩
/-- a walk stands at T, has made so many cells and slots, has written nothing old, and its heap holds D -/
def On (p : Program) (l : Launch) (e : Env) (R : Room) (s : State) (m : MethodId) (args : Array Value) (below : List Frame) (meth : Method) (c : Code) (Z : State) (n0 : Nat) (T : State) (cells slots : Nat) (D : List (Addr × Itm)) : Prop := ∃ locs, Stand p l e R s m args below meth c T locs cells slots ∧ Fr n0 locs ∧ Hp Z n0 T.heap D
theorem On.here (Y : On p l e R s m args below meth c Z n0 T cells slots D) : At T m c below := by obtain ⟨_, X, -⟩ := Y; exact X.here
/-- what is known of the heap may be forgotten -/
theorem On.weak {D D' : List (Addr × Itm)} (Y : On p l e R s m args below meth c Z n0 T cells slots D) (q : D'.Sublist D) : On p l e R s m args below meth c Z n0 T cells slots D' := by
  obtain ⟨locs, X, N, H⟩ := Y
  exact ⟨locs, X, N, H.1, fun x hx => H.2.1 x (q.subset hx), H.2.2.sublist (q.map _)⟩
/-! ## C. One law a step -/
theorem On.getf (Y : On p l e R s m args below meth c Z n0 T cells slots D) (hx : p.tables.exec = Jvm.exec) (hZ : Z.Warmed39 s.vm) {own : String} {index : Nat} (hown : s.vm.findClass own = some m.cls) (w : (Cond.fieldLink own index C n d).before a0 Z = true) (hi : D[i]? = some (ob a C fs)) (hj : fs[j]? = some (n, d, v))
    {g : JFrame} (hg : g.method = m) {rest : List Value} (hs : g.stack = .ref a :: rest) (hd : decode c.code g.pc = .ok (.getfield index, 3)) (k : ∀ T', On p l e R s m args below meth c Z n0 T' cells slots D → Rn p e below F T' { g with pc := g.pc + 3, stack := v :: rest }) : Rn p e below F T g := by
  obtain ⟨locs, X, N, H⟩ := Y
  obtain ⟨T', X', e', st⟩ := getF X hx hZ hown (host := "") (Or.inl w) Via.refl rfl (H.fld hi hj) hg hs hd
  exact Rn.go st (k T' ⟨locs, X', N, by rw [e']; exact H⟩)
theorem On.putf (Y : On p l e R s m args below meth c Z n0 T cells slots D) (hx : p.tables.exec = Jvm.exec) (hZ : Z.Warmed39 s.vm) {own : String} {index kk : Nat} (hown : s.vm.findClass own = some m.cls) (wl : (Cond.fieldLink own index C n d).before a0 Z = true) (hi : D[i]? = some (ob a C fs)) (hj : fs[j]? = some (n, d, w))
    (L : (Cond.lays C C n d).before a0 Z = true ∨ ((Cond.laysFinal C C n d).before a0 Z = true ∧ own = C ∧ meth.name = "<init>")) (wi : (Cond.instantiable C kk).before a0 Z = true) (hty : parseFieldDescriptor d = some ty) {v v' : Value} (hn : narrow ty v = v') (hf : fits ty v' = true)
    {g : JFrame} (hg : g.method = m) {rest : List Value} (hs : g.stack = v :: .ref a :: rest) (hd : decode c.code g.pc = .ok (.putfield index, 3)) (k : ∀ T', On p l e R s m args below meth c Z n0 T' cells slots (D.set i (ob a C (fs.set j (n, d, v')))) → Rn p e below F T' { g with pc := g.pc + 3, stack := rest }) : Rn p e below F T g := by
  obtain ⟨locs, X, N, H⟩ := Y
  obtain ⟨T', h', X', e', W, st⟩ := putFN X hx hZ hown wl Via.refl rfl (H.fld hi hj) (H.exa hi) L wi hty hn hf hg hs hd
  have hfr := (H.get hi).1.obj
  refine Rn.go st (k T' ⟨_, X', Fr.snoc X' N hfr, ?_⟩)
  rw [e']
  exact H.upd hi hfr W fun O => Obj.put hj W O
theorem On.newo (Y : On p l e R s m args below meth c Z n0 T cells slots D) (hx : p.tables.exec = Jvm.exec) (hZ : Z.Warmed39 s.vm) {own : String} {index k : Nat} (hown : s.vm.findClass own = some m.cls) (w : (Cond.classLink own index C).before a0 Z = true) (wi : (Cond.instantiable C k).before a0 Z = true) (wz : (Cond.initialized C).before a0 Z = true)
    (fs : List (String × String × Value)) (hl : ∀ f ∈ fs, Laid Z a0 C C f.1 f.2.1 ∧ ∃ ty, parseFieldDescriptor f.2.1 = some ty ∧ f.2.2 = defaultValue ty) (hn : (fs.map (·.1)).Nodup)
    {g : JFrame} (hg : g.method = m) (hd : decode c.code g.pc = .ok (.new index, 3)) (hc : cells + 1 ≤ R.cells) (hs : slots + k ≤ R.slots)
    (kk : ∀ T' a, On p l e R s m args below meth c Z n0 T' (cells + 1) (slots + k) (D ++ [ob a C fs]) → Rn p e below F T' { g with pc := g.pc + 3, stack := .ref a :: g.stack }) : Rn p e below F T g := by
  obtain ⟨locs, X, N, H⟩ := Y
  obtain ⟨T', h', X', e', E, A, Df, -, st⟩ := newO X hx hZ hown w wi wz rfl hg hd hc hs
  refine Rn.go st (kk T' _ ⟨_, X', N, ?_⟩)
  rw [e']
  refine H.new E (show Obj Z h' _ C fs from ⟨A, fun f hf => ?_, ?_⟩)
  · obtain ⟨L, ty, h1, h2⟩ := hl f hf
    rw [h2]; exact Df L h1
  · rw [List.nodup_iff_pairwise_ne, List.pairwise_map] at hn ⊢
    refine List.Pairwise.imp_of_mem (fun {x y} hx hy q => ?_) hn
    obtain ⟨L, ty, h1, -⟩ := hl x hx
    obtain ⟨L', ty', h1', -⟩ := hl y hy
    exact slot_ne L L' q h1 h1'
theorem On.newp (Y : On p l e R s m args below meth c Z n0 T cells slots D) (hx : p.tables.exec = Jvm.exec) (hZ : Z.Warmed39 s.vm) {aty : ArrayType} (w : (Cond.arrayClass (newarray.typeOf aty)).before a0 Z = true) {g : JFrame} (hg : g.method = m) (hd : decode c.code g.pc = .ok (.newarray aty, 2)) {z : Int32} {rest : List Value} (hs : g.stack = .int z :: rest)
    (hn : ¬ z < 0) {cap N : Nat} (hN : z.toNatClampNeg = N) (hcap : N ≤ cap) (hb : cap * 8 ≤ 536870912) (hc : cells + 1 ≤ R.cells) (hl : slots + cap ≤ R.slots) {dv : Value} (hdv : defaultValue (newarray.typeOf aty) = dv)
    (k : ∀ T' a, On p l e R s m args below meth c Z n0 T' (cells + 1) (slots + cap) (D ++ [ar a (newarray.typeOf aty) z (List.replicate N dv)]) → Rn p e below F T' { g with pc := g.pc + 2, stack := .ref a :: rest }) : Rn p e below F T g := by
  obtain ⟨locs, X, Nl, H⟩ := Y
  subst hN hdv
  obtain ⟨T', h', cA, X', e', E, A, st⟩ := newP X hx hZ w rfl hg hd hs hn hcap hb hc hl
  refine Rn.go st (k T' _ ⟨_, X', Nl, ?_⟩)
  rw [e']
  exact H.new E (show Ary Z h' _ _ z _ from ⟨⟨_, (Arv.new A hn).pad (pad_rep [] _ _), fun C hC => by cases aty <;> cases hC⟩, by simp⟩)
theorem On.newr (Y : On p l e R s m args below meth c Z n0 T cells slots D) (hx : p.tables.exec = Jvm.exec) (hZ : Z.Warmed39 s.vm) {own : String} {index : Nat} (hown : s.vm.findClass own = some m.cls) (w1 : (Cond.classLink own index C).before a0 Z = true) (w2 : (Cond.arrayOver (.object C)).before a0 Z = true) {g : JFrame} (hg : g.method = m) (hd : decode c.code g.pc = .ok (.anewarray index, 3)) {z : Int32} {rest : List Value} (hs : g.stack = .int z :: rest)
    (hn : ¬ z < 0) {cap N : Nat} (hN : z.toNatClampNeg = N) (hcap : N ≤ cap) (hb : cap * 8 ≤ 536870912) (hc : cells + 1 ≤ R.cells) (hl : slots + cap ≤ R.slots)
    (k : ∀ T' a, On p l e R s m args below meth c Z n0 T' (cells + 1) (slots + cap) (D ++ [ar a (.object C) z (List.replicate N .null)]) → Rn p e below F T' { g with pc := g.pc + 3, stack := .ref a :: rest }) : Rn p e below F T g := by
  obtain ⟨locs, X, Nl, H⟩ := Y
  subst hN
  obtain ⟨T', h', cA, X', e', E, A, O, st⟩ := newR X hx hZ hown w1 w2 rfl hg hd hs hn hcap hb hc hl
  refine Rn.go st (k T' _ ⟨_, X', Nl, ?_⟩)
  rw [e']
  exact H.new E (show Ary Z h' _ _ z _ from ⟨⟨_, (Arv.new A hn).pad (pad_rep [] _ _), fun C' hC => by cases hC; exact O⟩, by simp⟩)
theorem On.isto (Y : On p l e R s m args below meth c Z n0 T cells slots D) (hx : p.tables.exec = Jvm.exec) (hZ : Z.Warmed39 s.vm) {xs : List Int32} (hi : D[i]? = some (ari a .int z xs)) {k x : Int32} (hk : ¬ k < 0) (hl : k.toNatClampNeg < xs.length)
    {g : JFrame} (hg : g.method = m) {rest : List Value} (hs : g.stack = .int x :: .int k :: .ref a :: rest) (hd : decode c.code g.pc = .ok (.iastore, 1))
    (kk : ∀ T', On p l e R s m args below meth c Z n0 T' cells slots (D.set i (ari a .int z (xs.set k.toNatClampNeg x))) → Rn p e below F T' { g with pc := g.pc + 1, stack := rest }) : Rn p e below F T g := by
  obtain ⟨locs, X, N, H⟩ := Y
  obtain ⟨⟨kc, ⟨cl, A, q1, S, q3, Hh, G⟩, -⟩, q⟩ := H.ary hi
  have hl' : k.toNatClampNeg < (xs.map Value.int).length := by simpa using hl
  obtain ⟨T', h', X', e', W, st⟩ := stI X hx hZ rfl A (fun r => r.elim hk fun r => absurd hl' (by rw [q, ← S]; exact Nat.not_lt.mpr r)) hg hs hd
  have hfr := (H.get hi).1.arr hl'
  refine Rn.go st (kk T' ⟨_, X', Fr.snoc X' N hfr, ?_⟩)
  rw [e']
  refine H.upd hi hfr W fun O => ?_
  have := Ary.put hk hl' rfl W O
  rw [← List.map_set] at this
  exact this
theorem On.bsto (Y : On p l e R s m args below meth c Z n0 T cells slots D) (hx : p.tables.exec = Jvm.exec) (hZ : Z.Warmed39 s.vm) {xs : List Int32} (hi : D[i]? = some (ari a .byte z xs)) {k x : Int32} (hk : ¬ k < 0) (hl : k.toNatClampNeg < xs.length)
    {g : JFrame} (hg : g.method = m) {rest : List Value} (hs : g.stack = .int x :: .int k :: .ref a :: rest) (hd : decode c.code g.pc = .ok (.bastore, 1))
    (kk : ∀ T', On p l e R s m args below meth c Z n0 T' cells slots (D.set i (ari a .byte z (xs.set k.toNatClampNeg x.toInt8.toInt32))) → Rn p e below F T' { g with pc := g.pc + 1, stack := rest }) : Rn p e below F T g := by
  obtain ⟨locs, X, N, H⟩ := Y
  obtain ⟨⟨kc, ⟨cl, A, q1, S, q3, Hh, G⟩, -⟩, q⟩ := H.ary hi
  have hl' : k.toNatClampNeg < (xs.map Value.int).length := by simpa using hl
  obtain ⟨T', h', X', e', W, st⟩ := stB X hx hZ rfl A (fun r => r.elim hk fun r => absurd hl' (by rw [q, ← S]; exact Nat.not_lt.mpr r)) hg hs hd
  have hfr := (H.get hi).1.arr hl'
  refine Rn.go st (kk T' ⟨_, X', Fr.snoc X' N hfr, ?_⟩)
  rw [e']
  refine H.upd hi hfr W fun O => ?_
  have := Ary.put hk hl' (fits_nar_byte _) W O
  rw [← List.map_set] at this
  exact this
theorem On.zsto (Y : On p l e R s m args below meth c Z n0 T cells slots D) (hx : p.tables.exec = Jvm.exec) (hZ : Z.Warmed39 s.vm) {xs : List Int32} (hi : D[i]? = some (ari a .boolean z xs)) {k x : Int32} (hk : ¬ k < 0) (hl : k.toNatClampNeg < xs.length)
    {g : JFrame} (hg : g.method = m) {rest : List Value} (hs : g.stack = .int x :: .int k :: .ref a :: rest) (hd : decode c.code g.pc = .ok (.bastore, 1))
    (kk : ∀ T', On p l e R s m args below meth c Z n0 T' cells slots (D.set i (ari a .boolean z (xs.set k.toNatClampNeg (x &&& 1)))) → Rn p e below F T' { g with pc := g.pc + 1, stack := rest }) : Rn p e below F T g := by
  obtain ⟨locs, X, N, H⟩ := Y
  obtain ⟨⟨kc, ⟨cl, A, q1, S, q3, Hh, G⟩, -⟩, q⟩ := H.ary hi
  have hl' : k.toNatClampNeg < (xs.map Value.int).length := by simpa using hl
  obtain ⟨T', h', X', e', W, st⟩ := stZ X hx hZ rfl A (fun r => r.elim hk fun r => absurd hl' (by rw [q, ← S]; exact Nat.not_lt.mpr r)) hg hs hd
  have hfr := (H.get hi).1.arr hl'
  refine Rn.go st (kk T' ⟨_, X', Fr.snoc X' N hfr, ?_⟩)
  rw [e']
  refine H.upd hi hfr W fun O => ?_
  have := Ary.put hk hl' (fits_nar_bool _) W O
  rw [← List.map_set] at this
  exact this
theorem On.jsto (Y : On p l e R s m args below meth c Z n0 T cells slots D) (hx : p.tables.exec = Jvm.exec) (hZ : Z.Warmed39 s.vm) {xs : List Int64} (hi : D[i]? = some (arj a z xs)) {k : Int32} {x : Int64} (hk : ¬ k < 0) (hl : k.toNatClampNeg < xs.length)
    {g : JFrame} (hg : g.method = m) {rest : List Value} (hs : g.stack = .long x :: .int k :: .ref a :: rest) (hd : decode c.code g.pc = .ok (.lastore, 1))
    (kk : ∀ T', On p l e R s m args below meth c Z n0 T' cells slots (D.set i (arj a z (xs.set k.toNatClampNeg x))) → Rn p e below F T' { g with pc := g.pc + 1, stack := rest }) : Rn p e below F T g := by
  obtain ⟨locs, X, N, H⟩ := Y
  obtain ⟨⟨kc, ⟨cl, A, q1, S, q3, Hh, G⟩, -⟩, q⟩ := H.ary hi
  have hl' : k.toNatClampNeg < (xs.map Value.long).length := by simpa using hl
  obtain ⟨T', h', X', e', W, st⟩ := stJ X hx hZ rfl A (fun r => r.elim hk fun r => absurd hl' (by rw [q, ← S]; exact Nat.not_lt.mpr r)) hg hs hd
  have hfr := (H.get hi).1.arr hl'
  refine Rn.go st (kk T' ⟨_, X', Fr.snoc X' N hfr, ?_⟩)
  rw [e']
  refine H.upd hi hfr W fun O => ?_
  have := Ary.put hk hl' rfl W O
  rw [← List.map_set] at this
  exact this
/-- the cell of an array, opened for a load -/
theorem Ary.at (O : Ary Z h a ty z vs) {k : Int32} (hk : ¬ k < 0) (hv : vs[k.toNatClampNeg]? = some v) : ∃ cl, Arr Z h a cl ty ∧ ¬ (k < 0 ∨ cl.slots.size ≤ k.toNatClampNeg) ∧ cl.slots[k.toNatClampNeg]? = some v := by
  obtain ⟨⟨kc, ⟨cl, A, q1, S, q3, H, G⟩, -⟩, q⟩ := O
  have hl := (List.getElem?_eq_some_iff.mp hv).1
  have hl2 : k.toNatClampNeg < cl.slots.size := by rw [S, ← q]; exact hl
  exact ⟨cl, A, fun r => r.elim hk (Nat.not_le.mpr hl2), by rw [H _ hl2, List.getD_eq_getElem?_getD, hv]; rfl⟩
theorem On.ild (Y : On p l e R s m args below meth c Z n0 T cells slots D) (hx : p.tables.exec = Jvm.exec) (hZ : Z.Warmed39 s.vm) {xs : List Int32} (hi : D[i]? = some (ari a .int z xs)) {k x : Int32} (hk : ¬ k < 0) (hv : xs[k.toNatClampNeg]? = some x)
    {g : JFrame} (hg : g.method = m) {rest : List Value} (hs : g.stack = .int k :: .ref a :: rest) (hd : decode c.code g.pc = .ok (.iaload, 1))
    (kk : Rn p e below F T { g with pc := g.pc + 1, stack := .int x :: rest }) : Rn p e below F T g := by
  obtain ⟨locs, X, N, H⟩ := Y
  obtain ⟨cl, A, h1, h2⟩ := (H.ary hi).at (v := .int x) hk (by simp [List.getElem?_map, hv])
  exact Rn.go (fun t kt => X.iaload hx A.1 (State.isArrayOf_alike hZ.alike A.2.1) A.2.2 h1 h2 hg hs hd t kt) kk
theorem On.bld (Y : On p l e R s m args below meth c Z n0 T cells slots D) (hx : p.tables.exec = Jvm.exec) (hZ : Z.Warmed39 s.vm) {xs : List Int32} (hi : D[i]? = some (ari a .byte z xs)) {k x : Int32} (hk : ¬ k < 0) (hv : xs[k.toNatClampNeg]? = some x)
    {g : JFrame} (hg : g.method = m) {rest : List Value} (hs : g.stack = .int k :: .ref a :: rest) (hd : decode c.code g.pc = .ok (.baload, 1))
    (kk : Rn p e below F T { g with pc := g.pc + 1, stack := .int x :: rest }) : Rn p e below F T g := by
  obtain ⟨locs, X, N, H⟩ := Y
  obtain ⟨cl, A, h1, h2⟩ := (H.ary hi).at (v := .int x) hk (by simp [List.getElem?_map, hv])
  exact Rn.go (fun t kt => X.baloadBytes hx A.1 (State.isArrayOf_alike hZ.alike A.2.1) A.2.2 h1 h2 hg hs hd t kt) kk
theorem On.zld (Y : On p l e R s m args below meth c Z n0 T cells slots D) (hx : p.tables.exec = Jvm.exec) (hZ : Z.Warmed39 s.vm) {xs : List Int32} (hi : D[i]? = some (ari a .boolean z xs)) {k x : Int32} (hk : ¬ k < 0) (hv : xs[k.toNatClampNeg]? = some x)
    {g : JFrame} (hg : g.method = m) {rest : List Value} (hs : g.stack = .int k :: .ref a :: rest) (hd : decode c.code g.pc = .ok (.baload, 1))
    (kk : Rn p e below F T { g with pc := g.pc + 1, stack := .int x :: rest }) : Rn p e below F T g := by
  obtain ⟨locs, X, N, H⟩ := Y
  obtain ⟨cl, A, h1, h2⟩ := (H.ary hi).at (v := .int x) hk (by simp [List.getElem?_map, hv])
  exact Rn.go (fun t kt => X.baloadBooleans hx A.1 (State.isArrayOf_alike hZ.alike A.2.1) A.2.2 h1 h2 hg hs hd t kt) kk
theorem On.jld (Y : On p l e R s m args below meth c Z n0 T cells slots D) (hx : p.tables.exec = Jvm.exec) (hZ : Z.Warmed39 s.vm) {xs : List Int64} (hi : D[i]? = some (arj a z xs)) {k : Int32} {x : Int64} (hk : ¬ k < 0) (hv : xs[k.toNatClampNeg]? = some x)
    {g : JFrame} (hg : g.method = m) {rest : List Value} (hs : g.stack = .int k :: .ref a :: rest) (hd : decode c.code g.pc = .ok (.laload, 1))
    (kk : Rn p e below F T { g with pc := g.pc + 1, stack := .long x :: rest }) : Rn p e below F T g := by
  obtain ⟨locs, X, N, H⟩ := Y
  obtain ⟨cl, A, h1, h2⟩ := (H.ary hi).at (v := .long x) hk (by simp [List.getElem?_map, hv])
  exact Rn.go (fun t kt => X.laload hx A.1 (State.isArrayOf_alike hZ.alike A.2.1) A.2.2 h1 h2 hg hs hd t kt) kk
theorem On.alen (Y : On p l e R s m args below meth c Z n0 T cells slots D) (hx : p.tables.exec = Jvm.exec) (hZ : Z.Warmed39 s.vm) (hi : D[i]? = some (ar a ty z vs))
    {g : JFrame} (hg : g.method = m) {rest : List Value} (hs : g.stack = .ref a :: rest) (hd : decode c.code g.pc = .ok (.arraylength, 1))
    (kk : Rn p e below F T { g with pc := g.pc + 1, stack := .int z :: rest }) : Rn p e below F T g := by
  obtain ⟨locs, X, N, H⟩ := Y
  obtain ⟨⟨kc, ⟨cl, A, q1, S, q3, Hh, G⟩, -⟩, q⟩ := H.ary hi
  refine Rn.go (fun t kt => X.arraylength hx A.1 (State.isArrayOf_alike hZ.alike A.2.1) hg hs hd t kt) ?_
  rw [len_of S q3]; exact kk
theorem On.ldcI (Y : On p l e R s m args below meth c Z n0 T cells slots D) (hx : p.tables.exec = Jvm.exec) (hZ : Z.Warmed39 s.vm) {own : String} {index : Nat} {x : Int32} (hown : s.vm.findClass own = some m.cls) (w : (Cond.constant own index x).before a0 Z = true)
    {g : JFrame} (hg : g.method = m) (hd : decode c.code g.pc = .ok (.ldc index, 2)) (kk : Rn p e below F T { g with pc := g.pc + 2, stack := .int x :: g.stack }) : Rn p e below F T g := by
  obtain ⟨locs, X, N, H⟩ := Y
  exact Rn.go (X.ldcInt hx hown (mvT hZ w) hg hd) kk
theorem On.ldcJ (Y : On p l e R s m args below meth c Z n0 T cells slots D) (hx : p.tables.exec = Jvm.exec) (hZ : Z.Warmed39 s.vm) {own : String} {index : Nat} {x : Int64} (hown : s.vm.findClass own = some m.cls) (w : (Cond.constantLong own index x).before a0 Z = true)
    {g : JFrame} (hg : g.method = m) (hd : decode c.code g.pc = .ok (.ldc2_w index, 3)) (kk : Rn p e below F T { g with pc := g.pc + 3, stack := .long x :: g.stack }) : Rn p e below F T g := by
  obtain ⟨locs, X, N, H⟩ := Y
  exact Rn.go (X.ldc2Long hx hown (mvT hZ w) hg hd) kk
theorem On.sldcI (Y : On p l e R s m args below meth c Z n0 T cells slots D) (hx : p.tables.exec = Jvm.exec) (hZ : Z.Warmed39 s.vm) {own : String} {index : Nat} {x : Int32} (hown : s.vm.findClass own = some m.cls) (w : (Cond.constant own index x).before a0 Z = true)
    {g : JFrame} (hg : g.method = m) (hd : decode c.code g.pc = .ok (.ldc index, 2)) : ∀ t, Steps p.tables e below (T.setTop { g with pc := g.pc + 2, stack := .int x :: g.stack }) t → Steps p.tables e below (T.setTop g) t := by
  obtain ⟨locs, X, N, H⟩ := Y
  exact X.ldcInt hx hown (mvT hZ w) hg hd
theorem On.sldcJ (Y : On p l e R s m args below meth c Z n0 T cells slots D) (hx : p.tables.exec = Jvm.exec) (hZ : Z.Warmed39 s.vm) {own : String} {index : Nat} {x : Int64} (hown : s.vm.findClass own = some m.cls) (w : (Cond.constantLong own index x).before a0 Z = true)
    {g : JFrame} (hg : g.method = m) (hd : decode c.code g.pc = .ok (.ldc2_w index, 3)) : ∀ t, Steps p.tables e below (T.setTop { g with pc := g.pc + 3, stack := .long x :: g.stack }) t → Steps p.tables e below (T.setTop g) t := by
  obtain ⟨locs, X, N, H⟩ := Y
  exact X.ldc2Long hx hown (mvT hZ w) hg hd
theorem On.ini (Y : On p l e R s m args below meth c Z n0 T cells slots D) (hx : p.tables.exec = Jvm.exec) (hZ : Z.Warmed39 s.vm) {own : String} {idx : Nat} (hown : s.vm.findClass own = some m.cls) (w1 : (Cond.methodLink own idx Lib.objectInit).before a0 Z = true) (w2 : (Cond.instanceMethod Lib.objectInit).before a0 Z = true)
    (w3 : (Cond.code Lib.objectInit ⟨#[0xb1]⟩ 1 none).before a0 Z = true) {g : JFrame} (hg : g.method = m) (hsize : g.locals.size = c.maxLocals) {a : Addr} {rest : List Value} (hs : g.stack = .ref a :: rest) (hd : decode c.code g.pc = .ok (.invokespecial idx, 3))
    (hf : 1 ≤ R.frames) {W : Nat} (hW : 2 * g.monitorRoom + (rest.map fun v => v.category).sum ≤ W) (hl : W + 12 ≤ R.locals)
    (k : ∀ T', On p l e R s m args below meth c Z n0 T' cells slots D → Rn p e below F T' { g with pc := g.pc + 3, stack := rest }) : Rn p e below F T g := by
  obtain ⟨locs, X, N, H⟩ := Y
  obtain ⟨T', X', e', st⟩ := initO X hx hZ hown w1 w2 w3 rfl hg hsize hs hd hf hW hl
  exact Rn.go st (k T' ⟨locs, X', N, by rw [e']; exact H⟩)
/-! ## D. A method's contract: from a heap that holds D, with these arguments, it returns v and leaves a heap that holds D', where P v D' -/
def QP (Z : State) (n0 : Nat) (P : Option Value → List (Addr × Itm) → Prop) (v : Option Value) (h : Heap) (L : List Loc) : Prop := ∃ D', P v D' ∧ Fr n0 L ∧ Hp Z n0 h D'
def Con (l : Launch) (Z : State) (n0 : Nat) (y : MethodName) (bytes : ByteArray) (maxL : Nat) (ret : Option FieldType) (rm : Room) (as : Array Value) (D : List (Addr × Itm)) (P : Option Value → List (Addr × Itm) → Prop) : Prop :=
  ∀ (ws : List Cond) (h0 : Heap), Hp Z n0 h0 D → MetFree l y (head1 (Cond.code y bytes maxL ret :: ws) rm) (fun a U => a = as ∧ Z.Warmed39 U.vm ∧ U.heap = h0) (fun _ _ _ _ _ => True) (fun _ U o U' => ∃ v L, o = .returned v ∧ QP Z n0 P v U'.heap L ∧ FrameEnd U o U' L rm.cells rm.slots)
def Cx (p : Program) (s : State) (m : MethodId) (meth : Method) (c : Code) (Z : State) (y : MethodName) (bytes : ByteArray) (maxL : Nat) (ret : Option FieldType) : Prop :=
  p.tables.exec = Jvm.exec ∧ c.code = bytes ∧ c.maxLocals = maxL ∧ s.vm.findClass y.cls = some m.cls ∧ meth.name = y.name ∧ meth.sig.returnType = ret ∧ meth.locks = false ∧ Z.Warmed39 s.vm
def Fi (Z : State) (n0 : Nat) (below : List Frame) (s : State) (kc ks : Nat) (P : Option Value → List (Addr × Itm) → Prop) (U : State) : Prop := ∃ o, U.status = .running ∧ Ended U below o ∧ ∃ v L, o = .returned v ∧ QP Z n0 P v U.heap L ∧ FrameEnd s o U L kc ks
variable {y : MethodName} {bytes : ByteArray} {maxL : Nat} {ret : Option FieldType} {rm : Room} {as : Array Value} {P : Option Value → List (Addr × Itm) → Prop} {kc ks : Nat}
theorem Con.of (hp : plainFor y = true) (body : ∀ {p : Program} {e : Env} {s : State} {m : MethodId} {below : List Frame} {meth : Method} {c : Code} {T : State}, Cx p s m meth c Z y bytes maxL ret → On p l e rm s m as below meth c Z n0 T 0 0 D → Rn p e below (Fi Z n0 below s rm.cells rm.slots P) T (entryFrame m as maxL)) :
    Con l Z n0 y bytes maxL ret rm as D P := by
  intro ws h0 H
  refine MetFree.of_bodySF hp hisR ?_
  intro p e s m args below meth c s₁ Bd hml0 hP hK
  obtain ⟨rfl, hZ, hh⟩ := hP
  have X0 : Stand p l e rm s m args below meth c s₁ [] 0 0 := Stand.of_body Bd
  have e0 : s₁.heap = h0 := by rw [← hh, Bd.state]; rfl
  obtain ⟨U, h1, o, h2, h3, h4⟩ := body ⟨Bd.exec, Bd.bytes, hml0, findClass_of_methodNamed Bd.named, (name_of_methodNamed Bd.named Bd.method).1, Bd.returns, Bd.notSynchronized, hZ⟩ ⟨[], X0, Fr.nil n0, by rw [e0]; exact H⟩
  exact ⟨U, o, h1, h2, h3, h4⟩
theorem On.out (Y : On p l e R s m args below meth c Z n0 T cells slots D) {v : Option Value} (hv : meth.sig.returnType = none → v = none) (hlk : meth.locks = false) (hc : cells ≤ kc) (hs : slots ≤ ks) (hP : P v D)
    (st : ∀ locs fs, Stand p l e R s m args below meth c T locs cells slots → (∀ (f : JFrame) (acts : List Action), f.method = m → f.locked = none → f.entered = [] → (doReturn e (T.setTop f) acts v).1 = T.setFrames fs) → Steps p.tables e below (T.setTop g) (T.setFrames fs)) : Rn p e below (Fi Z n0 below s kc ks P) T g := by
  obtain ⟨locs, X, N, H⟩ := Y
  obtain ⟨fs, hr, hrun, hended, hW, hsame⟩ := X.leave hv hlk
  exact ⟨_, st locs fs X hr, _, hrun, hended, _, _, rfl, ⟨D, hP, N, H⟩, ⟨_, rfl⟩, hW, hsame.mono hc hs⟩
theorem On.retv (Y : On p l e R s m args below meth c Z n0 T cells slots D) (hx : p.tables.exec = Jvm.exec) (hret : meth.sig.returnType = none) (hlk : meth.locks = false) {pc : Nat} {Ls : Array Slot} (hd : decode c.code pc = .ok (.return_, 1)) (hc : cells ≤ kc) (hs : slots ≤ ks) (hP : P none D) : Rn p e below (Fi Z n0 below s kc ks P) T (mkF m pc Ls []) :=
  Y.out (fun _ => rfl) hlk hc hs hP fun locs fs X hr => X.returnOut hx hret hd hr
theorem On.reti (Y : On p l e R s m args below meth c Z n0 T cells slots D) (hx : p.tables.exec = Jvm.exec) (hret : meth.sig.returnType = some .int) (hlk : meth.locks = false) {pc : Nat} {Ls : Array Slot} {z : Int32} {rest : List Value} (hd : decode c.code pc = .ok (.ireturn, 1)) (hc : cells ≤ kc) (hs : slots ≤ ks) (hP : P (some (.int z)) D) : Rn p e below (Fi Z n0 below s kc ks P) T (mkF m pc Ls (.int z :: rest)) :=
  Y.out (fun q => by rw [hret] at q; cases q) hlk hc hs hP fun locs fs X hr => retOut X hx hret rfl (Or.inl ⟨rfl, Or.inl rfl, _, rfl⟩) hd hr
theorem On.retn (Y : On p l e R s m args below meth c Z n0 T cells slots D) (hx : p.tables.exec = Jvm.exec) {t : FieldType} (hret : meth.sig.returnType = some t) (ht : t = .boolean ∨ t = .byte ∨ t = .char ∨ t = .short) (hlk : meth.locks = false) {pc : Nat} {Ls : Array Slot} {z z' : Int32} (hz : nar t z = z') {rest : List Value} (hd : decode c.code pc = .ok (.ireturn, 1)) (hc : cells ≤ kc) (hs : slots ≤ ks) (hP : P (some (.int z')) D) : Rn p e below (Fi Z n0 below s kc ks P) T (mkF m pc Ls (.int z :: rest)) := by
  subst hz
  exact Y.out (fun q => by rw [hret] at q; cases q) hlk hc hs hP fun locs fs X hr => retN X hx hret ht hd hr
theorem On.retj (Y : On p l e R s m args below meth c Z n0 T cells slots D) (hx : p.tables.exec = Jvm.exec) (hret : meth.sig.returnType = some .long) (hlk : meth.locks = false) {pc : Nat} {Ls : Array Slot} {z : Int64} {rest : List Value} (hd : decode c.code pc = .ok (.lreturn, 1)) (hc : cells ≤ kc) (hs : slots ≤ ks) (hP : P (some (.long z)) D) : Rn p e below (Fi Z n0 below s kc ks P) T (mkF m pc Ls (.long z :: rest)) :=
  Y.out (fun q => by rw [hret] at q; cases q) hlk hc hs hP fun locs fs X hr => retOut X hx hret rfl (Or.inr (Or.inl ⟨rfl, rfl, _, rfl⟩)) hd hr
theorem On.reta (Y : On p l e R s m args below meth c Z n0 T cells slots D) (hx : p.tables.exec = Jvm.exec) {t : FieldType} (hret : meth.sig.returnType = some t) (ht : t.isReference = true) (hlk : meth.locks = false) {pc : Nat} {Ls : Array Slot} {z : Value} (hz : z.isRef = true) (hn : narrow t z = z) {rest : List Value} (hd : decode c.code pc = .ok (.areturn, 1)) (hc : cells ≤ kc) (hs : slots ≤ ks) (hP : P (some z) D) : Rn p e below (Fi Z n0 below s kc ks P) T (mkF m pc Ls (z :: rest)) :=
  Y.out (fun q => by rw [hret] at q; cases q) hlk hc hs hP fun locs fs X hr => retOut X hx hret hn (Or.inr (Or.inr (Or.inr (Or.inr ⟨rfl, ht, hz⟩)))) hd hr
/-! ## E. Calls -/
theorem On.special (Y : On p l e R s m args below meth c Z n0 T cells slots D) (hx : p.tables.exec = Jvm.exec) (hZ : Z.Warmed39 s.vm) {own : String} {index : Nat} (hy1 : y.name = "<init>") (hown : s.vm.findClass own = some m.cls) (w1 : (Cond.methodLink own index y).before a0 Z = true) (w2 : (Cond.instanceMethod y).before a0 Z = true) (w3 : (Cond.code y bytes maxL none).before a0 Z = true) (w4 : (Cond.initialized y.cls).before a0 Z = true)
    (hy : y.cls ≠ "java/lang/invoke/MethodHandle" ∧ y.cls ≠ "java/lang/invoke/VarHandle") {a : Addr} {argsL rest : List Value} (K : Con l Z n0 y bytes maxL none rm (.ref a :: argsL).toArray D P)
    {W : Nat} (hf : rm.frames + 1 ≤ R.frames) (hl : W + (maxL + 11) + rm.locals ≤ R.locals) (hc : cells + rm.cells ≤ R.cells) (hs : slots + rm.slots ≤ R.slots)
    {g : JFrame} (hg : g.method = m) (hsize : g.locals.size = c.maxLocals) (hlen : ∀ sig, parseMethodDescriptor y.desc = some sig → argsL.length = sig.parameters.length) (hstack : g.stack = argsL.reverse ++ .ref a :: rest) (hW : 2 * g.monitorRoom + (rest.map fun v => v.category).sum ≤ W) (hd : decode c.code g.pc = .ok (.invokespecial index, 3))
    (k : ∀ T' v D', P v D' → On p l e R s m args below meth c Z n0 T' (cells + rm.cells) (slots + rm.slots) D' → Rn p e below F T' { g with pc := g.pc + 3, stack := v.toList ++ rest }) : Rn p e below F T g := by
  obtain ⟨locs, X, N, H⟩ := Y
  obtain ⟨v, _, ⟨T', L', k', n'⟩, -, X', ⟨Lc, hQ, l', y', z'⟩, st⟩ := X.specialBack hx hy1 hown (mvT hZ w1) (mvT hZ w2) (mvT hZ w3) hy (backOf (W := W) (K [] T.heap H) hZ w3 w4 hf hl) hg hsize (Steps.refl _) (a := a) (argsL := argsL) (rest := rest) hlen hstack hW hd (fun _ _ => ⟨rfl, rfl, hc, hs⟩)
  dsimp only [Pt.U, Pt.locs, Pt.cells, Pt.slots] at X' l' y' z' st hQ
  subst l' y' z'
  obtain ⟨D', hP, N', H'⟩ := hQ
  exact Rn.to st (k T' v D' hP ⟨_, X', Fr.app N N', H'⟩)
theorem On.virtual (Y : On p l e R s m args below meth c Z n0 T cells slots D) (hx : p.tables.exec = Jvm.exec) (hZ : Z.Warmed39 s.vm) {own : String} {index : Nat} (hown : s.vm.findClass own = some m.cls) (w1 : (Cond.methodLink own index y).before a0 Z = true) (w2 : (Cond.declares y).before a0 Z = true) (w3 : (Cond.instanceMethod y).before a0 Z = true) (w4 : (Cond.selects C y y).before a0 Z = true) (w5 : (Cond.code y bytes maxL ret).before a0 Z = true) (w6 : (Cond.initialized y.cls).before a0 Z = true)
    (hy : y.cls ≠ "java/lang/invoke/MethodHandle" ∧ y.cls ≠ "java/lang/invoke/VarHandle") {a : Addr} {argsL rest : List Value} (hi : D[i]? = some (ob a C fs)) (K : Con l Z n0 y bytes maxL ret rm (.ref a :: argsL).toArray D P)
    {W : Nat} (hf : rm.frames + 1 ≤ R.frames) (hl : W + (maxL + 11) + rm.locals ≤ R.locals) (hc : cells + rm.cells ≤ R.cells) (hs : slots + rm.slots ≤ R.slots)
    {g : JFrame} (hg : g.method = m) (hsize : g.locals.size = c.maxLocals) (hlen : ∀ sig, parseMethodDescriptor y.desc = some sig → argsL.length = sig.parameters.length) (hstack : g.stack = argsL.reverse ++ .ref a :: rest) (hW : 2 * g.monitorRoom + (rest.map fun v => v.category).sum ≤ W) (hd : decode c.code g.pc = .ok (.invokevirtual index, 3))
    (k : ∀ T' v D', P v D' → On p l e R s m args below meth c Z n0 T' (cells + rm.cells) (slots + rm.slots) D' → Rn p e below F T' { g with pc := g.pc + 3, stack := v.toList ++ rest }) : Rn p e below F T g := by
  obtain ⟨locs, X, N, H⟩ := Y
  obtain ⟨cq, kq, qa, qb, qc⟩ := isOf hZ rfl (H.exa hi)
  obtain ⟨v, _, ⟨T', L', k', n'⟩, -, X', ⟨Lc, hQ, l', y', z'⟩, st⟩ := X.virtualBack hx (y := y) (z := y) hown (mvT hZ w1) (mvT hZ w2) (notFace_of_selects (args := #[]) (mvT hZ w4)) (mvT hZ w4) (mvT hZ w3) hy (backOf (W := W) (K [] T.heap H) hZ w5 w6 hf hl) qa qc hg hsize (Steps.refl _) (argsL := argsL) (rest := rest) hlen hstack hW hd (fun _ _ => ⟨rfl, rfl, hc, hs⟩)
  dsimp only [Pt.U, Pt.locs, Pt.cells, Pt.slots] at X' l' y' z' st hQ
  subst l' y' z'
  obtain ⟨D', hP, N', H'⟩ := hQ
  exact Rn.to st (k T' v D' hP ⟨_, X', Fr.app N N', H'⟩)
theorem On.static (Y : On p l e R s m args below meth c Z n0 T cells slots D) (hx : p.tables.exec = Jvm.exec) (hZ : Z.Warmed39 s.vm) {own : String} {index : Nat} (hown : s.vm.findClass own = some m.cls) (w1 : (Cond.methodLink own index y).before a0 Z = true) (w2 : (Cond.static y).before a0 Z = true) (w3 : (Cond.code y bytes maxL ret).before a0 Z = true) (w4 : (Cond.initialized y.cls).before a0 Z = true)
    (hy : y.cls ≠ "java/lang/invoke/MethodHandle" ∧ y.cls ≠ "java/lang/invoke/VarHandle") {argsL rest : List Value} (K : Con l Z n0 y bytes maxL ret rm argsL.toArray D P)
    {W : Nat} (hf : rm.frames + 1 ≤ R.frames) (hl : W + (maxL + 11) + rm.locals ≤ R.locals) (hc : cells + rm.cells ≤ R.cells) (hs : slots + rm.slots ≤ R.slots)
    {g : JFrame} (hg : g.method = m) (hsize : g.locals.size = c.maxLocals) (hlen : ∀ sig, parseMethodDescriptor y.desc = some sig → argsL.length = sig.parameters.length) (hstack : g.stack = argsL.reverse ++ rest) (hW : 2 * g.monitorRoom + (rest.map fun v => v.category).sum ≤ W) (hd : decode c.code g.pc = .ok (.invokestatic index, 3))
    (k : ∀ T' v D', P v D' → On p l e R s m args below meth c Z n0 T' (cells + rm.cells) (slots + rm.slots) D' → Rn p e below F T' { g with pc := g.pc + 3, stack := v.toList ++ rest }) : Rn p e below F T g := by
  obtain ⟨locs, X, N, H⟩ := Y
  obtain ⟨v, _, ⟨T', L', k', n'⟩, -, X', ⟨Lc, hQ, l', y', z'⟩, st⟩ := Jvm.LawKit.callS X hx hown (mvT hZ w1) (mvT hZ w2) (mvT hZ w4) (mvT hZ w3) hy (backOf (W := W) (K [] T.heap H) hZ w3 w4 hf hl) hg hsize (argsL := argsL) (rest := rest) hlen hstack hW hd (fun _ _ => ⟨rfl, rfl, hc, hs⟩)
  dsimp only [Pt.U, Pt.locs, Pt.cells, Pt.slots] at X' l' y' z' st hQ
  subst l' y' z'
  obtain ⟨D', hP, N', H'⟩ := hQ
  exact Rn.go st (k T' v D' hP ⟨_, X', Fr.app N N', H'⟩)
theorem On.priv (Y : On p l e R s m args below meth c Z n0 T cells slots D) (hx : p.tables.exec = Jvm.exec) (hZ : Z.Warmed39 s.vm) {own : String} {index kk : Nat} (hown : s.vm.findClass own = some m.cls) (w1 : (Cond.methodLink own index y).before a0 Z = true) (w2 : (Cond.instanceMethod y).before a0 Z = true) (w3 : (Cond.privateMethod y).before a0 Z = true) (wi : (Cond.instantiable y.cls kk).before a0 Z = true) (w4 : (Cond.code y bytes maxL ret).before a0 Z = true) (w5 : (Cond.initialized y.cls).before a0 Z = true)
    (hy : y.cls ≠ "java/lang/invoke/MethodHandle" ∧ y.cls ≠ "java/lang/invoke/VarHandle") {a : Addr} {argsL rest : List Value} (hi : D[i]? = some (ob a C fs)) (K : Con l Z n0 y bytes maxL ret rm (.ref a :: argsL).toArray D P)
    {W : Nat} (hf : rm.frames + 1 ≤ R.frames) (hl : W + (maxL + 11) + rm.locals ≤ R.locals) (hc : cells + rm.cells ≤ R.cells) (hs : slots + rm.slots ≤ R.slots)
    {g : JFrame} (hg : g.method = m) (hsize : g.locals.size = c.maxLocals) (hlen : ∀ sig, parseMethodDescriptor y.desc = some sig → argsL.length = sig.parameters.length) (hstack : g.stack = argsL.reverse ++ .ref a :: rest) (hW : 2 * g.monitorRoom + (rest.map fun v => v.category).sum ≤ W) (hd : decode c.code g.pc = .ok (.invokevirtual index, 3))
    (k : ∀ T' v D', P v D' → On p l e R s m args below meth c Z n0 T' (cells + rm.cells) (slots + rm.slots) D' → Rn p e below F T' { g with pc := g.pc + 3, stack := v.toList ++ rest }) : Rn p e below F T g := by
  obtain ⟨locs, X, N, H⟩ := Y
  have hp : s.PrivateAt y := Cond.privateMethod_at (mvP hZ w3 (args := #[]))
  have wi' : (Cond.instantiable y.cls kk).before args s = true := mvT hZ wi
  obtain ⟨cc, kc, i1, i2, -, i4, -⟩ := Cond.instantiable_spec wi'
  have hsel : (Cond.selects y.cls y y).before args s = true := selects_self_of_private i1 i2 (by simp at i4; exact i4.1) hp (mvT hZ w2) hy
  obtain ⟨cq, q, q'⟩ := (H.exa hi).cell
  obtain ⟨v, _, ⟨T', L', k', n'⟩, -, X', ⟨Lc, hQ, l', y', z'⟩, st⟩ := X.privateBack hx (y := y) hown (mvT hZ w1) (mvT hZ w2) hsel hp (mvT hZ w4) hy (backOf (W := W) (K [] T.heap H) hZ w4 w5 hf hl) hg hsize (Steps.refl _) (a := a) q q' (argsL := argsL) (rest := rest) hlen hstack hW hd (fun _ _ => ⟨rfl, rfl, hc, hs⟩)
  dsimp only [Pt.U, Pt.locs, Pt.cells, Pt.slots] at X' l' y' z' st hQ
  subst l' y' z'
  obtain ⟨D', hP, N', H'⟩ := hQ
  exact Rn.to st (k T' v D' hP ⟨_, X', Fr.app N N', H'⟩)
theorem On.insY (Y : On p l e R s m args below meth c Z n0 T cells slots D) (hx : p.tables.exec = Jvm.exec) (hZ : Z.Warmed39 s.vm) {own : String} {index : Nat} (hown : s.vm.findClass own = some m.cls) (w : (Cond.classLink own index C).before a0 Z = true) (hi : D[i]? = some (ob a C fs))
    {g : JFrame} (hg : g.method = m) {rest : List Value} (hs : g.stack = .ref a :: rest) (hd : decode c.code g.pc = .ok (.instanceof index, 3)) (k : ∀ T', On p l e R s m args below meth c Z n0 T' cells slots D → Rn p e below F T' { g with pc := g.pc + 3, stack := .int 1 :: rest }) : Rn p e below F T g := by
  obtain ⟨locs, X, N, H⟩ := Y
  obtain ⟨T', X', e', st⟩ := instY X hx hZ hown w rfl (Ins.self (H.exa hi)) hg hs hd
  exact Rn.go st (k T' ⟨locs, X', N, by rw [e']; exact H⟩)
theorem On.castS (Y : On p l e R s m args below meth c Z n0 T cells slots D) (hx : p.tables.exec = Jvm.exec) (hZ : Z.Warmed39 s.vm) {own : String} {index : Nat} (hown : s.vm.findClass own = some m.cls) (w : (Cond.classLink own index C).before a0 Z = true) (hi : D[i]? = some (ob a C fs))
    {g : JFrame} (hg : g.method = m) {rest : List Value} (hs : g.stack = .ref a :: rest) (hd : decode c.code g.pc = .ok (.checkcast index, 3)) (k : ∀ T', On p l e R s m args below meth c Z n0 T' cells slots D → Rn p e below F T' { g with pc := g.pc + 3 }) : Rn p e below F T g := by
  obtain ⟨locs, X, N, H⟩ := Y
  obtain ⟨T', X', e', st⟩ := castY X hx hZ hown w rfl (Ins.self (H.exa hi)) hg hs hd
  exact Rn.go st (k T' ⟨locs, X', N, by rw [e']; exact H⟩)
theorem On.insN (Y : On p l e R s m args below meth c Z n0 T cells slots D) (hx : p.tables.exec = Jvm.exec) (hZ : Z.Warmed39 s.vm) {own K : String} {index kk : Nat} (hown : s.vm.findClass own = some m.cls) (w : (Cond.classLink own index K).before a0 Z = true) (hi : D[i]? = some (ob a C fs)) (wi : (Cond.instantiable K kk).before a0 Z = true) {ch : List String} (hw : ∀ w ∈ Cond.chainWords (C :: ch), w.before a0 Z = true) (hn : K ∉ C :: ch)
    {g : JFrame} (hg : g.method = m) {rest : List Value} (hs : g.stack = .ref a :: rest) (hd : decode c.code g.pc = .ok (.instanceof index, 3)) (k : ∀ T', On p l e R s m args below meth c Z n0 T' cells slots D → Rn p e below F T' { g with pc := g.pc + 3, stack := .int 0 :: rest }) : Rn p e below F T g := by
  obtain ⟨locs, X, N, H⟩ := Y
  obtain ⟨cy, ky, i1, i2, i3, i4, -⟩ := Cond.instantiable_spec wi
  obtain ⟨cx, kx, j1, -⟩ := Cond.chain_head hw
  obtain ⟨T', X', e', st⟩ := instNo X hx hZ hown w rfl (H.exa hi) ⟨cx, cy, j1, i1, Vm.notAssignable_of_chain j1 i1 i2 i3 (by simp at i4; exact i4.1) hw hn⟩ hg hs hd
  exact Rn.go st (k T' ⟨locs, X', N, by rw [e']; exact H⟩)
theorem On.insNull (Y : On p l e R s m args below meth c Z n0 T cells slots D) (hx : p.tables.exec = Jvm.exec) {index : Nat}
    {g : JFrame} (hg : g.method = m) {rest : List Value} (hs : g.stack = .null :: rest) (hd : decode c.code g.pc = .ok (.instanceof index, 3)) (k : Rn p e below F T { g with pc := g.pc + 3, stack := .int 0 :: rest }) : Rn p e below F T g := by
  obtain ⟨locs, X, N, H⟩ := Y
  exact Rn.go (fun t kt => X.instanceofNull hx hg hs hd t kt) k
end Base
theorem own_le2 {v : Int32} (h1 : 0 ≤ v.toInt) (h2 : v.toInt ≤ 2) : v = 0 ∨ v = 1 ∨ v = 2 := by
  have : v.toInt = 0 ∨ v.toInt = 1 ∨ v.toInt = 2 := by omega
  rcases this with h | h | h
  · exact Or.inl (Int32.toInt_inj.mp (h.trans rfl))
  · exact Or.inr (Or.inl (Int32.toInt_inj.mp (h.trans rfl)))
  · exact Or.inr (Or.inr (Int32.toInt_inj.mp (h.trans rfl)))
theorem own_le4 {v : Int32} (h1 : 0 ≤ v.toInt) (h2 : v.toInt ≤ 4) : v = 0 ∨ v = 1 ∨ v = 2 ∨ v = 3 ∨ v = 4 := by
  have : v.toInt = 0 ∨ v.toInt = 1 ∨ v.toInt = 2 ∨ v.toInt = 3 ∨ v.toInt = 4 := by omega
  rcases this with h | h | h | h | h
  · exact Or.inl (Int32.toInt_inj.mp (h.trans rfl))
  · exact Or.inr (Or.inl (Int32.toInt_inj.mp (h.trans rfl)))
  · exact Or.inr (Or.inr (Or.inl (Int32.toInt_inj.mp (h.trans rfl))))
  · exact Or.inr (Or.inr (Or.inr (Or.inl (Int32.toInt_inj.mp (h.trans rfl)))))
  · exact Or.inr (Or.inr (Or.inr (Or.inr (Int32.toInt_inj.mp (h.trans rfl)))))
/-! ## F. The words, the instructions, the names -/
theorem w0 {Z : State} {a0 : Array Value} (hw : ∀ d ∈ tables_1, d.before a0 Z = true) : (Jvm.Cond.constant "com/example/nishati/nishati/io/CsvRowDigitsPinLaw" (7 : Nat) (2147483647 : Int32)).before a0 Z = true := hw _ (List.mem_of_getElem? (i := 0) rfl)
theorem w1 {Z : State} {a0 : Array Value} (hw : ∀ d ∈ tables_1, d.before a0 Z = true) : (Jvm.Cond.methodLink "com/example/nishati/nishati/io/CsvRowDigitsPinLaw" (8 : Nat) ({ cls := "com/example/nishati/nishati/io/CsvRowDigitsPinLaw", name := "draw", desc := "(I)B" } : Jvm.MethodName)).before a0 Z = true := hw _ (List.mem_of_getElem? (i := 1) rfl)
theorem w2 {Z : State} {a0 : Array Value} (hw : ∀ d ∈ tables_1, d.before a0 Z = true) : (Jvm.Cond.static ({ cls := "com/example/nishati/nishati/io/CsvRowDigitsPinLaw", name := "draw", desc := "(I)B" } : Jvm.MethodName)).before a0 Z = true := hw _ (List.mem_of_getElem? (i := 2) rfl)
theorem w3 {Z : State} {a0 : Array Value} (hw : ∀ d ∈ tables_1, d.before a0 Z = true) : (Jvm.Cond.initialized "com/example/nishati/nishati/io/CsvRowDigitsPinLaw").before a0 Z = true := hw _ (List.mem_of_getElem? (i := 3) rfl)
theorem w4 {Z : State} {a0 : Array Value} (hw : ∀ d ∈ tables_1, d.before a0 Z = true) : (Jvm.Cond.code ({ cls := "com/example/nishati/nishati/io/CsvRowDigitsPinLaw", name := "draw", desc := "(I)B" } : Jvm.MethodName) method_2_code (1 : Nat) (Option.some Jvm.ClassFile.FieldType.byte)).before a0 Z = true := hw _ (List.mem_of_getElem? (i := 4) rfl)
theorem w5 {Z : State} {a0 : Array Value} (hw : ∀ d ∈ tables_1, d.before a0 Z = true) : (Jvm.Cond.arrayClass Jvm.ClassFile.FieldType.byte).before a0 Z = true := hw _ (List.mem_of_getElem? (i := 5) rfl)
theorem w6 {Z : State} {a0 : Array Value} (hw : ∀ d ∈ tables_1, d.before a0 Z = true) : (Jvm.Cond.methodLink "com/example/nishati/nishati/io/CsvRowDigitsPinLaw" (14 : Nat) ({ cls := "com/example/nishati/nishati/io/CsvRowDigitsPinLaw", name := "value", desc := "(B)I" } : Jvm.MethodName)).before a0 Z = true := hw _ (List.mem_of_getElem? (i := 6) rfl)
theorem w7 {Z : State} {a0 : Array Value} (hw : ∀ d ∈ tables_1, d.before a0 Z = true) : (Jvm.Cond.static ({ cls := "com/example/nishati/nishati/io/CsvRowDigitsPinLaw", name := "value", desc := "(B)I" } : Jvm.MethodName)).before a0 Z = true := hw _ (List.mem_of_getElem? (i := 7) rfl)
theorem w8 {Z : State} {a0 : Array Value} (hw : ∀ d ∈ tables_1, d.before a0 Z = true) : (Jvm.Cond.code ({ cls := "com/example/nishati/nishati/io/CsvRowDigitsPinLaw", name := "value", desc := "(B)I" } : Jvm.MethodName) method_3_code (1 : Nat) (Option.some Jvm.ClassFile.FieldType.int)).before a0 Z = true := hw _ (List.mem_of_getElem? (i := 8) rfl)
theorem w9 {Z : State} {a0 : Array Value} (hw : ∀ d ∈ tables_1, d.before a0 Z = true) : (Jvm.Cond.methodLink "com/example/nishati/nishati/io/CsvRowDigitsPinLaw" (18 : Nat) ({ cls := "com/example/nishati/nishati/io/CsvRow", name := "digits", desc := "([BII)I" } : Jvm.MethodName)).before a0 Z = true := hw _ (List.mem_of_getElem? (i := 9) rfl)
theorem w10 {Z : State} {a0 : Array Value} (hw : ∀ d ∈ tables_1, d.before a0 Z = true) : (Jvm.Cond.static ({ cls := "com/example/nishati/nishati/io/CsvRow", name := "digits", desc := "([BII)I" } : Jvm.MethodName)).before a0 Z = true := hw _ (List.mem_of_getElem? (i := 10) rfl)
theorem w11 {Z : State} {a0 : Array Value} (hw : ∀ d ∈ tables_1, d.before a0 Z = true) : (Jvm.Cond.initialized "com/example/nishati/nishati/io/CsvRow").before a0 Z = true := hw _ (List.mem_of_getElem? (i := 11) rfl)
theorem w12 {Z : State} {a0 : Array Value} (hw : ∀ d ∈ tables_1, d.before a0 Z = true) : (Jvm.Cond.code ({ cls := "com/example/nishati/nishati/io/CsvRow", name := "digits", desc := "([BII)I" } : Jvm.MethodName) prog_63_method_24_code (6 : Nat) (Option.some Jvm.ClassFile.FieldType.int)).before a0 Z = true := hw _ (List.mem_of_getElem? (i := 12) rfl)
theorem d1_0 : decode method_2_code 0 = .ok (.iload_n 0, 1) := by decide +kernel
theorem d1_1 : decode method_2_code 1 = .ok (.sipush 256, 3) := by decide +kernel
theorem d1_4 : decode method_2_code 4 = .ok (.iand, 1) := by decide +kernel
theorem d1_5 : decode method_2_code 5 = .ok (.ifCond .eq 15, 3) := by decide +kernel
theorem d1_8 : decode method_2_code 8 = .ok (.bipush 48, 2) := by decide +kernel
theorem d1_10 : decode method_2_code 10 = .ok (.iload_n 0, 1) := by decide +kernel
theorem d1_11 : decode method_2_code 11 = .ok (.bipush 9, 2) := by decide +kernel
theorem d1_13 : decode method_2_code 13 = .ok (.iushr, 1) := by decide +kernel
theorem d1_14 : decode method_2_code 14 = .ok (.bipush 10, 2) := by decide +kernel
theorem d1_16 : decode method_2_code 16 = .ok (.irem, 1) := by decide +kernel
theorem d1_17 : decode method_2_code 17 = .ok (.iadd, 1) := by decide +kernel
theorem d1_18 : decode method_2_code 18 = .ok (.i2b, 1) := by decide +kernel
theorem d1_19 : decode method_2_code 19 = .ok (.ireturn, 1) := by decide +kernel
theorem d1_20 : decode method_2_code 20 = .ok (.iload_n 0, 1) := by decide +kernel
theorem d1_21 : decode method_2_code 21 = .ok (.i2b, 1) := by decide +kernel
theorem d1_22 : decode method_2_code 22 = .ok (.ireturn, 1) := by decide +kernel
theorem d2_0 : decode method_3_code 0 = .ok (.iload_n 0, 1) := by decide +kernel
theorem d2_1 : decode method_3_code 1 = .ok (.bipush 48, 2) := by decide +kernel
theorem d2_3 : decode method_3_code 3 = .ok (.if_icmp .lt 16, 3) := by decide +kernel
theorem d2_6 : decode method_3_code 6 = .ok (.iload_n 0, 1) := by decide +kernel
theorem d2_7 : decode method_3_code 7 = .ok (.bipush 57, 2) := by decide +kernel
theorem d2_9 : decode method_3_code 9 = .ok (.if_icmp .gt 10, 3) := by decide +kernel
theorem d2_12 : decode method_3_code 12 = .ok (.iload_n 0, 1) := by decide +kernel
theorem d2_13 : decode method_3_code 13 = .ok (.bipush 48, 2) := by decide +kernel
theorem d2_15 : decode method_3_code 15 = .ok (.isub, 1) := by decide +kernel
theorem d2_16 : decode method_3_code 16 = .ok (.goto 4, 3) := by decide +kernel
theorem d2_19 : decode method_3_code 19 = .ok (.iconst (-1), 1) := by decide +kernel
theorem d2_20 : decode method_3_code 20 = .ok (.ireturn, 1) := by decide +kernel
theorem d3_0 : decode prog_63_method_24_code 0 = .ok (.iconst 0, 1) := by decide +kernel
theorem d3_1 : decode prog_63_method_24_code 1 = .ok (.istore_n 3, 1) := by decide +kernel
theorem d3_2 : decode prog_63_method_24_code 2 = .ok (.iload_n 1, 1) := by decide +kernel
theorem d3_3 : decode prog_63_method_24_code 3 = .ok (.istore 4, 2) := by decide +kernel
theorem d3_5 : decode prog_63_method_24_code 5 = .ok (.iload 4, 2) := by decide +kernel
theorem d3_7 : decode prog_63_method_24_code 7 = .ok (.iload_n 1, 1) := by decide +kernel
theorem d3_8 : decode prog_63_method_24_code 8 = .ok (.iload_n 2, 1) := by decide +kernel
theorem d3_9 : decode prog_63_method_24_code 9 = .ok (.iadd, 1) := by decide +kernel
theorem d3_10 : decode prog_63_method_24_code 10 = .ok (.if_icmp .ge 49, 3) := by decide +kernel
theorem d3_13 : decode prog_63_method_24_code 13 = .ok (.iload_n 3, 1) := by decide +kernel
theorem d3_14 : decode prog_63_method_24_code 14 = .ok (.ifCond .lt 45, 3) := by decide +kernel
theorem d3_17 : decode prog_63_method_24_code 17 = .ok (.aload_n 0, 1) := by decide +kernel
theorem d3_18 : decode prog_63_method_24_code 18 = .ok (.iload 4, 2) := by decide +kernel
theorem d3_20 : decode prog_63_method_24_code 20 = .ok (.baload, 1) := by decide +kernel
theorem d3_21 : decode prog_63_method_24_code 21 = .ok (.istore 5, 2) := by decide +kernel
theorem d3_23 : decode prog_63_method_24_code 23 = .ok (.iload 5, 2) := by decide +kernel
theorem d3_25 : decode prog_63_method_24_code 25 = .ok (.bipush 48, 2) := by decide +kernel
theorem d3_27 : decode prog_63_method_24_code 27 = .ok (.if_icmp .lt 24, 3) := by decide +kernel
theorem d3_30 : decode prog_63_method_24_code 30 = .ok (.iload 5, 2) := by decide +kernel
theorem d3_32 : decode prog_63_method_24_code 32 = .ok (.bipush 57, 2) := by decide +kernel
theorem d3_34 : decode prog_63_method_24_code 34 = .ok (.if_icmp .gt 17, 3) := by decide +kernel
theorem d3_37 : decode prog_63_method_24_code 37 = .ok (.iload_n 3, 1) := by decide +kernel
theorem d3_38 : decode prog_63_method_24_code 38 = .ok (.bipush 10, 2) := by decide +kernel
theorem d3_40 : decode prog_63_method_24_code 40 = .ok (.imul, 1) := by decide +kernel
theorem d3_41 : decode prog_63_method_24_code 41 = .ok (.iload 5, 2) := by decide +kernel
theorem d3_43 : decode prog_63_method_24_code 43 = .ok (.iadd, 1) := by decide +kernel
theorem d3_44 : decode prog_63_method_24_code 44 = .ok (.bipush 48, 2) := by decide +kernel
theorem d3_46 : decode prog_63_method_24_code 46 = .ok (.isub, 1) := by decide +kernel
theorem d3_47 : decode prog_63_method_24_code 47 = .ok (.istore_n 3, 1) := by decide +kernel
theorem d3_48 : decode prog_63_method_24_code 48 = .ok (.goto 5, 3) := by decide +kernel
theorem d3_51 : decode prog_63_method_24_code 51 = .ok (.iconst (-1), 1) := by decide +kernel
theorem d3_52 : decode prog_63_method_24_code 52 = .ok (.istore_n 3, 1) := by decide +kernel
theorem d3_53 : decode prog_63_method_24_code 53 = .ok (.iinc 4 1, 3) := by decide +kernel
theorem d3_56 : decode prog_63_method_24_code 56 = .ok (.goto (-51), 3) := by decide +kernel
theorem d3_59 : decode prog_63_method_24_code 59 = .ok (.iload_n 3, 1) := by decide +kernel
theorem d3_60 : decode prog_63_method_24_code 60 = .ok (.ireturn, 1) := by decide +kernel
theorem pd0 : parseMethodDescriptor "(I)B" = some ⟨[.int], some .byte⟩ := by decide +kernel
theorem pd1 : parseMethodDescriptor "(B)I" = some ⟨[.byte], some .int⟩ := by decide +kernel
theorem pd2 : parseMethodDescriptor "([BII)I" = some ⟨[(.array .byte), .int, .int], some .int⟩ := by decide +kernel
theorem pn0 : plainName "com/example/nishati/nishati/io/CsvRowDigitsPinLaw" = true := by first | (simp [plainName, overriddenIn]; done) | decide +kernel
theorem pn1 : plainName "com/example/nishati/nishati/io/CsvRow" = true := by first | (simp [plainName, overriddenIn]; done) | decide +kernel
theorem own_o (x : Int32) : 0 ≤ ((((x.toUInt32 >>> ((8 : Int32) &&& 31).toUInt32).toInt32) &&& (255 : Int32)) % (3 : Int32)).toInt ∧ ((((x.toUInt32 >>> ((8 : Int32) &&& 31).toUInt32).toInt32) &&& (255 : Int32)) % (3 : Int32)).toInt ≤ 2 := by
  have h1 := Jvm.Kit.i32_mask ((x.toUInt32 >>> ((8 : Int32) &&& 31).toUInt32).toInt32) 255 (k := 8) (by decide) (by decide)
  rw [own_remI (k := 3) rfl (by omega)]; omega
/-! ## G. The law's own helpers -/
def own_draw (x0 : Int32) : Int32 := (if (x0 &&& (256 : Int32)) = (0 : Int32) then ((x0.toInt8.toInt32)).toInt8.toInt32 else ((((48 : Int32) + (((x0.toUInt32 >>> ((9 : Int32) &&& 31).toUInt32).toInt32) % (10 : Int32))).toInt8.toInt32)).toInt8.toInt32)
theorem ef_rm1 (m : MethodId) (x0 : Int32) : entryFrame m #[(.int x0)] 1 = (mkF m 0 #[.val (.int x0)] []) := by first | (simp [entryFrame, mkF, argsToLocals, Value.category]; done) | rfl
set_option maxRecDepth 65536 in
set_option maxHeartbeats 40000000 in
theorem rm1 (l : Launch) (Z : State) (a0 : Array Value) (hw : ∀ d ∈ tables_1, d.before a0 Z = true) (n0 : Nat) (x0 : Int32) (Dr : List (Addr × Itm)) :
    Con l Z n0 (⟨"com/example/nishati/nishati/io/CsvRowDigitsPinLaw", "draw", "(I)B"⟩ : MethodName) method_2_code 1 (some .byte) ({ frames := 0, cells := 0, slots := 0, locals := 0 } : Room) #[(.int x0)] Dr (fun v D' => v = some (.int (own_draw x0)) ∧ D' = Dr) := by
  refine Con.of (plainFor_of_name pn0) ?_
  intro p e s m below meth c T cx Y
  obtain ⟨hx, hby, hml, hown, hnm, hret, hlk, hZ⟩ := cx
  rw [ef_rm1]
  generalize hF : Fi Z n0 below s _ _ _ = F
  refine Rn.go (T' := T) (g' := (mkF m 5 #[.val (.int x0)] [(.int (x0 &&& (256 : Int32)))])) (fun t k => ?_) ?_
  · show Steps p.tables e below (T.setTop (mkF m 0 #[.val (.int x0)] [])) t
    refine XS.iloadN Y.here hx rfl (hb hby d1_0) rfl ?_
    show Steps p.tables e below (T.setTop (mkF m 1 #[.val (.int x0)] [(.int x0)])) t
    refine XS.sipush Y.here hx rfl (hb hby d1_1) ?_
    show Steps p.tables e below (T.setTop (mkF m 4 #[.val (.int x0)] [(.int (256 : Int32)), (.int x0)])) t
    refine XS.iand Y.here hx rfl (hb hby d1_4) rfl ?_
    show Steps p.tables e below (T.setTop (mkF m 5 #[.val (.int x0)] [(.int (x0 &&& (256 : Int32)))])) t
    exact k
  by_cases hc5 : (x0 &&& (256 : Int32)) = (0 : Int32)
  · refine Rn.go (T' := T) (g' := (mkF m 20 #[.val (.int x0)] [])) (fun t k => XS.ifYes Y.here hx rfl (pc0 := 5) (pc' := 20) rfl (hb hby d1_5) rfl ((if0 _ _).trans (teq hc5).1) (by decide) (by decide) k) ?_
    refine Rn.go (T' := T) (g' := (mkF m 22 #[.val (.int x0)] [(.int (x0.toInt8.toInt32))])) (fun t k => ?_) ?_
    · show Steps p.tables e below (T.setTop (mkF m 20 #[.val (.int x0)] [])) t
      refine XS.iloadN Y.here hx rfl (hb hby d1_20) rfl ?_
      show Steps p.tables e below (T.setTop (mkF m 21 #[.val (.int x0)] [(.int x0)])) t
      refine XS.i2b Y.here hx rfl (hb hby d1_21) rfl ?_
      show Steps p.tables e below (T.setTop (mkF m 22 #[.val (.int x0)] [(.int (x0.toInt8.toInt32))])) t
      exact k
    rw [← hF]; exact On.retn Y hx hret (by simp) hlk (z' := ((x0.toInt8.toInt32)).toInt8.toInt32) rfl (hb hby d1_22) (by decide) (by decide) ⟨by unfold own_draw; rw [if_pos hc5], rfl⟩
  · refine Rn.go (T' := T) (g' := (mkF m 8 #[.val (.int x0)] [])) (fun t k => XS.ifNo Y.here hx rfl (hb hby d1_5) rfl ((if0 _ _).trans (feq hc5).1) k) ?_
    refine Rn.go (T' := T) (g' := (mkF m 19 #[.val (.int x0)] [(.int (((48 : Int32) + (((x0.toUInt32 >>> ((9 : Int32) &&& 31).toUInt32).toInt32) % (10 : Int32))).toInt8.toInt32))])) (fun t k => ?_) ?_
    · show Steps p.tables e below (T.setTop (mkF m 8 #[.val (.int x0)] [])) t
      refine XS.bipush Y.here hx rfl (hb hby d1_8) ?_
      show Steps p.tables e below (T.setTop (mkF m 10 #[.val (.int x0)] [(.int (48 : Int32))])) t
      refine XS.iloadN Y.here hx rfl (hb hby d1_10) rfl ?_
      show Steps p.tables e below (T.setTop (mkF m 11 #[.val (.int x0)] [(.int x0), (.int (48 : Int32))])) t
      refine XS.bipush Y.here hx rfl (hb hby d1_11) ?_
      show Steps p.tables e below (T.setTop (mkF m 13 #[.val (.int x0)] [(.int (9 : Int32)), (.int x0), (.int (48 : Int32))])) t
      refine XS.iushr Y.here hx rfl (hb hby d1_13) rfl ?_
      show Steps p.tables e below (T.setTop (mkF m 14 #[.val (.int x0)] [(.int ((x0.toUInt32 >>> ((9 : Int32) &&& 31).toUInt32).toInt32)), (.int (48 : Int32))])) t
      refine XS.bipush Y.here hx rfl (hb hby d1_14) ?_
      show Steps p.tables e below (T.setTop (mkF m 16 #[.val (.int x0)] [(.int (10 : Int32)), (.int ((x0.toUInt32 >>> ((9 : Int32) &&& 31).toUInt32).toInt32)), (.int (48 : Int32))])) t
      refine own_irem Y.here hx rfl (hb hby d1_16) rfl (by decide) ?_
      show Steps p.tables e below (T.setTop (mkF m 17 #[.val (.int x0)] [(.int (((x0.toUInt32 >>> ((9 : Int32) &&& 31).toUInt32).toInt32) % (10 : Int32))), (.int (48 : Int32))])) t
      refine XS.iadd Y.here hx rfl (hb hby d1_17) rfl ?_
      show Steps p.tables e below (T.setTop (mkF m 18 #[.val (.int x0)] [(.int ((48 : Int32) + (((x0.toUInt32 >>> ((9 : Int32) &&& 31).toUInt32).toInt32) % (10 : Int32))))])) t
      refine XS.i2b Y.here hx rfl (hb hby d1_18) rfl ?_
      show Steps p.tables e below (T.setTop (mkF m 19 #[.val (.int x0)] [(.int (((48 : Int32) + (((x0.toUInt32 >>> ((9 : Int32) &&& 31).toUInt32).toInt32) % (10 : Int32))).toInt8.toInt32))])) t
      exact k
    rw [← hF]; exact On.retn Y hx hret (by simp) hlk (z' := ((((48 : Int32) + (((x0.toUInt32 >>> ((9 : Int32) &&& 31).toUInt32).toInt32) % (10 : Int32))).toInt8.toInt32)).toInt8.toInt32) rfl (hb hby d1_19) (by decide) (by decide) ⟨by unfold own_draw; rw [if_neg hc5], rfl⟩
def own_val (x0 : Int32) : Int32 := (if x0 < (48 : Int32) then (-1 : Int32) else (if (57 : Int32) < x0 then (-1 : Int32) else (x0 - (48 : Int32))))
theorem ef_rm2 (m : MethodId) (x0 : Int32) : entryFrame m #[(.int x0)] 1 = (mkF m 0 #[.val (.int x0)] []) := by first | (simp [entryFrame, mkF, argsToLocals, Value.category]; done) | rfl
set_option maxRecDepth 65536 in
set_option maxHeartbeats 40000000 in
theorem rm2 (l : Launch) (Z : State) (a0 : Array Value) (hw : ∀ d ∈ tables_1, d.before a0 Z = true) (n0 : Nat) (x0 : Int32) (Dr : List (Addr × Itm)) :
    Con l Z n0 (⟨"com/example/nishati/nishati/io/CsvRowDigitsPinLaw", "value", "(B)I"⟩ : MethodName) method_3_code 1 (some .int) ({ frames := 0, cells := 0, slots := 0, locals := 0 } : Room) #[(.int x0)] Dr (fun v D' => v = some (.int (own_val x0)) ∧ D' = Dr) := by
  refine Con.of (plainFor_of_name pn0) ?_
  intro p e s m below meth c T cx Y
  obtain ⟨hx, hby, hml, hown, hnm, hret, hlk, hZ⟩ := cx
  rw [ef_rm2]
  generalize hF : Fi Z n0 below s _ _ _ = F
  refine Rn.go (T' := T) (g' := (mkF m 3 #[.val (.int x0)] [(.int (48 : Int32)), (.int x0)])) (fun t k => ?_) ?_
  · show Steps p.tables e below (T.setTop (mkF m 0 #[.val (.int x0)] [])) t
    refine XS.iloadN Y.here hx rfl (hb hby d2_0) rfl ?_
    show Steps p.tables e below (T.setTop (mkF m 1 #[.val (.int x0)] [(.int x0)])) t
    refine XS.bipush Y.here hx rfl (hb hby d2_1) ?_
    show Steps p.tables e below (T.setTop (mkF m 3 #[.val (.int x0)] [(.int (48 : Int32)), (.int x0)])) t
    exact k
  by_cases hc3 : x0 < (48 : Int32)
  · refine Rn.go (T' := T) (g' := (mkF m 19 #[.val (.int x0)] [])) (fun t k => XS.icmpYes Y.here hx rfl (pc0 := 3) (pc' := 19) rfl (hb hby d2_3) rfl (tlt hc3).1 (by decide) (by decide) k) ?_
    refine Rn.go (T' := T) (g' := (mkF m 20 #[.val (.int x0)] [(.int (-1 : Int32))])) (fun t k => ?_) ?_
    · show Steps p.tables e below (T.setTop (mkF m 19 #[.val (.int x0)] [])) t
      refine XS.iconst Y.here hx rfl (hb hby d2_19) ?_
      show Steps p.tables e below (T.setTop (mkF m 20 #[.val (.int x0)] [(.int (-1 : Int32))])) t
      exact k
    rw [← hF]; exact On.reti Y hx hret hlk (hb hby d2_20) (by decide) (by decide) ⟨by unfold own_val; rw [if_pos hc3], rfl⟩
  · refine Rn.go (T' := T) (g' := (mkF m 6 #[.val (.int x0)] [])) (fun t k => XS.icmpNo Y.here hx rfl (hb hby d2_3) rfl (flt hc3).1 k) ?_
    refine Rn.go (T' := T) (g' := (mkF m 9 #[.val (.int x0)] [(.int (57 : Int32)), (.int x0)])) (fun t k => ?_) ?_
    · show Steps p.tables e below (T.setTop (mkF m 6 #[.val (.int x0)] [])) t
      refine XS.iloadN Y.here hx rfl (hb hby d2_6) rfl ?_
      show Steps p.tables e below (T.setTop (mkF m 7 #[.val (.int x0)] [(.int x0)])) t
      refine XS.bipush Y.here hx rfl (hb hby d2_7) ?_
      show Steps p.tables e below (T.setTop (mkF m 9 #[.val (.int x0)] [(.int (57 : Int32)), (.int x0)])) t
      exact k
    by_cases hc9 : (57 : Int32) < x0
    · refine Rn.go (T' := T) (g' := (mkF m 19 #[.val (.int x0)] [])) (fun t k => XS.icmpYes Y.here hx rfl (pc0 := 9) (pc' := 19) rfl (hb hby d2_9) rfl (tlt hc9).2.2.1 (by decide) (by decide) k) ?_
      refine Rn.go (T' := T) (g' := (mkF m 20 #[.val (.int x0)] [(.int (-1 : Int32))])) (fun t k => ?_) ?_
      · show Steps p.tables e below (T.setTop (mkF m 19 #[.val (.int x0)] [])) t
        refine XS.iconst Y.here hx rfl (hb hby d2_19) ?_
        show Steps p.tables e below (T.setTop (mkF m 20 #[.val (.int x0)] [(.int (-1 : Int32))])) t
        exact k
      rw [← hF]; exact On.reti Y hx hret hlk (hb hby d2_20) (by decide) (by decide) ⟨by unfold own_val; rw [if_neg hc3, if_pos hc9], rfl⟩
    · refine Rn.go (T' := T) (g' := (mkF m 12 #[.val (.int x0)] [])) (fun t k => XS.icmpNo Y.here hx rfl (hb hby d2_9) rfl (flt hc9).2.2.1 k) ?_
      refine Rn.go (T' := T) (g' := (mkF m 20 #[.val (.int x0)] [(.int (x0 - (48 : Int32)))])) (fun t k => ?_) ?_
      · show Steps p.tables e below (T.setTop (mkF m 12 #[.val (.int x0)] [])) t
        refine XS.iloadN Y.here hx rfl (hb hby d2_12) rfl ?_
        show Steps p.tables e below (T.setTop (mkF m 13 #[.val (.int x0)] [(.int x0)])) t
        refine XS.bipush Y.here hx rfl (hb hby d2_13) ?_
        show Steps p.tables e below (T.setTop (mkF m 15 #[.val (.int x0)] [(.int (48 : Int32)), (.int x0)])) t
        refine XS.isub Y.here hx rfl (hb hby d2_15) rfl ?_
        show Steps p.tables e below (T.setTop (mkF m 16 #[.val (.int x0)] [(.int (x0 - (48 : Int32)))])) t
        refine XS.goto Y.here hx rfl (pc0 := 16) (pc' := 20) rfl (hb hby d2_16) (by decide) (by decide) ?_
        show Steps p.tables e below (T.setTop (mkF m 20 #[.val (.int x0)] [(.int (x0 - (48 : Int32)))])) t
        exact k
      rw [← hF]; exact On.reti Y hx hret hlk (hb hby d2_20) (by decide) (by decide) ⟨by unfold own_val; rw [if_neg hc3, if_neg hc9], rfl⟩
/-! ## H. CsvRow.digits -/
def own_dg (xs : List Int32) : Nat → Nat → Int32 → Int32
  | 0, _, v => v
  | k + 1, i, v => if v < 0 then v else if xs.getD i 0 < 48 then own_dg xs k (i + 1) (-1) else if 57 < xs.getD i 0 then own_dg xs k (i + 1) (-1) else own_dg xs k (i + 1) (v * 10 + xs.getD i 0 - 48)
theorem own_dg0 (xs : List Int32) (i : Nat) (v : Int32) : own_dg xs 0 i v = v := rfl
theorem own_dgS (xs : List Int32) (k i : Nat) (v : Int32) : own_dg xs (k + 1) i v = if v < 0 then v else if xs.getD i 0 < 48 then own_dg xs k (i + 1) (-1) else if 57 < xs.getD i 0 then own_dg xs k (i + 1) (-1) else own_dg xs k (i + 1) (v * 10 + xs.getD i 0 - 48) := rfl
theorem own_at {xs : List Int32} {j : Int32} (h0 : 0 ≤ j.toInt) (h1 : j.toInt < xs.length) : ¬ j < 0 ∧ xs[j.toNatClampNeg]? = some (xs.getD j.toNatClampNeg 0) := by
  refine ⟨?_, ?_⟩
  · rw [Int32.lt_iff_toInt_lt]; have : (0 : Int32).toInt = 0 := rfl; omega
  · have hl : j.toNatClampNeg < xs.length := by rw [own_nat]; omega
    rw [List.getD_eq_getElem?_getD, List.getElem?_eq_getElem hl]; rfl
theorem own_os5 {z0 z1 z2 z3 z4 : Value} {sl : Slot} {v : Int32} (h : One sl) : storeLocals #[.val z0, .val z1, .val z2, .val z3, .val z4, sl] 5 (.int v) = some #[.val z0, .val z1, .val z2, .val z3, .val z4, .val (.int v)] := by
  rcases h with rfl | ⟨w, rfl, hw⟩
  · rfl
  · cases w <;> first | rfl | (simp [Value.category] at hw)
set_option maxRecDepth 65536 in
set_option maxHeartbeats 40000000 in
theorem own_loop {p : Program} {l : Launch} {e : Env} {R : Room} {s : State} {m : MethodId} {args : Array Value} {below : List Frame} {meth : Method} {c : Code} {Z : State} {a0 : Array Value} {n0 : Nat} {F : State → Prop} {cells slots : Nat} (hx : p.tables.exec = Jvm.exec) (hby : c.code = prog_63_method_24_code) (hml : c.maxLocals = 6) (hown : s.vm.findClass "com/example/nishati/nishati/io/CsvRow" = some m.cls) (hZ : Z.Warmed39 s.vm) (hw : ∀ d ∈ tables_1, d.before a0 Z = true) (t0 : Addr) (z0 at0 cnt : Int32) (xs : List Int32) (Dr : List (Addr × Itm)) (hxl : xs.length ≤ 1000) (hel : (at0 + cnt).toInt ≤ xs.length) :
    ∀ (k : Nat) (i v : Int32) (s5 : Slot) (T : State), One s5 → i.toInt + k = (at0 + cnt).toInt → 0 ≤ i.toInt → (k = 0 ∨ True) → On p l e R s m args below meth c Z n0 T cells slots ((ari t0 .byte z0 xs) :: Dr) →
      (∀ (T' : State) (i' : Int32) (s5' : Slot), On p l e R s m args below meth c Z n0 T' cells slots ((ari t0 .byte z0 xs) :: Dr) → Rn p e below F T' (mkF m 59 #[.val (.ref t0), .val (.int at0), .val (.int cnt), .val (.int (own_dg xs k i.toNatClampNeg v)), .val (.int i'), s5'] [])) →
      Rn p e below F T (mkF m 5 #[.val (.ref t0), .val (.int at0), .val (.int cnt), .val (.int v), .val (.int i), s5] []) := by
  intro k
  induction k with
  | zero =>
    intro i v s5 T hs5 he hi _ Y kk
    refine Rn.go (T' := T) (g' := (mkF m 10 #[.val (.ref t0), .val (.int at0), .val (.int cnt), .val (.int v), .val (.int i), s5] [(.int (at0 + cnt)), (.int i)])) (fun t k => ?_) ?_
    · show Steps p.tables e below (T.setTop (mkF m 5 #[.val (.ref t0), .val (.int at0), .val (.int cnt), .val (.int v), .val (.int i), s5] [])) t
      refine XS.iload Y.here hx rfl (hb hby d3_5) rfl ?_
      show Steps p.tables e below (T.setTop (mkF m 7 #[.val (.ref t0), .val (.int at0), .val (.int cnt), .val (.int v), .val (.int i), s5] [(.int i)])) t
      refine XS.iloadN Y.here hx rfl (hb hby d3_7) rfl ?_
      show Steps p.tables e below (T.setTop (mkF m 8 #[.val (.ref t0), .val (.int at0), .val (.int cnt), .val (.int v), .val (.int i), s5] [(.int at0), (.int i)])) t
      refine XS.iloadN Y.here hx rfl (hb hby d3_8) rfl ?_
      show Steps p.tables e below (T.setTop (mkF m 9 #[.val (.ref t0), .val (.int at0), .val (.int cnt), .val (.int v), .val (.int i), s5] [(.int cnt), (.int at0), (.int i)])) t
      refine XS.iadd Y.here hx rfl (hb hby d3_9) rfl ?_
      show Steps p.tables e below (T.setTop (mkF m 10 #[.val (.ref t0), .val (.int at0), .val (.int cnt), .val (.int v), .val (.int i), s5] [(.int (at0 + cnt)), (.int i)])) t
      exact k
    refine Rn.go (T' := T) (g' := (mkF m 59 #[.val (.ref t0), .val (.int at0), .val (.int cnt), .val (.int v), .val (.int i), s5] [])) (fun t k => XS.icmpYes Y.here hx rfl (pc0 := 10) (pc' := 59) rfl (hb hby d3_10) rfl (flt (by rw [Int32.lt_iff_toInt_lt]; omega)).2.1 (by decide) (by decide) k) ?_
    exact kk _ _ _ Y
  | succ k ih =>
    intro i v s5 T hs5 he hi _ Y kk
    have h1 : (1 : Int32).toInt = 1 := rfl
    have ei : (i + 1).toInt = i.toInt + 1 := by rw [Jvm.Kit.i32_add (by rw [h1]; omega) (by rw [h1]; omega), h1]
    have eni : i.toNatClampNeg + 1 = (i + 1).toNatClampNeg := by rw [own_nat, own_nat]; omega
    have ha := own_at (xs := xs) hi (by omega)
    refine Rn.go (T' := T) (g' := (mkF m 10 #[.val (.ref t0), .val (.int at0), .val (.int cnt), .val (.int v), .val (.int i), s5] [(.int (at0 + cnt)), (.int i)])) (fun t k => ?_) ?_
    · show Steps p.tables e below (T.setTop (mkF m 5 #[.val (.ref t0), .val (.int at0), .val (.int cnt), .val (.int v), .val (.int i), s5] [])) t
      refine XS.iload Y.here hx rfl (hb hby d3_5) rfl ?_
      show Steps p.tables e below (T.setTop (mkF m 7 #[.val (.ref t0), .val (.int at0), .val (.int cnt), .val (.int v), .val (.int i), s5] [(.int i)])) t
      refine XS.iloadN Y.here hx rfl (hb hby d3_7) rfl ?_
      show Steps p.tables e below (T.setTop (mkF m 8 #[.val (.ref t0), .val (.int at0), .val (.int cnt), .val (.int v), .val (.int i), s5] [(.int at0), (.int i)])) t
      refine XS.iloadN Y.here hx rfl (hb hby d3_8) rfl ?_
      show Steps p.tables e below (T.setTop (mkF m 9 #[.val (.ref t0), .val (.int at0), .val (.int cnt), .val (.int v), .val (.int i), s5] [(.int cnt), (.int at0), (.int i)])) t
      refine XS.iadd Y.here hx rfl (hb hby d3_9) rfl ?_
      show Steps p.tables e below (T.setTop (mkF m 10 #[.val (.ref t0), .val (.int at0), .val (.int cnt), .val (.int v), .val (.int i), s5] [(.int (at0 + cnt)), (.int i)])) t
      exact k
    refine Rn.go (T' := T) (g' := (mkF m 13 #[.val (.ref t0), .val (.int at0), .val (.int cnt), .val (.int v), .val (.int i), s5] [])) (fun t k => XS.icmpNo Y.here hx rfl (hb hby d3_10) rfl (tlt (by rw [Int32.lt_iff_toInt_lt]; omega)).2.1 k) ?_
    refine Rn.go (T' := T) (g' := (mkF m 14 #[.val (.ref t0), .val (.int at0), .val (.int cnt), .val (.int v), .val (.int i), s5] [(.int v)])) (fun t k => ?_) ?_
    · show Steps p.tables e below (T.setTop (mkF m 13 #[.val (.ref t0), .val (.int at0), .val (.int cnt), .val (.int v), .val (.int i), s5] [])) t
      refine XS.iloadN Y.here hx rfl (hb hby d3_13) rfl ?_
      show Steps p.tables e below (T.setTop (mkF m 14 #[.val (.ref t0), .val (.int at0), .val (.int cnt), .val (.int v), .val (.int i), s5] [(.int v)])) t
      exact k
    by_cases hc14 : v < (0 : Int32)
    · refine Rn.go (T' := T) (g' := (mkF m 59 #[.val (.ref t0), .val (.int at0), .val (.int cnt), .val (.int v), .val (.int i), s5] [])) (fun t k => XS.ifYes Y.here hx rfl (pc0 := 14) (pc' := 59) rfl (hb hby d3_14) rfl ((if0 _ _).trans (tlt hc14).1) (by decide) (by decide) k) ?_
      have q := kk T i (s5) Y
      rw [own_dgS, if_pos hc14] at q
      exact q
    · refine Rn.go (T' := T) (g' := (mkF m 17 #[.val (.ref t0), .val (.int at0), .val (.int cnt), .val (.int v), .val (.int i), s5] [])) (fun t k => XS.ifNo Y.here hx rfl (hb hby d3_14) rfl ((if0 _ _).trans (flt hc14).1) k) ?_
      refine Rn.go (T' := T) (g' := (mkF m 20 #[.val (.ref t0), .val (.int at0), .val (.int cnt), .val (.int v), .val (.int i), s5] [(.int i), (.ref t0)])) (fun t k => ?_) ?_
      · show Steps p.tables e below (T.setTop (mkF m 17 #[.val (.ref t0), .val (.int at0), .val (.int cnt), .val (.int v), .val (.int i), s5] [])) t
        refine XS.aloadN Y.here hx rfl (hb hby d3_17) rfl rfl ?_
        show Steps p.tables e below (T.setTop (mkF m 18 #[.val (.ref t0), .val (.int at0), .val (.int cnt), .val (.int v), .val (.int i), s5] [(.ref t0)])) t
        refine XS.iload Y.here hx rfl (hb hby d3_18) rfl ?_
        show Steps p.tables e below (T.setTop (mkF m 20 #[.val (.ref t0), .val (.int at0), .val (.int cnt), .val (.int v), .val (.int i), s5] [(.int i), (.ref t0)])) t
        exact k
      refine On.bld Y hx hZ (i := 0) rfl (k := i) (x := (xs.getD i.toNatClampNeg 0)) ha.1 ha.2 (g := (mkF m 20 #[.val (.ref t0), .val (.int at0), .val (.int cnt), .val (.int v), .val (.int i), s5] [(.int i), (.ref t0)])) rfl rfl (hb hby d3_20) ?_
      show Rn p e below F T (mkF m 21 #[.val (.ref t0), .val (.int at0), .val (.int cnt), .val (.int v), .val (.int i), s5] [(.int (xs.getD i.toNatClampNeg 0))])
      refine Rn.go (T' := T) (g' := (mkF m 27 #[.val (.ref t0), .val (.int at0), .val (.int cnt), .val (.int v), .val (.int i), .val (.int (xs.getD i.toNatClampNeg 0))] [(.int (48 : Int32)), (.int (xs.getD i.toNatClampNeg 0))])) (fun t k => ?_) ?_
      · show Steps p.tables e below (T.setTop (mkF m 21 #[.val (.ref t0), .val (.int at0), .val (.int cnt), .val (.int v), .val (.int i), s5] [(.int (xs.getD i.toNatClampNeg 0))])) t
        refine XS.istore Y.here hx rfl (hb hby d3_21) rfl (l' := #[.val (.ref t0), .val (.int at0), .val (.int cnt), .val (.int v), .val (.int i), .val (.int (xs.getD i.toNatClampNeg 0))]) (own_os5 hs5) ?_
        show Steps p.tables e below (T.setTop (mkF m 23 #[.val (.ref t0), .val (.int at0), .val (.int cnt), .val (.int v), .val (.int i), .val (.int (xs.getD i.toNatClampNeg 0))] [])) t
        refine XS.iload Y.here hx rfl (hb hby d3_23) rfl ?_
        show Steps p.tables e below (T.setTop (mkF m 25 #[.val (.ref t0), .val (.int at0), .val (.int cnt), .val (.int v), .val (.int i), .val (.int (xs.getD i.toNatClampNeg 0))] [(.int (xs.getD i.toNatClampNeg 0))])) t
        refine XS.bipush Y.here hx rfl (hb hby d3_25) ?_
        show Steps p.tables e below (T.setTop (mkF m 27 #[.val (.ref t0), .val (.int at0), .val (.int cnt), .val (.int v), .val (.int i), .val (.int (xs.getD i.toNatClampNeg 0))] [(.int (48 : Int32)), (.int (xs.getD i.toNatClampNeg 0))])) t
        exact k
      by_cases hc27 : (xs.getD i.toNatClampNeg 0) < (48 : Int32)
      · refine Rn.go (T' := T) (g' := (mkF m 51 #[.val (.ref t0), .val (.int at0), .val (.int cnt), .val (.int v), .val (.int i), .val (.int (xs.getD i.toNatClampNeg 0))] [])) (fun t k => XS.icmpYes Y.here hx rfl (pc0 := 27) (pc' := 51) rfl (hb hby d3_27) rfl (tlt hc27).1 (by decide) (by decide) k) ?_
        refine Rn.go (T' := T) (g' := (mkF m 5 #[.val (.ref t0), .val (.int at0), .val (.int cnt), .val (.int (-1 : Int32)), .val (.int (i + (1 : Int32))), .val (.int (xs.getD i.toNatClampNeg 0))] [])) (fun t k => ?_) ?_
        · show Steps p.tables e below (T.setTop (mkF m 51 #[.val (.ref t0), .val (.int at0), .val (.int cnt), .val (.int v), .val (.int i), .val (.int (xs.getD i.toNatClampNeg 0))] [])) t
          refine XS.iconst Y.here hx rfl (hb hby d3_51) ?_
          show Steps p.tables e below (T.setTop (mkF m 52 #[.val (.ref t0), .val (.int at0), .val (.int cnt), .val (.int v), .val (.int i), .val (.int (xs.getD i.toNatClampNeg 0))] [(.int (-1 : Int32))])) t
          refine XS.istoreN Y.here hx rfl (hb hby d3_52) rfl (l' := #[.val (.ref t0), .val (.int at0), .val (.int cnt), .val (.int (-1 : Int32)), .val (.int i), .val (.int (xs.getD i.toNatClampNeg 0))]) rfl ?_
          show Steps p.tables e below (T.setTop (mkF m 53 #[.val (.ref t0), .val (.int at0), .val (.int cnt), .val (.int (-1 : Int32)), .val (.int i), .val (.int (xs.getD i.toNatClampNeg 0))] [])) t
          refine XS.iinc Y.here hx rfl (hb hby d3_53) rfl (l' := #[.val (.ref t0), .val (.int at0), .val (.int cnt), .val (.int (-1 : Int32)), .val (.int (i + (1 : Int32))), .val (.int (xs.getD i.toNatClampNeg 0))]) rfl ?_
          show Steps p.tables e below (T.setTop (mkF m 56 #[.val (.ref t0), .val (.int at0), .val (.int cnt), .val (.int (-1 : Int32)), .val (.int (i + (1 : Int32))), .val (.int (xs.getD i.toNatClampNeg 0))] [])) t
          refine XS.goto Y.here hx rfl (pc0 := 56) (pc' := 5) rfl (hb hby d3_56) (by decide) (by decide) ?_
          show Steps p.tables e below (T.setTop (mkF m 5 #[.val (.ref t0), .val (.int at0), .val (.int cnt), .val (.int (-1 : Int32)), .val (.int (i + (1 : Int32))), .val (.int (xs.getD i.toNatClampNeg 0))] [])) t
          exact k
        exact ih (i + 1) _ _ _ (One.val rfl) (by omega) (by omega) (Or.inr trivial) Y fun T' i' s5' Y' => by
          have q := kk T' i' s5' Y'
          rw [own_dgS, if_neg hc14, if_pos hc27, eni] at q
          exact q
      · refine Rn.go (T' := T) (g' := (mkF m 30 #[.val (.ref t0), .val (.int at0), .val (.int cnt), .val (.int v), .val (.int i), .val (.int (xs.getD i.toNatClampNeg 0))] [])) (fun t k => XS.icmpNo Y.here hx rfl (hb hby d3_27) rfl (flt hc27).1 k) ?_
        refine Rn.go (T' := T) (g' := (mkF m 34 #[.val (.ref t0), .val (.int at0), .val (.int cnt), .val (.int v), .val (.int i), .val (.int (xs.getD i.toNatClampNeg 0))] [(.int (57 : Int32)), (.int (xs.getD i.toNatClampNeg 0))])) (fun t k => ?_) ?_
        · show Steps p.tables e below (T.setTop (mkF m 30 #[.val (.ref t0), .val (.int at0), .val (.int cnt), .val (.int v), .val (.int i), .val (.int (xs.getD i.toNatClampNeg 0))] [])) t
          refine XS.iload Y.here hx rfl (hb hby d3_30) rfl ?_
          show Steps p.tables e below (T.setTop (mkF m 32 #[.val (.ref t0), .val (.int at0), .val (.int cnt), .val (.int v), .val (.int i), .val (.int (xs.getD i.toNatClampNeg 0))] [(.int (xs.getD i.toNatClampNeg 0))])) t
          refine XS.bipush Y.here hx rfl (hb hby d3_32) ?_
          show Steps p.tables e below (T.setTop (mkF m 34 #[.val (.ref t0), .val (.int at0), .val (.int cnt), .val (.int v), .val (.int i), .val (.int (xs.getD i.toNatClampNeg 0))] [(.int (57 : Int32)), (.int (xs.getD i.toNatClampNeg 0))])) t
          exact k
        by_cases hc34 : (57 : Int32) < (xs.getD i.toNatClampNeg 0)
        · refine Rn.go (T' := T) (g' := (mkF m 51 #[.val (.ref t0), .val (.int at0), .val (.int cnt), .val (.int v), .val (.int i), .val (.int (xs.getD i.toNatClampNeg 0))] [])) (fun t k => XS.icmpYes Y.here hx rfl (pc0 := 34) (pc' := 51) rfl (hb hby d3_34) rfl (tlt hc34).2.2.1 (by decide) (by decide) k) ?_
          refine Rn.go (T' := T) (g' := (mkF m 5 #[.val (.ref t0), .val (.int at0), .val (.int cnt), .val (.int (-1 : Int32)), .val (.int (i + (1 : Int32))), .val (.int (xs.getD i.toNatClampNeg 0))] [])) (fun t k => ?_) ?_
          · show Steps p.tables e below (T.setTop (mkF m 51 #[.val (.ref t0), .val (.int at0), .val (.int cnt), .val (.int v), .val (.int i), .val (.int (xs.getD i.toNatClampNeg 0))] [])) t
            refine XS.iconst Y.here hx rfl (hb hby d3_51) ?_
            show Steps p.tables e below (T.setTop (mkF m 52 #[.val (.ref t0), .val (.int at0), .val (.int cnt), .val (.int v), .val (.int i), .val (.int (xs.getD i.toNatClampNeg 0))] [(.int (-1 : Int32))])) t
            refine XS.istoreN Y.here hx rfl (hb hby d3_52) rfl (l' := #[.val (.ref t0), .val (.int at0), .val (.int cnt), .val (.int (-1 : Int32)), .val (.int i), .val (.int (xs.getD i.toNatClampNeg 0))]) rfl ?_
            show Steps p.tables e below (T.setTop (mkF m 53 #[.val (.ref t0), .val (.int at0), .val (.int cnt), .val (.int (-1 : Int32)), .val (.int i), .val (.int (xs.getD i.toNatClampNeg 0))] [])) t
            refine XS.iinc Y.here hx rfl (hb hby d3_53) rfl (l' := #[.val (.ref t0), .val (.int at0), .val (.int cnt), .val (.int (-1 : Int32)), .val (.int (i + (1 : Int32))), .val (.int (xs.getD i.toNatClampNeg 0))]) rfl ?_
            show Steps p.tables e below (T.setTop (mkF m 56 #[.val (.ref t0), .val (.int at0), .val (.int cnt), .val (.int (-1 : Int32)), .val (.int (i + (1 : Int32))), .val (.int (xs.getD i.toNatClampNeg 0))] [])) t
            refine XS.goto Y.here hx rfl (pc0 := 56) (pc' := 5) rfl (hb hby d3_56) (by decide) (by decide) ?_
            show Steps p.tables e below (T.setTop (mkF m 5 #[.val (.ref t0), .val (.int at0), .val (.int cnt), .val (.int (-1 : Int32)), .val (.int (i + (1 : Int32))), .val (.int (xs.getD i.toNatClampNeg 0))] [])) t
            exact k
          exact ih (i + 1) _ _ _ (One.val rfl) (by omega) (by omega) (Or.inr trivial) Y fun T' i' s5' Y' => by
            have q := kk T' i' s5' Y'
            rw [own_dgS, if_neg hc14, if_neg hc27, if_pos hc34, eni] at q
            exact q
        · refine Rn.go (T' := T) (g' := (mkF m 37 #[.val (.ref t0), .val (.int at0), .val (.int cnt), .val (.int v), .val (.int i), .val (.int (xs.getD i.toNatClampNeg 0))] [])) (fun t k => XS.icmpNo Y.here hx rfl (hb hby d3_34) rfl (flt hc34).2.2.1 k) ?_
          refine Rn.go (T' := T) (g' := (mkF m 5 #[.val (.ref t0), .val (.int at0), .val (.int cnt), .val (.int (((v * (10 : Int32)) + (xs.getD i.toNatClampNeg 0)) - (48 : Int32))), .val (.int (i + (1 : Int32))), .val (.int (xs.getD i.toNatClampNeg 0))] [])) (fun t k => ?_) ?_
          · show Steps p.tables e below (T.setTop (mkF m 37 #[.val (.ref t0), .val (.int at0), .val (.int cnt), .val (.int v), .val (.int i), .val (.int (xs.getD i.toNatClampNeg 0))] [])) t
            refine XS.iloadN Y.here hx rfl (hb hby d3_37) rfl ?_
            show Steps p.tables e below (T.setTop (mkF m 38 #[.val (.ref t0), .val (.int at0), .val (.int cnt), .val (.int v), .val (.int i), .val (.int (xs.getD i.toNatClampNeg 0))] [(.int v)])) t
            refine XS.bipush Y.here hx rfl (hb hby d3_38) ?_
            show Steps p.tables e below (T.setTop (mkF m 40 #[.val (.ref t0), .val (.int at0), .val (.int cnt), .val (.int v), .val (.int i), .val (.int (xs.getD i.toNatClampNeg 0))] [(.int (10 : Int32)), (.int v)])) t
            refine XS.imul Y.here hx rfl (hb hby d3_40) rfl ?_
            show Steps p.tables e below (T.setTop (mkF m 41 #[.val (.ref t0), .val (.int at0), .val (.int cnt), .val (.int v), .val (.int i), .val (.int (xs.getD i.toNatClampNeg 0))] [(.int (v * (10 : Int32)))])) t
            refine XS.iload Y.here hx rfl (hb hby d3_41) rfl ?_
            show Steps p.tables e below (T.setTop (mkF m 43 #[.val (.ref t0), .val (.int at0), .val (.int cnt), .val (.int v), .val (.int i), .val (.int (xs.getD i.toNatClampNeg 0))] [(.int (xs.getD i.toNatClampNeg 0)), (.int (v * (10 : Int32)))])) t
            refine XS.iadd Y.here hx rfl (hb hby d3_43) rfl ?_
            show Steps p.tables e below (T.setTop (mkF m 44 #[.val (.ref t0), .val (.int at0), .val (.int cnt), .val (.int v), .val (.int i), .val (.int (xs.getD i.toNatClampNeg 0))] [(.int ((v * (10 : Int32)) + (xs.getD i.toNatClampNeg 0)))])) t
            refine XS.bipush Y.here hx rfl (hb hby d3_44) ?_
            show Steps p.tables e below (T.setTop (mkF m 46 #[.val (.ref t0), .val (.int at0), .val (.int cnt), .val (.int v), .val (.int i), .val (.int (xs.getD i.toNatClampNeg 0))] [(.int (48 : Int32)), (.int ((v * (10 : Int32)) + (xs.getD i.toNatClampNeg 0)))])) t
            refine XS.isub Y.here hx rfl (hb hby d3_46) rfl ?_
            show Steps p.tables e below (T.setTop (mkF m 47 #[.val (.ref t0), .val (.int at0), .val (.int cnt), .val (.int v), .val (.int i), .val (.int (xs.getD i.toNatClampNeg 0))] [(.int (((v * (10 : Int32)) + (xs.getD i.toNatClampNeg 0)) - (48 : Int32)))])) t
            refine XS.istoreN Y.here hx rfl (hb hby d3_47) rfl (l' := #[.val (.ref t0), .val (.int at0), .val (.int cnt), .val (.int (((v * (10 : Int32)) + (xs.getD i.toNatClampNeg 0)) - (48 : Int32))), .val (.int i), .val (.int (xs.getD i.toNatClampNeg 0))]) rfl ?_
            show Steps p.tables e below (T.setTop (mkF m 48 #[.val (.ref t0), .val (.int at0), .val (.int cnt), .val (.int (((v * (10 : Int32)) + (xs.getD i.toNatClampNeg 0)) - (48 : Int32))), .val (.int i), .val (.int (xs.getD i.toNatClampNeg 0))] [])) t
            refine XS.goto Y.here hx rfl (pc0 := 48) (pc' := 53) rfl (hb hby d3_48) (by decide) (by decide) ?_
            show Steps p.tables e below (T.setTop (mkF m 53 #[.val (.ref t0), .val (.int at0), .val (.int cnt), .val (.int (((v * (10 : Int32)) + (xs.getD i.toNatClampNeg 0)) - (48 : Int32))), .val (.int i), .val (.int (xs.getD i.toNatClampNeg 0))] [])) t
            refine XS.iinc Y.here hx rfl (hb hby d3_53) rfl (l' := #[.val (.ref t0), .val (.int at0), .val (.int cnt), .val (.int (((v * (10 : Int32)) + (xs.getD i.toNatClampNeg 0)) - (48 : Int32))), .val (.int (i + (1 : Int32))), .val (.int (xs.getD i.toNatClampNeg 0))]) rfl ?_
            show Steps p.tables e below (T.setTop (mkF m 56 #[.val (.ref t0), .val (.int at0), .val (.int cnt), .val (.int (((v * (10 : Int32)) + (xs.getD i.toNatClampNeg 0)) - (48 : Int32))), .val (.int (i + (1 : Int32))), .val (.int (xs.getD i.toNatClampNeg 0))] [])) t
            refine XS.goto Y.here hx rfl (pc0 := 56) (pc' := 5) rfl (hb hby d3_56) (by decide) (by decide) ?_
            show Steps p.tables e below (T.setTop (mkF m 5 #[.val (.ref t0), .val (.int at0), .val (.int cnt), .val (.int (((v * (10 : Int32)) + (xs.getD i.toNatClampNeg 0)) - (48 : Int32))), .val (.int (i + (1 : Int32))), .val (.int (xs.getD i.toNatClampNeg 0))] [])) t
            exact k
          exact ih (i + 1) _ _ _ (One.val rfl) (by omega) (by omega) (Or.inr trivial) Y fun T' i' s5' Y' => by
            have q := kk T' i' s5' Y'
            rw [own_dgS, if_neg hc14, if_neg hc27, if_neg hc34, eni] at q
            exact q
theorem ef_rm3 (m : MethodId) (t0 : Addr) (at0 : Int32) (cnt : Int32) : entryFrame m #[(.ref t0), (.int at0), (.int cnt)] 6 = (mkF m 0 #[.val (.ref t0), .val (.int at0), .val (.int cnt), .unset, .unset, .unset] []) := by first | (simp [entryFrame, mkF, argsToLocals, Value.category]; done) | rfl
set_option maxRecDepth 65536 in
set_option maxHeartbeats 40000000 in
theorem rm3 (l : Launch) (Z : State) (a0 : Array Value) (hw : ∀ d ∈ tables_1, d.before a0 Z = true) (n0 : Nat) (t0 : Addr) (at0 : Int32) (cnt : Int32) (z0 : Int32) (xs : List Int32) (Dr : List (Addr × Itm)) (hxl : xs.length ≤ 1000) (hel : (at0 + cnt).toInt ≤ xs.length) (hat : 0 ≤ at0.toInt) (hcn : 0 ≤ cnt.toInt) (hsum : (at0 + cnt).toInt = at0.toInt + cnt.toInt) :
    Con l Z n0 (⟨"com/example/nishati/nishati/io/CsvRow", "digits", "([BII)I"⟩ : MethodName) prog_63_method_24_code 6 (some .int) ({ frames := 0, cells := 0, slots := 0, locals := 0 } : Room) #[(.ref t0), (.int at0), (.int cnt)] ((ari t0 .byte z0 xs) :: Dr) (fun v D' => v = some (.int (own_dg xs cnt.toNatClampNeg at0.toNatClampNeg 0)) ∧ D' = ((ari t0 .byte z0 xs) :: Dr)) := by
  refine Con.of (plainFor_of_name pn1) ?_
  intro p e s m below meth c T cx Y
  obtain ⟨hx, hby, hml, hown, hnm, hret, hlk, hZ⟩ := cx
  rw [ef_rm3]
  generalize hF : Fi Z n0 below s _ _ _ = F
  refine Rn.go (T' := T) (g' := (mkF m 5 #[.val (.ref t0), .val (.int at0), .val (.int cnt), .val (.int (0 : Int32)), .val (.int at0), .unset] [])) (fun t k => ?_) ?_
  · show Steps p.tables e below (T.setTop (mkF m 0 #[.val (.ref t0), .val (.int at0), .val (.int cnt), .unset, .unset, .unset] [])) t
    refine XS.iconst Y.here hx rfl (hb hby d3_0) ?_
    show Steps p.tables e below (T.setTop (mkF m 1 #[.val (.ref t0), .val (.int at0), .val (.int cnt), .unset, .unset, .unset] [(.int (0 : Int32))])) t
    refine XS.istoreN Y.here hx rfl (hb hby d3_1) rfl (l' := #[.val (.ref t0), .val (.int at0), .val (.int cnt), .val (.int (0 : Int32)), .unset, .unset]) rfl ?_
    show Steps p.tables e below (T.setTop (mkF m 2 #[.val (.ref t0), .val (.int at0), .val (.int cnt), .val (.int (0 : Int32)), .unset, .unset] [])) t
    refine XS.iloadN Y.here hx rfl (hb hby d3_2) rfl ?_
    show Steps p.tables e below (T.setTop (mkF m 3 #[.val (.ref t0), .val (.int at0), .val (.int cnt), .val (.int (0 : Int32)), .unset, .unset] [(.int at0)])) t
    refine XS.istore Y.here hx rfl (hb hby d3_3) rfl (l' := #[.val (.ref t0), .val (.int at0), .val (.int cnt), .val (.int (0 : Int32)), .val (.int at0), .unset]) rfl ?_
    show Steps p.tables e below (T.setTop (mkF m 5 #[.val (.ref t0), .val (.int at0), .val (.int cnt), .val (.int (0 : Int32)), .val (.int at0), .unset] [])) t
    exact k
  refine own_loop hx hby hml hown hZ hw t0 z0 at0 cnt xs Dr hxl hel cnt.toNatClampNeg at0 0 .unset T One.u (by rw [own_nat]; omega) hat (Or.inr trivial) Y fun T9 i9 s9 Y9 => ?_
  refine Rn.go (T' := T9) (g' := (mkF m 60 #[.val (.ref t0), .val (.int at0), .val (.int cnt), .val (.int (own_dg xs cnt.toNatClampNeg at0.toNatClampNeg 0)), .val (.int i9), s9] [(.int (own_dg xs cnt.toNatClampNeg at0.toNatClampNeg 0))])) (fun t k => ?_) ?_
  · show Steps p.tables e below (T9.setTop (mkF m 59 #[.val (.ref t0), .val (.int at0), .val (.int cnt), .val (.int (own_dg xs cnt.toNatClampNeg at0.toNatClampNeg 0)), .val (.int i9), s9] [])) t
    refine XS.iloadN Y9.here hx rfl (hb hby d3_59) rfl ?_
    show Steps p.tables e below (T9.setTop (mkF m 60 #[.val (.ref t0), .val (.int at0), .val (.int cnt), .val (.int (own_dg xs cnt.toNatClampNeg at0.toNatClampNeg 0)), .val (.int i9), s9] [(.int (own_dg xs cnt.toNatClampNeg at0.toNatClampNeg 0))])) t
    exact k
  rw [← hF]; exact On.reti Y9 hx hret hlk (hb hby d3_60) (by decide) (by decide) ⟨rfl, rfl⟩
theorem own_nb (x : Int32) : own_draw x = (own_draw x).toInt8.toInt32 := by
  unfold own_draw; split <;> simp only [Int8.toInt8_toInt32]
theorem own_cnt (x c : Int32) (h : c = (x &&& (2147483647 : Int32)) % (5 : Int32)) : 0 ≤ c.toInt ∧ c.toInt ≤ 4 := by
  have h1 := Jvm.Kit.i32_mask x 2147483647 (k := 31) (by decide) (by decide)
  rw [h, own_remI (k := 5) rfl (by omega)]; omega
theorem own_ac {o c : Int32} (ho : 0 ≤ o.toInt ∧ o.toInt ≤ 2) (hc : 0 ≤ c.toInt ∧ c.toInt ≤ 4) : (o + c).toInt = o.toInt + c.toInt := Jvm.Kit.i32_add (by omega) (by omega)
theorem own_dgm (xs : List Int32) (k i : Nat) : own_dg xs k i (-1) = -1 := by
  cases k
  · rfl
  · rw [own_dgS, if_pos (by decide)]
theorem own_valC (b : Int32) : own_val b = -1 ∨ (¬ b < 48 ∧ ¬ 57 < b ∧ own_val b = b - 48 ∧ 0 ≤ (own_val b).toInt ∧ (own_val b).toInt ≤ 9) := by
  unfold own_val
  by_cases h1 : b < 48
  · left; rw [if_pos h1]
  · by_cases h2 : 57 < b
    · left; rw [if_neg h1, if_pos h2]
    · right
      rw [if_neg h1, if_neg h2]
      have h1' := h1; have h2' := h2
      rw [Int32.lt_iff_toInt_lt] at h1' h2'
      have e48 : (48 : Int32).toInt = 48 := rfl
      have e57 : (57 : Int32).toInt = 57 := rfl
      have e : (b - 48).toInt = b.toInt - 48 := by rw [Jvm.Kit.i32_sub (by rw [e48]; omega) (by rw [e48]; omega), e48]
      exact ⟨h1, h2, rfl, by omega, by omega⟩
theorem own_ge {v : Int32} (h : 0 ≤ v.toInt) : ¬ v < 0 := by rw [Int32.lt_iff_toInt_lt]; have : (0 : Int32).toInt = 0 := rfl; omega
theorem own_st (xs : List Int32) (k i : Nat) (v : Int32) (hv : 0 ≤ v.toInt) : own_dg xs (k + 1) i v = if own_val (xs.getD i 0) < 0 then -1 else own_dg xs k (i + 1) (v * 10 + own_val (xs.getD i 0)) := by
  rw [own_dgS, if_neg (own_ge hv)]
  generalize xs.getD i 0 = b
  rcases own_valC b with h | ⟨h1, h2, h3, h4, h5⟩
  · rw [h, if_pos (by decide : (-1 : Int32) < 0)]
    by_cases h1 : b < 48
    · rw [if_pos h1, own_dgm]
    · by_cases h2 : 57 < b
      · rw [if_neg h1, if_pos h2, own_dgm]
      · unfold own_val at h; rw [if_neg h1, if_neg h2] at h
        exfalso
        have h' := congrArg Int32.toInt h
        rw [Int32.lt_iff_toInt_lt] at h1 h2
        have e48 : (48 : Int32).toInt = 48 := rfl
        have e57 : (57 : Int32).toInt = 57 := rfl
        have em : (-1 : Int32).toInt = -1 := rfl
        rw [Jvm.Kit.i32_sub (by rw [e48]; omega) (by rw [e48]; omega), e48, em] at h'
        omega
  · rw [if_neg h1, if_neg h2, if_neg (own_ge h4), h3, Int32.sub_eq_add_neg, Int32.sub_eq_add_neg, Int32.add_assoc]
theorem own_mi {v d : Int32} {a b : Int} (hv : v.toInt = a) (hd : d.toInt = b) (h0 : 0 ≤ a) (h1 : a ≤ 999) (h2 : 0 ≤ b) (h3 : b ≤ 9) : (v * 10 + d).toInt = a * 10 + b := by
  have e10 : (10 : Int32).toInt = 10 := rfl
  have e1 : (v * 10).toInt = a * 10 := by rw [Jvm.Kit.i32_mul (by rw [e10, hv]; omega) (by rw [e10, hv]; omega), e10, hv]
  rw [Jvm.Kit.i32_add (by rw [e1, hd]; omega) (by rw [e1, hd]; omega), e1, hd]
theorem own_dv (b : Int32) (h : ¬ own_val b < 0) : 0 ≤ (own_val b).toInt ∧ (own_val b).toInt ≤ 9 := by
  rcases own_valC b with q | ⟨-, -, -, q1, q2⟩
  · rw [q] at h; exact absurd (by decide) h
  · exact ⟨q1, q2⟩
theorem own_p (c : Int32) {d : Int32} {k : Int} (hc : c.toInt = k) (h0 : 0 ≤ k) (h1 : k ≤ 1000) (h2 : 0 ≤ d.toInt) (h3 : d.toInt ≤ 9) : (d * c).toInt = d.toInt * k := by
  have := Int.mul_nonneg h2 h0
  have : d.toInt * k ≤ 9 * 1000 := Int.mul_le_mul h3 h1 h0 (by decide)
  rw [Jvm.Kit.i32_mul (by rw [hc]; omega) (by rw [hc]; omega), hc]
theorem own_fin (xs : List Int32) (i : Nat) (cn b0 b1 b2 b3 d0 d1 d2 d3 v206 v310 : Int32) (g0 : xs.getD i 0 = b0) (g1 : xs.getD (i + 1) 0 = b1) (g2 : xs.getD (i + 2) 0 = b2) (g3 : xs.getD (i + 3) 0 = b3) (h0 : d0 = own_val b0) (h1 : d1 = own_val b1) (h2 : d2 = own_val b2) (h3 : d3 = own_val b3) (hbc : 0 ≤ cn.toInt ∧ cn.toInt ≤ 4) (hv : v206 = (if cn < (1 : Int32) then (if cn < (2 : Int32) then (if cn < (3 : Int32) then (if cn < (4 : Int32) then (1 : Int32) else (if d3 < (0 : Int32) then (0 : Int32) else (1 : Int32))) else (if d2 < (0 : Int32) then (0 : Int32) else (if cn < (4 : Int32) then (1 : Int32) else (if d3 < (0 : Int32) then (0 : Int32) else (1 : Int32))))) else (if d1 < (0 : Int32) then (0 : Int32) else (if cn < (3 : Int32) then (if cn < (4 : Int32) then (1 : Int32) else (if d3 < (0 : Int32) then (0 : Int32) else (1 : Int32))) else (if d2 < (0 : Int32) then (0 : Int32) else (if cn < (4 : Int32) then (1 : Int32) else (if d3 < (0 : Int32) then (0 : Int32) else (1 : Int32))))))) else (if d0 < (0 : Int32) then (0 : Int32) else (if cn < (2 : Int32) then (if cn < (3 : Int32) then (if cn < (4 : Int32) then (1 : Int32) else (if d3 < (0 : Int32) then (0 : Int32) else (1 : Int32))) else (if d2 < (0 : Int32) then (0 : Int32) else (if cn < (4 : Int32) then (1 : Int32) else (if d3 < (0 : Int32) then (0 : Int32) else (1 : Int32))))) else (if d1 < (0 : Int32) then (0 : Int32) else (if cn < (3 : Int32) then (if cn < (4 : Int32) then (1 : Int32) else (if d3 < (0 : Int32) then (0 : Int32) else (1 : Int32))) else (if d2 < (0 : Int32) then (0 : Int32) else (if cn < (4 : Int32) then (1 : Int32) else (if d3 < (0 : Int32) then (0 : Int32) else (1 : Int32)))))))))) (hw : v310 = (if v206 = (0 : Int32) then (-1 : Int32) else (if cn = (0 : Int32) then (0 : Int32) else (if cn = (1 : Int32) then d0 else (if cn = (2 : Int32) then ((d0 * (10 : Int32)) + d1) else (if cn = (3 : Int32) then (((d0 * (100 : Int32)) + (d1 * (10 : Int32))) + d2) else ((((d0 * (1000 : Int32)) + (d1 * (100 : Int32))) + (d2 * (10 : Int32))) + d3))))))) : own_dg xs cn.toNatClampNeg i 0 = v310 := by

  have hz : (0 : Int32).toInt = 0 := rfl
  rcases own_le4 hbc.1 hbc.2 with rfl | rfl | rfl | rfl | rfl
  · simp at hv; rw [hv] at hw; simp at hw; rw [hw]; rfl
  · rw [show (1 : Int32).toNatClampNeg = 1 from rfl]
    rw [own_st _ _ _ _ (by rw [hz]; omega), g0, ← h0]
    by_cases q0 : d0 < 0
    · rw [if_pos q0]; simp [q0] at hv; rw [hv] at hw; simp at hw; rw [hw]
    rw [if_neg q0]
    have b0 := own_dv b0 (by rw [← h0]; exact q0)
    rw [← h0] at b0
    have e0 := own_mi (d := d0) (a := 0) (b := d0.toInt) hz rfl (by omega) (by omega) b0.1 b0.2
    simp [q0] at hv; rw [hv] at hw; simp at hw; rw [hw, own_dg0]
    apply Int32.toInt_inj.mp
    rw [e0]
    omega
  · rw [show (2 : Int32).toNatClampNeg = 2 from rfl]
    rw [own_st _ _ _ _ (by rw [hz]; omega), g0, ← h0]
    by_cases q0 : d0 < 0
    · rw [if_pos q0]; simp [q0] at hv; rw [hv] at hw; simp at hw; rw [hw]
    rw [if_neg q0]
    have b0 := own_dv b0 (by rw [← h0]; exact q0)
    rw [← h0] at b0
    have e0 := own_mi (d := d0) (a := 0) (b := d0.toInt) hz rfl (by omega) (by omega) b0.1 b0.2
    rw [own_st _ _ _ _ (by rw [e0]; omega), g1, ← h1]
    by_cases q1 : d1 < 0
    · rw [if_pos q1]; simp [q0, q1] at hv; rw [hv] at hw; simp at hw; rw [hw]
    rw [if_neg q1]
    have b1 := own_dv b1 (by rw [← h1]; exact q1)
    rw [← h1] at b1
    have e1 := own_mi (d := d1) (a := (0 * 10 + d0.toInt)) (b := d1.toInt) e0 rfl (by omega) (by omega) b1.1 b1.2
    simp [q0, q1] at hv; rw [hv] at hw; simp at hw; rw [hw, own_dg0]
    apply Int32.toInt_inj.mp
    rw [e1]
    have f0 := own_p (10 : Int32) (d := d0) (k := 10) rfl (by decide) (by decide) b0.1 b0.2
    have s1 : (d0 * 10 + d1).toInt = d0.toInt * 10 + d1.toInt := by rw [Jvm.Kit.i32_add (by rw [f0]; omega) (by rw [f0]; omega), f0]
    rw [s1]; omega
  · rw [show (3 : Int32).toNatClampNeg = 3 from rfl]
    rw [own_st _ _ _ _ (by rw [hz]; omega), g0, ← h0]
    by_cases q0 : d0 < 0
    · rw [if_pos q0]; simp [q0] at hv; rw [hv] at hw; simp at hw; rw [hw]
    rw [if_neg q0]
    have b0 := own_dv b0 (by rw [← h0]; exact q0)
    rw [← h0] at b0
    have e0 := own_mi (d := d0) (a := 0) (b := d0.toInt) hz rfl (by omega) (by omega) b0.1 b0.2
    rw [own_st _ _ _ _ (by rw [e0]; omega), g1, ← h1]
    by_cases q1 : d1 < 0
    · rw [if_pos q1]; simp [q0, q1] at hv; rw [hv] at hw; simp at hw; rw [hw]
    rw [if_neg q1]
    have b1 := own_dv b1 (by rw [← h1]; exact q1)
    rw [← h1] at b1
    have e1 := own_mi (d := d1) (a := (0 * 10 + d0.toInt)) (b := d1.toInt) e0 rfl (by omega) (by omega) b1.1 b1.2
    rw [own_st _ _ _ _ (by rw [e1]; omega), g2, ← h2]
    by_cases q2 : d2 < 0
    · rw [if_pos q2]; simp [q0, q1, q2] at hv; rw [hv] at hw; simp at hw; rw [hw]
    rw [if_neg q2]
    have b2 := own_dv b2 (by rw [← h2]; exact q2)
    rw [← h2] at b2
    have e2 := own_mi (d := d2) (a := ((0 * 10 + d0.toInt) * 10 + d1.toInt)) (b := d2.toInt) e1 rfl (by omega) (by omega) b2.1 b2.2
    simp [q0, q1, q2] at hv; rw [hv] at hw; simp at hw; rw [hw, own_dg0]
    apply Int32.toInt_inj.mp
    rw [e2]
    have f0 := own_p (100 : Int32) (d := d0) (k := 100) rfl (by decide) (by decide) b0.1 b0.2
    have f1 := own_p (10 : Int32) (d := d1) (k := 10) rfl (by decide) (by decide) b1.1 b1.2
    have s1 : (d0 * 100 + d1 * 10).toInt = d0.toInt * 100 + d1.toInt * 10 := by rw [Jvm.Kit.i32_add (by rw [f0, f1]; omega) (by rw [f0, f1]; omega), f0, f1]
    have s2 : (d0 * 100 + d1 * 10 + d2).toInt = d0.toInt * 100 + d1.toInt * 10 + d2.toInt := by rw [Jvm.Kit.i32_add (by rw [s1]; omega) (by rw [s1]; omega), s1]
    rw [s2]; omega
  · rw [show (4 : Int32).toNatClampNeg = 4 from rfl]
    rw [own_st _ _ _ _ (by rw [hz]; omega), g0, ← h0]
    by_cases q0 : d0 < 0
    · rw [if_pos q0]; simp [q0] at hv; rw [hv] at hw; simp at hw; rw [hw]
    rw [if_neg q0]
    have b0 := own_dv b0 (by rw [← h0]; exact q0)
    rw [← h0] at b0
    have e0 := own_mi (d := d0) (a := 0) (b := d0.toInt) hz rfl (by omega) (by omega) b0.1 b0.2
    rw [own_st _ _ _ _ (by rw [e0]; omega), g1, ← h1]
    by_cases q1 : d1 < 0
    · rw [if_pos q1]; simp [q0, q1] at hv; rw [hv] at hw; simp at hw; rw [hw]
    rw [if_neg q1]
    have b1 := own_dv b1 (by rw [← h1]; exact q1)
    rw [← h1] at b1
    have e1 := own_mi (d := d1) (a := (0 * 10 + d0.toInt)) (b := d1.toInt) e0 rfl (by omega) (by omega) b1.1 b1.2
    rw [own_st _ _ _ _ (by rw [e1]; omega), g2, ← h2]
    by_cases q2 : d2 < 0
    · rw [if_pos q2]; simp [q0, q1, q2] at hv; rw [hv] at hw; simp at hw; rw [hw]
    rw [if_neg q2]
    have b2 := own_dv b2 (by rw [← h2]; exact q2)
    rw [← h2] at b2
    have e2 := own_mi (d := d2) (a := ((0 * 10 + d0.toInt) * 10 + d1.toInt)) (b := d2.toInt) e1 rfl (by omega) (by omega) b2.1 b2.2
    rw [own_st _ _ _ _ (by rw [e2]; omega), g3, ← h3]
    by_cases q3 : d3 < 0
    · rw [if_pos q3]; simp [q0, q1, q2, q3] at hv; rw [hv] at hw; simp at hw; rw [hw]
    rw [if_neg q3]
    have b3 := own_dv b3 (by rw [← h3]; exact q3)
    rw [← h3] at b3
    have e3 := own_mi (d := d3) (a := (((0 * 10 + d0.toInt) * 10 + d1.toInt) * 10 + d2.toInt)) (b := d3.toInt) e2 rfl (by omega) (by omega) b3.1 b3.2
    simp [q0, q1, q2, q3] at hv; rw [hv] at hw; simp at hw; rw [hw, own_dg0]
    apply Int32.toInt_inj.mp
    rw [e3]
    have f0 := own_p (1000 : Int32) (d := d0) (k := 1000) rfl (by decide) (by decide) b0.1 b0.2
    have f1 := own_p (100 : Int32) (d := d1) (k := 100) rfl (by decide) (by decide) b1.1 b1.2
    have f2 := own_p (10 : Int32) (d := d2) (k := 10) rfl (by decide) (by decide) b2.1 b2.2
    have s1 : (d0 * 1000 + d1 * 100).toInt = d0.toInt * 1000 + d1.toInt * 100 := by rw [Jvm.Kit.i32_add (by rw [f0, f1]; omega) (by rw [f0, f1]; omega), f0, f1]
    have s2 : (d0 * 1000 + d1 * 100 + d2 * 10).toInt = d0.toInt * 1000 + d1.toInt * 100 + d2.toInt * 10 := by rw [Jvm.Kit.i32_add (by rw [s1, f2]; omega) (by rw [s1, f2]; omega), s1, f2]
    have s3 : (d0 * 1000 + d1 * 100 + d2 * 10 + d3).toInt = d0.toInt * 1000 + d1.toInt * 100 + d2.toInt * 10 + d3.toInt := by rw [Jvm.Kit.i32_add (by rw [s2]; omega) (by rw [s2]; omega), s2]
    rw [s3]; omega

theorem ef_rm0 (m : MethodId) (p0 : Int32) (p1 : Int32) (p2 : Int32) (p3 : Int32) (p4 : Int32) (p5 : Int32) : entryFrame m #[(.int p0), (.int p1), (.int p2), (.int p3), (.int p4), (.int p5)] maxLocals = (mkF m 0 #[.val (.int p0), .val (.int p1), .val (.int p2), .val (.int p3), .val (.int p4), .val (.int p5), .unset, .unset, .unset, .unset, .unset, .unset, .unset, .unset, .unset, .unset, .unset, .unset, .unset, .unset, .unset] []) := by first | (simp [entryFrame, mkF, argsToLocals, Value.category, maxLocals]; done) | rfl
set_option maxRecDepth 65536 in
set_option maxHeartbeats 40000000 in
theorem rm0 (l : Launch) (Z : State) (a0 : Array Value) (hw : ∀ d ∈ tables_1, d.before a0 Z = true) (n0 : Nat) (p0 : Int32) (p1 : Int32) (p2 : Int32) (p3 : Int32) (p4 : Int32) (p5 : Int32) :
    Con l Z n0 x code maxLocals ret room_1 #[(.int p0), (.int p1), (.int p2), (.int p3), (.int p4), (.int p5)] [] (fun v _ => v = some (.int 1)) := by
  refine Con.of (plainFor_of_name pn0) ?_
  intro p e s m below meth c T cx Y
  obtain ⟨hx, hby, hml, hown, hnm, hret, hlk, hZ⟩ := cx
  rw [ef_rm0]
  generalize hF : Fi Z n0 below s _ _ _ = F
  refine Rn.go (T' := T) (g' := (mkF m 9 #[.val (.int p0), .val (.int p1), .val (.int p2), .val (.int p3), .val (.int p4), .val (.int p5), .val (.int ((p5 &&& (2147483647 : Int32)) % (5 : Int32))), .unset, .unset, .unset, .unset, .unset, .unset, .unset, .unset, .unset, .unset, .unset, .unset, .unset, .unset] [])) (fun t k => ?_) ?_
  · show Steps p.tables e below (T.setTop (mkF m 0 #[.val (.int p0), .val (.int p1), .val (.int p2), .val (.int p3), .val (.int p4), .val (.int p5), .unset, .unset, .unset, .unset, .unset, .unset, .unset, .unset, .unset, .unset, .unset, .unset, .unset, .unset, .unset] [])) t
    refine XS.iload Y.here hx rfl (hb hby at_0) rfl ?_
    show Steps p.tables e below (T.setTop (mkF m 2 #[.val (.int p0), .val (.int p1), .val (.int p2), .val (.int p3), .val (.int p4), .val (.int p5), .unset, .unset, .unset, .unset, .unset, .unset, .unset, .unset, .unset, .unset, .unset, .unset, .unset, .unset, .unset] [(.int p5)])) t
    refine On.sldcI Y hx hZ hown (w0 hw) (g := (mkF m 2 #[.val (.int p0), .val (.int p1), .val (.int p2), .val (.int p3), .val (.int p4), .val (.int p5), .unset, .unset, .unset, .unset, .unset, .unset, .unset, .unset, .unset, .unset, .unset, .unset, .unset, .unset, .unset] [(.int p5)])) rfl (hb hby at_2) _ ?_
    show Steps p.tables e below (T.setTop (mkF m 4 #[.val (.int p0), .val (.int p1), .val (.int p2), .val (.int p3), .val (.int p4), .val (.int p5), .unset, .unset, .unset, .unset, .unset, .unset, .unset, .unset, .unset, .unset, .unset, .unset, .unset, .unset, .unset] [(.int (2147483647 : Int32)), (.int p5)])) t
    refine XS.iand Y.here hx rfl (hb hby at_4) rfl ?_
    show Steps p.tables e below (T.setTop (mkF m 5 #[.val (.int p0), .val (.int p1), .val (.int p2), .val (.int p3), .val (.int p4), .val (.int p5), .unset, .unset, .unset, .unset, .unset, .unset, .unset, .unset, .unset, .unset, .unset, .unset, .unset, .unset, .unset] [(.int (p5 &&& (2147483647 : Int32)))])) t
    refine XS.iconst Y.here hx rfl (hb hby at_5) ?_
    show Steps p.tables e below (T.setTop (mkF m 6 #[.val (.int p0), .val (.int p1), .val (.int p2), .val (.int p3), .val (.int p4), .val (.int p5), .unset, .unset, .unset, .unset, .unset, .unset, .unset, .unset, .unset, .unset, .unset, .unset, .unset, .unset, .unset] [(.int (5 : Int32)), (.int (p5 &&& (2147483647 : Int32)))])) t
    refine own_irem Y.here hx rfl (hb hby at_6) rfl (by decide) ?_
    show Steps p.tables e below (T.setTop (mkF m 7 #[.val (.int p0), .val (.int p1), .val (.int p2), .val (.int p3), .val (.int p4), .val (.int p5), .unset, .unset, .unset, .unset, .unset, .unset, .unset, .unset, .unset, .unset, .unset, .unset, .unset, .unset, .unset] [(.int ((p5 &&& (2147483647 : Int32)) % (5 : Int32)))])) t
    refine XS.istore Y.here hx rfl (hb hby at_7) rfl (l' := #[.val (.int p0), .val (.int p1), .val (.int p2), .val (.int p3), .val (.int p4), .val (.int p5), .val (.int ((p5 &&& (2147483647 : Int32)) % (5 : Int32))), .unset, .unset, .unset, .unset, .unset, .unset, .unset, .unset, .unset, .unset, .unset, .unset, .unset, .unset]) rfl ?_
    show Steps p.tables e below (T.setTop (mkF m 9 #[.val (.int p0), .val (.int p1), .val (.int p2), .val (.int p3), .val (.int p4), .val (.int p5), .val (.int ((p5 &&& (2147483647 : Int32)) % (5 : Int32))), .unset, .unset, .unset, .unset, .unset, .unset, .unset, .unset, .unset, .unset, .unset, .unset, .unset, .unset] [])) t
    exact k
  obtain ⟨cn, hcn⟩ : ∃ z : Int32, z = ((p5 &&& (2147483647 : Int32)) % (5 : Int32)) := ⟨_, rfl⟩
  rw [← hcn]
  have hbc := own_cnt _ _ hcn
  refine Rn.go (T' := T) (g' := (mkF m 24 #[.val (.int p0), .val (.int p1), .val (.int p2), .val (.int p3), .val (.int p4), .val (.int p5), .val (.int cn), .val (.int ((((p5.toUInt32 >>> ((8 : Int32) &&& 31).toUInt32).toInt32) &&& (255 : Int32)) % (3 : Int32))), .unset, .unset, .unset, .unset, .unset, .unset, .unset, .unset, .unset, .unset, .unset, .unset, .unset] [(.int p4)])) (fun t k => ?_) ?_
  · show Steps p.tables e below (T.setTop (mkF m 9 #[.val (.int p0), .val (.int p1), .val (.int p2), .val (.int p3), .val (.int p4), .val (.int p5), .val (.int cn), .unset, .unset, .unset, .unset, .unset, .unset, .unset, .unset, .unset, .unset, .unset, .unset, .unset, .unset] [])) t
    refine XS.iload Y.here hx rfl (hb hby at_9) rfl ?_
    show Steps p.tables e below (T.setTop (mkF m 11 #[.val (.int p0), .val (.int p1), .val (.int p2), .val (.int p3), .val (.int p4), .val (.int p5), .val (.int cn), .unset, .unset, .unset, .unset, .unset, .unset, .unset, .unset, .unset, .unset, .unset, .unset, .unset, .unset] [(.int p5)])) t
    refine XS.bipush Y.here hx rfl (hb hby at_11) ?_
    show Steps p.tables e below (T.setTop (mkF m 13 #[.val (.int p0), .val (.int p1), .val (.int p2), .val (.int p3), .val (.int p4), .val (.int p5), .val (.int cn), .unset, .unset, .unset, .unset, .unset, .unset, .unset, .unset, .unset, .unset, .unset, .unset, .unset, .unset] [(.int (8 : Int32)), (.int p5)])) t
    refine XS.iushr Y.here hx rfl (hb hby at_13) rfl ?_
    show Steps p.tables e below (T.setTop (mkF m 14 #[.val (.int p0), .val (.int p1), .val (.int p2), .val (.int p3), .val (.int p4), .val (.int p5), .val (.int cn), .unset, .unset, .unset, .unset, .unset, .unset, .unset, .unset, .unset, .unset, .unset, .unset, .unset, .unset] [(.int ((p5.toUInt32 >>> ((8 : Int32) &&& 31).toUInt32).toInt32))])) t
    refine XS.sipush Y.here hx rfl (hb hby at_14) ?_
    show Steps p.tables e below (T.setTop (mkF m 17 #[.val (.int p0), .val (.int p1), .val (.int p2), .val (.int p3), .val (.int p4), .val (.int p5), .val (.int cn), .unset, .unset, .unset, .unset, .unset, .unset, .unset, .unset, .unset, .unset, .unset, .unset, .unset, .unset] [(.int (255 : Int32)), (.int ((p5.toUInt32 >>> ((8 : Int32) &&& 31).toUInt32).toInt32))])) t
    refine XS.iand Y.here hx rfl (hb hby at_17) rfl ?_
    show Steps p.tables e below (T.setTop (mkF m 18 #[.val (.int p0), .val (.int p1), .val (.int p2), .val (.int p3), .val (.int p4), .val (.int p5), .val (.int cn), .unset, .unset, .unset, .unset, .unset, .unset, .unset, .unset, .unset, .unset, .unset, .unset, .unset, .unset] [(.int (((p5.toUInt32 >>> ((8 : Int32) &&& 31).toUInt32).toInt32) &&& (255 : Int32)))])) t
    refine XS.iconst Y.here hx rfl (hb hby at_18) ?_
    show Steps p.tables e below (T.setTop (mkF m 19 #[.val (.int p0), .val (.int p1), .val (.int p2), .val (.int p3), .val (.int p4), .val (.int p5), .val (.int cn), .unset, .unset, .unset, .unset, .unset, .unset, .unset, .unset, .unset, .unset, .unset, .unset, .unset, .unset] [(.int (3 : Int32)), (.int (((p5.toUInt32 >>> ((8 : Int32) &&& 31).toUInt32).toInt32) &&& (255 : Int32)))])) t
    refine own_irem Y.here hx rfl (hb hby at_19) rfl (by decide) ?_
    show Steps p.tables e below (T.setTop (mkF m 20 #[.val (.int p0), .val (.int p1), .val (.int p2), .val (.int p3), .val (.int p4), .val (.int p5), .val (.int cn), .unset, .unset, .unset, .unset, .unset, .unset, .unset, .unset, .unset, .unset, .unset, .unset, .unset, .unset] [(.int ((((p5.toUInt32 >>> ((8 : Int32) &&& 31).toUInt32).toInt32) &&& (255 : Int32)) % (3 : Int32)))])) t
    refine XS.istore Y.here hx rfl (hb hby at_20) rfl (l' := #[.val (.int p0), .val (.int p1), .val (.int p2), .val (.int p3), .val (.int p4), .val (.int p5), .val (.int cn), .val (.int ((((p5.toUInt32 >>> ((8 : Int32) &&& 31).toUInt32).toInt32) &&& (255 : Int32)) % (3 : Int32))), .unset, .unset, .unset, .unset, .unset, .unset, .unset, .unset, .unset, .unset, .unset, .unset, .unset]) rfl ?_
    show Steps p.tables e below (T.setTop (mkF m 22 #[.val (.int p0), .val (.int p1), .val (.int p2), .val (.int p3), .val (.int p4), .val (.int p5), .val (.int cn), .val (.int ((((p5.toUInt32 >>> ((8 : Int32) &&& 31).toUInt32).toInt32) &&& (255 : Int32)) % (3 : Int32))), .unset, .unset, .unset, .unset, .unset, .unset, .unset, .unset, .unset, .unset, .unset, .unset, .unset] [])) t
    refine XS.iload Y.here hx rfl (hb hby at_22) rfl ?_
    show Steps p.tables e below (T.setTop (mkF m 24 #[.val (.int p0), .val (.int p1), .val (.int p2), .val (.int p3), .val (.int p4), .val (.int p5), .val (.int cn), .val (.int ((((p5.toUInt32 >>> ((8 : Int32) &&& 31).toUInt32).toInt32) &&& (255 : Int32)) % (3 : Int32))), .unset, .unset, .unset, .unset, .unset, .unset, .unset, .unset, .unset, .unset, .unset, .unset, .unset] [(.int p4)])) t
    exact k
  refine On.static Y hx hZ (y := (⟨"com/example/nishati/nishati/io/CsvRowDigitsPinLaw", "draw", "(I)B"⟩ : MethodName)) hown (w1 hw) (w2 hw) (w4 hw) (w3 hw) (by decide) (argsL := [(.int p4)]) (rest := []) (rm1 l Z a0 hw n0 p4 []) (W := 0) (by decide) (by decide) (by decide) (by decide) (g := (mkF m 24 #[.val (.int p0), .val (.int p1), .val (.int p2), .val (.int p3), .val (.int p4), .val (.int p5), .val (.int cn), .val (.int ((((p5.toUInt32 >>> ((8 : Int32) &&& 31).toUInt32).toInt32) &&& (255 : Int32)) % (3 : Int32))), .unset, .unset, .unset, .unset, .unset, .unset, .unset, .unset, .unset, .unset, .unset, .unset, .unset] [(.int p4)])) rfl (by rw [hml]; rfl) (lenOf pd0 rfl) rfl (by show 2 * 0 + _ ≤ _; exact Nat.le_of_eq rfl) (hb hby at_24) ?_
  intro T1 u3 D4 hp5 Y2
  obtain ⟨r24, hr24, rfl, rfl⟩ : ∃ z : Int32, z = (own_draw p4) ∧ u3 = some (.int z) ∧ D4 = _ := ⟨_, rfl, hp5.1, hp5.2⟩
  replace Y2 : On p l e _ s m _ below meth c Z n0 T1 0 0 [] := Y2
  show Rn p e below F T1 (mkF m 27 #[.val (.int p0), .val (.int p1), .val (.int p2), .val (.int p3), .val (.int p4), .val (.int p5), .val (.int cn), .val (.int ((((p5.toUInt32 >>> ((8 : Int32) &&& 31).toUInt32).toInt32) &&& (255 : Int32)) % (3 : Int32))), .unset, .unset, .unset, .unset, .unset, .unset, .unset, .unset, .unset, .unset, .unset, .unset, .unset] [(.int r24)])
  have en24 : r24.toInt8.toInt32 = r24 := by rw [hr24]; exact (own_nb _).symm
  refine Rn.go (T' := T1) (g' := (mkF m 30 #[.val (.int p0), .val (.int p1), .val (.int p2), .val (.int p3), .val (.int p4), .val (.int p5), .val (.int cn), .val (.int ((((p5.toUInt32 >>> ((8 : Int32) &&& 31).toUInt32).toInt32) &&& (255 : Int32)) % (3 : Int32))), .val (.int r24), .unset, .unset, .unset, .unset, .unset, .unset, .unset, .unset, .unset, .unset, .unset, .unset] [(.int p0)])) (fun t k => ?_) ?_
  · show Steps p.tables e below (T1.setTop (mkF m 27 #[.val (.int p0), .val (.int p1), .val (.int p2), .val (.int p3), .val (.int p4), .val (.int p5), .val (.int cn), .val (.int ((((p5.toUInt32 >>> ((8 : Int32) &&& 31).toUInt32).toInt32) &&& (255 : Int32)) % (3 : Int32))), .unset, .unset, .unset, .unset, .unset, .unset, .unset, .unset, .unset, .unset, .unset, .unset, .unset] [(.int r24)])) t
    refine XS.istore Y2.here hx rfl (hb hby at_27) rfl (l' := #[.val (.int p0), .val (.int p1), .val (.int p2), .val (.int p3), .val (.int p4), .val (.int p5), .val (.int cn), .val (.int ((((p5.toUInt32 >>> ((8 : Int32) &&& 31).toUInt32).toInt32) &&& (255 : Int32)) % (3 : Int32))), .val (.int r24), .unset, .unset, .unset, .unset, .unset, .unset, .unset, .unset, .unset, .unset, .unset, .unset]) rfl ?_
    show Steps p.tables e below (T1.setTop (mkF m 29 #[.val (.int p0), .val (.int p1), .val (.int p2), .val (.int p3), .val (.int p4), .val (.int p5), .val (.int cn), .val (.int ((((p5.toUInt32 >>> ((8 : Int32) &&& 31).toUInt32).toInt32) &&& (255 : Int32)) % (3 : Int32))), .val (.int r24), .unset, .unset, .unset, .unset, .unset, .unset, .unset, .unset, .unset, .unset, .unset, .unset] [])) t
    refine XS.iloadN Y2.here hx rfl (hb hby at_29) rfl ?_
    show Steps p.tables e below (T1.setTop (mkF m 30 #[.val (.int p0), .val (.int p1), .val (.int p2), .val (.int p3), .val (.int p4), .val (.int p5), .val (.int cn), .val (.int ((((p5.toUInt32 >>> ((8 : Int32) &&& 31).toUInt32).toInt32) &&& (255 : Int32)) % (3 : Int32))), .val (.int r24), .unset, .unset, .unset, .unset, .unset, .unset, .unset, .unset, .unset, .unset, .unset, .unset] [(.int p0)])) t
    exact k
  refine On.static Y2 hx hZ (y := (⟨"com/example/nishati/nishati/io/CsvRowDigitsPinLaw", "draw", "(I)B"⟩ : MethodName)) hown (w1 hw) (w2 hw) (w4 hw) (w3 hw) (by decide) (argsL := [(.int p0)]) (rest := []) (rm1 l Z a0 hw n0 p0 []) (W := 0) (by decide) (by decide) (by decide) (by decide) (g := (mkF m 30 #[.val (.int p0), .val (.int p1), .val (.int p2), .val (.int p3), .val (.int p4), .val (.int p5), .val (.int cn), .val (.int ((((p5.toUInt32 >>> ((8 : Int32) &&& 31).toUInt32).toInt32) &&& (255 : Int32)) % (3 : Int32))), .val (.int r24), .unset, .unset, .unset, .unset, .unset, .unset, .unset, .unset, .unset, .unset, .unset, .unset] [(.int p0)])) rfl (by rw [hml]; rfl) (lenOf pd0 rfl) rfl (by show 2 * 0 + _ ≤ _; exact Nat.le_of_eq rfl) (hb hby at_30) ?_
  intro T6 u8 D9 hp10 Y7
  obtain ⟨r30, hr30, rfl, rfl⟩ : ∃ z : Int32, z = (own_draw p0) ∧ u8 = some (.int z) ∧ D9 = _ := ⟨_, rfl, hp10.1, hp10.2⟩
  replace Y7 : On p l e _ s m _ below meth c Z n0 T6 0 0 [] := Y7
  show Rn p e below F T6 (mkF m 33 #[.val (.int p0), .val (.int p1), .val (.int p2), .val (.int p3), .val (.int p4), .val (.int p5), .val (.int cn), .val (.int ((((p5.toUInt32 >>> ((8 : Int32) &&& 31).toUInt32).toInt32) &&& (255 : Int32)) % (3 : Int32))), .val (.int r24), .unset, .unset, .unset, .unset, .unset, .unset, .unset, .unset, .unset, .unset, .unset, .unset] [(.int r30)])
  have en30 : r30.toInt8.toInt32 = r30 := by rw [hr30]; exact (own_nb _).symm
  refine Rn.go (T' := T6) (g' := (mkF m 36 #[.val (.int p0), .val (.int p1), .val (.int p2), .val (.int p3), .val (.int p4), .val (.int p5), .val (.int cn), .val (.int ((((p5.toUInt32 >>> ((8 : Int32) &&& 31).toUInt32).toInt32) &&& (255 : Int32)) % (3 : Int32))), .val (.int r24), .val (.int r30), .unset, .unset, .unset, .unset, .unset, .unset, .unset, .unset, .unset, .unset, .unset] [(.int p1)])) (fun t k => ?_) ?_
  · show Steps p.tables e below (T6.setTop (mkF m 33 #[.val (.int p0), .val (.int p1), .val (.int p2), .val (.int p3), .val (.int p4), .val (.int p5), .val (.int cn), .val (.int ((((p5.toUInt32 >>> ((8 : Int32) &&& 31).toUInt32).toInt32) &&& (255 : Int32)) % (3 : Int32))), .val (.int r24), .unset, .unset, .unset, .unset, .unset, .unset, .unset, .unset, .unset, .unset, .unset, .unset] [(.int r30)])) t
    refine XS.istore Y7.here hx rfl (hb hby at_33) rfl (l' := #[.val (.int p0), .val (.int p1), .val (.int p2), .val (.int p3), .val (.int p4), .val (.int p5), .val (.int cn), .val (.int ((((p5.toUInt32 >>> ((8 : Int32) &&& 31).toUInt32).toInt32) &&& (255 : Int32)) % (3 : Int32))), .val (.int r24), .val (.int r30), .unset, .unset, .unset, .unset, .unset, .unset, .unset, .unset, .unset, .unset, .unset]) rfl ?_
    show Steps p.tables e below (T6.setTop (mkF m 35 #[.val (.int p0), .val (.int p1), .val (.int p2), .val (.int p3), .val (.int p4), .val (.int p5), .val (.int cn), .val (.int ((((p5.toUInt32 >>> ((8 : Int32) &&& 31).toUInt32).toInt32) &&& (255 : Int32)) % (3 : Int32))), .val (.int r24), .val (.int r30), .unset, .unset, .unset, .unset, .unset, .unset, .unset, .unset, .unset, .unset, .unset] [])) t
    refine XS.iloadN Y7.here hx rfl (hb hby at_35) rfl ?_
    show Steps p.tables e below (T6.setTop (mkF m 36 #[.val (.int p0), .val (.int p1), .val (.int p2), .val (.int p3), .val (.int p4), .val (.int p5), .val (.int cn), .val (.int ((((p5.toUInt32 >>> ((8 : Int32) &&& 31).toUInt32).toInt32) &&& (255 : Int32)) % (3 : Int32))), .val (.int r24), .val (.int r30), .unset, .unset, .unset, .unset, .unset, .unset, .unset, .unset, .unset, .unset, .unset] [(.int p1)])) t
    exact k
  refine On.static Y7 hx hZ (y := (⟨"com/example/nishati/nishati/io/CsvRowDigitsPinLaw", "draw", "(I)B"⟩ : MethodName)) hown (w1 hw) (w2 hw) (w4 hw) (w3 hw) (by decide) (argsL := [(.int p1)]) (rest := []) (rm1 l Z a0 hw n0 p1 []) (W := 0) (by decide) (by decide) (by decide) (by decide) (g := (mkF m 36 #[.val (.int p0), .val (.int p1), .val (.int p2), .val (.int p3), .val (.int p4), .val (.int p5), .val (.int cn), .val (.int ((((p5.toUInt32 >>> ((8 : Int32) &&& 31).toUInt32).toInt32) &&& (255 : Int32)) % (3 : Int32))), .val (.int r24), .val (.int r30), .unset, .unset, .unset, .unset, .unset, .unset, .unset, .unset, .unset, .unset, .unset] [(.int p1)])) rfl (by rw [hml]; rfl) (lenOf pd0 rfl) rfl (by show 2 * 0 + _ ≤ _; exact Nat.le_of_eq rfl) (hb hby at_36) ?_
  intro T11 u13 D14 hp15 Y12
  obtain ⟨r36, hr36, rfl, rfl⟩ : ∃ z : Int32, z = (own_draw p1) ∧ u13 = some (.int z) ∧ D14 = _ := ⟨_, rfl, hp15.1, hp15.2⟩
  replace Y12 : On p l e _ s m _ below meth c Z n0 T11 0 0 [] := Y12
  show Rn p e below F T11 (mkF m 39 #[.val (.int p0), .val (.int p1), .val (.int p2), .val (.int p3), .val (.int p4), .val (.int p5), .val (.int cn), .val (.int ((((p5.toUInt32 >>> ((8 : Int32) &&& 31).toUInt32).toInt32) &&& (255 : Int32)) % (3 : Int32))), .val (.int r24), .val (.int r30), .unset, .unset, .unset, .unset, .unset, .unset, .unset, .unset, .unset, .unset, .unset] [(.int r36)])
  have en36 : r36.toInt8.toInt32 = r36 := by rw [hr36]; exact (own_nb _).symm
  refine Rn.go (T' := T11) (g' := (mkF m 42 #[.val (.int p0), .val (.int p1), .val (.int p2), .val (.int p3), .val (.int p4), .val (.int p5), .val (.int cn), .val (.int ((((p5.toUInt32 >>> ((8 : Int32) &&& 31).toUInt32).toInt32) &&& (255 : Int32)) % (3 : Int32))), .val (.int r24), .val (.int r30), .val (.int r36), .unset, .unset, .unset, .unset, .unset, .unset, .unset, .unset, .unset, .unset] [(.int p2)])) (fun t k => ?_) ?_
  · show Steps p.tables e below (T11.setTop (mkF m 39 #[.val (.int p0), .val (.int p1), .val (.int p2), .val (.int p3), .val (.int p4), .val (.int p5), .val (.int cn), .val (.int ((((p5.toUInt32 >>> ((8 : Int32) &&& 31).toUInt32).toInt32) &&& (255 : Int32)) % (3 : Int32))), .val (.int r24), .val (.int r30), .unset, .unset, .unset, .unset, .unset, .unset, .unset, .unset, .unset, .unset, .unset] [(.int r36)])) t
    refine XS.istore Y12.here hx rfl (hb hby at_39) rfl (l' := #[.val (.int p0), .val (.int p1), .val (.int p2), .val (.int p3), .val (.int p4), .val (.int p5), .val (.int cn), .val (.int ((((p5.toUInt32 >>> ((8 : Int32) &&& 31).toUInt32).toInt32) &&& (255 : Int32)) % (3 : Int32))), .val (.int r24), .val (.int r30), .val (.int r36), .unset, .unset, .unset, .unset, .unset, .unset, .unset, .unset, .unset, .unset]) rfl ?_
    show Steps p.tables e below (T11.setTop (mkF m 41 #[.val (.int p0), .val (.int p1), .val (.int p2), .val (.int p3), .val (.int p4), .val (.int p5), .val (.int cn), .val (.int ((((p5.toUInt32 >>> ((8 : Int32) &&& 31).toUInt32).toInt32) &&& (255 : Int32)) % (3 : Int32))), .val (.int r24), .val (.int r30), .val (.int r36), .unset, .unset, .unset, .unset, .unset, .unset, .unset, .unset, .unset, .unset] [])) t
    refine XS.iloadN Y12.here hx rfl (hb hby at_41) rfl ?_
    show Steps p.tables e below (T11.setTop (mkF m 42 #[.val (.int p0), .val (.int p1), .val (.int p2), .val (.int p3), .val (.int p4), .val (.int p5), .val (.int cn), .val (.int ((((p5.toUInt32 >>> ((8 : Int32) &&& 31).toUInt32).toInt32) &&& (255 : Int32)) % (3 : Int32))), .val (.int r24), .val (.int r30), .val (.int r36), .unset, .unset, .unset, .unset, .unset, .unset, .unset, .unset, .unset, .unset] [(.int p2)])) t
    exact k
  refine On.static Y12 hx hZ (y := (⟨"com/example/nishati/nishati/io/CsvRowDigitsPinLaw", "draw", "(I)B"⟩ : MethodName)) hown (w1 hw) (w2 hw) (w4 hw) (w3 hw) (by decide) (argsL := [(.int p2)]) (rest := []) (rm1 l Z a0 hw n0 p2 []) (W := 0) (by decide) (by decide) (by decide) (by decide) (g := (mkF m 42 #[.val (.int p0), .val (.int p1), .val (.int p2), .val (.int p3), .val (.int p4), .val (.int p5), .val (.int cn), .val (.int ((((p5.toUInt32 >>> ((8 : Int32) &&& 31).toUInt32).toInt32) &&& (255 : Int32)) % (3 : Int32))), .val (.int r24), .val (.int r30), .val (.int r36), .unset, .unset, .unset, .unset, .unset, .unset, .unset, .unset, .unset, .unset] [(.int p2)])) rfl (by rw [hml]; rfl) (lenOf pd0 rfl) rfl (by show 2 * 0 + _ ≤ _; exact Nat.le_of_eq rfl) (hb hby at_42) ?_
  intro T16 u18 D19 hp20 Y17
  obtain ⟨r42, hr42, rfl, rfl⟩ : ∃ z : Int32, z = (own_draw p2) ∧ u18 = some (.int z) ∧ D19 = _ := ⟨_, rfl, hp20.1, hp20.2⟩
  replace Y17 : On p l e _ s m _ below meth c Z n0 T16 0 0 [] := Y17
  show Rn p e below F T16 (mkF m 45 #[.val (.int p0), .val (.int p1), .val (.int p2), .val (.int p3), .val (.int p4), .val (.int p5), .val (.int cn), .val (.int ((((p5.toUInt32 >>> ((8 : Int32) &&& 31).toUInt32).toInt32) &&& (255 : Int32)) % (3 : Int32))), .val (.int r24), .val (.int r30), .val (.int r36), .unset, .unset, .unset, .unset, .unset, .unset, .unset, .unset, .unset, .unset] [(.int r42)])
  have en42 : r42.toInt8.toInt32 = r42 := by rw [hr42]; exact (own_nb _).symm
  refine Rn.go (T' := T16) (g' := (mkF m 48 #[.val (.int p0), .val (.int p1), .val (.int p2), .val (.int p3), .val (.int p4), .val (.int p5), .val (.int cn), .val (.int ((((p5.toUInt32 >>> ((8 : Int32) &&& 31).toUInt32).toInt32) &&& (255 : Int32)) % (3 : Int32))), .val (.int r24), .val (.int r30), .val (.int r36), .val (.int r42), .unset, .unset, .unset, .unset, .unset, .unset, .unset, .unset, .unset] [(.int p3)])) (fun t k => ?_) ?_
  · show Steps p.tables e below (T16.setTop (mkF m 45 #[.val (.int p0), .val (.int p1), .val (.int p2), .val (.int p3), .val (.int p4), .val (.int p5), .val (.int cn), .val (.int ((((p5.toUInt32 >>> ((8 : Int32) &&& 31).toUInt32).toInt32) &&& (255 : Int32)) % (3 : Int32))), .val (.int r24), .val (.int r30), .val (.int r36), .unset, .unset, .unset, .unset, .unset, .unset, .unset, .unset, .unset, .unset] [(.int r42)])) t
    refine XS.istore Y17.here hx rfl (hb hby at_45) rfl (l' := #[.val (.int p0), .val (.int p1), .val (.int p2), .val (.int p3), .val (.int p4), .val (.int p5), .val (.int cn), .val (.int ((((p5.toUInt32 >>> ((8 : Int32) &&& 31).toUInt32).toInt32) &&& (255 : Int32)) % (3 : Int32))), .val (.int r24), .val (.int r30), .val (.int r36), .val (.int r42), .unset, .unset, .unset, .unset, .unset, .unset, .unset, .unset, .unset]) rfl ?_
    show Steps p.tables e below (T16.setTop (mkF m 47 #[.val (.int p0), .val (.int p1), .val (.int p2), .val (.int p3), .val (.int p4), .val (.int p5), .val (.int cn), .val (.int ((((p5.toUInt32 >>> ((8 : Int32) &&& 31).toUInt32).toInt32) &&& (255 : Int32)) % (3 : Int32))), .val (.int r24), .val (.int r30), .val (.int r36), .val (.int r42), .unset, .unset, .unset, .unset, .unset, .unset, .unset, .unset, .unset] [])) t
    refine XS.iloadN Y17.here hx rfl (hb hby at_47) rfl ?_
    show Steps p.tables e below (T16.setTop (mkF m 48 #[.val (.int p0), .val (.int p1), .val (.int p2), .val (.int p3), .val (.int p4), .val (.int p5), .val (.int cn), .val (.int ((((p5.toUInt32 >>> ((8 : Int32) &&& 31).toUInt32).toInt32) &&& (255 : Int32)) % (3 : Int32))), .val (.int r24), .val (.int r30), .val (.int r36), .val (.int r42), .unset, .unset, .unset, .unset, .unset, .unset, .unset, .unset, .unset] [(.int p3)])) t
    exact k
  refine On.static Y17 hx hZ (y := (⟨"com/example/nishati/nishati/io/CsvRowDigitsPinLaw", "draw", "(I)B"⟩ : MethodName)) hown (w1 hw) (w2 hw) (w4 hw) (w3 hw) (by decide) (argsL := [(.int p3)]) (rest := []) (rm1 l Z a0 hw n0 p3 []) (W := 0) (by decide) (by decide) (by decide) (by decide) (g := (mkF m 48 #[.val (.int p0), .val (.int p1), .val (.int p2), .val (.int p3), .val (.int p4), .val (.int p5), .val (.int cn), .val (.int ((((p5.toUInt32 >>> ((8 : Int32) &&& 31).toUInt32).toInt32) &&& (255 : Int32)) % (3 : Int32))), .val (.int r24), .val (.int r30), .val (.int r36), .val (.int r42), .unset, .unset, .unset, .unset, .unset, .unset, .unset, .unset, .unset] [(.int p3)])) rfl (by rw [hml]; rfl) (lenOf pd0 rfl) rfl (by show 2 * 0 + _ ≤ _; exact Nat.le_of_eq rfl) (hb hby at_48) ?_
  intro T21 u23 D24 hp25 Y22
  obtain ⟨r48, hr48, rfl, rfl⟩ : ∃ z : Int32, z = (own_draw p3) ∧ u23 = some (.int z) ∧ D24 = _ := ⟨_, rfl, hp25.1, hp25.2⟩
  replace Y22 : On p l e _ s m _ below meth c Z n0 T21 0 0 [] := Y22
  show Rn p e below F T21 (mkF m 51 #[.val (.int p0), .val (.int p1), .val (.int p2), .val (.int p3), .val (.int p4), .val (.int p5), .val (.int cn), .val (.int ((((p5.toUInt32 >>> ((8 : Int32) &&& 31).toUInt32).toInt32) &&& (255 : Int32)) % (3 : Int32))), .val (.int r24), .val (.int r30), .val (.int r36), .val (.int r42), .unset, .unset, .unset, .unset, .unset, .unset, .unset, .unset, .unset] [(.int r48)])
  have en48 : r48.toInt8.toInt32 = r48 := by rw [hr48]; exact (own_nb _).symm
  refine Rn.go (T' := T21) (g' := (mkF m 55 #[.val (.int p0), .val (.int p1), .val (.int p2), .val (.int p3), .val (.int p4), .val (.int p5), .val (.int cn), .val (.int ((((p5.toUInt32 >>> ((8 : Int32) &&& 31).toUInt32).toInt32) &&& (255 : Int32)) % (3 : Int32))), .val (.int r24), .val (.int r30), .val (.int r36), .val (.int r42), .val (.int r48), .unset, .unset, .unset, .unset, .unset, .unset, .unset, .unset] [(.int (6 : Int32))])) (fun t k => ?_) ?_
  · show Steps p.tables e below (T21.setTop (mkF m 51 #[.val (.int p0), .val (.int p1), .val (.int p2), .val (.int p3), .val (.int p4), .val (.int p5), .val (.int cn), .val (.int ((((p5.toUInt32 >>> ((8 : Int32) &&& 31).toUInt32).toInt32) &&& (255 : Int32)) % (3 : Int32))), .val (.int r24), .val (.int r30), .val (.int r36), .val (.int r42), .unset, .unset, .unset, .unset, .unset, .unset, .unset, .unset, .unset] [(.int r48)])) t
    refine XS.istore Y22.here hx rfl (hb hby at_51) rfl (l' := #[.val (.int p0), .val (.int p1), .val (.int p2), .val (.int p3), .val (.int p4), .val (.int p5), .val (.int cn), .val (.int ((((p5.toUInt32 >>> ((8 : Int32) &&& 31).toUInt32).toInt32) &&& (255 : Int32)) % (3 : Int32))), .val (.int r24), .val (.int r30), .val (.int r36), .val (.int r42), .val (.int r48), .unset, .unset, .unset, .unset, .unset, .unset, .unset, .unset]) rfl ?_
    show Steps p.tables e below (T21.setTop (mkF m 53 #[.val (.int p0), .val (.int p1), .val (.int p2), .val (.int p3), .val (.int p4), .val (.int p5), .val (.int cn), .val (.int ((((p5.toUInt32 >>> ((8 : Int32) &&& 31).toUInt32).toInt32) &&& (255 : Int32)) % (3 : Int32))), .val (.int r24), .val (.int r30), .val (.int r36), .val (.int r42), .val (.int r48), .unset, .unset, .unset, .unset, .unset, .unset, .unset, .unset] [])) t
    refine XS.bipush Y22.here hx rfl (hb hby at_53) ?_
    show Steps p.tables e below (T21.setTop (mkF m 55 #[.val (.int p0), .val (.int p1), .val (.int p2), .val (.int p3), .val (.int p4), .val (.int p5), .val (.int cn), .val (.int ((((p5.toUInt32 >>> ((8 : Int32) &&& 31).toUInt32).toInt32) &&& (255 : Int32)) % (3 : Int32))), .val (.int r24), .val (.int r30), .val (.int r36), .val (.int r42), .val (.int r48), .unset, .unset, .unset, .unset, .unset, .unset, .unset, .unset] [(.int (6 : Int32))])) t
    exact k
  refine On.newp Y22 hx hZ (aty := .byte) (w5 hw) (g := (mkF m 55 #[.val (.int p0), .val (.int p1), .val (.int p2), .val (.int p3), .val (.int p4), .val (.int p5), .val (.int cn), .val (.int ((((p5.toUInt32 >>> ((8 : Int32) &&& 31).toUInt32).toInt32) &&& (255 : Int32)) % (3 : Int32))), .val (.int r24), .val (.int r30), .val (.int r36), .val (.int r42), .val (.int r48), .unset, .unset, .unset, .unset, .unset, .unset, .unset, .unset] [(.int (6 : Int32))])) rfl (hb hby at_55) rfl (by decide) (N := 6) (cap := 6) rfl (by decide) (by decide) (by decide) (by decide) (dv := (.int (0 : Int32))) rfl fun T26 a28 Y27 => ?_
  replace Y27 : On p l e _ s m _ below meth c Z n0 T26 1 6 [ari a28 .byte (6 : Int32) [(0 : Int32), (0 : Int32), (0 : Int32), (0 : Int32), (0 : Int32), (0 : Int32)]] := Y27
  show Rn p e below F T26 (mkF m 57 #[.val (.int p0), .val (.int p1), .val (.int p2), .val (.int p3), .val (.int p4), .val (.int p5), .val (.int cn), .val (.int ((((p5.toUInt32 >>> ((8 : Int32) &&& 31).toUInt32).toInt32) &&& (255 : Int32)) % (3 : Int32))), .val (.int r24), .val (.int r30), .val (.int r36), .val (.int r42), .val (.int r48), .unset, .unset, .unset, .unset, .unset, .unset, .unset, .unset] [(.ref a28)])
  refine Rn.go (T' := T26) (g' := (mkF m 64 #[.val (.int p0), .val (.int p1), .val (.int p2), .val (.int p3), .val (.int p4), .val (.int p5), .val (.int cn), .val (.int ((((p5.toUInt32 >>> ((8 : Int32) &&& 31).toUInt32).toInt32) &&& (255 : Int32)) % (3 : Int32))), .val (.int r24), .val (.int r30), .val (.int r36), .val (.int r42), .val (.int r48), .val (.ref a28), .unset, .unset, .unset, .unset, .unset, .unset, .unset] [(.int r24), (.int (0 : Int32)), (.ref a28)])) (fun t k => ?_) ?_
  · show Steps p.tables e below (T26.setTop (mkF m 57 #[.val (.int p0), .val (.int p1), .val (.int p2), .val (.int p3), .val (.int p4), .val (.int p5), .val (.int cn), .val (.int ((((p5.toUInt32 >>> ((8 : Int32) &&& 31).toUInt32).toInt32) &&& (255 : Int32)) % (3 : Int32))), .val (.int r24), .val (.int r30), .val (.int r36), .val (.int r42), .val (.int r48), .unset, .unset, .unset, .unset, .unset, .unset, .unset, .unset] [(.ref a28)])) t
    refine XS.astore Y27.here hx rfl (hb hby at_57) rfl rfl (l' := #[.val (.int p0), .val (.int p1), .val (.int p2), .val (.int p3), .val (.int p4), .val (.int p5), .val (.int cn), .val (.int ((((p5.toUInt32 >>> ((8 : Int32) &&& 31).toUInt32).toInt32) &&& (255 : Int32)) % (3 : Int32))), .val (.int r24), .val (.int r30), .val (.int r36), .val (.int r42), .val (.int r48), .val (.ref a28), .unset, .unset, .unset, .unset, .unset, .unset, .unset]) rfl ?_
    show Steps p.tables e below (T26.setTop (mkF m 59 #[.val (.int p0), .val (.int p1), .val (.int p2), .val (.int p3), .val (.int p4), .val (.int p5), .val (.int cn), .val (.int ((((p5.toUInt32 >>> ((8 : Int32) &&& 31).toUInt32).toInt32) &&& (255 : Int32)) % (3 : Int32))), .val (.int r24), .val (.int r30), .val (.int r36), .val (.int r42), .val (.int r48), .val (.ref a28), .unset, .unset, .unset, .unset, .unset, .unset, .unset] [])) t
    refine XS.aload Y27.here hx rfl (hb hby at_59) rfl rfl ?_
    show Steps p.tables e below (T26.setTop (mkF m 61 #[.val (.int p0), .val (.int p1), .val (.int p2), .val (.int p3), .val (.int p4), .val (.int p5), .val (.int cn), .val (.int ((((p5.toUInt32 >>> ((8 : Int32) &&& 31).toUInt32).toInt32) &&& (255 : Int32)) % (3 : Int32))), .val (.int r24), .val (.int r30), .val (.int r36), .val (.int r42), .val (.int r48), .val (.ref a28), .unset, .unset, .unset, .unset, .unset, .unset, .unset] [(.ref a28)])) t
    refine XS.iconst Y27.here hx rfl (hb hby at_61) ?_
    show Steps p.tables e below (T26.setTop (mkF m 62 #[.val (.int p0), .val (.int p1), .val (.int p2), .val (.int p3), .val (.int p4), .val (.int p5), .val (.int cn), .val (.int ((((p5.toUInt32 >>> ((8 : Int32) &&& 31).toUInt32).toInt32) &&& (255 : Int32)) % (3 : Int32))), .val (.int r24), .val (.int r30), .val (.int r36), .val (.int r42), .val (.int r48), .val (.ref a28), .unset, .unset, .unset, .unset, .unset, .unset, .unset] [(.int (0 : Int32)), (.ref a28)])) t
    refine XS.iload Y27.here hx rfl (hb hby at_62) rfl ?_
    show Steps p.tables e below (T26.setTop (mkF m 64 #[.val (.int p0), .val (.int p1), .val (.int p2), .val (.int p3), .val (.int p4), .val (.int p5), .val (.int cn), .val (.int ((((p5.toUInt32 >>> ((8 : Int32) &&& 31).toUInt32).toInt32) &&& (255 : Int32)) % (3 : Int32))), .val (.int r24), .val (.int r30), .val (.int r36), .val (.int r42), .val (.int r48), .val (.ref a28), .unset, .unset, .unset, .unset, .unset, .unset, .unset] [(.int r24), (.int (0 : Int32)), (.ref a28)])) t
    exact k
  refine On.bsto Y27 hx hZ (i := 0) rfl (by decide) (by show 0 < 6; decide) (g := (mkF m 64 #[.val (.int p0), .val (.int p1), .val (.int p2), .val (.int p3), .val (.int p4), .val (.int p5), .val (.int cn), .val (.int ((((p5.toUInt32 >>> ((8 : Int32) &&& 31).toUInt32).toInt32) &&& (255 : Int32)) % (3 : Int32))), .val (.int r24), .val (.int r30), .val (.int r36), .val (.int r42), .val (.int r48), .val (.ref a28), .unset, .unset, .unset, .unset, .unset, .unset, .unset] [(.int r24), (.int (0 : Int32)), (.ref a28)])) rfl rfl (hb hby at_64) fun T29 Y30 => ?_
  replace Y30 : On p l e _ s m _ below meth c Z n0 T29 1 6 [ari a28 .byte (6 : Int32) [r24.toInt8.toInt32, (0 : Int32), (0 : Int32), (0 : Int32), (0 : Int32), (0 : Int32)]] := Y30
  replace Y30 : On p l e room_1 s m #[(.int p0), (.int p1), (.int p2), (.int p3), (.int p4), (.int p5)] below meth c Z n0 T29 1 6 [ari a28 .byte (6 : Int32) [r24, (0 : Int32), (0 : Int32), (0 : Int32), (0 : Int32), (0 : Int32)]] := by first | (rw [en24] at Y30; exact Y30) | (rw [en30] at Y30; exact Y30) | (rw [en36] at Y30; exact Y30) | (rw [en42] at Y30; exact Y30) | (rw [en48] at Y30; exact Y30)
  show Rn p e below F T29 (mkF m 65 #[.val (.int p0), .val (.int p1), .val (.int p2), .val (.int p3), .val (.int p4), .val (.int p5), .val (.int cn), .val (.int ((((p5.toUInt32 >>> ((8 : Int32) &&& 31).toUInt32).toInt32) &&& (255 : Int32)) % (3 : Int32))), .val (.int r24), .val (.int r30), .val (.int r36), .val (.int r42), .val (.int r48), .val (.ref a28), .unset, .unset, .unset, .unset, .unset, .unset, .unset] [])
  refine Rn.go (T' := T29) (g' := (mkF m 70 #[.val (.int p0), .val (.int p1), .val (.int p2), .val (.int p3), .val (.int p4), .val (.int p5), .val (.int cn), .val (.int ((((p5.toUInt32 >>> ((8 : Int32) &&& 31).toUInt32).toInt32) &&& (255 : Int32)) % (3 : Int32))), .val (.int r24), .val (.int r30), .val (.int r36), .val (.int r42), .val (.int r48), .val (.ref a28), .unset, .unset, .unset, .unset, .unset, .unset, .unset] [(.int r24), (.int (1 : Int32)), (.ref a28)])) (fun t k => ?_) ?_
  · show Steps p.tables e below (T29.setTop (mkF m 65 #[.val (.int p0), .val (.int p1), .val (.int p2), .val (.int p3), .val (.int p4), .val (.int p5), .val (.int cn), .val (.int ((((p5.toUInt32 >>> ((8 : Int32) &&& 31).toUInt32).toInt32) &&& (255 : Int32)) % (3 : Int32))), .val (.int r24), .val (.int r30), .val (.int r36), .val (.int r42), .val (.int r48), .val (.ref a28), .unset, .unset, .unset, .unset, .unset, .unset, .unset] [])) t
    refine XS.aload Y30.here hx rfl (hb hby at_65) rfl rfl ?_
    show Steps p.tables e below (T29.setTop (mkF m 67 #[.val (.int p0), .val (.int p1), .val (.int p2), .val (.int p3), .val (.int p4), .val (.int p5), .val (.int cn), .val (.int ((((p5.toUInt32 >>> ((8 : Int32) &&& 31).toUInt32).toInt32) &&& (255 : Int32)) % (3 : Int32))), .val (.int r24), .val (.int r30), .val (.int r36), .val (.int r42), .val (.int r48), .val (.ref a28), .unset, .unset, .unset, .unset, .unset, .unset, .unset] [(.ref a28)])) t
    refine XS.iconst Y30.here hx rfl (hb hby at_67) ?_
    show Steps p.tables e below (T29.setTop (mkF m 68 #[.val (.int p0), .val (.int p1), .val (.int p2), .val (.int p3), .val (.int p4), .val (.int p5), .val (.int cn), .val (.int ((((p5.toUInt32 >>> ((8 : Int32) &&& 31).toUInt32).toInt32) &&& (255 : Int32)) % (3 : Int32))), .val (.int r24), .val (.int r30), .val (.int r36), .val (.int r42), .val (.int r48), .val (.ref a28), .unset, .unset, .unset, .unset, .unset, .unset, .unset] [(.int (1 : Int32)), (.ref a28)])) t
    refine XS.iload Y30.here hx rfl (hb hby at_68) rfl ?_
    show Steps p.tables e below (T29.setTop (mkF m 70 #[.val (.int p0), .val (.int p1), .val (.int p2), .val (.int p3), .val (.int p4), .val (.int p5), .val (.int cn), .val (.int ((((p5.toUInt32 >>> ((8 : Int32) &&& 31).toUInt32).toInt32) &&& (255 : Int32)) % (3 : Int32))), .val (.int r24), .val (.int r30), .val (.int r36), .val (.int r42), .val (.int r48), .val (.ref a28), .unset, .unset, .unset, .unset, .unset, .unset, .unset] [(.int r24), (.int (1 : Int32)), (.ref a28)])) t
    exact k
  refine On.bsto Y30 hx hZ (i := 0) rfl (by decide) (by show 1 < 6; decide) (g := (mkF m 70 #[.val (.int p0), .val (.int p1), .val (.int p2), .val (.int p3), .val (.int p4), .val (.int p5), .val (.int cn), .val (.int ((((p5.toUInt32 >>> ((8 : Int32) &&& 31).toUInt32).toInt32) &&& (255 : Int32)) % (3 : Int32))), .val (.int r24), .val (.int r30), .val (.int r36), .val (.int r42), .val (.int r48), .val (.ref a28), .unset, .unset, .unset, .unset, .unset, .unset, .unset] [(.int r24), (.int (1 : Int32)), (.ref a28)])) rfl rfl (hb hby at_70) fun T31 Y32 => ?_
  replace Y32 : On p l e _ s m _ below meth c Z n0 T31 1 6 [ari a28 .byte (6 : Int32) [r24, r24.toInt8.toInt32, (0 : Int32), (0 : Int32), (0 : Int32), (0 : Int32)]] := Y32
  replace Y32 : On p l e room_1 s m #[(.int p0), (.int p1), (.int p2), (.int p3), (.int p4), (.int p5)] below meth c Z n0 T31 1 6 [ari a28 .byte (6 : Int32) [r24, r24, (0 : Int32), (0 : Int32), (0 : Int32), (0 : Int32)]] := by first | (rw [en24] at Y32; exact Y32) | (rw [en30] at Y32; exact Y32) | (rw [en36] at Y32; exact Y32) | (rw [en42] at Y32; exact Y32) | (rw [en48] at Y32; exact Y32)
  show Rn p e below F T31 (mkF m 71 #[.val (.int p0), .val (.int p1), .val (.int p2), .val (.int p3), .val (.int p4), .val (.int p5), .val (.int cn), .val (.int ((((p5.toUInt32 >>> ((8 : Int32) &&& 31).toUInt32).toInt32) &&& (255 : Int32)) % (3 : Int32))), .val (.int r24), .val (.int r30), .val (.int r36), .val (.int r42), .val (.int r48), .val (.ref a28), .unset, .unset, .unset, .unset, .unset, .unset, .unset] [])
  refine Rn.go (T' := T31) (g' := (mkF m 76 #[.val (.int p0), .val (.int p1), .val (.int p2), .val (.int p3), .val (.int p4), .val (.int p5), .val (.int cn), .val (.int ((((p5.toUInt32 >>> ((8 : Int32) &&& 31).toUInt32).toInt32) &&& (255 : Int32)) % (3 : Int32))), .val (.int r24), .val (.int r30), .val (.int r36), .val (.int r42), .val (.int r48), .val (.ref a28), .unset, .unset, .unset, .unset, .unset, .unset, .unset] [(.int r24), (.int (2 : Int32)), (.ref a28)])) (fun t k => ?_) ?_
  · show Steps p.tables e below (T31.setTop (mkF m 71 #[.val (.int p0), .val (.int p1), .val (.int p2), .val (.int p3), .val (.int p4), .val (.int p5), .val (.int cn), .val (.int ((((p5.toUInt32 >>> ((8 : Int32) &&& 31).toUInt32).toInt32) &&& (255 : Int32)) % (3 : Int32))), .val (.int r24), .val (.int r30), .val (.int r36), .val (.int r42), .val (.int r48), .val (.ref a28), .unset, .unset, .unset, .unset, .unset, .unset, .unset] [])) t
    refine XS.aload Y32.here hx rfl (hb hby at_71) rfl rfl ?_
    show Steps p.tables e below (T31.setTop (mkF m 73 #[.val (.int p0), .val (.int p1), .val (.int p2), .val (.int p3), .val (.int p4), .val (.int p5), .val (.int cn), .val (.int ((((p5.toUInt32 >>> ((8 : Int32) &&& 31).toUInt32).toInt32) &&& (255 : Int32)) % (3 : Int32))), .val (.int r24), .val (.int r30), .val (.int r36), .val (.int r42), .val (.int r48), .val (.ref a28), .unset, .unset, .unset, .unset, .unset, .unset, .unset] [(.ref a28)])) t
    refine XS.iconst Y32.here hx rfl (hb hby at_73) ?_
    show Steps p.tables e below (T31.setTop (mkF m 74 #[.val (.int p0), .val (.int p1), .val (.int p2), .val (.int p3), .val (.int p4), .val (.int p5), .val (.int cn), .val (.int ((((p5.toUInt32 >>> ((8 : Int32) &&& 31).toUInt32).toInt32) &&& (255 : Int32)) % (3 : Int32))), .val (.int r24), .val (.int r30), .val (.int r36), .val (.int r42), .val (.int r48), .val (.ref a28), .unset, .unset, .unset, .unset, .unset, .unset, .unset] [(.int (2 : Int32)), (.ref a28)])) t
    refine XS.iload Y32.here hx rfl (hb hby at_74) rfl ?_
    show Steps p.tables e below (T31.setTop (mkF m 76 #[.val (.int p0), .val (.int p1), .val (.int p2), .val (.int p3), .val (.int p4), .val (.int p5), .val (.int cn), .val (.int ((((p5.toUInt32 >>> ((8 : Int32) &&& 31).toUInt32).toInt32) &&& (255 : Int32)) % (3 : Int32))), .val (.int r24), .val (.int r30), .val (.int r36), .val (.int r42), .val (.int r48), .val (.ref a28), .unset, .unset, .unset, .unset, .unset, .unset, .unset] [(.int r24), (.int (2 : Int32)), (.ref a28)])) t
    exact k
  refine On.bsto Y32 hx hZ (i := 0) rfl (by decide) (by show 2 < 6; decide) (g := (mkF m 76 #[.val (.int p0), .val (.int p1), .val (.int p2), .val (.int p3), .val (.int p4), .val (.int p5), .val (.int cn), .val (.int ((((p5.toUInt32 >>> ((8 : Int32) &&& 31).toUInt32).toInt32) &&& (255 : Int32)) % (3 : Int32))), .val (.int r24), .val (.int r30), .val (.int r36), .val (.int r42), .val (.int r48), .val (.ref a28), .unset, .unset, .unset, .unset, .unset, .unset, .unset] [(.int r24), (.int (2 : Int32)), (.ref a28)])) rfl rfl (hb hby at_76) fun T33 Y34 => ?_
  replace Y34 : On p l e _ s m _ below meth c Z n0 T33 1 6 [ari a28 .byte (6 : Int32) [r24, r24, r24.toInt8.toInt32, (0 : Int32), (0 : Int32), (0 : Int32)]] := Y34
  replace Y34 : On p l e room_1 s m #[(.int p0), (.int p1), (.int p2), (.int p3), (.int p4), (.int p5)] below meth c Z n0 T33 1 6 [ari a28 .byte (6 : Int32) [r24, r24, r24, (0 : Int32), (0 : Int32), (0 : Int32)]] := by first | (rw [en24] at Y34; exact Y34) | (rw [en30] at Y34; exact Y34) | (rw [en36] at Y34; exact Y34) | (rw [en42] at Y34; exact Y34) | (rw [en48] at Y34; exact Y34)
  show Rn p e below F T33 (mkF m 77 #[.val (.int p0), .val (.int p1), .val (.int p2), .val (.int p3), .val (.int p4), .val (.int p5), .val (.int cn), .val (.int ((((p5.toUInt32 >>> ((8 : Int32) &&& 31).toUInt32).toInt32) &&& (255 : Int32)) % (3 : Int32))), .val (.int r24), .val (.int r30), .val (.int r36), .val (.int r42), .val (.int r48), .val (.ref a28), .unset, .unset, .unset, .unset, .unset, .unset, .unset] [])
  refine Rn.go (T' := T33) (g' := (mkF m 82 #[.val (.int p0), .val (.int p1), .val (.int p2), .val (.int p3), .val (.int p4), .val (.int p5), .val (.int cn), .val (.int ((((p5.toUInt32 >>> ((8 : Int32) &&& 31).toUInt32).toInt32) &&& (255 : Int32)) % (3 : Int32))), .val (.int r24), .val (.int r30), .val (.int r36), .val (.int r42), .val (.int r48), .val (.ref a28), .unset, .unset, .unset, .unset, .unset, .unset, .unset] [(.int r24), (.int (3 : Int32)), (.ref a28)])) (fun t k => ?_) ?_
  · show Steps p.tables e below (T33.setTop (mkF m 77 #[.val (.int p0), .val (.int p1), .val (.int p2), .val (.int p3), .val (.int p4), .val (.int p5), .val (.int cn), .val (.int ((((p5.toUInt32 >>> ((8 : Int32) &&& 31).toUInt32).toInt32) &&& (255 : Int32)) % (3 : Int32))), .val (.int r24), .val (.int r30), .val (.int r36), .val (.int r42), .val (.int r48), .val (.ref a28), .unset, .unset, .unset, .unset, .unset, .unset, .unset] [])) t
    refine XS.aload Y34.here hx rfl (hb hby at_77) rfl rfl ?_
    show Steps p.tables e below (T33.setTop (mkF m 79 #[.val (.int p0), .val (.int p1), .val (.int p2), .val (.int p3), .val (.int p4), .val (.int p5), .val (.int cn), .val (.int ((((p5.toUInt32 >>> ((8 : Int32) &&& 31).toUInt32).toInt32) &&& (255 : Int32)) % (3 : Int32))), .val (.int r24), .val (.int r30), .val (.int r36), .val (.int r42), .val (.int r48), .val (.ref a28), .unset, .unset, .unset, .unset, .unset, .unset, .unset] [(.ref a28)])) t
    refine XS.iconst Y34.here hx rfl (hb hby at_79) ?_
    show Steps p.tables e below (T33.setTop (mkF m 80 #[.val (.int p0), .val (.int p1), .val (.int p2), .val (.int p3), .val (.int p4), .val (.int p5), .val (.int cn), .val (.int ((((p5.toUInt32 >>> ((8 : Int32) &&& 31).toUInt32).toInt32) &&& (255 : Int32)) % (3 : Int32))), .val (.int r24), .val (.int r30), .val (.int r36), .val (.int r42), .val (.int r48), .val (.ref a28), .unset, .unset, .unset, .unset, .unset, .unset, .unset] [(.int (3 : Int32)), (.ref a28)])) t
    refine XS.iload Y34.here hx rfl (hb hby at_80) rfl ?_
    show Steps p.tables e below (T33.setTop (mkF m 82 #[.val (.int p0), .val (.int p1), .val (.int p2), .val (.int p3), .val (.int p4), .val (.int p5), .val (.int cn), .val (.int ((((p5.toUInt32 >>> ((8 : Int32) &&& 31).toUInt32).toInt32) &&& (255 : Int32)) % (3 : Int32))), .val (.int r24), .val (.int r30), .val (.int r36), .val (.int r42), .val (.int r48), .val (.ref a28), .unset, .unset, .unset, .unset, .unset, .unset, .unset] [(.int r24), (.int (3 : Int32)), (.ref a28)])) t
    exact k
  refine On.bsto Y34 hx hZ (i := 0) rfl (by decide) (by show 3 < 6; decide) (g := (mkF m 82 #[.val (.int p0), .val (.int p1), .val (.int p2), .val (.int p3), .val (.int p4), .val (.int p5), .val (.int cn), .val (.int ((((p5.toUInt32 >>> ((8 : Int32) &&& 31).toUInt32).toInt32) &&& (255 : Int32)) % (3 : Int32))), .val (.int r24), .val (.int r30), .val (.int r36), .val (.int r42), .val (.int r48), .val (.ref a28), .unset, .unset, .unset, .unset, .unset, .unset, .unset] [(.int r24), (.int (3 : Int32)), (.ref a28)])) rfl rfl (hb hby at_82) fun T35 Y36 => ?_
  replace Y36 : On p l e _ s m _ below meth c Z n0 T35 1 6 [ari a28 .byte (6 : Int32) [r24, r24, r24, r24.toInt8.toInt32, (0 : Int32), (0 : Int32)]] := Y36
  replace Y36 : On p l e room_1 s m #[(.int p0), (.int p1), (.int p2), (.int p3), (.int p4), (.int p5)] below meth c Z n0 T35 1 6 [ari a28 .byte (6 : Int32) [r24, r24, r24, r24, (0 : Int32), (0 : Int32)]] := by first | (rw [en24] at Y36; exact Y36) | (rw [en30] at Y36; exact Y36) | (rw [en36] at Y36; exact Y36) | (rw [en42] at Y36; exact Y36) | (rw [en48] at Y36; exact Y36)
  show Rn p e below F T35 (mkF m 83 #[.val (.int p0), .val (.int p1), .val (.int p2), .val (.int p3), .val (.int p4), .val (.int p5), .val (.int cn), .val (.int ((((p5.toUInt32 >>> ((8 : Int32) &&& 31).toUInt32).toInt32) &&& (255 : Int32)) % (3 : Int32))), .val (.int r24), .val (.int r30), .val (.int r36), .val (.int r42), .val (.int r48), .val (.ref a28), .unset, .unset, .unset, .unset, .unset, .unset, .unset] [])
  refine Rn.go (T' := T35) (g' := (mkF m 88 #[.val (.int p0), .val (.int p1), .val (.int p2), .val (.int p3), .val (.int p4), .val (.int p5), .val (.int cn), .val (.int ((((p5.toUInt32 >>> ((8 : Int32) &&& 31).toUInt32).toInt32) &&& (255 : Int32)) % (3 : Int32))), .val (.int r24), .val (.int r30), .val (.int r36), .val (.int r42), .val (.int r48), .val (.ref a28), .unset, .unset, .unset, .unset, .unset, .unset, .unset] [(.int r24), (.int (4 : Int32)), (.ref a28)])) (fun t k => ?_) ?_
  · show Steps p.tables e below (T35.setTop (mkF m 83 #[.val (.int p0), .val (.int p1), .val (.int p2), .val (.int p3), .val (.int p4), .val (.int p5), .val (.int cn), .val (.int ((((p5.toUInt32 >>> ((8 : Int32) &&& 31).toUInt32).toInt32) &&& (255 : Int32)) % (3 : Int32))), .val (.int r24), .val (.int r30), .val (.int r36), .val (.int r42), .val (.int r48), .val (.ref a28), .unset, .unset, .unset, .unset, .unset, .unset, .unset] [])) t
    refine XS.aload Y36.here hx rfl (hb hby at_83) rfl rfl ?_
    show Steps p.tables e below (T35.setTop (mkF m 85 #[.val (.int p0), .val (.int p1), .val (.int p2), .val (.int p3), .val (.int p4), .val (.int p5), .val (.int cn), .val (.int ((((p5.toUInt32 >>> ((8 : Int32) &&& 31).toUInt32).toInt32) &&& (255 : Int32)) % (3 : Int32))), .val (.int r24), .val (.int r30), .val (.int r36), .val (.int r42), .val (.int r48), .val (.ref a28), .unset, .unset, .unset, .unset, .unset, .unset, .unset] [(.ref a28)])) t
    refine XS.iconst Y36.here hx rfl (hb hby at_85) ?_
    show Steps p.tables e below (T35.setTop (mkF m 86 #[.val (.int p0), .val (.int p1), .val (.int p2), .val (.int p3), .val (.int p4), .val (.int p5), .val (.int cn), .val (.int ((((p5.toUInt32 >>> ((8 : Int32) &&& 31).toUInt32).toInt32) &&& (255 : Int32)) % (3 : Int32))), .val (.int r24), .val (.int r30), .val (.int r36), .val (.int r42), .val (.int r48), .val (.ref a28), .unset, .unset, .unset, .unset, .unset, .unset, .unset] [(.int (4 : Int32)), (.ref a28)])) t
    refine XS.iload Y36.here hx rfl (hb hby at_86) rfl ?_
    show Steps p.tables e below (T35.setTop (mkF m 88 #[.val (.int p0), .val (.int p1), .val (.int p2), .val (.int p3), .val (.int p4), .val (.int p5), .val (.int cn), .val (.int ((((p5.toUInt32 >>> ((8 : Int32) &&& 31).toUInt32).toInt32) &&& (255 : Int32)) % (3 : Int32))), .val (.int r24), .val (.int r30), .val (.int r36), .val (.int r42), .val (.int r48), .val (.ref a28), .unset, .unset, .unset, .unset, .unset, .unset, .unset] [(.int r24), (.int (4 : Int32)), (.ref a28)])) t
    exact k
  refine On.bsto Y36 hx hZ (i := 0) rfl (by decide) (by show 4 < 6; decide) (g := (mkF m 88 #[.val (.int p0), .val (.int p1), .val (.int p2), .val (.int p3), .val (.int p4), .val (.int p5), .val (.int cn), .val (.int ((((p5.toUInt32 >>> ((8 : Int32) &&& 31).toUInt32).toInt32) &&& (255 : Int32)) % (3 : Int32))), .val (.int r24), .val (.int r30), .val (.int r36), .val (.int r42), .val (.int r48), .val (.ref a28), .unset, .unset, .unset, .unset, .unset, .unset, .unset] [(.int r24), (.int (4 : Int32)), (.ref a28)])) rfl rfl (hb hby at_88) fun T37 Y38 => ?_
  replace Y38 : On p l e _ s m _ below meth c Z n0 T37 1 6 [ari a28 .byte (6 : Int32) [r24, r24, r24, r24, r24.toInt8.toInt32, (0 : Int32)]] := Y38
  replace Y38 : On p l e room_1 s m #[(.int p0), (.int p1), (.int p2), (.int p3), (.int p4), (.int p5)] below meth c Z n0 T37 1 6 [ari a28 .byte (6 : Int32) [r24, r24, r24, r24, r24, (0 : Int32)]] := by first | (rw [en24] at Y38; exact Y38) | (rw [en30] at Y38; exact Y38) | (rw [en36] at Y38; exact Y38) | (rw [en42] at Y38; exact Y38) | (rw [en48] at Y38; exact Y38)
  show Rn p e below F T37 (mkF m 89 #[.val (.int p0), .val (.int p1), .val (.int p2), .val (.int p3), .val (.int p4), .val (.int p5), .val (.int cn), .val (.int ((((p5.toUInt32 >>> ((8 : Int32) &&& 31).toUInt32).toInt32) &&& (255 : Int32)) % (3 : Int32))), .val (.int r24), .val (.int r30), .val (.int r36), .val (.int r42), .val (.int r48), .val (.ref a28), .unset, .unset, .unset, .unset, .unset, .unset, .unset] [])
  refine Rn.go (T' := T37) (g' := (mkF m 94 #[.val (.int p0), .val (.int p1), .val (.int p2), .val (.int p3), .val (.int p4), .val (.int p5), .val (.int cn), .val (.int ((((p5.toUInt32 >>> ((8 : Int32) &&& 31).toUInt32).toInt32) &&& (255 : Int32)) % (3 : Int32))), .val (.int r24), .val (.int r30), .val (.int r36), .val (.int r42), .val (.int r48), .val (.ref a28), .unset, .unset, .unset, .unset, .unset, .unset, .unset] [(.int r24), (.int (5 : Int32)), (.ref a28)])) (fun t k => ?_) ?_
  · show Steps p.tables e below (T37.setTop (mkF m 89 #[.val (.int p0), .val (.int p1), .val (.int p2), .val (.int p3), .val (.int p4), .val (.int p5), .val (.int cn), .val (.int ((((p5.toUInt32 >>> ((8 : Int32) &&& 31).toUInt32).toInt32) &&& (255 : Int32)) % (3 : Int32))), .val (.int r24), .val (.int r30), .val (.int r36), .val (.int r42), .val (.int r48), .val (.ref a28), .unset, .unset, .unset, .unset, .unset, .unset, .unset] [])) t
    refine XS.aload Y38.here hx rfl (hb hby at_89) rfl rfl ?_
    show Steps p.tables e below (T37.setTop (mkF m 91 #[.val (.int p0), .val (.int p1), .val (.int p2), .val (.int p3), .val (.int p4), .val (.int p5), .val (.int cn), .val (.int ((((p5.toUInt32 >>> ((8 : Int32) &&& 31).toUInt32).toInt32) &&& (255 : Int32)) % (3 : Int32))), .val (.int r24), .val (.int r30), .val (.int r36), .val (.int r42), .val (.int r48), .val (.ref a28), .unset, .unset, .unset, .unset, .unset, .unset, .unset] [(.ref a28)])) t
    refine XS.iconst Y38.here hx rfl (hb hby at_91) ?_
    show Steps p.tables e below (T37.setTop (mkF m 92 #[.val (.int p0), .val (.int p1), .val (.int p2), .val (.int p3), .val (.int p4), .val (.int p5), .val (.int cn), .val (.int ((((p5.toUInt32 >>> ((8 : Int32) &&& 31).toUInt32).toInt32) &&& (255 : Int32)) % (3 : Int32))), .val (.int r24), .val (.int r30), .val (.int r36), .val (.int r42), .val (.int r48), .val (.ref a28), .unset, .unset, .unset, .unset, .unset, .unset, .unset] [(.int (5 : Int32)), (.ref a28)])) t
    refine XS.iload Y38.here hx rfl (hb hby at_92) rfl ?_
    show Steps p.tables e below (T37.setTop (mkF m 94 #[.val (.int p0), .val (.int p1), .val (.int p2), .val (.int p3), .val (.int p4), .val (.int p5), .val (.int cn), .val (.int ((((p5.toUInt32 >>> ((8 : Int32) &&& 31).toUInt32).toInt32) &&& (255 : Int32)) % (3 : Int32))), .val (.int r24), .val (.int r30), .val (.int r36), .val (.int r42), .val (.int r48), .val (.ref a28), .unset, .unset, .unset, .unset, .unset, .unset, .unset] [(.int r24), (.int (5 : Int32)), (.ref a28)])) t
    exact k
  refine On.bsto Y38 hx hZ (i := 0) rfl (by decide) (by show 5 < 6; decide) (g := (mkF m 94 #[.val (.int p0), .val (.int p1), .val (.int p2), .val (.int p3), .val (.int p4), .val (.int p5), .val (.int cn), .val (.int ((((p5.toUInt32 >>> ((8 : Int32) &&& 31).toUInt32).toInt32) &&& (255 : Int32)) % (3 : Int32))), .val (.int r24), .val (.int r30), .val (.int r36), .val (.int r42), .val (.int r48), .val (.ref a28), .unset, .unset, .unset, .unset, .unset, .unset, .unset] [(.int r24), (.int (5 : Int32)), (.ref a28)])) rfl rfl (hb hby at_94) fun T39 Y40 => ?_
  replace Y40 : On p l e _ s m _ below meth c Z n0 T39 1 6 [ari a28 .byte (6 : Int32) [r24, r24, r24, r24, r24, r24.toInt8.toInt32]] := Y40
  replace Y40 : On p l e room_1 s m #[(.int p0), (.int p1), (.int p2), (.int p3), (.int p4), (.int p5)] below meth c Z n0 T39 1 6 [ari a28 .byte (6 : Int32) [r24, r24, r24, r24, r24, r24]] := by first | (rw [en24] at Y40; exact Y40) | (rw [en30] at Y40; exact Y40) | (rw [en36] at Y40; exact Y40) | (rw [en42] at Y40; exact Y40) | (rw [en48] at Y40; exact Y40)
  show Rn p e below F T39 (mkF m 95 #[.val (.int p0), .val (.int p1), .val (.int p2), .val (.int p3), .val (.int p4), .val (.int p5), .val (.int cn), .val (.int ((((p5.toUInt32 >>> ((8 : Int32) &&& 31).toUInt32).toInt32) &&& (255 : Int32)) % (3 : Int32))), .val (.int r24), .val (.int r30), .val (.int r36), .val (.int r42), .val (.int r48), .val (.ref a28), .unset, .unset, .unset, .unset, .unset, .unset, .unset] [])
  obtain ⟨o, ho⟩ : ∃ z : Int32, z = ((((p5.toUInt32 >>> ((8 : Int32) &&& 31).toUInt32).toInt32) &&& (255 : Int32)) % (3 : Int32)) := ⟨_, rfl⟩
  have hbo : 0 ≤ o.toInt ∧ o.toInt ≤ 2 := by rw [ho]; exact own_o _
  rw [← ho]
  suffices HJ129 : ∀ (T41 : State) (xs : List Int32) (x6 : xs.length = 6) (g0 : xs.getD o.toNatClampNeg 0 = r30) (g1 : xs.getD (o.toNatClampNeg + 1) 0 = r36) (g2 : xs.getD (o.toNatClampNeg + 2) 0 = r42) (g3 : xs.getD (o.toNatClampNeg + 3) 0 = r48), On p l e room_1 s m #[(.int p0), (.int p1), (.int p2), (.int p3), (.int p4), (.int p5)] below meth c Z n0 T41 1 6 [ari a28 .byte (6 : Int32) xs] → Rn p e below F T41 (mkF m 129 #[.val (.int p0), .val (.int p1), .val (.int p2), .val (.int p3), .val (.int p4), .val (.int p5), .val (.int cn), .val (.int o), .val (.int r24), .val (.int r30), .val (.int r36), .val (.int r42), .val (.int r48), .val (.ref a28), .unset, .unset, .unset, .unset, .unset, .unset, .unset] []) by
    rcases own_le2 hbo.1 hbo.2 with eo | eo | eo
    · subst eo
      show Rn p e below F T39 (mkF m 95 #[.val (.int p0), .val (.int p1), .val (.int p2), .val (.int p3), .val (.int p4), .val (.int p5), .val (.int cn), .val (.int (0 : Int32)), .val (.int r24), .val (.int r30), .val (.int r36), .val (.int r42), .val (.int r48), .val (.ref a28), .unset, .unset, .unset, .unset, .unset, .unset, .unset] [])
      refine Rn.go (T' := T39) (g' := (mkF m 101 #[.val (.int p0), .val (.int p1), .val (.int p2), .val (.int p3), .val (.int p4), .val (.int p5), .val (.int cn), .val (.int (0 : Int32)), .val (.int r24), .val (.int r30), .val (.int r36), .val (.int r42), .val (.int r48), .val (.ref a28), .unset, .unset, .unset, .unset, .unset, .unset, .unset] [(.int r30), (.int (0 : Int32)), (.ref a28)])) (fun t k => ?_) ?_
      · show Steps p.tables e below (T39.setTop (mkF m 95 #[.val (.int p0), .val (.int p1), .val (.int p2), .val (.int p3), .val (.int p4), .val (.int p5), .val (.int cn), .val (.int (0 : Int32)), .val (.int r24), .val (.int r30), .val (.int r36), .val (.int r42), .val (.int r48), .val (.ref a28), .unset, .unset, .unset, .unset, .unset, .unset, .unset] [])) t
        refine XS.aload Y40.here hx rfl (hb hby at_95) rfl rfl ?_
        show Steps p.tables e below (T39.setTop (mkF m 97 #[.val (.int p0), .val (.int p1), .val (.int p2), .val (.int p3), .val (.int p4), .val (.int p5), .val (.int cn), .val (.int (0 : Int32)), .val (.int r24), .val (.int r30), .val (.int r36), .val (.int r42), .val (.int r48), .val (.ref a28), .unset, .unset, .unset, .unset, .unset, .unset, .unset] [(.ref a28)])) t
        refine XS.iload Y40.here hx rfl (hb hby at_97) rfl ?_
        show Steps p.tables e below (T39.setTop (mkF m 99 #[.val (.int p0), .val (.int p1), .val (.int p2), .val (.int p3), .val (.int p4), .val (.int p5), .val (.int cn), .val (.int (0 : Int32)), .val (.int r24), .val (.int r30), .val (.int r36), .val (.int r42), .val (.int r48), .val (.ref a28), .unset, .unset, .unset, .unset, .unset, .unset, .unset] [(.int (0 : Int32)), (.ref a28)])) t
        refine XS.iload Y40.here hx rfl (hb hby at_99) rfl ?_
        show Steps p.tables e below (T39.setTop (mkF m 101 #[.val (.int p0), .val (.int p1), .val (.int p2), .val (.int p3), .val (.int p4), .val (.int p5), .val (.int cn), .val (.int (0 : Int32)), .val (.int r24), .val (.int r30), .val (.int r36), .val (.int r42), .val (.int r48), .val (.ref a28), .unset, .unset, .unset, .unset, .unset, .unset, .unset] [(.int r30), (.int (0 : Int32)), (.ref a28)])) t
        exact k
      refine On.bsto Y40 hx hZ (i := 0) rfl (by decide) (by show 0 < 6; decide) (g := (mkF m 101 #[.val (.int p0), .val (.int p1), .val (.int p2), .val (.int p3), .val (.int p4), .val (.int p5), .val (.int cn), .val (.int (0 : Int32)), .val (.int r24), .val (.int r30), .val (.int r36), .val (.int r42), .val (.int r48), .val (.ref a28), .unset, .unset, .unset, .unset, .unset, .unset, .unset] [(.int r30), (.int (0 : Int32)), (.ref a28)])) rfl rfl (hb hby at_101) fun T43 Y44 => ?_
      replace Y44 : On p l e _ s m _ below meth c Z n0 T43 1 6 [ari a28 .byte (6 : Int32) [r30.toInt8.toInt32, r24, r24, r24, r24, r24]] := Y44
      replace Y44 : On p l e room_1 s m #[(.int p0), (.int p1), (.int p2), (.int p3), (.int p4), (.int p5)] below meth c Z n0 T43 1 6 [ari a28 .byte (6 : Int32) [r30, r24, r24, r24, r24, r24]] := by first | (rw [en24] at Y44; exact Y44) | (rw [en30] at Y44; exact Y44) | (rw [en36] at Y44; exact Y44) | (rw [en42] at Y44; exact Y44) | (rw [en48] at Y44; exact Y44)
      show Rn p e below F T43 (mkF m 102 #[.val (.int p0), .val (.int p1), .val (.int p2), .val (.int p3), .val (.int p4), .val (.int p5), .val (.int cn), .val (.int (0 : Int32)), .val (.int r24), .val (.int r30), .val (.int r36), .val (.int r42), .val (.int r48), .val (.ref a28), .unset, .unset, .unset, .unset, .unset, .unset, .unset] [])
      refine Rn.go (T' := T43) (g' := (mkF m 110 #[.val (.int p0), .val (.int p1), .val (.int p2), .val (.int p3), .val (.int p4), .val (.int p5), .val (.int cn), .val (.int (0 : Int32)), .val (.int r24), .val (.int r30), .val (.int r36), .val (.int r42), .val (.int r48), .val (.ref a28), .unset, .unset, .unset, .unset, .unset, .unset, .unset] [(.int r36), (.int (1 : Int32)), (.ref a28)])) (fun t k => ?_) ?_
      · show Steps p.tables e below (T43.setTop (mkF m 102 #[.val (.int p0), .val (.int p1), .val (.int p2), .val (.int p3), .val (.int p4), .val (.int p5), .val (.int cn), .val (.int (0 : Int32)), .val (.int r24), .val (.int r30), .val (.int r36), .val (.int r42), .val (.int r48), .val (.ref a28), .unset, .unset, .unset, .unset, .unset, .unset, .unset] [])) t
        refine XS.aload Y44.here hx rfl (hb hby at_102) rfl rfl ?_
        show Steps p.tables e below (T43.setTop (mkF m 104 #[.val (.int p0), .val (.int p1), .val (.int p2), .val (.int p3), .val (.int p4), .val (.int p5), .val (.int cn), .val (.int (0 : Int32)), .val (.int r24), .val (.int r30), .val (.int r36), .val (.int r42), .val (.int r48), .val (.ref a28), .unset, .unset, .unset, .unset, .unset, .unset, .unset] [(.ref a28)])) t
        refine XS.iload Y44.here hx rfl (hb hby at_104) rfl ?_
        show Steps p.tables e below (T43.setTop (mkF m 106 #[.val (.int p0), .val (.int p1), .val (.int p2), .val (.int p3), .val (.int p4), .val (.int p5), .val (.int cn), .val (.int (0 : Int32)), .val (.int r24), .val (.int r30), .val (.int r36), .val (.int r42), .val (.int r48), .val (.ref a28), .unset, .unset, .unset, .unset, .unset, .unset, .unset] [(.int (0 : Int32)), (.ref a28)])) t
        refine XS.iconst Y44.here hx rfl (hb hby at_106) ?_
        show Steps p.tables e below (T43.setTop (mkF m 107 #[.val (.int p0), .val (.int p1), .val (.int p2), .val (.int p3), .val (.int p4), .val (.int p5), .val (.int cn), .val (.int (0 : Int32)), .val (.int r24), .val (.int r30), .val (.int r36), .val (.int r42), .val (.int r48), .val (.ref a28), .unset, .unset, .unset, .unset, .unset, .unset, .unset] [(.int (1 : Int32)), (.int (0 : Int32)), (.ref a28)])) t
        refine XS.iadd Y44.here hx rfl (hb hby at_107) rfl ?_
        show Steps p.tables e below (T43.setTop (mkF m 108 #[.val (.int p0), .val (.int p1), .val (.int p2), .val (.int p3), .val (.int p4), .val (.int p5), .val (.int cn), .val (.int (0 : Int32)), .val (.int r24), .val (.int r30), .val (.int r36), .val (.int r42), .val (.int r48), .val (.ref a28), .unset, .unset, .unset, .unset, .unset, .unset, .unset] [(.int (1 : Int32)), (.ref a28)])) t
        refine XS.iload Y44.here hx rfl (hb hby at_108) rfl ?_
        show Steps p.tables e below (T43.setTop (mkF m 110 #[.val (.int p0), .val (.int p1), .val (.int p2), .val (.int p3), .val (.int p4), .val (.int p5), .val (.int cn), .val (.int (0 : Int32)), .val (.int r24), .val (.int r30), .val (.int r36), .val (.int r42), .val (.int r48), .val (.ref a28), .unset, .unset, .unset, .unset, .unset, .unset, .unset] [(.int r36), (.int (1 : Int32)), (.ref a28)])) t
        exact k
      refine On.bsto Y44 hx hZ (i := 0) rfl (by decide) (by show 1 < 6; decide) (g := (mkF m 110 #[.val (.int p0), .val (.int p1), .val (.int p2), .val (.int p3), .val (.int p4), .val (.int p5), .val (.int cn), .val (.int (0 : Int32)), .val (.int r24), .val (.int r30), .val (.int r36), .val (.int r42), .val (.int r48), .val (.ref a28), .unset, .unset, .unset, .unset, .unset, .unset, .unset] [(.int r36), (.int (1 : Int32)), (.ref a28)])) rfl rfl (hb hby at_110) fun T45 Y46 => ?_
      replace Y46 : On p l e _ s m _ below meth c Z n0 T45 1 6 [ari a28 .byte (6 : Int32) [r30, r36.toInt8.toInt32, r24, r24, r24, r24]] := Y46
      replace Y46 : On p l e room_1 s m #[(.int p0), (.int p1), (.int p2), (.int p3), (.int p4), (.int p5)] below meth c Z n0 T45 1 6 [ari a28 .byte (6 : Int32) [r30, r36, r24, r24, r24, r24]] := by first | (rw [en24] at Y46; exact Y46) | (rw [en30] at Y46; exact Y46) | (rw [en36] at Y46; exact Y46) | (rw [en42] at Y46; exact Y46) | (rw [en48] at Y46; exact Y46)
      show Rn p e below F T45 (mkF m 111 #[.val (.int p0), .val (.int p1), .val (.int p2), .val (.int p3), .val (.int p4), .val (.int p5), .val (.int cn), .val (.int (0 : Int32)), .val (.int r24), .val (.int r30), .val (.int r36), .val (.int r42), .val (.int r48), .val (.ref a28), .unset, .unset, .unset, .unset, .unset, .unset, .unset] [])
      refine Rn.go (T' := T45) (g' := (mkF m 119 #[.val (.int p0), .val (.int p1), .val (.int p2), .val (.int p3), .val (.int p4), .val (.int p5), .val (.int cn), .val (.int (0 : Int32)), .val (.int r24), .val (.int r30), .val (.int r36), .val (.int r42), .val (.int r48), .val (.ref a28), .unset, .unset, .unset, .unset, .unset, .unset, .unset] [(.int r42), (.int (2 : Int32)), (.ref a28)])) (fun t k => ?_) ?_
      · show Steps p.tables e below (T45.setTop (mkF m 111 #[.val (.int p0), .val (.int p1), .val (.int p2), .val (.int p3), .val (.int p4), .val (.int p5), .val (.int cn), .val (.int (0 : Int32)), .val (.int r24), .val (.int r30), .val (.int r36), .val (.int r42), .val (.int r48), .val (.ref a28), .unset, .unset, .unset, .unset, .unset, .unset, .unset] [])) t
        refine XS.aload Y46.here hx rfl (hb hby at_111) rfl rfl ?_
        show Steps p.tables e below (T45.setTop (mkF m 113 #[.val (.int p0), .val (.int p1), .val (.int p2), .val (.int p3), .val (.int p4), .val (.int p5), .val (.int cn), .val (.int (0 : Int32)), .val (.int r24), .val (.int r30), .val (.int r36), .val (.int r42), .val (.int r48), .val (.ref a28), .unset, .unset, .unset, .unset, .unset, .unset, .unset] [(.ref a28)])) t
        refine XS.iload Y46.here hx rfl (hb hby at_113) rfl ?_
        show Steps p.tables e below (T45.setTop (mkF m 115 #[.val (.int p0), .val (.int p1), .val (.int p2), .val (.int p3), .val (.int p4), .val (.int p5), .val (.int cn), .val (.int (0 : Int32)), .val (.int r24), .val (.int r30), .val (.int r36), .val (.int r42), .val (.int r48), .val (.ref a28), .unset, .unset, .unset, .unset, .unset, .unset, .unset] [(.int (0 : Int32)), (.ref a28)])) t
        refine XS.iconst Y46.here hx rfl (hb hby at_115) ?_
        show Steps p.tables e below (T45.setTop (mkF m 116 #[.val (.int p0), .val (.int p1), .val (.int p2), .val (.int p3), .val (.int p4), .val (.int p5), .val (.int cn), .val (.int (0 : Int32)), .val (.int r24), .val (.int r30), .val (.int r36), .val (.int r42), .val (.int r48), .val (.ref a28), .unset, .unset, .unset, .unset, .unset, .unset, .unset] [(.int (2 : Int32)), (.int (0 : Int32)), (.ref a28)])) t
        refine XS.iadd Y46.here hx rfl (hb hby at_116) rfl ?_
        show Steps p.tables e below (T45.setTop (mkF m 117 #[.val (.int p0), .val (.int p1), .val (.int p2), .val (.int p3), .val (.int p4), .val (.int p5), .val (.int cn), .val (.int (0 : Int32)), .val (.int r24), .val (.int r30), .val (.int r36), .val (.int r42), .val (.int r48), .val (.ref a28), .unset, .unset, .unset, .unset, .unset, .unset, .unset] [(.int (2 : Int32)), (.ref a28)])) t
        refine XS.iload Y46.here hx rfl (hb hby at_117) rfl ?_
        show Steps p.tables e below (T45.setTop (mkF m 119 #[.val (.int p0), .val (.int p1), .val (.int p2), .val (.int p3), .val (.int p4), .val (.int p5), .val (.int cn), .val (.int (0 : Int32)), .val (.int r24), .val (.int r30), .val (.int r36), .val (.int r42), .val (.int r48), .val (.ref a28), .unset, .unset, .unset, .unset, .unset, .unset, .unset] [(.int r42), (.int (2 : Int32)), (.ref a28)])) t
        exact k
      refine On.bsto Y46 hx hZ (i := 0) rfl (by decide) (by show 2 < 6; decide) (g := (mkF m 119 #[.val (.int p0), .val (.int p1), .val (.int p2), .val (.int p3), .val (.int p4), .val (.int p5), .val (.int cn), .val (.int (0 : Int32)), .val (.int r24), .val (.int r30), .val (.int r36), .val (.int r42), .val (.int r48), .val (.ref a28), .unset, .unset, .unset, .unset, .unset, .unset, .unset] [(.int r42), (.int (2 : Int32)), (.ref a28)])) rfl rfl (hb hby at_119) fun T47 Y48 => ?_
      replace Y48 : On p l e _ s m _ below meth c Z n0 T47 1 6 [ari a28 .byte (6 : Int32) [r30, r36, r42.toInt8.toInt32, r24, r24, r24]] := Y48
      replace Y48 : On p l e room_1 s m #[(.int p0), (.int p1), (.int p2), (.int p3), (.int p4), (.int p5)] below meth c Z n0 T47 1 6 [ari a28 .byte (6 : Int32) [r30, r36, r42, r24, r24, r24]] := by first | (rw [en24] at Y48; exact Y48) | (rw [en30] at Y48; exact Y48) | (rw [en36] at Y48; exact Y48) | (rw [en42] at Y48; exact Y48) | (rw [en48] at Y48; exact Y48)
      show Rn p e below F T47 (mkF m 120 #[.val (.int p0), .val (.int p1), .val (.int p2), .val (.int p3), .val (.int p4), .val (.int p5), .val (.int cn), .val (.int (0 : Int32)), .val (.int r24), .val (.int r30), .val (.int r36), .val (.int r42), .val (.int r48), .val (.ref a28), .unset, .unset, .unset, .unset, .unset, .unset, .unset] [])
      refine Rn.go (T' := T47) (g' := (mkF m 128 #[.val (.int p0), .val (.int p1), .val (.int p2), .val (.int p3), .val (.int p4), .val (.int p5), .val (.int cn), .val (.int (0 : Int32)), .val (.int r24), .val (.int r30), .val (.int r36), .val (.int r42), .val (.int r48), .val (.ref a28), .unset, .unset, .unset, .unset, .unset, .unset, .unset] [(.int r48), (.int (3 : Int32)), (.ref a28)])) (fun t k => ?_) ?_
      · show Steps p.tables e below (T47.setTop (mkF m 120 #[.val (.int p0), .val (.int p1), .val (.int p2), .val (.int p3), .val (.int p4), .val (.int p5), .val (.int cn), .val (.int (0 : Int32)), .val (.int r24), .val (.int r30), .val (.int r36), .val (.int r42), .val (.int r48), .val (.ref a28), .unset, .unset, .unset, .unset, .unset, .unset, .unset] [])) t
        refine XS.aload Y48.here hx rfl (hb hby at_120) rfl rfl ?_
        show Steps p.tables e below (T47.setTop (mkF m 122 #[.val (.int p0), .val (.int p1), .val (.int p2), .val (.int p3), .val (.int p4), .val (.int p5), .val (.int cn), .val (.int (0 : Int32)), .val (.int r24), .val (.int r30), .val (.int r36), .val (.int r42), .val (.int r48), .val (.ref a28), .unset, .unset, .unset, .unset, .unset, .unset, .unset] [(.ref a28)])) t
        refine XS.iload Y48.here hx rfl (hb hby at_122) rfl ?_
        show Steps p.tables e below (T47.setTop (mkF m 124 #[.val (.int p0), .val (.int p1), .val (.int p2), .val (.int p3), .val (.int p4), .val (.int p5), .val (.int cn), .val (.int (0 : Int32)), .val (.int r24), .val (.int r30), .val (.int r36), .val (.int r42), .val (.int r48), .val (.ref a28), .unset, .unset, .unset, .unset, .unset, .unset, .unset] [(.int (0 : Int32)), (.ref a28)])) t
        refine XS.iconst Y48.here hx rfl (hb hby at_124) ?_
        show Steps p.tables e below (T47.setTop (mkF m 125 #[.val (.int p0), .val (.int p1), .val (.int p2), .val (.int p3), .val (.int p4), .val (.int p5), .val (.int cn), .val (.int (0 : Int32)), .val (.int r24), .val (.int r30), .val (.int r36), .val (.int r42), .val (.int r48), .val (.ref a28), .unset, .unset, .unset, .unset, .unset, .unset, .unset] [(.int (3 : Int32)), (.int (0 : Int32)), (.ref a28)])) t
        refine XS.iadd Y48.here hx rfl (hb hby at_125) rfl ?_
        show Steps p.tables e below (T47.setTop (mkF m 126 #[.val (.int p0), .val (.int p1), .val (.int p2), .val (.int p3), .val (.int p4), .val (.int p5), .val (.int cn), .val (.int (0 : Int32)), .val (.int r24), .val (.int r30), .val (.int r36), .val (.int r42), .val (.int r48), .val (.ref a28), .unset, .unset, .unset, .unset, .unset, .unset, .unset] [(.int (3 : Int32)), (.ref a28)])) t
        refine XS.iload Y48.here hx rfl (hb hby at_126) rfl ?_
        show Steps p.tables e below (T47.setTop (mkF m 128 #[.val (.int p0), .val (.int p1), .val (.int p2), .val (.int p3), .val (.int p4), .val (.int p5), .val (.int cn), .val (.int (0 : Int32)), .val (.int r24), .val (.int r30), .val (.int r36), .val (.int r42), .val (.int r48), .val (.ref a28), .unset, .unset, .unset, .unset, .unset, .unset, .unset] [(.int r48), (.int (3 : Int32)), (.ref a28)])) t
        exact k
      refine On.bsto Y48 hx hZ (i := 0) rfl (by decide) (by show 3 < 6; decide) (g := (mkF m 128 #[.val (.int p0), .val (.int p1), .val (.int p2), .val (.int p3), .val (.int p4), .val (.int p5), .val (.int cn), .val (.int (0 : Int32)), .val (.int r24), .val (.int r30), .val (.int r36), .val (.int r42), .val (.int r48), .val (.ref a28), .unset, .unset, .unset, .unset, .unset, .unset, .unset] [(.int r48), (.int (3 : Int32)), (.ref a28)])) rfl rfl (hb hby at_128) fun T49 Y50 => ?_
      replace Y50 : On p l e _ s m _ below meth c Z n0 T49 1 6 [ari a28 .byte (6 : Int32) [r30, r36, r42, r48.toInt8.toInt32, r24, r24]] := Y50
      replace Y50 : On p l e room_1 s m #[(.int p0), (.int p1), (.int p2), (.int p3), (.int p4), (.int p5)] below meth c Z n0 T49 1 6 [ari a28 .byte (6 : Int32) [r30, r36, r42, r48, r24, r24]] := by first | (rw [en24] at Y50; exact Y50) | (rw [en30] at Y50; exact Y50) | (rw [en36] at Y50; exact Y50) | (rw [en42] at Y50; exact Y50) | (rw [en48] at Y50; exact Y50)
      show Rn p e below F T49 (mkF m 129 #[.val (.int p0), .val (.int p1), .val (.int p2), .val (.int p3), .val (.int p4), .val (.int p5), .val (.int cn), .val (.int (0 : Int32)), .val (.int r24), .val (.int r30), .val (.int r36), .val (.int r42), .val (.int r48), .val (.ref a28), .unset, .unset, .unset, .unset, .unset, .unset, .unset] [])
      exact HJ129 _ _ rfl rfl rfl rfl rfl Y50
    · subst eo
      show Rn p e below F T39 (mkF m 95 #[.val (.int p0), .val (.int p1), .val (.int p2), .val (.int p3), .val (.int p4), .val (.int p5), .val (.int cn), .val (.int (1 : Int32)), .val (.int r24), .val (.int r30), .val (.int r36), .val (.int r42), .val (.int r48), .val (.ref a28), .unset, .unset, .unset, .unset, .unset, .unset, .unset] [])
      refine Rn.go (T' := T39) (g' := (mkF m 101 #[.val (.int p0), .val (.int p1), .val (.int p2), .val (.int p3), .val (.int p4), .val (.int p5), .val (.int cn), .val (.int (1 : Int32)), .val (.int r24), .val (.int r30), .val (.int r36), .val (.int r42), .val (.int r48), .val (.ref a28), .unset, .unset, .unset, .unset, .unset, .unset, .unset] [(.int r30), (.int (1 : Int32)), (.ref a28)])) (fun t k => ?_) ?_
      · show Steps p.tables e below (T39.setTop (mkF m 95 #[.val (.int p0), .val (.int p1), .val (.int p2), .val (.int p3), .val (.int p4), .val (.int p5), .val (.int cn), .val (.int (1 : Int32)), .val (.int r24), .val (.int r30), .val (.int r36), .val (.int r42), .val (.int r48), .val (.ref a28), .unset, .unset, .unset, .unset, .unset, .unset, .unset] [])) t
        refine XS.aload Y40.here hx rfl (hb hby at_95) rfl rfl ?_
        show Steps p.tables e below (T39.setTop (mkF m 97 #[.val (.int p0), .val (.int p1), .val (.int p2), .val (.int p3), .val (.int p4), .val (.int p5), .val (.int cn), .val (.int (1 : Int32)), .val (.int r24), .val (.int r30), .val (.int r36), .val (.int r42), .val (.int r48), .val (.ref a28), .unset, .unset, .unset, .unset, .unset, .unset, .unset] [(.ref a28)])) t
        refine XS.iload Y40.here hx rfl (hb hby at_97) rfl ?_
        show Steps p.tables e below (T39.setTop (mkF m 99 #[.val (.int p0), .val (.int p1), .val (.int p2), .val (.int p3), .val (.int p4), .val (.int p5), .val (.int cn), .val (.int (1 : Int32)), .val (.int r24), .val (.int r30), .val (.int r36), .val (.int r42), .val (.int r48), .val (.ref a28), .unset, .unset, .unset, .unset, .unset, .unset, .unset] [(.int (1 : Int32)), (.ref a28)])) t
        refine XS.iload Y40.here hx rfl (hb hby at_99) rfl ?_
        show Steps p.tables e below (T39.setTop (mkF m 101 #[.val (.int p0), .val (.int p1), .val (.int p2), .val (.int p3), .val (.int p4), .val (.int p5), .val (.int cn), .val (.int (1 : Int32)), .val (.int r24), .val (.int r30), .val (.int r36), .val (.int r42), .val (.int r48), .val (.ref a28), .unset, .unset, .unset, .unset, .unset, .unset, .unset] [(.int r30), (.int (1 : Int32)), (.ref a28)])) t
        exact k
      refine On.bsto Y40 hx hZ (i := 0) rfl (by decide) (by show 1 < 6; decide) (g := (mkF m 101 #[.val (.int p0), .val (.int p1), .val (.int p2), .val (.int p3), .val (.int p4), .val (.int p5), .val (.int cn), .val (.int (1 : Int32)), .val (.int r24), .val (.int r30), .val (.int r36), .val (.int r42), .val (.int r48), .val (.ref a28), .unset, .unset, .unset, .unset, .unset, .unset, .unset] [(.int r30), (.int (1 : Int32)), (.ref a28)])) rfl rfl (hb hby at_101) fun T51 Y52 => ?_
      replace Y52 : On p l e _ s m _ below meth c Z n0 T51 1 6 [ari a28 .byte (6 : Int32) [r24, r30.toInt8.toInt32, r24, r24, r24, r24]] := Y52
      replace Y52 : On p l e room_1 s m #[(.int p0), (.int p1), (.int p2), (.int p3), (.int p4), (.int p5)] below meth c Z n0 T51 1 6 [ari a28 .byte (6 : Int32) [r24, r30, r24, r24, r24, r24]] := by first | (rw [en24] at Y52; exact Y52) | (rw [en30] at Y52; exact Y52) | (rw [en36] at Y52; exact Y52) | (rw [en42] at Y52; exact Y52) | (rw [en48] at Y52; exact Y52)
      show Rn p e below F T51 (mkF m 102 #[.val (.int p0), .val (.int p1), .val (.int p2), .val (.int p3), .val (.int p4), .val (.int p5), .val (.int cn), .val (.int (1 : Int32)), .val (.int r24), .val (.int r30), .val (.int r36), .val (.int r42), .val (.int r48), .val (.ref a28), .unset, .unset, .unset, .unset, .unset, .unset, .unset] [])
      refine Rn.go (T' := T51) (g' := (mkF m 110 #[.val (.int p0), .val (.int p1), .val (.int p2), .val (.int p3), .val (.int p4), .val (.int p5), .val (.int cn), .val (.int (1 : Int32)), .val (.int r24), .val (.int r30), .val (.int r36), .val (.int r42), .val (.int r48), .val (.ref a28), .unset, .unset, .unset, .unset, .unset, .unset, .unset] [(.int r36), (.int (2 : Int32)), (.ref a28)])) (fun t k => ?_) ?_
      · show Steps p.tables e below (T51.setTop (mkF m 102 #[.val (.int p0), .val (.int p1), .val (.int p2), .val (.int p3), .val (.int p4), .val (.int p5), .val (.int cn), .val (.int (1 : Int32)), .val (.int r24), .val (.int r30), .val (.int r36), .val (.int r42), .val (.int r48), .val (.ref a28), .unset, .unset, .unset, .unset, .unset, .unset, .unset] [])) t
        refine XS.aload Y52.here hx rfl (hb hby at_102) rfl rfl ?_
        show Steps p.tables e below (T51.setTop (mkF m 104 #[.val (.int p0), .val (.int p1), .val (.int p2), .val (.int p3), .val (.int p4), .val (.int p5), .val (.int cn), .val (.int (1 : Int32)), .val (.int r24), .val (.int r30), .val (.int r36), .val (.int r42), .val (.int r48), .val (.ref a28), .unset, .unset, .unset, .unset, .unset, .unset, .unset] [(.ref a28)])) t
        refine XS.iload Y52.here hx rfl (hb hby at_104) rfl ?_
        show Steps p.tables e below (T51.setTop (mkF m 106 #[.val (.int p0), .val (.int p1), .val (.int p2), .val (.int p3), .val (.int p4), .val (.int p5), .val (.int cn), .val (.int (1 : Int32)), .val (.int r24), .val (.int r30), .val (.int r36), .val (.int r42), .val (.int r48), .val (.ref a28), .unset, .unset, .unset, .unset, .unset, .unset, .unset] [(.int (1 : Int32)), (.ref a28)])) t
        refine XS.iconst Y52.here hx rfl (hb hby at_106) ?_
        show Steps p.tables e below (T51.setTop (mkF m 107 #[.val (.int p0), .val (.int p1), .val (.int p2), .val (.int p3), .val (.int p4), .val (.int p5), .val (.int cn), .val (.int (1 : Int32)), .val (.int r24), .val (.int r30), .val (.int r36), .val (.int r42), .val (.int r48), .val (.ref a28), .unset, .unset, .unset, .unset, .unset, .unset, .unset] [(.int (1 : Int32)), (.int (1 : Int32)), (.ref a28)])) t
        refine XS.iadd Y52.here hx rfl (hb hby at_107) rfl ?_
        show Steps p.tables e below (T51.setTop (mkF m 108 #[.val (.int p0), .val (.int p1), .val (.int p2), .val (.int p3), .val (.int p4), .val (.int p5), .val (.int cn), .val (.int (1 : Int32)), .val (.int r24), .val (.int r30), .val (.int r36), .val (.int r42), .val (.int r48), .val (.ref a28), .unset, .unset, .unset, .unset, .unset, .unset, .unset] [(.int (2 : Int32)), (.ref a28)])) t
        refine XS.iload Y52.here hx rfl (hb hby at_108) rfl ?_
        show Steps p.tables e below (T51.setTop (mkF m 110 #[.val (.int p0), .val (.int p1), .val (.int p2), .val (.int p3), .val (.int p4), .val (.int p5), .val (.int cn), .val (.int (1 : Int32)), .val (.int r24), .val (.int r30), .val (.int r36), .val (.int r42), .val (.int r48), .val (.ref a28), .unset, .unset, .unset, .unset, .unset, .unset, .unset] [(.int r36), (.int (2 : Int32)), (.ref a28)])) t
        exact k
      refine On.bsto Y52 hx hZ (i := 0) rfl (by decide) (by show 2 < 6; decide) (g := (mkF m 110 #[.val (.int p0), .val (.int p1), .val (.int p2), .val (.int p3), .val (.int p4), .val (.int p5), .val (.int cn), .val (.int (1 : Int32)), .val (.int r24), .val (.int r30), .val (.int r36), .val (.int r42), .val (.int r48), .val (.ref a28), .unset, .unset, .unset, .unset, .unset, .unset, .unset] [(.int r36), (.int (2 : Int32)), (.ref a28)])) rfl rfl (hb hby at_110) fun T53 Y54 => ?_
      replace Y54 : On p l e _ s m _ below meth c Z n0 T53 1 6 [ari a28 .byte (6 : Int32) [r24, r30, r36.toInt8.toInt32, r24, r24, r24]] := Y54
      replace Y54 : On p l e room_1 s m #[(.int p0), (.int p1), (.int p2), (.int p3), (.int p4), (.int p5)] below meth c Z n0 T53 1 6 [ari a28 .byte (6 : Int32) [r24, r30, r36, r24, r24, r24]] := by first | (rw [en24] at Y54; exact Y54) | (rw [en30] at Y54; exact Y54) | (rw [en36] at Y54; exact Y54) | (rw [en42] at Y54; exact Y54) | (rw [en48] at Y54; exact Y54)
      show Rn p e below F T53 (mkF m 111 #[.val (.int p0), .val (.int p1), .val (.int p2), .val (.int p3), .val (.int p4), .val (.int p5), .val (.int cn), .val (.int (1 : Int32)), .val (.int r24), .val (.int r30), .val (.int r36), .val (.int r42), .val (.int r48), .val (.ref a28), .unset, .unset, .unset, .unset, .unset, .unset, .unset] [])
      refine Rn.go (T' := T53) (g' := (mkF m 119 #[.val (.int p0), .val (.int p1), .val (.int p2), .val (.int p3), .val (.int p4), .val (.int p5), .val (.int cn), .val (.int (1 : Int32)), .val (.int r24), .val (.int r30), .val (.int r36), .val (.int r42), .val (.int r48), .val (.ref a28), .unset, .unset, .unset, .unset, .unset, .unset, .unset] [(.int r42), (.int (3 : Int32)), (.ref a28)])) (fun t k => ?_) ?_
      · show Steps p.tables e below (T53.setTop (mkF m 111 #[.val (.int p0), .val (.int p1), .val (.int p2), .val (.int p3), .val (.int p4), .val (.int p5), .val (.int cn), .val (.int (1 : Int32)), .val (.int r24), .val (.int r30), .val (.int r36), .val (.int r42), .val (.int r48), .val (.ref a28), .unset, .unset, .unset, .unset, .unset, .unset, .unset] [])) t
        refine XS.aload Y54.here hx rfl (hb hby at_111) rfl rfl ?_
        show Steps p.tables e below (T53.setTop (mkF m 113 #[.val (.int p0), .val (.int p1), .val (.int p2), .val (.int p3), .val (.int p4), .val (.int p5), .val (.int cn), .val (.int (1 : Int32)), .val (.int r24), .val (.int r30), .val (.int r36), .val (.int r42), .val (.int r48), .val (.ref a28), .unset, .unset, .unset, .unset, .unset, .unset, .unset] [(.ref a28)])) t
        refine XS.iload Y54.here hx rfl (hb hby at_113) rfl ?_
        show Steps p.tables e below (T53.setTop (mkF m 115 #[.val (.int p0), .val (.int p1), .val (.int p2), .val (.int p3), .val (.int p4), .val (.int p5), .val (.int cn), .val (.int (1 : Int32)), .val (.int r24), .val (.int r30), .val (.int r36), .val (.int r42), .val (.int r48), .val (.ref a28), .unset, .unset, .unset, .unset, .unset, .unset, .unset] [(.int (1 : Int32)), (.ref a28)])) t
        refine XS.iconst Y54.here hx rfl (hb hby at_115) ?_
        show Steps p.tables e below (T53.setTop (mkF m 116 #[.val (.int p0), .val (.int p1), .val (.int p2), .val (.int p3), .val (.int p4), .val (.int p5), .val (.int cn), .val (.int (1 : Int32)), .val (.int r24), .val (.int r30), .val (.int r36), .val (.int r42), .val (.int r48), .val (.ref a28), .unset, .unset, .unset, .unset, .unset, .unset, .unset] [(.int (2 : Int32)), (.int (1 : Int32)), (.ref a28)])) t
        refine XS.iadd Y54.here hx rfl (hb hby at_116) rfl ?_
        show Steps p.tables e below (T53.setTop (mkF m 117 #[.val (.int p0), .val (.int p1), .val (.int p2), .val (.int p3), .val (.int p4), .val (.int p5), .val (.int cn), .val (.int (1 : Int32)), .val (.int r24), .val (.int r30), .val (.int r36), .val (.int r42), .val (.int r48), .val (.ref a28), .unset, .unset, .unset, .unset, .unset, .unset, .unset] [(.int (3 : Int32)), (.ref a28)])) t
        refine XS.iload Y54.here hx rfl (hb hby at_117) rfl ?_
        show Steps p.tables e below (T53.setTop (mkF m 119 #[.val (.int p0), .val (.int p1), .val (.int p2), .val (.int p3), .val (.int p4), .val (.int p5), .val (.int cn), .val (.int (1 : Int32)), .val (.int r24), .val (.int r30), .val (.int r36), .val (.int r42), .val (.int r48), .val (.ref a28), .unset, .unset, .unset, .unset, .unset, .unset, .unset] [(.int r42), (.int (3 : Int32)), (.ref a28)])) t
        exact k
      refine On.bsto Y54 hx hZ (i := 0) rfl (by decide) (by show 3 < 6; decide) (g := (mkF m 119 #[.val (.int p0), .val (.int p1), .val (.int p2), .val (.int p3), .val (.int p4), .val (.int p5), .val (.int cn), .val (.int (1 : Int32)), .val (.int r24), .val (.int r30), .val (.int r36), .val (.int r42), .val (.int r48), .val (.ref a28), .unset, .unset, .unset, .unset, .unset, .unset, .unset] [(.int r42), (.int (3 : Int32)), (.ref a28)])) rfl rfl (hb hby at_119) fun T55 Y56 => ?_
      replace Y56 : On p l e _ s m _ below meth c Z n0 T55 1 6 [ari a28 .byte (6 : Int32) [r24, r30, r36, r42.toInt8.toInt32, r24, r24]] := Y56
      replace Y56 : On p l e room_1 s m #[(.int p0), (.int p1), (.int p2), (.int p3), (.int p4), (.int p5)] below meth c Z n0 T55 1 6 [ari a28 .byte (6 : Int32) [r24, r30, r36, r42, r24, r24]] := by first | (rw [en24] at Y56; exact Y56) | (rw [en30] at Y56; exact Y56) | (rw [en36] at Y56; exact Y56) | (rw [en42] at Y56; exact Y56) | (rw [en48] at Y56; exact Y56)
      show Rn p e below F T55 (mkF m 120 #[.val (.int p0), .val (.int p1), .val (.int p2), .val (.int p3), .val (.int p4), .val (.int p5), .val (.int cn), .val (.int (1 : Int32)), .val (.int r24), .val (.int r30), .val (.int r36), .val (.int r42), .val (.int r48), .val (.ref a28), .unset, .unset, .unset, .unset, .unset, .unset, .unset] [])
      refine Rn.go (T' := T55) (g' := (mkF m 128 #[.val (.int p0), .val (.int p1), .val (.int p2), .val (.int p3), .val (.int p4), .val (.int p5), .val (.int cn), .val (.int (1 : Int32)), .val (.int r24), .val (.int r30), .val (.int r36), .val (.int r42), .val (.int r48), .val (.ref a28), .unset, .unset, .unset, .unset, .unset, .unset, .unset] [(.int r48), (.int (4 : Int32)), (.ref a28)])) (fun t k => ?_) ?_
      · show Steps p.tables e below (T55.setTop (mkF m 120 #[.val (.int p0), .val (.int p1), .val (.int p2), .val (.int p3), .val (.int p4), .val (.int p5), .val (.int cn), .val (.int (1 : Int32)), .val (.int r24), .val (.int r30), .val (.int r36), .val (.int r42), .val (.int r48), .val (.ref a28), .unset, .unset, .unset, .unset, .unset, .unset, .unset] [])) t
        refine XS.aload Y56.here hx rfl (hb hby at_120) rfl rfl ?_
        show Steps p.tables e below (T55.setTop (mkF m 122 #[.val (.int p0), .val (.int p1), .val (.int p2), .val (.int p3), .val (.int p4), .val (.int p5), .val (.int cn), .val (.int (1 : Int32)), .val (.int r24), .val (.int r30), .val (.int r36), .val (.int r42), .val (.int r48), .val (.ref a28), .unset, .unset, .unset, .unset, .unset, .unset, .unset] [(.ref a28)])) t
        refine XS.iload Y56.here hx rfl (hb hby at_122) rfl ?_
        show Steps p.tables e below (T55.setTop (mkF m 124 #[.val (.int p0), .val (.int p1), .val (.int p2), .val (.int p3), .val (.int p4), .val (.int p5), .val (.int cn), .val (.int (1 : Int32)), .val (.int r24), .val (.int r30), .val (.int r36), .val (.int r42), .val (.int r48), .val (.ref a28), .unset, .unset, .unset, .unset, .unset, .unset, .unset] [(.int (1 : Int32)), (.ref a28)])) t
        refine XS.iconst Y56.here hx rfl (hb hby at_124) ?_
        show Steps p.tables e below (T55.setTop (mkF m 125 #[.val (.int p0), .val (.int p1), .val (.int p2), .val (.int p3), .val (.int p4), .val (.int p5), .val (.int cn), .val (.int (1 : Int32)), .val (.int r24), .val (.int r30), .val (.int r36), .val (.int r42), .val (.int r48), .val (.ref a28), .unset, .unset, .unset, .unset, .unset, .unset, .unset] [(.int (3 : Int32)), (.int (1 : Int32)), (.ref a28)])) t
        refine XS.iadd Y56.here hx rfl (hb hby at_125) rfl ?_
        show Steps p.tables e below (T55.setTop (mkF m 126 #[.val (.int p0), .val (.int p1), .val (.int p2), .val (.int p3), .val (.int p4), .val (.int p5), .val (.int cn), .val (.int (1 : Int32)), .val (.int r24), .val (.int r30), .val (.int r36), .val (.int r42), .val (.int r48), .val (.ref a28), .unset, .unset, .unset, .unset, .unset, .unset, .unset] [(.int (4 : Int32)), (.ref a28)])) t
        refine XS.iload Y56.here hx rfl (hb hby at_126) rfl ?_
        show Steps p.tables e below (T55.setTop (mkF m 128 #[.val (.int p0), .val (.int p1), .val (.int p2), .val (.int p3), .val (.int p4), .val (.int p5), .val (.int cn), .val (.int (1 : Int32)), .val (.int r24), .val (.int r30), .val (.int r36), .val (.int r42), .val (.int r48), .val (.ref a28), .unset, .unset, .unset, .unset, .unset, .unset, .unset] [(.int r48), (.int (4 : Int32)), (.ref a28)])) t
        exact k
      refine On.bsto Y56 hx hZ (i := 0) rfl (by decide) (by show 4 < 6; decide) (g := (mkF m 128 #[.val (.int p0), .val (.int p1), .val (.int p2), .val (.int p3), .val (.int p4), .val (.int p5), .val (.int cn), .val (.int (1 : Int32)), .val (.int r24), .val (.int r30), .val (.int r36), .val (.int r42), .val (.int r48), .val (.ref a28), .unset, .unset, .unset, .unset, .unset, .unset, .unset] [(.int r48), (.int (4 : Int32)), (.ref a28)])) rfl rfl (hb hby at_128) fun T57 Y58 => ?_
      replace Y58 : On p l e _ s m _ below meth c Z n0 T57 1 6 [ari a28 .byte (6 : Int32) [r24, r30, r36, r42, r48.toInt8.toInt32, r24]] := Y58
      replace Y58 : On p l e room_1 s m #[(.int p0), (.int p1), (.int p2), (.int p3), (.int p4), (.int p5)] below meth c Z n0 T57 1 6 [ari a28 .byte (6 : Int32) [r24, r30, r36, r42, r48, r24]] := by first | (rw [en24] at Y58; exact Y58) | (rw [en30] at Y58; exact Y58) | (rw [en36] at Y58; exact Y58) | (rw [en42] at Y58; exact Y58) | (rw [en48] at Y58; exact Y58)
      show Rn p e below F T57 (mkF m 129 #[.val (.int p0), .val (.int p1), .val (.int p2), .val (.int p3), .val (.int p4), .val (.int p5), .val (.int cn), .val (.int (1 : Int32)), .val (.int r24), .val (.int r30), .val (.int r36), .val (.int r42), .val (.int r48), .val (.ref a28), .unset, .unset, .unset, .unset, .unset, .unset, .unset] [])
      exact HJ129 _ _ rfl rfl rfl rfl rfl Y58
    · subst eo
      show Rn p e below F T39 (mkF m 95 #[.val (.int p0), .val (.int p1), .val (.int p2), .val (.int p3), .val (.int p4), .val (.int p5), .val (.int cn), .val (.int (2 : Int32)), .val (.int r24), .val (.int r30), .val (.int r36), .val (.int r42), .val (.int r48), .val (.ref a28), .unset, .unset, .unset, .unset, .unset, .unset, .unset] [])
      refine Rn.go (T' := T39) (g' := (mkF m 101 #[.val (.int p0), .val (.int p1), .val (.int p2), .val (.int p3), .val (.int p4), .val (.int p5), .val (.int cn), .val (.int (2 : Int32)), .val (.int r24), .val (.int r30), .val (.int r36), .val (.int r42), .val (.int r48), .val (.ref a28), .unset, .unset, .unset, .unset, .unset, .unset, .unset] [(.int r30), (.int (2 : Int32)), (.ref a28)])) (fun t k => ?_) ?_
      · show Steps p.tables e below (T39.setTop (mkF m 95 #[.val (.int p0), .val (.int p1), .val (.int p2), .val (.int p3), .val (.int p4), .val (.int p5), .val (.int cn), .val (.int (2 : Int32)), .val (.int r24), .val (.int r30), .val (.int r36), .val (.int r42), .val (.int r48), .val (.ref a28), .unset, .unset, .unset, .unset, .unset, .unset, .unset] [])) t
        refine XS.aload Y40.here hx rfl (hb hby at_95) rfl rfl ?_
        show Steps p.tables e below (T39.setTop (mkF m 97 #[.val (.int p0), .val (.int p1), .val (.int p2), .val (.int p3), .val (.int p4), .val (.int p5), .val (.int cn), .val (.int (2 : Int32)), .val (.int r24), .val (.int r30), .val (.int r36), .val (.int r42), .val (.int r48), .val (.ref a28), .unset, .unset, .unset, .unset, .unset, .unset, .unset] [(.ref a28)])) t
        refine XS.iload Y40.here hx rfl (hb hby at_97) rfl ?_
        show Steps p.tables e below (T39.setTop (mkF m 99 #[.val (.int p0), .val (.int p1), .val (.int p2), .val (.int p3), .val (.int p4), .val (.int p5), .val (.int cn), .val (.int (2 : Int32)), .val (.int r24), .val (.int r30), .val (.int r36), .val (.int r42), .val (.int r48), .val (.ref a28), .unset, .unset, .unset, .unset, .unset, .unset, .unset] [(.int (2 : Int32)), (.ref a28)])) t
        refine XS.iload Y40.here hx rfl (hb hby at_99) rfl ?_
        show Steps p.tables e below (T39.setTop (mkF m 101 #[.val (.int p0), .val (.int p1), .val (.int p2), .val (.int p3), .val (.int p4), .val (.int p5), .val (.int cn), .val (.int (2 : Int32)), .val (.int r24), .val (.int r30), .val (.int r36), .val (.int r42), .val (.int r48), .val (.ref a28), .unset, .unset, .unset, .unset, .unset, .unset, .unset] [(.int r30), (.int (2 : Int32)), (.ref a28)])) t
        exact k
      refine On.bsto Y40 hx hZ (i := 0) rfl (by decide) (by show 2 < 6; decide) (g := (mkF m 101 #[.val (.int p0), .val (.int p1), .val (.int p2), .val (.int p3), .val (.int p4), .val (.int p5), .val (.int cn), .val (.int (2 : Int32)), .val (.int r24), .val (.int r30), .val (.int r36), .val (.int r42), .val (.int r48), .val (.ref a28), .unset, .unset, .unset, .unset, .unset, .unset, .unset] [(.int r30), (.int (2 : Int32)), (.ref a28)])) rfl rfl (hb hby at_101) fun T59 Y60 => ?_
      replace Y60 : On p l e _ s m _ below meth c Z n0 T59 1 6 [ari a28 .byte (6 : Int32) [r24, r24, r30.toInt8.toInt32, r24, r24, r24]] := Y60
      replace Y60 : On p l e room_1 s m #[(.int p0), (.int p1), (.int p2), (.int p3), (.int p4), (.int p5)] below meth c Z n0 T59 1 6 [ari a28 .byte (6 : Int32) [r24, r24, r30, r24, r24, r24]] := by first | (rw [en24] at Y60; exact Y60) | (rw [en30] at Y60; exact Y60) | (rw [en36] at Y60; exact Y60) | (rw [en42] at Y60; exact Y60) | (rw [en48] at Y60; exact Y60)
      show Rn p e below F T59 (mkF m 102 #[.val (.int p0), .val (.int p1), .val (.int p2), .val (.int p3), .val (.int p4), .val (.int p5), .val (.int cn), .val (.int (2 : Int32)), .val (.int r24), .val (.int r30), .val (.int r36), .val (.int r42), .val (.int r48), .val (.ref a28), .unset, .unset, .unset, .unset, .unset, .unset, .unset] [])
      refine Rn.go (T' := T59) (g' := (mkF m 110 #[.val (.int p0), .val (.int p1), .val (.int p2), .val (.int p3), .val (.int p4), .val (.int p5), .val (.int cn), .val (.int (2 : Int32)), .val (.int r24), .val (.int r30), .val (.int r36), .val (.int r42), .val (.int r48), .val (.ref a28), .unset, .unset, .unset, .unset, .unset, .unset, .unset] [(.int r36), (.int (3 : Int32)), (.ref a28)])) (fun t k => ?_) ?_
      · show Steps p.tables e below (T59.setTop (mkF m 102 #[.val (.int p0), .val (.int p1), .val (.int p2), .val (.int p3), .val (.int p4), .val (.int p5), .val (.int cn), .val (.int (2 : Int32)), .val (.int r24), .val (.int r30), .val (.int r36), .val (.int r42), .val (.int r48), .val (.ref a28), .unset, .unset, .unset, .unset, .unset, .unset, .unset] [])) t
        refine XS.aload Y60.here hx rfl (hb hby at_102) rfl rfl ?_
        show Steps p.tables e below (T59.setTop (mkF m 104 #[.val (.int p0), .val (.int p1), .val (.int p2), .val (.int p3), .val (.int p4), .val (.int p5), .val (.int cn), .val (.int (2 : Int32)), .val (.int r24), .val (.int r30), .val (.int r36), .val (.int r42), .val (.int r48), .val (.ref a28), .unset, .unset, .unset, .unset, .unset, .unset, .unset] [(.ref a28)])) t
        refine XS.iload Y60.here hx rfl (hb hby at_104) rfl ?_
        show Steps p.tables e below (T59.setTop (mkF m 106 #[.val (.int p0), .val (.int p1), .val (.int p2), .val (.int p3), .val (.int p4), .val (.int p5), .val (.int cn), .val (.int (2 : Int32)), .val (.int r24), .val (.int r30), .val (.int r36), .val (.int r42), .val (.int r48), .val (.ref a28), .unset, .unset, .unset, .unset, .unset, .unset, .unset] [(.int (2 : Int32)), (.ref a28)])) t
        refine XS.iconst Y60.here hx rfl (hb hby at_106) ?_
        show Steps p.tables e below (T59.setTop (mkF m 107 #[.val (.int p0), .val (.int p1), .val (.int p2), .val (.int p3), .val (.int p4), .val (.int p5), .val (.int cn), .val (.int (2 : Int32)), .val (.int r24), .val (.int r30), .val (.int r36), .val (.int r42), .val (.int r48), .val (.ref a28), .unset, .unset, .unset, .unset, .unset, .unset, .unset] [(.int (1 : Int32)), (.int (2 : Int32)), (.ref a28)])) t
        refine XS.iadd Y60.here hx rfl (hb hby at_107) rfl ?_
        show Steps p.tables e below (T59.setTop (mkF m 108 #[.val (.int p0), .val (.int p1), .val (.int p2), .val (.int p3), .val (.int p4), .val (.int p5), .val (.int cn), .val (.int (2 : Int32)), .val (.int r24), .val (.int r30), .val (.int r36), .val (.int r42), .val (.int r48), .val (.ref a28), .unset, .unset, .unset, .unset, .unset, .unset, .unset] [(.int (3 : Int32)), (.ref a28)])) t
        refine XS.iload Y60.here hx rfl (hb hby at_108) rfl ?_
        show Steps p.tables e below (T59.setTop (mkF m 110 #[.val (.int p0), .val (.int p1), .val (.int p2), .val (.int p3), .val (.int p4), .val (.int p5), .val (.int cn), .val (.int (2 : Int32)), .val (.int r24), .val (.int r30), .val (.int r36), .val (.int r42), .val (.int r48), .val (.ref a28), .unset, .unset, .unset, .unset, .unset, .unset, .unset] [(.int r36), (.int (3 : Int32)), (.ref a28)])) t
        exact k
      refine On.bsto Y60 hx hZ (i := 0) rfl (by decide) (by show 3 < 6; decide) (g := (mkF m 110 #[.val (.int p0), .val (.int p1), .val (.int p2), .val (.int p3), .val (.int p4), .val (.int p5), .val (.int cn), .val (.int (2 : Int32)), .val (.int r24), .val (.int r30), .val (.int r36), .val (.int r42), .val (.int r48), .val (.ref a28), .unset, .unset, .unset, .unset, .unset, .unset, .unset] [(.int r36), (.int (3 : Int32)), (.ref a28)])) rfl rfl (hb hby at_110) fun T61 Y62 => ?_
      replace Y62 : On p l e _ s m _ below meth c Z n0 T61 1 6 [ari a28 .byte (6 : Int32) [r24, r24, r30, r36.toInt8.toInt32, r24, r24]] := Y62
      replace Y62 : On p l e room_1 s m #[(.int p0), (.int p1), (.int p2), (.int p3), (.int p4), (.int p5)] below meth c Z n0 T61 1 6 [ari a28 .byte (6 : Int32) [r24, r24, r30, r36, r24, r24]] := by first | (rw [en24] at Y62; exact Y62) | (rw [en30] at Y62; exact Y62) | (rw [en36] at Y62; exact Y62) | (rw [en42] at Y62; exact Y62) | (rw [en48] at Y62; exact Y62)
      show Rn p e below F T61 (mkF m 111 #[.val (.int p0), .val (.int p1), .val (.int p2), .val (.int p3), .val (.int p4), .val (.int p5), .val (.int cn), .val (.int (2 : Int32)), .val (.int r24), .val (.int r30), .val (.int r36), .val (.int r42), .val (.int r48), .val (.ref a28), .unset, .unset, .unset, .unset, .unset, .unset, .unset] [])
      refine Rn.go (T' := T61) (g' := (mkF m 119 #[.val (.int p0), .val (.int p1), .val (.int p2), .val (.int p3), .val (.int p4), .val (.int p5), .val (.int cn), .val (.int (2 : Int32)), .val (.int r24), .val (.int r30), .val (.int r36), .val (.int r42), .val (.int r48), .val (.ref a28), .unset, .unset, .unset, .unset, .unset, .unset, .unset] [(.int r42), (.int (4 : Int32)), (.ref a28)])) (fun t k => ?_) ?_
      · show Steps p.tables e below (T61.setTop (mkF m 111 #[.val (.int p0), .val (.int p1), .val (.int p2), .val (.int p3), .val (.int p4), .val (.int p5), .val (.int cn), .val (.int (2 : Int32)), .val (.int r24), .val (.int r30), .val (.int r36), .val (.int r42), .val (.int r48), .val (.ref a28), .unset, .unset, .unset, .unset, .unset, .unset, .unset] [])) t
        refine XS.aload Y62.here hx rfl (hb hby at_111) rfl rfl ?_
        show Steps p.tables e below (T61.setTop (mkF m 113 #[.val (.int p0), .val (.int p1), .val (.int p2), .val (.int p3), .val (.int p4), .val (.int p5), .val (.int cn), .val (.int (2 : Int32)), .val (.int r24), .val (.int r30), .val (.int r36), .val (.int r42), .val (.int r48), .val (.ref a28), .unset, .unset, .unset, .unset, .unset, .unset, .unset] [(.ref a28)])) t
        refine XS.iload Y62.here hx rfl (hb hby at_113) rfl ?_
        show Steps p.tables e below (T61.setTop (mkF m 115 #[.val (.int p0), .val (.int p1), .val (.int p2), .val (.int p3), .val (.int p4), .val (.int p5), .val (.int cn), .val (.int (2 : Int32)), .val (.int r24), .val (.int r30), .val (.int r36), .val (.int r42), .val (.int r48), .val (.ref a28), .unset, .unset, .unset, .unset, .unset, .unset, .unset] [(.int (2 : Int32)), (.ref a28)])) t
        refine XS.iconst Y62.here hx rfl (hb hby at_115) ?_
        show Steps p.tables e below (T61.setTop (mkF m 116 #[.val (.int p0), .val (.int p1), .val (.int p2), .val (.int p3), .val (.int p4), .val (.int p5), .val (.int cn), .val (.int (2 : Int32)), .val (.int r24), .val (.int r30), .val (.int r36), .val (.int r42), .val (.int r48), .val (.ref a28), .unset, .unset, .unset, .unset, .unset, .unset, .unset] [(.int (2 : Int32)), (.int (2 : Int32)), (.ref a28)])) t
        refine XS.iadd Y62.here hx rfl (hb hby at_116) rfl ?_
        show Steps p.tables e below (T61.setTop (mkF m 117 #[.val (.int p0), .val (.int p1), .val (.int p2), .val (.int p3), .val (.int p4), .val (.int p5), .val (.int cn), .val (.int (2 : Int32)), .val (.int r24), .val (.int r30), .val (.int r36), .val (.int r42), .val (.int r48), .val (.ref a28), .unset, .unset, .unset, .unset, .unset, .unset, .unset] [(.int (4 : Int32)), (.ref a28)])) t
        refine XS.iload Y62.here hx rfl (hb hby at_117) rfl ?_
        show Steps p.tables e below (T61.setTop (mkF m 119 #[.val (.int p0), .val (.int p1), .val (.int p2), .val (.int p3), .val (.int p4), .val (.int p5), .val (.int cn), .val (.int (2 : Int32)), .val (.int r24), .val (.int r30), .val (.int r36), .val (.int r42), .val (.int r48), .val (.ref a28), .unset, .unset, .unset, .unset, .unset, .unset, .unset] [(.int r42), (.int (4 : Int32)), (.ref a28)])) t
        exact k
      refine On.bsto Y62 hx hZ (i := 0) rfl (by decide) (by show 4 < 6; decide) (g := (mkF m 119 #[.val (.int p0), .val (.int p1), .val (.int p2), .val (.int p3), .val (.int p4), .val (.int p5), .val (.int cn), .val (.int (2 : Int32)), .val (.int r24), .val (.int r30), .val (.int r36), .val (.int r42), .val (.int r48), .val (.ref a28), .unset, .unset, .unset, .unset, .unset, .unset, .unset] [(.int r42), (.int (4 : Int32)), (.ref a28)])) rfl rfl (hb hby at_119) fun T63 Y64 => ?_
      replace Y64 : On p l e _ s m _ below meth c Z n0 T63 1 6 [ari a28 .byte (6 : Int32) [r24, r24, r30, r36, r42.toInt8.toInt32, r24]] := Y64
      replace Y64 : On p l e room_1 s m #[(.int p0), (.int p1), (.int p2), (.int p3), (.int p4), (.int p5)] below meth c Z n0 T63 1 6 [ari a28 .byte (6 : Int32) [r24, r24, r30, r36, r42, r24]] := by first | (rw [en24] at Y64; exact Y64) | (rw [en30] at Y64; exact Y64) | (rw [en36] at Y64; exact Y64) | (rw [en42] at Y64; exact Y64) | (rw [en48] at Y64; exact Y64)
      show Rn p e below F T63 (mkF m 120 #[.val (.int p0), .val (.int p1), .val (.int p2), .val (.int p3), .val (.int p4), .val (.int p5), .val (.int cn), .val (.int (2 : Int32)), .val (.int r24), .val (.int r30), .val (.int r36), .val (.int r42), .val (.int r48), .val (.ref a28), .unset, .unset, .unset, .unset, .unset, .unset, .unset] [])
      refine Rn.go (T' := T63) (g' := (mkF m 128 #[.val (.int p0), .val (.int p1), .val (.int p2), .val (.int p3), .val (.int p4), .val (.int p5), .val (.int cn), .val (.int (2 : Int32)), .val (.int r24), .val (.int r30), .val (.int r36), .val (.int r42), .val (.int r48), .val (.ref a28), .unset, .unset, .unset, .unset, .unset, .unset, .unset] [(.int r48), (.int (5 : Int32)), (.ref a28)])) (fun t k => ?_) ?_
      · show Steps p.tables e below (T63.setTop (mkF m 120 #[.val (.int p0), .val (.int p1), .val (.int p2), .val (.int p3), .val (.int p4), .val (.int p5), .val (.int cn), .val (.int (2 : Int32)), .val (.int r24), .val (.int r30), .val (.int r36), .val (.int r42), .val (.int r48), .val (.ref a28), .unset, .unset, .unset, .unset, .unset, .unset, .unset] [])) t
        refine XS.aload Y64.here hx rfl (hb hby at_120) rfl rfl ?_
        show Steps p.tables e below (T63.setTop (mkF m 122 #[.val (.int p0), .val (.int p1), .val (.int p2), .val (.int p3), .val (.int p4), .val (.int p5), .val (.int cn), .val (.int (2 : Int32)), .val (.int r24), .val (.int r30), .val (.int r36), .val (.int r42), .val (.int r48), .val (.ref a28), .unset, .unset, .unset, .unset, .unset, .unset, .unset] [(.ref a28)])) t
        refine XS.iload Y64.here hx rfl (hb hby at_122) rfl ?_
        show Steps p.tables e below (T63.setTop (mkF m 124 #[.val (.int p0), .val (.int p1), .val (.int p2), .val (.int p3), .val (.int p4), .val (.int p5), .val (.int cn), .val (.int (2 : Int32)), .val (.int r24), .val (.int r30), .val (.int r36), .val (.int r42), .val (.int r48), .val (.ref a28), .unset, .unset, .unset, .unset, .unset, .unset, .unset] [(.int (2 : Int32)), (.ref a28)])) t
        refine XS.iconst Y64.here hx rfl (hb hby at_124) ?_
        show Steps p.tables e below (T63.setTop (mkF m 125 #[.val (.int p0), .val (.int p1), .val (.int p2), .val (.int p3), .val (.int p4), .val (.int p5), .val (.int cn), .val (.int (2 : Int32)), .val (.int r24), .val (.int r30), .val (.int r36), .val (.int r42), .val (.int r48), .val (.ref a28), .unset, .unset, .unset, .unset, .unset, .unset, .unset] [(.int (3 : Int32)), (.int (2 : Int32)), (.ref a28)])) t
        refine XS.iadd Y64.here hx rfl (hb hby at_125) rfl ?_
        show Steps p.tables e below (T63.setTop (mkF m 126 #[.val (.int p0), .val (.int p1), .val (.int p2), .val (.int p3), .val (.int p4), .val (.int p5), .val (.int cn), .val (.int (2 : Int32)), .val (.int r24), .val (.int r30), .val (.int r36), .val (.int r42), .val (.int r48), .val (.ref a28), .unset, .unset, .unset, .unset, .unset, .unset, .unset] [(.int (5 : Int32)), (.ref a28)])) t
        refine XS.iload Y64.here hx rfl (hb hby at_126) rfl ?_
        show Steps p.tables e below (T63.setTop (mkF m 128 #[.val (.int p0), .val (.int p1), .val (.int p2), .val (.int p3), .val (.int p4), .val (.int p5), .val (.int cn), .val (.int (2 : Int32)), .val (.int r24), .val (.int r30), .val (.int r36), .val (.int r42), .val (.int r48), .val (.ref a28), .unset, .unset, .unset, .unset, .unset, .unset, .unset] [(.int r48), (.int (5 : Int32)), (.ref a28)])) t
        exact k
      refine On.bsto Y64 hx hZ (i := 0) rfl (by decide) (by show 5 < 6; decide) (g := (mkF m 128 #[.val (.int p0), .val (.int p1), .val (.int p2), .val (.int p3), .val (.int p4), .val (.int p5), .val (.int cn), .val (.int (2 : Int32)), .val (.int r24), .val (.int r30), .val (.int r36), .val (.int r42), .val (.int r48), .val (.ref a28), .unset, .unset, .unset, .unset, .unset, .unset, .unset] [(.int r48), (.int (5 : Int32)), (.ref a28)])) rfl rfl (hb hby at_128) fun T65 Y66 => ?_
      replace Y66 : On p l e _ s m _ below meth c Z n0 T65 1 6 [ari a28 .byte (6 : Int32) [r24, r24, r30, r36, r42, r48.toInt8.toInt32]] := Y66
      replace Y66 : On p l e room_1 s m #[(.int p0), (.int p1), (.int p2), (.int p3), (.int p4), (.int p5)] below meth c Z n0 T65 1 6 [ari a28 .byte (6 : Int32) [r24, r24, r30, r36, r42, r48]] := by first | (rw [en24] at Y66; exact Y66) | (rw [en30] at Y66; exact Y66) | (rw [en36] at Y66; exact Y66) | (rw [en42] at Y66; exact Y66) | (rw [en48] at Y66; exact Y66)
      show Rn p e below F T65 (mkF m 129 #[.val (.int p0), .val (.int p1), .val (.int p2), .val (.int p3), .val (.int p4), .val (.int p5), .val (.int cn), .val (.int (2 : Int32)), .val (.int r24), .val (.int r30), .val (.int r36), .val (.int r42), .val (.int r48), .val (.ref a28), .unset, .unset, .unset, .unset, .unset, .unset, .unset] [])
      exact HJ129 _ _ rfl rfl rfl rfl rfl Y66
  intro T41 xs x6 g0 g1 g2 g3 Y42
  refine Rn.go (T' := T41) (g' := (mkF m 131 #[.val (.int p0), .val (.int p1), .val (.int p2), .val (.int p3), .val (.int p4), .val (.int p5), .val (.int cn), .val (.int o), .val (.int r24), .val (.int r30), .val (.int r36), .val (.int r42), .val (.int r48), .val (.ref a28), .unset, .unset, .unset, .unset, .unset, .unset, .unset] [(.int r30)])) (fun t k => ?_) ?_
  · show Steps p.tables e below (T41.setTop (mkF m 129 #[.val (.int p0), .val (.int p1), .val (.int p2), .val (.int p3), .val (.int p4), .val (.int p5), .val (.int cn), .val (.int o), .val (.int r24), .val (.int r30), .val (.int r36), .val (.int r42), .val (.int r48), .val (.ref a28), .unset, .unset, .unset, .unset, .unset, .unset, .unset] [])) t
    refine XS.iload Y42.here hx rfl (hb hby at_129) rfl ?_
    show Steps p.tables e below (T41.setTop (mkF m 131 #[.val (.int p0), .val (.int p1), .val (.int p2), .val (.int p3), .val (.int p4), .val (.int p5), .val (.int cn), .val (.int o), .val (.int r24), .val (.int r30), .val (.int r36), .val (.int r42), .val (.int r48), .val (.ref a28), .unset, .unset, .unset, .unset, .unset, .unset, .unset] [(.int r30)])) t
    exact k
  refine On.static Y42 hx hZ (y := (⟨"com/example/nishati/nishati/io/CsvRowDigitsPinLaw", "value", "(B)I"⟩ : MethodName)) hown (w6 hw) (w7 hw) (w8 hw) (w3 hw) (by decide) (argsL := [(.int r30)]) (rest := []) (rm2 l Z a0 hw n0 r30 [ari a28 .byte (6 : Int32) xs]) (W := 0) (by decide) (by decide) (by decide) (by decide) (g := (mkF m 131 #[.val (.int p0), .val (.int p1), .val (.int p2), .val (.int p3), .val (.int p4), .val (.int p5), .val (.int cn), .val (.int o), .val (.int r24), .val (.int r30), .val (.int r36), .val (.int r42), .val (.int r48), .val (.ref a28), .unset, .unset, .unset, .unset, .unset, .unset, .unset] [(.int r30)])) rfl (by rw [hml]; rfl) (lenOf pd1 rfl) rfl (by show 2 * 0 + _ ≤ _; exact Nat.le_of_eq rfl) (hb hby at_131) ?_
  intro T67 u69 D70 hp71 Y68
  obtain ⟨r131, hr131, rfl, rfl⟩ : ∃ z : Int32, z = (own_val r30) ∧ u69 = some (.int z) ∧ D70 = _ := ⟨_, rfl, hp71.1, hp71.2⟩
  replace Y68 : On p l e _ s m _ below meth c Z n0 T67 1 6 [ari a28 .byte (6 : Int32) xs] := Y68
  show Rn p e below F T67 (mkF m 134 #[.val (.int p0), .val (.int p1), .val (.int p2), .val (.int p3), .val (.int p4), .val (.int p5), .val (.int cn), .val (.int o), .val (.int r24), .val (.int r30), .val (.int r36), .val (.int r42), .val (.int r48), .val (.ref a28), .unset, .unset, .unset, .unset, .unset, .unset, .unset] [(.int r131)])
  refine Rn.go (T' := T67) (g' := (mkF m 138 #[.val (.int p0), .val (.int p1), .val (.int p2), .val (.int p3), .val (.int p4), .val (.int p5), .val (.int cn), .val (.int o), .val (.int r24), .val (.int r30), .val (.int r36), .val (.int r42), .val (.int r48), .val (.ref a28), .val (.int r131), .unset, .unset, .unset, .unset, .unset, .unset] [(.int r36)])) (fun t k => ?_) ?_
  · show Steps p.tables e below (T67.setTop (mkF m 134 #[.val (.int p0), .val (.int p1), .val (.int p2), .val (.int p3), .val (.int p4), .val (.int p5), .val (.int cn), .val (.int o), .val (.int r24), .val (.int r30), .val (.int r36), .val (.int r42), .val (.int r48), .val (.ref a28), .unset, .unset, .unset, .unset, .unset, .unset, .unset] [(.int r131)])) t
    refine XS.istore Y68.here hx rfl (hb hby at_134) rfl (l' := #[.val (.int p0), .val (.int p1), .val (.int p2), .val (.int p3), .val (.int p4), .val (.int p5), .val (.int cn), .val (.int o), .val (.int r24), .val (.int r30), .val (.int r36), .val (.int r42), .val (.int r48), .val (.ref a28), .val (.int r131), .unset, .unset, .unset, .unset, .unset, .unset]) rfl ?_
    show Steps p.tables e below (T67.setTop (mkF m 136 #[.val (.int p0), .val (.int p1), .val (.int p2), .val (.int p3), .val (.int p4), .val (.int p5), .val (.int cn), .val (.int o), .val (.int r24), .val (.int r30), .val (.int r36), .val (.int r42), .val (.int r48), .val (.ref a28), .val (.int r131), .unset, .unset, .unset, .unset, .unset, .unset] [])) t
    refine XS.iload Y68.here hx rfl (hb hby at_136) rfl ?_
    show Steps p.tables e below (T67.setTop (mkF m 138 #[.val (.int p0), .val (.int p1), .val (.int p2), .val (.int p3), .val (.int p4), .val (.int p5), .val (.int cn), .val (.int o), .val (.int r24), .val (.int r30), .val (.int r36), .val (.int r42), .val (.int r48), .val (.ref a28), .val (.int r131), .unset, .unset, .unset, .unset, .unset, .unset] [(.int r36)])) t
    exact k
  refine On.static Y68 hx hZ (y := (⟨"com/example/nishati/nishati/io/CsvRowDigitsPinLaw", "value", "(B)I"⟩ : MethodName)) hown (w6 hw) (w7 hw) (w8 hw) (w3 hw) (by decide) (argsL := [(.int r36)]) (rest := []) (rm2 l Z a0 hw n0 r36 [ari a28 .byte (6 : Int32) xs]) (W := 0) (by decide) (by decide) (by decide) (by decide) (g := (mkF m 138 #[.val (.int p0), .val (.int p1), .val (.int p2), .val (.int p3), .val (.int p4), .val (.int p5), .val (.int cn), .val (.int o), .val (.int r24), .val (.int r30), .val (.int r36), .val (.int r42), .val (.int r48), .val (.ref a28), .val (.int r131), .unset, .unset, .unset, .unset, .unset, .unset] [(.int r36)])) rfl (by rw [hml]; rfl) (lenOf pd1 rfl) rfl (by show 2 * 0 + _ ≤ _; exact Nat.le_of_eq rfl) (hb hby at_138) ?_
  intro T72 u74 D75 hp76 Y73
  obtain ⟨r138, hr138, rfl, rfl⟩ : ∃ z : Int32, z = (own_val r36) ∧ u74 = some (.int z) ∧ D75 = _ := ⟨_, rfl, hp76.1, hp76.2⟩
  replace Y73 : On p l e _ s m _ below meth c Z n0 T72 1 6 [ari a28 .byte (6 : Int32) xs] := Y73
  show Rn p e below F T72 (mkF m 141 #[.val (.int p0), .val (.int p1), .val (.int p2), .val (.int p3), .val (.int p4), .val (.int p5), .val (.int cn), .val (.int o), .val (.int r24), .val (.int r30), .val (.int r36), .val (.int r42), .val (.int r48), .val (.ref a28), .val (.int r131), .unset, .unset, .unset, .unset, .unset, .unset] [(.int r138)])
  refine Rn.go (T' := T72) (g' := (mkF m 145 #[.val (.int p0), .val (.int p1), .val (.int p2), .val (.int p3), .val (.int p4), .val (.int p5), .val (.int cn), .val (.int o), .val (.int r24), .val (.int r30), .val (.int r36), .val (.int r42), .val (.int r48), .val (.ref a28), .val (.int r131), .val (.int r138), .unset, .unset, .unset, .unset, .unset] [(.int r42)])) (fun t k => ?_) ?_
  · show Steps p.tables e below (T72.setTop (mkF m 141 #[.val (.int p0), .val (.int p1), .val (.int p2), .val (.int p3), .val (.int p4), .val (.int p5), .val (.int cn), .val (.int o), .val (.int r24), .val (.int r30), .val (.int r36), .val (.int r42), .val (.int r48), .val (.ref a28), .val (.int r131), .unset, .unset, .unset, .unset, .unset, .unset] [(.int r138)])) t
    refine XS.istore Y73.here hx rfl (hb hby at_141) rfl (l' := #[.val (.int p0), .val (.int p1), .val (.int p2), .val (.int p3), .val (.int p4), .val (.int p5), .val (.int cn), .val (.int o), .val (.int r24), .val (.int r30), .val (.int r36), .val (.int r42), .val (.int r48), .val (.ref a28), .val (.int r131), .val (.int r138), .unset, .unset, .unset, .unset, .unset]) rfl ?_
    show Steps p.tables e below (T72.setTop (mkF m 143 #[.val (.int p0), .val (.int p1), .val (.int p2), .val (.int p3), .val (.int p4), .val (.int p5), .val (.int cn), .val (.int o), .val (.int r24), .val (.int r30), .val (.int r36), .val (.int r42), .val (.int r48), .val (.ref a28), .val (.int r131), .val (.int r138), .unset, .unset, .unset, .unset, .unset] [])) t
    refine XS.iload Y73.here hx rfl (hb hby at_143) rfl ?_
    show Steps p.tables e below (T72.setTop (mkF m 145 #[.val (.int p0), .val (.int p1), .val (.int p2), .val (.int p3), .val (.int p4), .val (.int p5), .val (.int cn), .val (.int o), .val (.int r24), .val (.int r30), .val (.int r36), .val (.int r42), .val (.int r48), .val (.ref a28), .val (.int r131), .val (.int r138), .unset, .unset, .unset, .unset, .unset] [(.int r42)])) t
    exact k
  refine On.static Y73 hx hZ (y := (⟨"com/example/nishati/nishati/io/CsvRowDigitsPinLaw", "value", "(B)I"⟩ : MethodName)) hown (w6 hw) (w7 hw) (w8 hw) (w3 hw) (by decide) (argsL := [(.int r42)]) (rest := []) (rm2 l Z a0 hw n0 r42 [ari a28 .byte (6 : Int32) xs]) (W := 0) (by decide) (by decide) (by decide) (by decide) (g := (mkF m 145 #[.val (.int p0), .val (.int p1), .val (.int p2), .val (.int p3), .val (.int p4), .val (.int p5), .val (.int cn), .val (.int o), .val (.int r24), .val (.int r30), .val (.int r36), .val (.int r42), .val (.int r48), .val (.ref a28), .val (.int r131), .val (.int r138), .unset, .unset, .unset, .unset, .unset] [(.int r42)])) rfl (by rw [hml]; rfl) (lenOf pd1 rfl) rfl (by show 2 * 0 + _ ≤ _; exact Nat.le_of_eq rfl) (hb hby at_145) ?_
  intro T77 u79 D80 hp81 Y78
  obtain ⟨r145, hr145, rfl, rfl⟩ : ∃ z : Int32, z = (own_val r42) ∧ u79 = some (.int z) ∧ D80 = _ := ⟨_, rfl, hp81.1, hp81.2⟩
  replace Y78 : On p l e _ s m _ below meth c Z n0 T77 1 6 [ari a28 .byte (6 : Int32) xs] := Y78
  show Rn p e below F T77 (mkF m 148 #[.val (.int p0), .val (.int p1), .val (.int p2), .val (.int p3), .val (.int p4), .val (.int p5), .val (.int cn), .val (.int o), .val (.int r24), .val (.int r30), .val (.int r36), .val (.int r42), .val (.int r48), .val (.ref a28), .val (.int r131), .val (.int r138), .unset, .unset, .unset, .unset, .unset] [(.int r145)])
  refine Rn.go (T' := T77) (g' := (mkF m 152 #[.val (.int p0), .val (.int p1), .val (.int p2), .val (.int p3), .val (.int p4), .val (.int p5), .val (.int cn), .val (.int o), .val (.int r24), .val (.int r30), .val (.int r36), .val (.int r42), .val (.int r48), .val (.ref a28), .val (.int r131), .val (.int r138), .val (.int r145), .unset, .unset, .unset, .unset] [(.int r48)])) (fun t k => ?_) ?_
  · show Steps p.tables e below (T77.setTop (mkF m 148 #[.val (.int p0), .val (.int p1), .val (.int p2), .val (.int p3), .val (.int p4), .val (.int p5), .val (.int cn), .val (.int o), .val (.int r24), .val (.int r30), .val (.int r36), .val (.int r42), .val (.int r48), .val (.ref a28), .val (.int r131), .val (.int r138), .unset, .unset, .unset, .unset, .unset] [(.int r145)])) t
    refine XS.istore Y78.here hx rfl (hb hby at_148) rfl (l' := #[.val (.int p0), .val (.int p1), .val (.int p2), .val (.int p3), .val (.int p4), .val (.int p5), .val (.int cn), .val (.int o), .val (.int r24), .val (.int r30), .val (.int r36), .val (.int r42), .val (.int r48), .val (.ref a28), .val (.int r131), .val (.int r138), .val (.int r145), .unset, .unset, .unset, .unset]) rfl ?_
    show Steps p.tables e below (T77.setTop (mkF m 150 #[.val (.int p0), .val (.int p1), .val (.int p2), .val (.int p3), .val (.int p4), .val (.int p5), .val (.int cn), .val (.int o), .val (.int r24), .val (.int r30), .val (.int r36), .val (.int r42), .val (.int r48), .val (.ref a28), .val (.int r131), .val (.int r138), .val (.int r145), .unset, .unset, .unset, .unset] [])) t
    refine XS.iload Y78.here hx rfl (hb hby at_150) rfl ?_
    show Steps p.tables e below (T77.setTop (mkF m 152 #[.val (.int p0), .val (.int p1), .val (.int p2), .val (.int p3), .val (.int p4), .val (.int p5), .val (.int cn), .val (.int o), .val (.int r24), .val (.int r30), .val (.int r36), .val (.int r42), .val (.int r48), .val (.ref a28), .val (.int r131), .val (.int r138), .val (.int r145), .unset, .unset, .unset, .unset] [(.int r48)])) t
    exact k
  refine On.static Y78 hx hZ (y := (⟨"com/example/nishati/nishati/io/CsvRowDigitsPinLaw", "value", "(B)I"⟩ : MethodName)) hown (w6 hw) (w7 hw) (w8 hw) (w3 hw) (by decide) (argsL := [(.int r48)]) (rest := []) (rm2 l Z a0 hw n0 r48 [ari a28 .byte (6 : Int32) xs]) (W := 0) (by decide) (by decide) (by decide) (by decide) (g := (mkF m 152 #[.val (.int p0), .val (.int p1), .val (.int p2), .val (.int p3), .val (.int p4), .val (.int p5), .val (.int cn), .val (.int o), .val (.int r24), .val (.int r30), .val (.int r36), .val (.int r42), .val (.int r48), .val (.ref a28), .val (.int r131), .val (.int r138), .val (.int r145), .unset, .unset, .unset, .unset] [(.int r48)])) rfl (by rw [hml]; rfl) (lenOf pd1 rfl) rfl (by show 2 * 0 + _ ≤ _; exact Nat.le_of_eq rfl) (hb hby at_152) ?_
  intro T82 u84 D85 hp86 Y83
  obtain ⟨r152, hr152, rfl, rfl⟩ : ∃ z : Int32, z = (own_val r48) ∧ u84 = some (.int z) ∧ D85 = _ := ⟨_, rfl, hp86.1, hp86.2⟩
  replace Y83 : On p l e _ s m _ below meth c Z n0 T82 1 6 [ari a28 .byte (6 : Int32) xs] := Y83
  show Rn p e below F T82 (mkF m 155 #[.val (.int p0), .val (.int p1), .val (.int p2), .val (.int p3), .val (.int p4), .val (.int p5), .val (.int cn), .val (.int o), .val (.int r24), .val (.int r30), .val (.int r36), .val (.int r42), .val (.int r48), .val (.ref a28), .val (.int r131), .val (.int r138), .val (.int r145), .unset, .unset, .unset, .unset] [(.int r152)])
  refine Rn.go (T' := T82) (g' := (mkF m 160 #[.val (.int p0), .val (.int p1), .val (.int p2), .val (.int p3), .val (.int p4), .val (.int p5), .val (.int cn), .val (.int o), .val (.int r24), .val (.int r30), .val (.int r36), .val (.int r42), .val (.int r48), .val (.ref a28), .val (.int r131), .val (.int r138), .val (.int r145), .val (.int r152), .unset, .unset, .unset] [(.int (1 : Int32)), (.int cn)])) (fun t k => ?_) ?_
  · show Steps p.tables e below (T82.setTop (mkF m 155 #[.val (.int p0), .val (.int p1), .val (.int p2), .val (.int p3), .val (.int p4), .val (.int p5), .val (.int cn), .val (.int o), .val (.int r24), .val (.int r30), .val (.int r36), .val (.int r42), .val (.int r48), .val (.ref a28), .val (.int r131), .val (.int r138), .val (.int r145), .unset, .unset, .unset, .unset] [(.int r152)])) t
    refine XS.istore Y83.here hx rfl (hb hby at_155) rfl (l' := #[.val (.int p0), .val (.int p1), .val (.int p2), .val (.int p3), .val (.int p4), .val (.int p5), .val (.int cn), .val (.int o), .val (.int r24), .val (.int r30), .val (.int r36), .val (.int r42), .val (.int r48), .val (.ref a28), .val (.int r131), .val (.int r138), .val (.int r145), .val (.int r152), .unset, .unset, .unset]) rfl ?_
    show Steps p.tables e below (T82.setTop (mkF m 157 #[.val (.int p0), .val (.int p1), .val (.int p2), .val (.int p3), .val (.int p4), .val (.int p5), .val (.int cn), .val (.int o), .val (.int r24), .val (.int r30), .val (.int r36), .val (.int r42), .val (.int r48), .val (.ref a28), .val (.int r131), .val (.int r138), .val (.int r145), .val (.int r152), .unset, .unset, .unset] [])) t
    refine XS.iload Y83.here hx rfl (hb hby at_157) rfl ?_
    show Steps p.tables e below (T82.setTop (mkF m 159 #[.val (.int p0), .val (.int p1), .val (.int p2), .val (.int p3), .val (.int p4), .val (.int p5), .val (.int cn), .val (.int o), .val (.int r24), .val (.int r30), .val (.int r36), .val (.int r42), .val (.int r48), .val (.ref a28), .val (.int r131), .val (.int r138), .val (.int r145), .val (.int r152), .unset, .unset, .unset] [(.int cn)])) t
    refine XS.iconst Y83.here hx rfl (hb hby at_159) ?_
    show Steps p.tables e below (T82.setTop (mkF m 160 #[.val (.int p0), .val (.int p1), .val (.int p2), .val (.int p3), .val (.int p4), .val (.int p5), .val (.int cn), .val (.int o), .val (.int r24), .val (.int r30), .val (.int r36), .val (.int r42), .val (.int r48), .val (.ref a28), .val (.int r131), .val (.int r138), .val (.int r145), .val (.int r152), .unset, .unset, .unset] [(.int (1 : Int32)), (.int cn)])) t
    exact k
  obtain ⟨v206, hv206⟩ : ∃ z : Int32, z = (if cn < (1 : Int32) then (if cn < (2 : Int32) then (if cn < (3 : Int32) then (if cn < (4 : Int32) then (1 : Int32) else (if r152 < (0 : Int32) then (0 : Int32) else (1 : Int32))) else (if r145 < (0 : Int32) then (0 : Int32) else (if cn < (4 : Int32) then (1 : Int32) else (if r152 < (0 : Int32) then (0 : Int32) else (1 : Int32))))) else (if r138 < (0 : Int32) then (0 : Int32) else (if cn < (3 : Int32) then (if cn < (4 : Int32) then (1 : Int32) else (if r152 < (0 : Int32) then (0 : Int32) else (1 : Int32))) else (if r145 < (0 : Int32) then (0 : Int32) else (if cn < (4 : Int32) then (1 : Int32) else (if r152 < (0 : Int32) then (0 : Int32) else (1 : Int32))))))) else (if r131 < (0 : Int32) then (0 : Int32) else (if cn < (2 : Int32) then (if cn < (3 : Int32) then (if cn < (4 : Int32) then (1 : Int32) else (if r152 < (0 : Int32) then (0 : Int32) else (1 : Int32))) else (if r145 < (0 : Int32) then (0 : Int32) else (if cn < (4 : Int32) then (1 : Int32) else (if r152 < (0 : Int32) then (0 : Int32) else (1 : Int32))))) else (if r138 < (0 : Int32) then (0 : Int32) else (if cn < (3 : Int32) then (if cn < (4 : Int32) then (1 : Int32) else (if r152 < (0 : Int32) then (0 : Int32) else (1 : Int32))) else (if r145 < (0 : Int32) then (0 : Int32) else (if cn < (4 : Int32) then (1 : Int32) else (if r152 < (0 : Int32) then (0 : Int32) else (1 : Int32))))))))) := ⟨_, rfl⟩
  refine Rn.go (T' := T82) (g' := (mkF m 206 #[.val (.int p0), .val (.int p1), .val (.int p2), .val (.int p3), .val (.int p4), .val (.int p5), .val (.int cn), .val (.int o), .val (.int r24), .val (.int r30), .val (.int r36), .val (.int r42), .val (.int r48), .val (.ref a28), .val (.int r131), .val (.int r138), .val (.int r145), .val (.int r152), .unset, .unset, .unset] [(.int v206)])) (fun t k => ?_) ?_
  · show Steps p.tables e below (T82.setTop (mkF m 160 #[.val (.int p0), .val (.int p1), .val (.int p2), .val (.int p3), .val (.int p4), .val (.int p5), .val (.int cn), .val (.int o), .val (.int r24), .val (.int r30), .val (.int r36), .val (.int r42), .val (.int r48), .val (.ref a28), .val (.int r131), .val (.int r138), .val (.int r145), .val (.int r152), .unset, .unset, .unset] [(.int (1 : Int32)), (.int cn)])) t
    by_cases hc160 : cn < (1 : Int32)
    · refine XS.icmpYes Y83.here hx rfl (pc0 := 160) (pc' := 168) rfl (hb hby at_160) rfl (tlt hc160).1 (by decide) (by decide) ?_
      show Steps p.tables e below (T82.setTop (mkF m 168 #[.val (.int p0), .val (.int p1), .val (.int p2), .val (.int p3), .val (.int p4), .val (.int p5), .val (.int cn), .val (.int o), .val (.int r24), .val (.int r30), .val (.int r36), .val (.int r42), .val (.int r48), .val (.ref a28), .val (.int r131), .val (.int r138), .val (.int r145), .val (.int r152), .unset, .unset, .unset] [])) t
      refine XS.iload Y83.here hx rfl (hb hby at_168) rfl ?_
      show Steps p.tables e below (T82.setTop (mkF m 170 #[.val (.int p0), .val (.int p1), .val (.int p2), .val (.int p3), .val (.int p4), .val (.int p5), .val (.int cn), .val (.int o), .val (.int r24), .val (.int r30), .val (.int r36), .val (.int r42), .val (.int r48), .val (.ref a28), .val (.int r131), .val (.int r138), .val (.int r145), .val (.int r152), .unset, .unset, .unset] [(.int cn)])) t
      refine XS.iconst Y83.here hx rfl (hb hby at_170) ?_
      show Steps p.tables e below (T82.setTop (mkF m 171 #[.val (.int p0), .val (.int p1), .val (.int p2), .val (.int p3), .val (.int p4), .val (.int p5), .val (.int cn), .val (.int o), .val (.int r24), .val (.int r30), .val (.int r36), .val (.int r42), .val (.int r48), .val (.ref a28), .val (.int r131), .val (.int r138), .val (.int r145), .val (.int r152), .unset, .unset, .unset] [(.int (2 : Int32)), (.int cn)])) t
      by_cases hc171 : cn < (2 : Int32)
      · refine XS.icmpYes Y83.here hx rfl (pc0 := 171) (pc' := 179) rfl (hb hby at_171) rfl (tlt hc171).1 (by decide) (by decide) ?_
        show Steps p.tables e below (T82.setTop (mkF m 179 #[.val (.int p0), .val (.int p1), .val (.int p2), .val (.int p3), .val (.int p4), .val (.int p5), .val (.int cn), .val (.int o), .val (.int r24), .val (.int r30), .val (.int r36), .val (.int r42), .val (.int r48), .val (.ref a28), .val (.int r131), .val (.int r138), .val (.int r145), .val (.int r152), .unset, .unset, .unset] [])) t
        refine XS.iload Y83.here hx rfl (hb hby at_179) rfl ?_
        show Steps p.tables e below (T82.setTop (mkF m 181 #[.val (.int p0), .val (.int p1), .val (.int p2), .val (.int p3), .val (.int p4), .val (.int p5), .val (.int cn), .val (.int o), .val (.int r24), .val (.int r30), .val (.int r36), .val (.int r42), .val (.int r48), .val (.ref a28), .val (.int r131), .val (.int r138), .val (.int r145), .val (.int r152), .unset, .unset, .unset] [(.int cn)])) t
        refine XS.iconst Y83.here hx rfl (hb hby at_181) ?_
        show Steps p.tables e below (T82.setTop (mkF m 182 #[.val (.int p0), .val (.int p1), .val (.int p2), .val (.int p3), .val (.int p4), .val (.int p5), .val (.int cn), .val (.int o), .val (.int r24), .val (.int r30), .val (.int r36), .val (.int r42), .val (.int r48), .val (.ref a28), .val (.int r131), .val (.int r138), .val (.int r145), .val (.int r152), .unset, .unset, .unset] [(.int (3 : Int32)), (.int cn)])) t
        by_cases hc182 : cn < (3 : Int32)
        · refine XS.icmpYes Y83.here hx rfl (pc0 := 182) (pc' := 190) rfl (hb hby at_182) rfl (tlt hc182).1 (by decide) (by decide) ?_
          show Steps p.tables e below (T82.setTop (mkF m 190 #[.val (.int p0), .val (.int p1), .val (.int p2), .val (.int p3), .val (.int p4), .val (.int p5), .val (.int cn), .val (.int o), .val (.int r24), .val (.int r30), .val (.int r36), .val (.int r42), .val (.int r48), .val (.ref a28), .val (.int r131), .val (.int r138), .val (.int r145), .val (.int r152), .unset, .unset, .unset] [])) t
          refine XS.iload Y83.here hx rfl (hb hby at_190) rfl ?_
          show Steps p.tables e below (T82.setTop (mkF m 192 #[.val (.int p0), .val (.int p1), .val (.int p2), .val (.int p3), .val (.int p4), .val (.int p5), .val (.int cn), .val (.int o), .val (.int r24), .val (.int r30), .val (.int r36), .val (.int r42), .val (.int r48), .val (.ref a28), .val (.int r131), .val (.int r138), .val (.int r145), .val (.int r152), .unset, .unset, .unset] [(.int cn)])) t
          refine XS.iconst Y83.here hx rfl (hb hby at_192) ?_
          show Steps p.tables e below (T82.setTop (mkF m 193 #[.val (.int p0), .val (.int p1), .val (.int p2), .val (.int p3), .val (.int p4), .val (.int p5), .val (.int cn), .val (.int o), .val (.int r24), .val (.int r30), .val (.int r36), .val (.int r42), .val (.int r48), .val (.ref a28), .val (.int r131), .val (.int r138), .val (.int r145), .val (.int r152), .unset, .unset, .unset] [(.int (4 : Int32)), (.int cn)])) t
          by_cases hc193 : cn < (4 : Int32)
          · refine XS.icmpYes Y83.here hx rfl (pc0 := 193) (pc' := 201) rfl (hb hby at_193) rfl (tlt hc193).1 (by decide) (by decide) ?_
            show Steps p.tables e below (T82.setTop (mkF m 201 #[.val (.int p0), .val (.int p1), .val (.int p2), .val (.int p3), .val (.int p4), .val (.int p5), .val (.int cn), .val (.int o), .val (.int r24), .val (.int r30), .val (.int r36), .val (.int r42), .val (.int r48), .val (.ref a28), .val (.int r131), .val (.int r138), .val (.int r145), .val (.int r152), .unset, .unset, .unset] [])) t
            refine XS.iconst Y83.here hx rfl (hb hby at_201) ?_
            show Steps p.tables e below (T82.setTop (mkF m 202 #[.val (.int p0), .val (.int p1), .val (.int p2), .val (.int p3), .val (.int p4), .val (.int p5), .val (.int cn), .val (.int o), .val (.int r24), .val (.int r30), .val (.int r36), .val (.int r42), .val (.int r48), .val (.ref a28), .val (.int r131), .val (.int r138), .val (.int r145), .val (.int r152), .unset, .unset, .unset] [(.int (1 : Int32))])) t
            refine XS.goto Y83.here hx rfl (pc0 := 202) (pc' := 206) rfl (hb hby at_202) (by decide) (by decide) ?_
            show Steps p.tables e below (T82.setTop (mkF m 206 #[.val (.int p0), .val (.int p1), .val (.int p2), .val (.int p3), .val (.int p4), .val (.int p5), .val (.int cn), .val (.int o), .val (.int r24), .val (.int r30), .val (.int r36), .val (.int r42), .val (.int r48), .val (.ref a28), .val (.int r131), .val (.int r138), .val (.int r145), .val (.int r152), .unset, .unset, .unset] [(.int (1 : Int32))])) t
            rw [hv206, if_pos hc160, if_pos hc171, if_pos hc182, if_pos hc193] at k
            exact k
          · refine XS.icmpNo Y83.here hx rfl (hb hby at_193) rfl (flt hc193).1 ?_
            show Steps p.tables e below (T82.setTop (mkF m 196 #[.val (.int p0), .val (.int p1), .val (.int p2), .val (.int p3), .val (.int p4), .val (.int p5), .val (.int cn), .val (.int o), .val (.int r24), .val (.int r30), .val (.int r36), .val (.int r42), .val (.int r48), .val (.ref a28), .val (.int r131), .val (.int r138), .val (.int r145), .val (.int r152), .unset, .unset, .unset] [])) t
            refine XS.iload Y83.here hx rfl (hb hby at_196) rfl ?_
            show Steps p.tables e below (T82.setTop (mkF m 198 #[.val (.int p0), .val (.int p1), .val (.int p2), .val (.int p3), .val (.int p4), .val (.int p5), .val (.int cn), .val (.int o), .val (.int r24), .val (.int r30), .val (.int r36), .val (.int r42), .val (.int r48), .val (.ref a28), .val (.int r131), .val (.int r138), .val (.int r145), .val (.int r152), .unset, .unset, .unset] [(.int r152)])) t
            by_cases hc198 : r152 < (0 : Int32)
            · refine XS.ifYes Y83.here hx rfl (pc0 := 198) (pc' := 205) rfl (hb hby at_198) rfl ((if0 _ _).trans (tlt hc198).1) (by decide) (by decide) ?_
              show Steps p.tables e below (T82.setTop (mkF m 205 #[.val (.int p0), .val (.int p1), .val (.int p2), .val (.int p3), .val (.int p4), .val (.int p5), .val (.int cn), .val (.int o), .val (.int r24), .val (.int r30), .val (.int r36), .val (.int r42), .val (.int r48), .val (.ref a28), .val (.int r131), .val (.int r138), .val (.int r145), .val (.int r152), .unset, .unset, .unset] [])) t
              refine XS.iconst Y83.here hx rfl (hb hby at_205) ?_
              show Steps p.tables e below (T82.setTop (mkF m 206 #[.val (.int p0), .val (.int p1), .val (.int p2), .val (.int p3), .val (.int p4), .val (.int p5), .val (.int cn), .val (.int o), .val (.int r24), .val (.int r30), .val (.int r36), .val (.int r42), .val (.int r48), .val (.ref a28), .val (.int r131), .val (.int r138), .val (.int r145), .val (.int r152), .unset, .unset, .unset] [(.int (0 : Int32))])) t
              rw [hv206, if_pos hc160, if_pos hc171, if_pos hc182, if_neg hc193, if_pos hc198] at k
              exact k
            · refine XS.ifNo Y83.here hx rfl (hb hby at_198) rfl ((if0 _ _).trans (flt hc198).1) ?_
              show Steps p.tables e below (T82.setTop (mkF m 201 #[.val (.int p0), .val (.int p1), .val (.int p2), .val (.int p3), .val (.int p4), .val (.int p5), .val (.int cn), .val (.int o), .val (.int r24), .val (.int r30), .val (.int r36), .val (.int r42), .val (.int r48), .val (.ref a28), .val (.int r131), .val (.int r138), .val (.int r145), .val (.int r152), .unset, .unset, .unset] [])) t
              refine XS.iconst Y83.here hx rfl (hb hby at_201) ?_
              show Steps p.tables e below (T82.setTop (mkF m 202 #[.val (.int p0), .val (.int p1), .val (.int p2), .val (.int p3), .val (.int p4), .val (.int p5), .val (.int cn), .val (.int o), .val (.int r24), .val (.int r30), .val (.int r36), .val (.int r42), .val (.int r48), .val (.ref a28), .val (.int r131), .val (.int r138), .val (.int r145), .val (.int r152), .unset, .unset, .unset] [(.int (1 : Int32))])) t
              refine XS.goto Y83.here hx rfl (pc0 := 202) (pc' := 206) rfl (hb hby at_202) (by decide) (by decide) ?_
              show Steps p.tables e below (T82.setTop (mkF m 206 #[.val (.int p0), .val (.int p1), .val (.int p2), .val (.int p3), .val (.int p4), .val (.int p5), .val (.int cn), .val (.int o), .val (.int r24), .val (.int r30), .val (.int r36), .val (.int r42), .val (.int r48), .val (.ref a28), .val (.int r131), .val (.int r138), .val (.int r145), .val (.int r152), .unset, .unset, .unset] [(.int (1 : Int32))])) t
              rw [hv206, if_pos hc160, if_pos hc171, if_pos hc182, if_neg hc193, if_neg hc198] at k
              exact k
        · refine XS.icmpNo Y83.here hx rfl (hb hby at_182) rfl (flt hc182).1 ?_
          show Steps p.tables e below (T82.setTop (mkF m 185 #[.val (.int p0), .val (.int p1), .val (.int p2), .val (.int p3), .val (.int p4), .val (.int p5), .val (.int cn), .val (.int o), .val (.int r24), .val (.int r30), .val (.int r36), .val (.int r42), .val (.int r48), .val (.ref a28), .val (.int r131), .val (.int r138), .val (.int r145), .val (.int r152), .unset, .unset, .unset] [])) t
          refine XS.iload Y83.here hx rfl (hb hby at_185) rfl ?_
          show Steps p.tables e below (T82.setTop (mkF m 187 #[.val (.int p0), .val (.int p1), .val (.int p2), .val (.int p3), .val (.int p4), .val (.int p5), .val (.int cn), .val (.int o), .val (.int r24), .val (.int r30), .val (.int r36), .val (.int r42), .val (.int r48), .val (.ref a28), .val (.int r131), .val (.int r138), .val (.int r145), .val (.int r152), .unset, .unset, .unset] [(.int r145)])) t
          by_cases hc187 : r145 < (0 : Int32)
          · refine XS.ifYes Y83.here hx rfl (pc0 := 187) (pc' := 205) rfl (hb hby at_187) rfl ((if0 _ _).trans (tlt hc187).1) (by decide) (by decide) ?_
            show Steps p.tables e below (T82.setTop (mkF m 205 #[.val (.int p0), .val (.int p1), .val (.int p2), .val (.int p3), .val (.int p4), .val (.int p5), .val (.int cn), .val (.int o), .val (.int r24), .val (.int r30), .val (.int r36), .val (.int r42), .val (.int r48), .val (.ref a28), .val (.int r131), .val (.int r138), .val (.int r145), .val (.int r152), .unset, .unset, .unset] [])) t
            refine XS.iconst Y83.here hx rfl (hb hby at_205) ?_
            show Steps p.tables e below (T82.setTop (mkF m 206 #[.val (.int p0), .val (.int p1), .val (.int p2), .val (.int p3), .val (.int p4), .val (.int p5), .val (.int cn), .val (.int o), .val (.int r24), .val (.int r30), .val (.int r36), .val (.int r42), .val (.int r48), .val (.ref a28), .val (.int r131), .val (.int r138), .val (.int r145), .val (.int r152), .unset, .unset, .unset] [(.int (0 : Int32))])) t
            rw [hv206, if_pos hc160, if_pos hc171, if_neg hc182, if_pos hc187] at k
            exact k
          · refine XS.ifNo Y83.here hx rfl (hb hby at_187) rfl ((if0 _ _).trans (flt hc187).1) ?_
            show Steps p.tables e below (T82.setTop (mkF m 190 #[.val (.int p0), .val (.int p1), .val (.int p2), .val (.int p3), .val (.int p4), .val (.int p5), .val (.int cn), .val (.int o), .val (.int r24), .val (.int r30), .val (.int r36), .val (.int r42), .val (.int r48), .val (.ref a28), .val (.int r131), .val (.int r138), .val (.int r145), .val (.int r152), .unset, .unset, .unset] [])) t
            refine XS.iload Y83.here hx rfl (hb hby at_190) rfl ?_
            show Steps p.tables e below (T82.setTop (mkF m 192 #[.val (.int p0), .val (.int p1), .val (.int p2), .val (.int p3), .val (.int p4), .val (.int p5), .val (.int cn), .val (.int o), .val (.int r24), .val (.int r30), .val (.int r36), .val (.int r42), .val (.int r48), .val (.ref a28), .val (.int r131), .val (.int r138), .val (.int r145), .val (.int r152), .unset, .unset, .unset] [(.int cn)])) t
            refine XS.iconst Y83.here hx rfl (hb hby at_192) ?_
            show Steps p.tables e below (T82.setTop (mkF m 193 #[.val (.int p0), .val (.int p1), .val (.int p2), .val (.int p3), .val (.int p4), .val (.int p5), .val (.int cn), .val (.int o), .val (.int r24), .val (.int r30), .val (.int r36), .val (.int r42), .val (.int r48), .val (.ref a28), .val (.int r131), .val (.int r138), .val (.int r145), .val (.int r152), .unset, .unset, .unset] [(.int (4 : Int32)), (.int cn)])) t
            by_cases hc193 : cn < (4 : Int32)
            · refine XS.icmpYes Y83.here hx rfl (pc0 := 193) (pc' := 201) rfl (hb hby at_193) rfl (tlt hc193).1 (by decide) (by decide) ?_
              show Steps p.tables e below (T82.setTop (mkF m 201 #[.val (.int p0), .val (.int p1), .val (.int p2), .val (.int p3), .val (.int p4), .val (.int p5), .val (.int cn), .val (.int o), .val (.int r24), .val (.int r30), .val (.int r36), .val (.int r42), .val (.int r48), .val (.ref a28), .val (.int r131), .val (.int r138), .val (.int r145), .val (.int r152), .unset, .unset, .unset] [])) t
              refine XS.iconst Y83.here hx rfl (hb hby at_201) ?_
              show Steps p.tables e below (T82.setTop (mkF m 202 #[.val (.int p0), .val (.int p1), .val (.int p2), .val (.int p3), .val (.int p4), .val (.int p5), .val (.int cn), .val (.int o), .val (.int r24), .val (.int r30), .val (.int r36), .val (.int r42), .val (.int r48), .val (.ref a28), .val (.int r131), .val (.int r138), .val (.int r145), .val (.int r152), .unset, .unset, .unset] [(.int (1 : Int32))])) t
              refine XS.goto Y83.here hx rfl (pc0 := 202) (pc' := 206) rfl (hb hby at_202) (by decide) (by decide) ?_
              show Steps p.tables e below (T82.setTop (mkF m 206 #[.val (.int p0), .val (.int p1), .val (.int p2), .val (.int p3), .val (.int p4), .val (.int p5), .val (.int cn), .val (.int o), .val (.int r24), .val (.int r30), .val (.int r36), .val (.int r42), .val (.int r48), .val (.ref a28), .val (.int r131), .val (.int r138), .val (.int r145), .val (.int r152), .unset, .unset, .unset] [(.int (1 : Int32))])) t
              rw [hv206, if_pos hc160, if_pos hc171, if_neg hc182, if_neg hc187, if_pos hc193] at k
              exact k
            · refine XS.icmpNo Y83.here hx rfl (hb hby at_193) rfl (flt hc193).1 ?_
              show Steps p.tables e below (T82.setTop (mkF m 196 #[.val (.int p0), .val (.int p1), .val (.int p2), .val (.int p3), .val (.int p4), .val (.int p5), .val (.int cn), .val (.int o), .val (.int r24), .val (.int r30), .val (.int r36), .val (.int r42), .val (.int r48), .val (.ref a28), .val (.int r131), .val (.int r138), .val (.int r145), .val (.int r152), .unset, .unset, .unset] [])) t
              refine XS.iload Y83.here hx rfl (hb hby at_196) rfl ?_
              show Steps p.tables e below (T82.setTop (mkF m 198 #[.val (.int p0), .val (.int p1), .val (.int p2), .val (.int p3), .val (.int p4), .val (.int p5), .val (.int cn), .val (.int o), .val (.int r24), .val (.int r30), .val (.int r36), .val (.int r42), .val (.int r48), .val (.ref a28), .val (.int r131), .val (.int r138), .val (.int r145), .val (.int r152), .unset, .unset, .unset] [(.int r152)])) t
              by_cases hc198 : r152 < (0 : Int32)
              · refine XS.ifYes Y83.here hx rfl (pc0 := 198) (pc' := 205) rfl (hb hby at_198) rfl ((if0 _ _).trans (tlt hc198).1) (by decide) (by decide) ?_
                show Steps p.tables e below (T82.setTop (mkF m 205 #[.val (.int p0), .val (.int p1), .val (.int p2), .val (.int p3), .val (.int p4), .val (.int p5), .val (.int cn), .val (.int o), .val (.int r24), .val (.int r30), .val (.int r36), .val (.int r42), .val (.int r48), .val (.ref a28), .val (.int r131), .val (.int r138), .val (.int r145), .val (.int r152), .unset, .unset, .unset] [])) t
                refine XS.iconst Y83.here hx rfl (hb hby at_205) ?_
                show Steps p.tables e below (T82.setTop (mkF m 206 #[.val (.int p0), .val (.int p1), .val (.int p2), .val (.int p3), .val (.int p4), .val (.int p5), .val (.int cn), .val (.int o), .val (.int r24), .val (.int r30), .val (.int r36), .val (.int r42), .val (.int r48), .val (.ref a28), .val (.int r131), .val (.int r138), .val (.int r145), .val (.int r152), .unset, .unset, .unset] [(.int (0 : Int32))])) t
                rw [hv206, if_pos hc160, if_pos hc171, if_neg hc182, if_neg hc187, if_neg hc193, if_pos hc198] at k
                exact k
              · refine XS.ifNo Y83.here hx rfl (hb hby at_198) rfl ((if0 _ _).trans (flt hc198).1) ?_
                show Steps p.tables e below (T82.setTop (mkF m 201 #[.val (.int p0), .val (.int p1), .val (.int p2), .val (.int p3), .val (.int p4), .val (.int p5), .val (.int cn), .val (.int o), .val (.int r24), .val (.int r30), .val (.int r36), .val (.int r42), .val (.int r48), .val (.ref a28), .val (.int r131), .val (.int r138), .val (.int r145), .val (.int r152), .unset, .unset, .unset] [])) t
                refine XS.iconst Y83.here hx rfl (hb hby at_201) ?_
                show Steps p.tables e below (T82.setTop (mkF m 202 #[.val (.int p0), .val (.int p1), .val (.int p2), .val (.int p3), .val (.int p4), .val (.int p5), .val (.int cn), .val (.int o), .val (.int r24), .val (.int r30), .val (.int r36), .val (.int r42), .val (.int r48), .val (.ref a28), .val (.int r131), .val (.int r138), .val (.int r145), .val (.int r152), .unset, .unset, .unset] [(.int (1 : Int32))])) t
                refine XS.goto Y83.here hx rfl (pc0 := 202) (pc' := 206) rfl (hb hby at_202) (by decide) (by decide) ?_
                show Steps p.tables e below (T82.setTop (mkF m 206 #[.val (.int p0), .val (.int p1), .val (.int p2), .val (.int p3), .val (.int p4), .val (.int p5), .val (.int cn), .val (.int o), .val (.int r24), .val (.int r30), .val (.int r36), .val (.int r42), .val (.int r48), .val (.ref a28), .val (.int r131), .val (.int r138), .val (.int r145), .val (.int r152), .unset, .unset, .unset] [(.int (1 : Int32))])) t
                rw [hv206, if_pos hc160, if_pos hc171, if_neg hc182, if_neg hc187, if_neg hc193, if_neg hc198] at k
                exact k
      · refine XS.icmpNo Y83.here hx rfl (hb hby at_171) rfl (flt hc171).1 ?_
        show Steps p.tables e below (T82.setTop (mkF m 174 #[.val (.int p0), .val (.int p1), .val (.int p2), .val (.int p3), .val (.int p4), .val (.int p5), .val (.int cn), .val (.int o), .val (.int r24), .val (.int r30), .val (.int r36), .val (.int r42), .val (.int r48), .val (.ref a28), .val (.int r131), .val (.int r138), .val (.int r145), .val (.int r152), .unset, .unset, .unset] [])) t
        refine XS.iload Y83.here hx rfl (hb hby at_174) rfl ?_
        show Steps p.tables e below (T82.setTop (mkF m 176 #[.val (.int p0), .val (.int p1), .val (.int p2), .val (.int p3), .val (.int p4), .val (.int p5), .val (.int cn), .val (.int o), .val (.int r24), .val (.int r30), .val (.int r36), .val (.int r42), .val (.int r48), .val (.ref a28), .val (.int r131), .val (.int r138), .val (.int r145), .val (.int r152), .unset, .unset, .unset] [(.int r138)])) t
        by_cases hc176 : r138 < (0 : Int32)
        · refine XS.ifYes Y83.here hx rfl (pc0 := 176) (pc' := 205) rfl (hb hby at_176) rfl ((if0 _ _).trans (tlt hc176).1) (by decide) (by decide) ?_
          show Steps p.tables e below (T82.setTop (mkF m 205 #[.val (.int p0), .val (.int p1), .val (.int p2), .val (.int p3), .val (.int p4), .val (.int p5), .val (.int cn), .val (.int o), .val (.int r24), .val (.int r30), .val (.int r36), .val (.int r42), .val (.int r48), .val (.ref a28), .val (.int r131), .val (.int r138), .val (.int r145), .val (.int r152), .unset, .unset, .unset] [])) t
          refine XS.iconst Y83.here hx rfl (hb hby at_205) ?_
          show Steps p.tables e below (T82.setTop (mkF m 206 #[.val (.int p0), .val (.int p1), .val (.int p2), .val (.int p3), .val (.int p4), .val (.int p5), .val (.int cn), .val (.int o), .val (.int r24), .val (.int r30), .val (.int r36), .val (.int r42), .val (.int r48), .val (.ref a28), .val (.int r131), .val (.int r138), .val (.int r145), .val (.int r152), .unset, .unset, .unset] [(.int (0 : Int32))])) t
          rw [hv206, if_pos hc160, if_neg hc171, if_pos hc176] at k
          exact k
        · refine XS.ifNo Y83.here hx rfl (hb hby at_176) rfl ((if0 _ _).trans (flt hc176).1) ?_
          show Steps p.tables e below (T82.setTop (mkF m 179 #[.val (.int p0), .val (.int p1), .val (.int p2), .val (.int p3), .val (.int p4), .val (.int p5), .val (.int cn), .val (.int o), .val (.int r24), .val (.int r30), .val (.int r36), .val (.int r42), .val (.int r48), .val (.ref a28), .val (.int r131), .val (.int r138), .val (.int r145), .val (.int r152), .unset, .unset, .unset] [])) t
          refine XS.iload Y83.here hx rfl (hb hby at_179) rfl ?_
          show Steps p.tables e below (T82.setTop (mkF m 181 #[.val (.int p0), .val (.int p1), .val (.int p2), .val (.int p3), .val (.int p4), .val (.int p5), .val (.int cn), .val (.int o), .val (.int r24), .val (.int r30), .val (.int r36), .val (.int r42), .val (.int r48), .val (.ref a28), .val (.int r131), .val (.int r138), .val (.int r145), .val (.int r152), .unset, .unset, .unset] [(.int cn)])) t
          refine XS.iconst Y83.here hx rfl (hb hby at_181) ?_
          show Steps p.tables e below (T82.setTop (mkF m 182 #[.val (.int p0), .val (.int p1), .val (.int p2), .val (.int p3), .val (.int p4), .val (.int p5), .val (.int cn), .val (.int o), .val (.int r24), .val (.int r30), .val (.int r36), .val (.int r42), .val (.int r48), .val (.ref a28), .val (.int r131), .val (.int r138), .val (.int r145), .val (.int r152), .unset, .unset, .unset] [(.int (3 : Int32)), (.int cn)])) t
          by_cases hc182 : cn < (3 : Int32)
          · refine XS.icmpYes Y83.here hx rfl (pc0 := 182) (pc' := 190) rfl (hb hby at_182) rfl (tlt hc182).1 (by decide) (by decide) ?_
            show Steps p.tables e below (T82.setTop (mkF m 190 #[.val (.int p0), .val (.int p1), .val (.int p2), .val (.int p3), .val (.int p4), .val (.int p5), .val (.int cn), .val (.int o), .val (.int r24), .val (.int r30), .val (.int r36), .val (.int r42), .val (.int r48), .val (.ref a28), .val (.int r131), .val (.int r138), .val (.int r145), .val (.int r152), .unset, .unset, .unset] [])) t
            refine XS.iload Y83.here hx rfl (hb hby at_190) rfl ?_
            show Steps p.tables e below (T82.setTop (mkF m 192 #[.val (.int p0), .val (.int p1), .val (.int p2), .val (.int p3), .val (.int p4), .val (.int p5), .val (.int cn), .val (.int o), .val (.int r24), .val (.int r30), .val (.int r36), .val (.int r42), .val (.int r48), .val (.ref a28), .val (.int r131), .val (.int r138), .val (.int r145), .val (.int r152), .unset, .unset, .unset] [(.int cn)])) t
            refine XS.iconst Y83.here hx rfl (hb hby at_192) ?_
            show Steps p.tables e below (T82.setTop (mkF m 193 #[.val (.int p0), .val (.int p1), .val (.int p2), .val (.int p3), .val (.int p4), .val (.int p5), .val (.int cn), .val (.int o), .val (.int r24), .val (.int r30), .val (.int r36), .val (.int r42), .val (.int r48), .val (.ref a28), .val (.int r131), .val (.int r138), .val (.int r145), .val (.int r152), .unset, .unset, .unset] [(.int (4 : Int32)), (.int cn)])) t
            by_cases hc193 : cn < (4 : Int32)
            · refine XS.icmpYes Y83.here hx rfl (pc0 := 193) (pc' := 201) rfl (hb hby at_193) rfl (tlt hc193).1 (by decide) (by decide) ?_
              show Steps p.tables e below (T82.setTop (mkF m 201 #[.val (.int p0), .val (.int p1), .val (.int p2), .val (.int p3), .val (.int p4), .val (.int p5), .val (.int cn), .val (.int o), .val (.int r24), .val (.int r30), .val (.int r36), .val (.int r42), .val (.int r48), .val (.ref a28), .val (.int r131), .val (.int r138), .val (.int r145), .val (.int r152), .unset, .unset, .unset] [])) t
              refine XS.iconst Y83.here hx rfl (hb hby at_201) ?_
              show Steps p.tables e below (T82.setTop (mkF m 202 #[.val (.int p0), .val (.int p1), .val (.int p2), .val (.int p3), .val (.int p4), .val (.int p5), .val (.int cn), .val (.int o), .val (.int r24), .val (.int r30), .val (.int r36), .val (.int r42), .val (.int r48), .val (.ref a28), .val (.int r131), .val (.int r138), .val (.int r145), .val (.int r152), .unset, .unset, .unset] [(.int (1 : Int32))])) t
              refine XS.goto Y83.here hx rfl (pc0 := 202) (pc' := 206) rfl (hb hby at_202) (by decide) (by decide) ?_
              show Steps p.tables e below (T82.setTop (mkF m 206 #[.val (.int p0), .val (.int p1), .val (.int p2), .val (.int p3), .val (.int p4), .val (.int p5), .val (.int cn), .val (.int o), .val (.int r24), .val (.int r30), .val (.int r36), .val (.int r42), .val (.int r48), .val (.ref a28), .val (.int r131), .val (.int r138), .val (.int r145), .val (.int r152), .unset, .unset, .unset] [(.int (1 : Int32))])) t
              rw [hv206, if_pos hc160, if_neg hc171, if_neg hc176, if_pos hc182, if_pos hc193] at k
              exact k
            · refine XS.icmpNo Y83.here hx rfl (hb hby at_193) rfl (flt hc193).1 ?_
              show Steps p.tables e below (T82.setTop (mkF m 196 #[.val (.int p0), .val (.int p1), .val (.int p2), .val (.int p3), .val (.int p4), .val (.int p5), .val (.int cn), .val (.int o), .val (.int r24), .val (.int r30), .val (.int r36), .val (.int r42), .val (.int r48), .val (.ref a28), .val (.int r131), .val (.int r138), .val (.int r145), .val (.int r152), .unset, .unset, .unset] [])) t
              refine XS.iload Y83.here hx rfl (hb hby at_196) rfl ?_
              show Steps p.tables e below (T82.setTop (mkF m 198 #[.val (.int p0), .val (.int p1), .val (.int p2), .val (.int p3), .val (.int p4), .val (.int p5), .val (.int cn), .val (.int o), .val (.int r24), .val (.int r30), .val (.int r36), .val (.int r42), .val (.int r48), .val (.ref a28), .val (.int r131), .val (.int r138), .val (.int r145), .val (.int r152), .unset, .unset, .unset] [(.int r152)])) t
              by_cases hc198 : r152 < (0 : Int32)
              · refine XS.ifYes Y83.here hx rfl (pc0 := 198) (pc' := 205) rfl (hb hby at_198) rfl ((if0 _ _).trans (tlt hc198).1) (by decide) (by decide) ?_
                show Steps p.tables e below (T82.setTop (mkF m 205 #[.val (.int p0), .val (.int p1), .val (.int p2), .val (.int p3), .val (.int p4), .val (.int p5), .val (.int cn), .val (.int o), .val (.int r24), .val (.int r30), .val (.int r36), .val (.int r42), .val (.int r48), .val (.ref a28), .val (.int r131), .val (.int r138), .val (.int r145), .val (.int r152), .unset, .unset, .unset] [])) t
                refine XS.iconst Y83.here hx rfl (hb hby at_205) ?_
                show Steps p.tables e below (T82.setTop (mkF m 206 #[.val (.int p0), .val (.int p1), .val (.int p2), .val (.int p3), .val (.int p4), .val (.int p5), .val (.int cn), .val (.int o), .val (.int r24), .val (.int r30), .val (.int r36), .val (.int r42), .val (.int r48), .val (.ref a28), .val (.int r131), .val (.int r138), .val (.int r145), .val (.int r152), .unset, .unset, .unset] [(.int (0 : Int32))])) t
                rw [hv206, if_pos hc160, if_neg hc171, if_neg hc176, if_pos hc182, if_neg hc193, if_pos hc198] at k
                exact k
              · refine XS.ifNo Y83.here hx rfl (hb hby at_198) rfl ((if0 _ _).trans (flt hc198).1) ?_
                show Steps p.tables e below (T82.setTop (mkF m 201 #[.val (.int p0), .val (.int p1), .val (.int p2), .val (.int p3), .val (.int p4), .val (.int p5), .val (.int cn), .val (.int o), .val (.int r24), .val (.int r30), .val (.int r36), .val (.int r42), .val (.int r48), .val (.ref a28), .val (.int r131), .val (.int r138), .val (.int r145), .val (.int r152), .unset, .unset, .unset] [])) t
                refine XS.iconst Y83.here hx rfl (hb hby at_201) ?_
                show Steps p.tables e below (T82.setTop (mkF m 202 #[.val (.int p0), .val (.int p1), .val (.int p2), .val (.int p3), .val (.int p4), .val (.int p5), .val (.int cn), .val (.int o), .val (.int r24), .val (.int r30), .val (.int r36), .val (.int r42), .val (.int r48), .val (.ref a28), .val (.int r131), .val (.int r138), .val (.int r145), .val (.int r152), .unset, .unset, .unset] [(.int (1 : Int32))])) t
                refine XS.goto Y83.here hx rfl (pc0 := 202) (pc' := 206) rfl (hb hby at_202) (by decide) (by decide) ?_
                show Steps p.tables e below (T82.setTop (mkF m 206 #[.val (.int p0), .val (.int p1), .val (.int p2), .val (.int p3), .val (.int p4), .val (.int p5), .val (.int cn), .val (.int o), .val (.int r24), .val (.int r30), .val (.int r36), .val (.int r42), .val (.int r48), .val (.ref a28), .val (.int r131), .val (.int r138), .val (.int r145), .val (.int r152), .unset, .unset, .unset] [(.int (1 : Int32))])) t
                rw [hv206, if_pos hc160, if_neg hc171, if_neg hc176, if_pos hc182, if_neg hc193, if_neg hc198] at k
                exact k
          · refine XS.icmpNo Y83.here hx rfl (hb hby at_182) rfl (flt hc182).1 ?_
            show Steps p.tables e below (T82.setTop (mkF m 185 #[.val (.int p0), .val (.int p1), .val (.int p2), .val (.int p3), .val (.int p4), .val (.int p5), .val (.int cn), .val (.int o), .val (.int r24), .val (.int r30), .val (.int r36), .val (.int r42), .val (.int r48), .val (.ref a28), .val (.int r131), .val (.int r138), .val (.int r145), .val (.int r152), .unset, .unset, .unset] [])) t
            refine XS.iload Y83.here hx rfl (hb hby at_185) rfl ?_
            show Steps p.tables e below (T82.setTop (mkF m 187 #[.val (.int p0), .val (.int p1), .val (.int p2), .val (.int p3), .val (.int p4), .val (.int p5), .val (.int cn), .val (.int o), .val (.int r24), .val (.int r30), .val (.int r36), .val (.int r42), .val (.int r48), .val (.ref a28), .val (.int r131), .val (.int r138), .val (.int r145), .val (.int r152), .unset, .unset, .unset] [(.int r145)])) t
            by_cases hc187 : r145 < (0 : Int32)
            · refine XS.ifYes Y83.here hx rfl (pc0 := 187) (pc' := 205) rfl (hb hby at_187) rfl ((if0 _ _).trans (tlt hc187).1) (by decide) (by decide) ?_
              show Steps p.tables e below (T82.setTop (mkF m 205 #[.val (.int p0), .val (.int p1), .val (.int p2), .val (.int p3), .val (.int p4), .val (.int p5), .val (.int cn), .val (.int o), .val (.int r24), .val (.int r30), .val (.int r36), .val (.int r42), .val (.int r48), .val (.ref a28), .val (.int r131), .val (.int r138), .val (.int r145), .val (.int r152), .unset, .unset, .unset] [])) t
              refine XS.iconst Y83.here hx rfl (hb hby at_205) ?_
              show Steps p.tables e below (T82.setTop (mkF m 206 #[.val (.int p0), .val (.int p1), .val (.int p2), .val (.int p3), .val (.int p4), .val (.int p5), .val (.int cn), .val (.int o), .val (.int r24), .val (.int r30), .val (.int r36), .val (.int r42), .val (.int r48), .val (.ref a28), .val (.int r131), .val (.int r138), .val (.int r145), .val (.int r152), .unset, .unset, .unset] [(.int (0 : Int32))])) t
              rw [hv206, if_pos hc160, if_neg hc171, if_neg hc176, if_neg hc182, if_pos hc187] at k
              exact k
            · refine XS.ifNo Y83.here hx rfl (hb hby at_187) rfl ((if0 _ _).trans (flt hc187).1) ?_
              show Steps p.tables e below (T82.setTop (mkF m 190 #[.val (.int p0), .val (.int p1), .val (.int p2), .val (.int p3), .val (.int p4), .val (.int p5), .val (.int cn), .val (.int o), .val (.int r24), .val (.int r30), .val (.int r36), .val (.int r42), .val (.int r48), .val (.ref a28), .val (.int r131), .val (.int r138), .val (.int r145), .val (.int r152), .unset, .unset, .unset] [])) t
              refine XS.iload Y83.here hx rfl (hb hby at_190) rfl ?_
              show Steps p.tables e below (T82.setTop (mkF m 192 #[.val (.int p0), .val (.int p1), .val (.int p2), .val (.int p3), .val (.int p4), .val (.int p5), .val (.int cn), .val (.int o), .val (.int r24), .val (.int r30), .val (.int r36), .val (.int r42), .val (.int r48), .val (.ref a28), .val (.int r131), .val (.int r138), .val (.int r145), .val (.int r152), .unset, .unset, .unset] [(.int cn)])) t
              refine XS.iconst Y83.here hx rfl (hb hby at_192) ?_
              show Steps p.tables e below (T82.setTop (mkF m 193 #[.val (.int p0), .val (.int p1), .val (.int p2), .val (.int p3), .val (.int p4), .val (.int p5), .val (.int cn), .val (.int o), .val (.int r24), .val (.int r30), .val (.int r36), .val (.int r42), .val (.int r48), .val (.ref a28), .val (.int r131), .val (.int r138), .val (.int r145), .val (.int r152), .unset, .unset, .unset] [(.int (4 : Int32)), (.int cn)])) t
              by_cases hc193 : cn < (4 : Int32)
              · refine XS.icmpYes Y83.here hx rfl (pc0 := 193) (pc' := 201) rfl (hb hby at_193) rfl (tlt hc193).1 (by decide) (by decide) ?_
                show Steps p.tables e below (T82.setTop (mkF m 201 #[.val (.int p0), .val (.int p1), .val (.int p2), .val (.int p3), .val (.int p4), .val (.int p5), .val (.int cn), .val (.int o), .val (.int r24), .val (.int r30), .val (.int r36), .val (.int r42), .val (.int r48), .val (.ref a28), .val (.int r131), .val (.int r138), .val (.int r145), .val (.int r152), .unset, .unset, .unset] [])) t
                refine XS.iconst Y83.here hx rfl (hb hby at_201) ?_
                show Steps p.tables e below (T82.setTop (mkF m 202 #[.val (.int p0), .val (.int p1), .val (.int p2), .val (.int p3), .val (.int p4), .val (.int p5), .val (.int cn), .val (.int o), .val (.int r24), .val (.int r30), .val (.int r36), .val (.int r42), .val (.int r48), .val (.ref a28), .val (.int r131), .val (.int r138), .val (.int r145), .val (.int r152), .unset, .unset, .unset] [(.int (1 : Int32))])) t
                refine XS.goto Y83.here hx rfl (pc0 := 202) (pc' := 206) rfl (hb hby at_202) (by decide) (by decide) ?_
                show Steps p.tables e below (T82.setTop (mkF m 206 #[.val (.int p0), .val (.int p1), .val (.int p2), .val (.int p3), .val (.int p4), .val (.int p5), .val (.int cn), .val (.int o), .val (.int r24), .val (.int r30), .val (.int r36), .val (.int r42), .val (.int r48), .val (.ref a28), .val (.int r131), .val (.int r138), .val (.int r145), .val (.int r152), .unset, .unset, .unset] [(.int (1 : Int32))])) t
                rw [hv206, if_pos hc160, if_neg hc171, if_neg hc176, if_neg hc182, if_neg hc187, if_pos hc193] at k
                exact k
              · refine XS.icmpNo Y83.here hx rfl (hb hby at_193) rfl (flt hc193).1 ?_
                show Steps p.tables e below (T82.setTop (mkF m 196 #[.val (.int p0), .val (.int p1), .val (.int p2), .val (.int p3), .val (.int p4), .val (.int p5), .val (.int cn), .val (.int o), .val (.int r24), .val (.int r30), .val (.int r36), .val (.int r42), .val (.int r48), .val (.ref a28), .val (.int r131), .val (.int r138), .val (.int r145), .val (.int r152), .unset, .unset, .unset] [])) t
                refine XS.iload Y83.here hx rfl (hb hby at_196) rfl ?_
                show Steps p.tables e below (T82.setTop (mkF m 198 #[.val (.int p0), .val (.int p1), .val (.int p2), .val (.int p3), .val (.int p4), .val (.int p5), .val (.int cn), .val (.int o), .val (.int r24), .val (.int r30), .val (.int r36), .val (.int r42), .val (.int r48), .val (.ref a28), .val (.int r131), .val (.int r138), .val (.int r145), .val (.int r152), .unset, .unset, .unset] [(.int r152)])) t
                by_cases hc198 : r152 < (0 : Int32)
                · refine XS.ifYes Y83.here hx rfl (pc0 := 198) (pc' := 205) rfl (hb hby at_198) rfl ((if0 _ _).trans (tlt hc198).1) (by decide) (by decide) ?_
                  show Steps p.tables e below (T82.setTop (mkF m 205 #[.val (.int p0), .val (.int p1), .val (.int p2), .val (.int p3), .val (.int p4), .val (.int p5), .val (.int cn), .val (.int o), .val (.int r24), .val (.int r30), .val (.int r36), .val (.int r42), .val (.int r48), .val (.ref a28), .val (.int r131), .val (.int r138), .val (.int r145), .val (.int r152), .unset, .unset, .unset] [])) t
                  refine XS.iconst Y83.here hx rfl (hb hby at_205) ?_
                  show Steps p.tables e below (T82.setTop (mkF m 206 #[.val (.int p0), .val (.int p1), .val (.int p2), .val (.int p3), .val (.int p4), .val (.int p5), .val (.int cn), .val (.int o), .val (.int r24), .val (.int r30), .val (.int r36), .val (.int r42), .val (.int r48), .val (.ref a28), .val (.int r131), .val (.int r138), .val (.int r145), .val (.int r152), .unset, .unset, .unset] [(.int (0 : Int32))])) t
                  rw [hv206, if_pos hc160, if_neg hc171, if_neg hc176, if_neg hc182, if_neg hc187, if_neg hc193, if_pos hc198] at k
                  exact k
                · refine XS.ifNo Y83.here hx rfl (hb hby at_198) rfl ((if0 _ _).trans (flt hc198).1) ?_
                  show Steps p.tables e below (T82.setTop (mkF m 201 #[.val (.int p0), .val (.int p1), .val (.int p2), .val (.int p3), .val (.int p4), .val (.int p5), .val (.int cn), .val (.int o), .val (.int r24), .val (.int r30), .val (.int r36), .val (.int r42), .val (.int r48), .val (.ref a28), .val (.int r131), .val (.int r138), .val (.int r145), .val (.int r152), .unset, .unset, .unset] [])) t
                  refine XS.iconst Y83.here hx rfl (hb hby at_201) ?_
                  show Steps p.tables e below (T82.setTop (mkF m 202 #[.val (.int p0), .val (.int p1), .val (.int p2), .val (.int p3), .val (.int p4), .val (.int p5), .val (.int cn), .val (.int o), .val (.int r24), .val (.int r30), .val (.int r36), .val (.int r42), .val (.int r48), .val (.ref a28), .val (.int r131), .val (.int r138), .val (.int r145), .val (.int r152), .unset, .unset, .unset] [(.int (1 : Int32))])) t
                  refine XS.goto Y83.here hx rfl (pc0 := 202) (pc' := 206) rfl (hb hby at_202) (by decide) (by decide) ?_
                  show Steps p.tables e below (T82.setTop (mkF m 206 #[.val (.int p0), .val (.int p1), .val (.int p2), .val (.int p3), .val (.int p4), .val (.int p5), .val (.int cn), .val (.int o), .val (.int r24), .val (.int r30), .val (.int r36), .val (.int r42), .val (.int r48), .val (.ref a28), .val (.int r131), .val (.int r138), .val (.int r145), .val (.int r152), .unset, .unset, .unset] [(.int (1 : Int32))])) t
                  rw [hv206, if_pos hc160, if_neg hc171, if_neg hc176, if_neg hc182, if_neg hc187, if_neg hc193, if_neg hc198] at k
                  exact k
    · refine XS.icmpNo Y83.here hx rfl (hb hby at_160) rfl (flt hc160).1 ?_
      show Steps p.tables e below (T82.setTop (mkF m 163 #[.val (.int p0), .val (.int p1), .val (.int p2), .val (.int p3), .val (.int p4), .val (.int p5), .val (.int cn), .val (.int o), .val (.int r24), .val (.int r30), .val (.int r36), .val (.int r42), .val (.int r48), .val (.ref a28), .val (.int r131), .val (.int r138), .val (.int r145), .val (.int r152), .unset, .unset, .unset] [])) t
      refine XS.iload Y83.here hx rfl (hb hby at_163) rfl ?_
      show Steps p.tables e below (T82.setTop (mkF m 165 #[.val (.int p0), .val (.int p1), .val (.int p2), .val (.int p3), .val (.int p4), .val (.int p5), .val (.int cn), .val (.int o), .val (.int r24), .val (.int r30), .val (.int r36), .val (.int r42), .val (.int r48), .val (.ref a28), .val (.int r131), .val (.int r138), .val (.int r145), .val (.int r152), .unset, .unset, .unset] [(.int r131)])) t
      by_cases hc165 : r131 < (0 : Int32)
      · refine XS.ifYes Y83.here hx rfl (pc0 := 165) (pc' := 205) rfl (hb hby at_165) rfl ((if0 _ _).trans (tlt hc165).1) (by decide) (by decide) ?_
        show Steps p.tables e below (T82.setTop (mkF m 205 #[.val (.int p0), .val (.int p1), .val (.int p2), .val (.int p3), .val (.int p4), .val (.int p5), .val (.int cn), .val (.int o), .val (.int r24), .val (.int r30), .val (.int r36), .val (.int r42), .val (.int r48), .val (.ref a28), .val (.int r131), .val (.int r138), .val (.int r145), .val (.int r152), .unset, .unset, .unset] [])) t
        refine XS.iconst Y83.here hx rfl (hb hby at_205) ?_
        show Steps p.tables e below (T82.setTop (mkF m 206 #[.val (.int p0), .val (.int p1), .val (.int p2), .val (.int p3), .val (.int p4), .val (.int p5), .val (.int cn), .val (.int o), .val (.int r24), .val (.int r30), .val (.int r36), .val (.int r42), .val (.int r48), .val (.ref a28), .val (.int r131), .val (.int r138), .val (.int r145), .val (.int r152), .unset, .unset, .unset] [(.int (0 : Int32))])) t
        rw [hv206, if_neg hc160, if_pos hc165] at k
        exact k
      · refine XS.ifNo Y83.here hx rfl (hb hby at_165) rfl ((if0 _ _).trans (flt hc165).1) ?_
        show Steps p.tables e below (T82.setTop (mkF m 168 #[.val (.int p0), .val (.int p1), .val (.int p2), .val (.int p3), .val (.int p4), .val (.int p5), .val (.int cn), .val (.int o), .val (.int r24), .val (.int r30), .val (.int r36), .val (.int r42), .val (.int r48), .val (.ref a28), .val (.int r131), .val (.int r138), .val (.int r145), .val (.int r152), .unset, .unset, .unset] [])) t
        refine XS.iload Y83.here hx rfl (hb hby at_168) rfl ?_
        show Steps p.tables e below (T82.setTop (mkF m 170 #[.val (.int p0), .val (.int p1), .val (.int p2), .val (.int p3), .val (.int p4), .val (.int p5), .val (.int cn), .val (.int o), .val (.int r24), .val (.int r30), .val (.int r36), .val (.int r42), .val (.int r48), .val (.ref a28), .val (.int r131), .val (.int r138), .val (.int r145), .val (.int r152), .unset, .unset, .unset] [(.int cn)])) t
        refine XS.iconst Y83.here hx rfl (hb hby at_170) ?_
        show Steps p.tables e below (T82.setTop (mkF m 171 #[.val (.int p0), .val (.int p1), .val (.int p2), .val (.int p3), .val (.int p4), .val (.int p5), .val (.int cn), .val (.int o), .val (.int r24), .val (.int r30), .val (.int r36), .val (.int r42), .val (.int r48), .val (.ref a28), .val (.int r131), .val (.int r138), .val (.int r145), .val (.int r152), .unset, .unset, .unset] [(.int (2 : Int32)), (.int cn)])) t
        by_cases hc171 : cn < (2 : Int32)
        · refine XS.icmpYes Y83.here hx rfl (pc0 := 171) (pc' := 179) rfl (hb hby at_171) rfl (tlt hc171).1 (by decide) (by decide) ?_
          show Steps p.tables e below (T82.setTop (mkF m 179 #[.val (.int p0), .val (.int p1), .val (.int p2), .val (.int p3), .val (.int p4), .val (.int p5), .val (.int cn), .val (.int o), .val (.int r24), .val (.int r30), .val (.int r36), .val (.int r42), .val (.int r48), .val (.ref a28), .val (.int r131), .val (.int r138), .val (.int r145), .val (.int r152), .unset, .unset, .unset] [])) t
          refine XS.iload Y83.here hx rfl (hb hby at_179) rfl ?_
          show Steps p.tables e below (T82.setTop (mkF m 181 #[.val (.int p0), .val (.int p1), .val (.int p2), .val (.int p3), .val (.int p4), .val (.int p5), .val (.int cn), .val (.int o), .val (.int r24), .val (.int r30), .val (.int r36), .val (.int r42), .val (.int r48), .val (.ref a28), .val (.int r131), .val (.int r138), .val (.int r145), .val (.int r152), .unset, .unset, .unset] [(.int cn)])) t
          refine XS.iconst Y83.here hx rfl (hb hby at_181) ?_
          show Steps p.tables e below (T82.setTop (mkF m 182 #[.val (.int p0), .val (.int p1), .val (.int p2), .val (.int p3), .val (.int p4), .val (.int p5), .val (.int cn), .val (.int o), .val (.int r24), .val (.int r30), .val (.int r36), .val (.int r42), .val (.int r48), .val (.ref a28), .val (.int r131), .val (.int r138), .val (.int r145), .val (.int r152), .unset, .unset, .unset] [(.int (3 : Int32)), (.int cn)])) t
          by_cases hc182 : cn < (3 : Int32)
          · refine XS.icmpYes Y83.here hx rfl (pc0 := 182) (pc' := 190) rfl (hb hby at_182) rfl (tlt hc182).1 (by decide) (by decide) ?_
            show Steps p.tables e below (T82.setTop (mkF m 190 #[.val (.int p0), .val (.int p1), .val (.int p2), .val (.int p3), .val (.int p4), .val (.int p5), .val (.int cn), .val (.int o), .val (.int r24), .val (.int r30), .val (.int r36), .val (.int r42), .val (.int r48), .val (.ref a28), .val (.int r131), .val (.int r138), .val (.int r145), .val (.int r152), .unset, .unset, .unset] [])) t
            refine XS.iload Y83.here hx rfl (hb hby at_190) rfl ?_
            show Steps p.tables e below (T82.setTop (mkF m 192 #[.val (.int p0), .val (.int p1), .val (.int p2), .val (.int p3), .val (.int p4), .val (.int p5), .val (.int cn), .val (.int o), .val (.int r24), .val (.int r30), .val (.int r36), .val (.int r42), .val (.int r48), .val (.ref a28), .val (.int r131), .val (.int r138), .val (.int r145), .val (.int r152), .unset, .unset, .unset] [(.int cn)])) t
            refine XS.iconst Y83.here hx rfl (hb hby at_192) ?_
            show Steps p.tables e below (T82.setTop (mkF m 193 #[.val (.int p0), .val (.int p1), .val (.int p2), .val (.int p3), .val (.int p4), .val (.int p5), .val (.int cn), .val (.int o), .val (.int r24), .val (.int r30), .val (.int r36), .val (.int r42), .val (.int r48), .val (.ref a28), .val (.int r131), .val (.int r138), .val (.int r145), .val (.int r152), .unset, .unset, .unset] [(.int (4 : Int32)), (.int cn)])) t
            by_cases hc193 : cn < (4 : Int32)
            · refine XS.icmpYes Y83.here hx rfl (pc0 := 193) (pc' := 201) rfl (hb hby at_193) rfl (tlt hc193).1 (by decide) (by decide) ?_
              show Steps p.tables e below (T82.setTop (mkF m 201 #[.val (.int p0), .val (.int p1), .val (.int p2), .val (.int p3), .val (.int p4), .val (.int p5), .val (.int cn), .val (.int o), .val (.int r24), .val (.int r30), .val (.int r36), .val (.int r42), .val (.int r48), .val (.ref a28), .val (.int r131), .val (.int r138), .val (.int r145), .val (.int r152), .unset, .unset, .unset] [])) t
              refine XS.iconst Y83.here hx rfl (hb hby at_201) ?_
              show Steps p.tables e below (T82.setTop (mkF m 202 #[.val (.int p0), .val (.int p1), .val (.int p2), .val (.int p3), .val (.int p4), .val (.int p5), .val (.int cn), .val (.int o), .val (.int r24), .val (.int r30), .val (.int r36), .val (.int r42), .val (.int r48), .val (.ref a28), .val (.int r131), .val (.int r138), .val (.int r145), .val (.int r152), .unset, .unset, .unset] [(.int (1 : Int32))])) t
              refine XS.goto Y83.here hx rfl (pc0 := 202) (pc' := 206) rfl (hb hby at_202) (by decide) (by decide) ?_
              show Steps p.tables e below (T82.setTop (mkF m 206 #[.val (.int p0), .val (.int p1), .val (.int p2), .val (.int p3), .val (.int p4), .val (.int p5), .val (.int cn), .val (.int o), .val (.int r24), .val (.int r30), .val (.int r36), .val (.int r42), .val (.int r48), .val (.ref a28), .val (.int r131), .val (.int r138), .val (.int r145), .val (.int r152), .unset, .unset, .unset] [(.int (1 : Int32))])) t
              rw [hv206, if_neg hc160, if_neg hc165, if_pos hc171, if_pos hc182, if_pos hc193] at k
              exact k
            · refine XS.icmpNo Y83.here hx rfl (hb hby at_193) rfl (flt hc193).1 ?_
              show Steps p.tables e below (T82.setTop (mkF m 196 #[.val (.int p0), .val (.int p1), .val (.int p2), .val (.int p3), .val (.int p4), .val (.int p5), .val (.int cn), .val (.int o), .val (.int r24), .val (.int r30), .val (.int r36), .val (.int r42), .val (.int r48), .val (.ref a28), .val (.int r131), .val (.int r138), .val (.int r145), .val (.int r152), .unset, .unset, .unset] [])) t
              refine XS.iload Y83.here hx rfl (hb hby at_196) rfl ?_
              show Steps p.tables e below (T82.setTop (mkF m 198 #[.val (.int p0), .val (.int p1), .val (.int p2), .val (.int p3), .val (.int p4), .val (.int p5), .val (.int cn), .val (.int o), .val (.int r24), .val (.int r30), .val (.int r36), .val (.int r42), .val (.int r48), .val (.ref a28), .val (.int r131), .val (.int r138), .val (.int r145), .val (.int r152), .unset, .unset, .unset] [(.int r152)])) t
              by_cases hc198 : r152 < (0 : Int32)
              · refine XS.ifYes Y83.here hx rfl (pc0 := 198) (pc' := 205) rfl (hb hby at_198) rfl ((if0 _ _).trans (tlt hc198).1) (by decide) (by decide) ?_
                show Steps p.tables e below (T82.setTop (mkF m 205 #[.val (.int p0), .val (.int p1), .val (.int p2), .val (.int p3), .val (.int p4), .val (.int p5), .val (.int cn), .val (.int o), .val (.int r24), .val (.int r30), .val (.int r36), .val (.int r42), .val (.int r48), .val (.ref a28), .val (.int r131), .val (.int r138), .val (.int r145), .val (.int r152), .unset, .unset, .unset] [])) t
                refine XS.iconst Y83.here hx rfl (hb hby at_205) ?_
                show Steps p.tables e below (T82.setTop (mkF m 206 #[.val (.int p0), .val (.int p1), .val (.int p2), .val (.int p3), .val (.int p4), .val (.int p5), .val (.int cn), .val (.int o), .val (.int r24), .val (.int r30), .val (.int r36), .val (.int r42), .val (.int r48), .val (.ref a28), .val (.int r131), .val (.int r138), .val (.int r145), .val (.int r152), .unset, .unset, .unset] [(.int (0 : Int32))])) t
                rw [hv206, if_neg hc160, if_neg hc165, if_pos hc171, if_pos hc182, if_neg hc193, if_pos hc198] at k
                exact k
              · refine XS.ifNo Y83.here hx rfl (hb hby at_198) rfl ((if0 _ _).trans (flt hc198).1) ?_
                show Steps p.tables e below (T82.setTop (mkF m 201 #[.val (.int p0), .val (.int p1), .val (.int p2), .val (.int p3), .val (.int p4), .val (.int p5), .val (.int cn), .val (.int o), .val (.int r24), .val (.int r30), .val (.int r36), .val (.int r42), .val (.int r48), .val (.ref a28), .val (.int r131), .val (.int r138), .val (.int r145), .val (.int r152), .unset, .unset, .unset] [])) t
                refine XS.iconst Y83.here hx rfl (hb hby at_201) ?_
                show Steps p.tables e below (T82.setTop (mkF m 202 #[.val (.int p0), .val (.int p1), .val (.int p2), .val (.int p3), .val (.int p4), .val (.int p5), .val (.int cn), .val (.int o), .val (.int r24), .val (.int r30), .val (.int r36), .val (.int r42), .val (.int r48), .val (.ref a28), .val (.int r131), .val (.int r138), .val (.int r145), .val (.int r152), .unset, .unset, .unset] [(.int (1 : Int32))])) t
                refine XS.goto Y83.here hx rfl (pc0 := 202) (pc' := 206) rfl (hb hby at_202) (by decide) (by decide) ?_
                show Steps p.tables e below (T82.setTop (mkF m 206 #[.val (.int p0), .val (.int p1), .val (.int p2), .val (.int p3), .val (.int p4), .val (.int p5), .val (.int cn), .val (.int o), .val (.int r24), .val (.int r30), .val (.int r36), .val (.int r42), .val (.int r48), .val (.ref a28), .val (.int r131), .val (.int r138), .val (.int r145), .val (.int r152), .unset, .unset, .unset] [(.int (1 : Int32))])) t
                rw [hv206, if_neg hc160, if_neg hc165, if_pos hc171, if_pos hc182, if_neg hc193, if_neg hc198] at k
                exact k
          · refine XS.icmpNo Y83.here hx rfl (hb hby at_182) rfl (flt hc182).1 ?_
            show Steps p.tables e below (T82.setTop (mkF m 185 #[.val (.int p0), .val (.int p1), .val (.int p2), .val (.int p3), .val (.int p4), .val (.int p5), .val (.int cn), .val (.int o), .val (.int r24), .val (.int r30), .val (.int r36), .val (.int r42), .val (.int r48), .val (.ref a28), .val (.int r131), .val (.int r138), .val (.int r145), .val (.int r152), .unset, .unset, .unset] [])) t
            refine XS.iload Y83.here hx rfl (hb hby at_185) rfl ?_
            show Steps p.tables e below (T82.setTop (mkF m 187 #[.val (.int p0), .val (.int p1), .val (.int p2), .val (.int p3), .val (.int p4), .val (.int p5), .val (.int cn), .val (.int o), .val (.int r24), .val (.int r30), .val (.int r36), .val (.int r42), .val (.int r48), .val (.ref a28), .val (.int r131), .val (.int r138), .val (.int r145), .val (.int r152), .unset, .unset, .unset] [(.int r145)])) t
            by_cases hc187 : r145 < (0 : Int32)
            · refine XS.ifYes Y83.here hx rfl (pc0 := 187) (pc' := 205) rfl (hb hby at_187) rfl ((if0 _ _).trans (tlt hc187).1) (by decide) (by decide) ?_
              show Steps p.tables e below (T82.setTop (mkF m 205 #[.val (.int p0), .val (.int p1), .val (.int p2), .val (.int p3), .val (.int p4), .val (.int p5), .val (.int cn), .val (.int o), .val (.int r24), .val (.int r30), .val (.int r36), .val (.int r42), .val (.int r48), .val (.ref a28), .val (.int r131), .val (.int r138), .val (.int r145), .val (.int r152), .unset, .unset, .unset] [])) t
              refine XS.iconst Y83.here hx rfl (hb hby at_205) ?_
              show Steps p.tables e below (T82.setTop (mkF m 206 #[.val (.int p0), .val (.int p1), .val (.int p2), .val (.int p3), .val (.int p4), .val (.int p5), .val (.int cn), .val (.int o), .val (.int r24), .val (.int r30), .val (.int r36), .val (.int r42), .val (.int r48), .val (.ref a28), .val (.int r131), .val (.int r138), .val (.int r145), .val (.int r152), .unset, .unset, .unset] [(.int (0 : Int32))])) t
              rw [hv206, if_neg hc160, if_neg hc165, if_pos hc171, if_neg hc182, if_pos hc187] at k
              exact k
            · refine XS.ifNo Y83.here hx rfl (hb hby at_187) rfl ((if0 _ _).trans (flt hc187).1) ?_
              show Steps p.tables e below (T82.setTop (mkF m 190 #[.val (.int p0), .val (.int p1), .val (.int p2), .val (.int p3), .val (.int p4), .val (.int p5), .val (.int cn), .val (.int o), .val (.int r24), .val (.int r30), .val (.int r36), .val (.int r42), .val (.int r48), .val (.ref a28), .val (.int r131), .val (.int r138), .val (.int r145), .val (.int r152), .unset, .unset, .unset] [])) t
              refine XS.iload Y83.here hx rfl (hb hby at_190) rfl ?_
              show Steps p.tables e below (T82.setTop (mkF m 192 #[.val (.int p0), .val (.int p1), .val (.int p2), .val (.int p3), .val (.int p4), .val (.int p5), .val (.int cn), .val (.int o), .val (.int r24), .val (.int r30), .val (.int r36), .val (.int r42), .val (.int r48), .val (.ref a28), .val (.int r131), .val (.int r138), .val (.int r145), .val (.int r152), .unset, .unset, .unset] [(.int cn)])) t
              refine XS.iconst Y83.here hx rfl (hb hby at_192) ?_
              show Steps p.tables e below (T82.setTop (mkF m 193 #[.val (.int p0), .val (.int p1), .val (.int p2), .val (.int p3), .val (.int p4), .val (.int p5), .val (.int cn), .val (.int o), .val (.int r24), .val (.int r30), .val (.int r36), .val (.int r42), .val (.int r48), .val (.ref a28), .val (.int r131), .val (.int r138), .val (.int r145), .val (.int r152), .unset, .unset, .unset] [(.int (4 : Int32)), (.int cn)])) t
              by_cases hc193 : cn < (4 : Int32)
              · refine XS.icmpYes Y83.here hx rfl (pc0 := 193) (pc' := 201) rfl (hb hby at_193) rfl (tlt hc193).1 (by decide) (by decide) ?_
                show Steps p.tables e below (T82.setTop (mkF m 201 #[.val (.int p0), .val (.int p1), .val (.int p2), .val (.int p3), .val (.int p4), .val (.int p5), .val (.int cn), .val (.int o), .val (.int r24), .val (.int r30), .val (.int r36), .val (.int r42), .val (.int r48), .val (.ref a28), .val (.int r131), .val (.int r138), .val (.int r145), .val (.int r152), .unset, .unset, .unset] [])) t
                refine XS.iconst Y83.here hx rfl (hb hby at_201) ?_
                show Steps p.tables e below (T82.setTop (mkF m 202 #[.val (.int p0), .val (.int p1), .val (.int p2), .val (.int p3), .val (.int p4), .val (.int p5), .val (.int cn), .val (.int o), .val (.int r24), .val (.int r30), .val (.int r36), .val (.int r42), .val (.int r48), .val (.ref a28), .val (.int r131), .val (.int r138), .val (.int r145), .val (.int r152), .unset, .unset, .unset] [(.int (1 : Int32))])) t
                refine XS.goto Y83.here hx rfl (pc0 := 202) (pc' := 206) rfl (hb hby at_202) (by decide) (by decide) ?_
                show Steps p.tables e below (T82.setTop (mkF m 206 #[.val (.int p0), .val (.int p1), .val (.int p2), .val (.int p3), .val (.int p4), .val (.int p5), .val (.int cn), .val (.int o), .val (.int r24), .val (.int r30), .val (.int r36), .val (.int r42), .val (.int r48), .val (.ref a28), .val (.int r131), .val (.int r138), .val (.int r145), .val (.int r152), .unset, .unset, .unset] [(.int (1 : Int32))])) t
                rw [hv206, if_neg hc160, if_neg hc165, if_pos hc171, if_neg hc182, if_neg hc187, if_pos hc193] at k
                exact k
              · refine XS.icmpNo Y83.here hx rfl (hb hby at_193) rfl (flt hc193).1 ?_
                show Steps p.tables e below (T82.setTop (mkF m 196 #[.val (.int p0), .val (.int p1), .val (.int p2), .val (.int p3), .val (.int p4), .val (.int p5), .val (.int cn), .val (.int o), .val (.int r24), .val (.int r30), .val (.int r36), .val (.int r42), .val (.int r48), .val (.ref a28), .val (.int r131), .val (.int r138), .val (.int r145), .val (.int r152), .unset, .unset, .unset] [])) t
                refine XS.iload Y83.here hx rfl (hb hby at_196) rfl ?_
                show Steps p.tables e below (T82.setTop (mkF m 198 #[.val (.int p0), .val (.int p1), .val (.int p2), .val (.int p3), .val (.int p4), .val (.int p5), .val (.int cn), .val (.int o), .val (.int r24), .val (.int r30), .val (.int r36), .val (.int r42), .val (.int r48), .val (.ref a28), .val (.int r131), .val (.int r138), .val (.int r145), .val (.int r152), .unset, .unset, .unset] [(.int r152)])) t
                by_cases hc198 : r152 < (0 : Int32)
                · refine XS.ifYes Y83.here hx rfl (pc0 := 198) (pc' := 205) rfl (hb hby at_198) rfl ((if0 _ _).trans (tlt hc198).1) (by decide) (by decide) ?_
                  show Steps p.tables e below (T82.setTop (mkF m 205 #[.val (.int p0), .val (.int p1), .val (.int p2), .val (.int p3), .val (.int p4), .val (.int p5), .val (.int cn), .val (.int o), .val (.int r24), .val (.int r30), .val (.int r36), .val (.int r42), .val (.int r48), .val (.ref a28), .val (.int r131), .val (.int r138), .val (.int r145), .val (.int r152), .unset, .unset, .unset] [])) t
                  refine XS.iconst Y83.here hx rfl (hb hby at_205) ?_
                  show Steps p.tables e below (T82.setTop (mkF m 206 #[.val (.int p0), .val (.int p1), .val (.int p2), .val (.int p3), .val (.int p4), .val (.int p5), .val (.int cn), .val (.int o), .val (.int r24), .val (.int r30), .val (.int r36), .val (.int r42), .val (.int r48), .val (.ref a28), .val (.int r131), .val (.int r138), .val (.int r145), .val (.int r152), .unset, .unset, .unset] [(.int (0 : Int32))])) t
                  rw [hv206, if_neg hc160, if_neg hc165, if_pos hc171, if_neg hc182, if_neg hc187, if_neg hc193, if_pos hc198] at k
                  exact k
                · refine XS.ifNo Y83.here hx rfl (hb hby at_198) rfl ((if0 _ _).trans (flt hc198).1) ?_
                  show Steps p.tables e below (T82.setTop (mkF m 201 #[.val (.int p0), .val (.int p1), .val (.int p2), .val (.int p3), .val (.int p4), .val (.int p5), .val (.int cn), .val (.int o), .val (.int r24), .val (.int r30), .val (.int r36), .val (.int r42), .val (.int r48), .val (.ref a28), .val (.int r131), .val (.int r138), .val (.int r145), .val (.int r152), .unset, .unset, .unset] [])) t
                  refine XS.iconst Y83.here hx rfl (hb hby at_201) ?_
                  show Steps p.tables e below (T82.setTop (mkF m 202 #[.val (.int p0), .val (.int p1), .val (.int p2), .val (.int p3), .val (.int p4), .val (.int p5), .val (.int cn), .val (.int o), .val (.int r24), .val (.int r30), .val (.int r36), .val (.int r42), .val (.int r48), .val (.ref a28), .val (.int r131), .val (.int r138), .val (.int r145), .val (.int r152), .unset, .unset, .unset] [(.int (1 : Int32))])) t
                  refine XS.goto Y83.here hx rfl (pc0 := 202) (pc' := 206) rfl (hb hby at_202) (by decide) (by decide) ?_
                  show Steps p.tables e below (T82.setTop (mkF m 206 #[.val (.int p0), .val (.int p1), .val (.int p2), .val (.int p3), .val (.int p4), .val (.int p5), .val (.int cn), .val (.int o), .val (.int r24), .val (.int r30), .val (.int r36), .val (.int r42), .val (.int r48), .val (.ref a28), .val (.int r131), .val (.int r138), .val (.int r145), .val (.int r152), .unset, .unset, .unset] [(.int (1 : Int32))])) t
                  rw [hv206, if_neg hc160, if_neg hc165, if_pos hc171, if_neg hc182, if_neg hc187, if_neg hc193, if_neg hc198] at k
                  exact k
        · refine XS.icmpNo Y83.here hx rfl (hb hby at_171) rfl (flt hc171).1 ?_
          show Steps p.tables e below (T82.setTop (mkF m 174 #[.val (.int p0), .val (.int p1), .val (.int p2), .val (.int p3), .val (.int p4), .val (.int p5), .val (.int cn), .val (.int o), .val (.int r24), .val (.int r30), .val (.int r36), .val (.int r42), .val (.int r48), .val (.ref a28), .val (.int r131), .val (.int r138), .val (.int r145), .val (.int r152), .unset, .unset, .unset] [])) t
          refine XS.iload Y83.here hx rfl (hb hby at_174) rfl ?_
          show Steps p.tables e below (T82.setTop (mkF m 176 #[.val (.int p0), .val (.int p1), .val (.int p2), .val (.int p3), .val (.int p4), .val (.int p5), .val (.int cn), .val (.int o), .val (.int r24), .val (.int r30), .val (.int r36), .val (.int r42), .val (.int r48), .val (.ref a28), .val (.int r131), .val (.int r138), .val (.int r145), .val (.int r152), .unset, .unset, .unset] [(.int r138)])) t
          by_cases hc176 : r138 < (0 : Int32)
          · refine XS.ifYes Y83.here hx rfl (pc0 := 176) (pc' := 205) rfl (hb hby at_176) rfl ((if0 _ _).trans (tlt hc176).1) (by decide) (by decide) ?_
            show Steps p.tables e below (T82.setTop (mkF m 205 #[.val (.int p0), .val (.int p1), .val (.int p2), .val (.int p3), .val (.int p4), .val (.int p5), .val (.int cn), .val (.int o), .val (.int r24), .val (.int r30), .val (.int r36), .val (.int r42), .val (.int r48), .val (.ref a28), .val (.int r131), .val (.int r138), .val (.int r145), .val (.int r152), .unset, .unset, .unset] [])) t
            refine XS.iconst Y83.here hx rfl (hb hby at_205) ?_
            show Steps p.tables e below (T82.setTop (mkF m 206 #[.val (.int p0), .val (.int p1), .val (.int p2), .val (.int p3), .val (.int p4), .val (.int p5), .val (.int cn), .val (.int o), .val (.int r24), .val (.int r30), .val (.int r36), .val (.int r42), .val (.int r48), .val (.ref a28), .val (.int r131), .val (.int r138), .val (.int r145), .val (.int r152), .unset, .unset, .unset] [(.int (0 : Int32))])) t
            rw [hv206, if_neg hc160, if_neg hc165, if_neg hc171, if_pos hc176] at k
            exact k
          · refine XS.ifNo Y83.here hx rfl (hb hby at_176) rfl ((if0 _ _).trans (flt hc176).1) ?_
            show Steps p.tables e below (T82.setTop (mkF m 179 #[.val (.int p0), .val (.int p1), .val (.int p2), .val (.int p3), .val (.int p4), .val (.int p5), .val (.int cn), .val (.int o), .val (.int r24), .val (.int r30), .val (.int r36), .val (.int r42), .val (.int r48), .val (.ref a28), .val (.int r131), .val (.int r138), .val (.int r145), .val (.int r152), .unset, .unset, .unset] [])) t
            refine XS.iload Y83.here hx rfl (hb hby at_179) rfl ?_
            show Steps p.tables e below (T82.setTop (mkF m 181 #[.val (.int p0), .val (.int p1), .val (.int p2), .val (.int p3), .val (.int p4), .val (.int p5), .val (.int cn), .val (.int o), .val (.int r24), .val (.int r30), .val (.int r36), .val (.int r42), .val (.int r48), .val (.ref a28), .val (.int r131), .val (.int r138), .val (.int r145), .val (.int r152), .unset, .unset, .unset] [(.int cn)])) t
            refine XS.iconst Y83.here hx rfl (hb hby at_181) ?_
            show Steps p.tables e below (T82.setTop (mkF m 182 #[.val (.int p0), .val (.int p1), .val (.int p2), .val (.int p3), .val (.int p4), .val (.int p5), .val (.int cn), .val (.int o), .val (.int r24), .val (.int r30), .val (.int r36), .val (.int r42), .val (.int r48), .val (.ref a28), .val (.int r131), .val (.int r138), .val (.int r145), .val (.int r152), .unset, .unset, .unset] [(.int (3 : Int32)), (.int cn)])) t
            by_cases hc182 : cn < (3 : Int32)
            · refine XS.icmpYes Y83.here hx rfl (pc0 := 182) (pc' := 190) rfl (hb hby at_182) rfl (tlt hc182).1 (by decide) (by decide) ?_
              show Steps p.tables e below (T82.setTop (mkF m 190 #[.val (.int p0), .val (.int p1), .val (.int p2), .val (.int p3), .val (.int p4), .val (.int p5), .val (.int cn), .val (.int o), .val (.int r24), .val (.int r30), .val (.int r36), .val (.int r42), .val (.int r48), .val (.ref a28), .val (.int r131), .val (.int r138), .val (.int r145), .val (.int r152), .unset, .unset, .unset] [])) t
              refine XS.iload Y83.here hx rfl (hb hby at_190) rfl ?_
              show Steps p.tables e below (T82.setTop (mkF m 192 #[.val (.int p0), .val (.int p1), .val (.int p2), .val (.int p3), .val (.int p4), .val (.int p5), .val (.int cn), .val (.int o), .val (.int r24), .val (.int r30), .val (.int r36), .val (.int r42), .val (.int r48), .val (.ref a28), .val (.int r131), .val (.int r138), .val (.int r145), .val (.int r152), .unset, .unset, .unset] [(.int cn)])) t
              refine XS.iconst Y83.here hx rfl (hb hby at_192) ?_
              show Steps p.tables e below (T82.setTop (mkF m 193 #[.val (.int p0), .val (.int p1), .val (.int p2), .val (.int p3), .val (.int p4), .val (.int p5), .val (.int cn), .val (.int o), .val (.int r24), .val (.int r30), .val (.int r36), .val (.int r42), .val (.int r48), .val (.ref a28), .val (.int r131), .val (.int r138), .val (.int r145), .val (.int r152), .unset, .unset, .unset] [(.int (4 : Int32)), (.int cn)])) t
              by_cases hc193 : cn < (4 : Int32)
              · refine XS.icmpYes Y83.here hx rfl (pc0 := 193) (pc' := 201) rfl (hb hby at_193) rfl (tlt hc193).1 (by decide) (by decide) ?_
                show Steps p.tables e below (T82.setTop (mkF m 201 #[.val (.int p0), .val (.int p1), .val (.int p2), .val (.int p3), .val (.int p4), .val (.int p5), .val (.int cn), .val (.int o), .val (.int r24), .val (.int r30), .val (.int r36), .val (.int r42), .val (.int r48), .val (.ref a28), .val (.int r131), .val (.int r138), .val (.int r145), .val (.int r152), .unset, .unset, .unset] [])) t
                refine XS.iconst Y83.here hx rfl (hb hby at_201) ?_
                show Steps p.tables e below (T82.setTop (mkF m 202 #[.val (.int p0), .val (.int p1), .val (.int p2), .val (.int p3), .val (.int p4), .val (.int p5), .val (.int cn), .val (.int o), .val (.int r24), .val (.int r30), .val (.int r36), .val (.int r42), .val (.int r48), .val (.ref a28), .val (.int r131), .val (.int r138), .val (.int r145), .val (.int r152), .unset, .unset, .unset] [(.int (1 : Int32))])) t
                refine XS.goto Y83.here hx rfl (pc0 := 202) (pc' := 206) rfl (hb hby at_202) (by decide) (by decide) ?_
                show Steps p.tables e below (T82.setTop (mkF m 206 #[.val (.int p0), .val (.int p1), .val (.int p2), .val (.int p3), .val (.int p4), .val (.int p5), .val (.int cn), .val (.int o), .val (.int r24), .val (.int r30), .val (.int r36), .val (.int r42), .val (.int r48), .val (.ref a28), .val (.int r131), .val (.int r138), .val (.int r145), .val (.int r152), .unset, .unset, .unset] [(.int (1 : Int32))])) t
                rw [hv206, if_neg hc160, if_neg hc165, if_neg hc171, if_neg hc176, if_pos hc182, if_pos hc193] at k
                exact k
              · refine XS.icmpNo Y83.here hx rfl (hb hby at_193) rfl (flt hc193).1 ?_
                show Steps p.tables e below (T82.setTop (mkF m 196 #[.val (.int p0), .val (.int p1), .val (.int p2), .val (.int p3), .val (.int p4), .val (.int p5), .val (.int cn), .val (.int o), .val (.int r24), .val (.int r30), .val (.int r36), .val (.int r42), .val (.int r48), .val (.ref a28), .val (.int r131), .val (.int r138), .val (.int r145), .val (.int r152), .unset, .unset, .unset] [])) t
                refine XS.iload Y83.here hx rfl (hb hby at_196) rfl ?_
                show Steps p.tables e below (T82.setTop (mkF m 198 #[.val (.int p0), .val (.int p1), .val (.int p2), .val (.int p3), .val (.int p4), .val (.int p5), .val (.int cn), .val (.int o), .val (.int r24), .val (.int r30), .val (.int r36), .val (.int r42), .val (.int r48), .val (.ref a28), .val (.int r131), .val (.int r138), .val (.int r145), .val (.int r152), .unset, .unset, .unset] [(.int r152)])) t
                by_cases hc198 : r152 < (0 : Int32)
                · refine XS.ifYes Y83.here hx rfl (pc0 := 198) (pc' := 205) rfl (hb hby at_198) rfl ((if0 _ _).trans (tlt hc198).1) (by decide) (by decide) ?_
                  show Steps p.tables e below (T82.setTop (mkF m 205 #[.val (.int p0), .val (.int p1), .val (.int p2), .val (.int p3), .val (.int p4), .val (.int p5), .val (.int cn), .val (.int o), .val (.int r24), .val (.int r30), .val (.int r36), .val (.int r42), .val (.int r48), .val (.ref a28), .val (.int r131), .val (.int r138), .val (.int r145), .val (.int r152), .unset, .unset, .unset] [])) t
                  refine XS.iconst Y83.here hx rfl (hb hby at_205) ?_
                  show Steps p.tables e below (T82.setTop (mkF m 206 #[.val (.int p0), .val (.int p1), .val (.int p2), .val (.int p3), .val (.int p4), .val (.int p5), .val (.int cn), .val (.int o), .val (.int r24), .val (.int r30), .val (.int r36), .val (.int r42), .val (.int r48), .val (.ref a28), .val (.int r131), .val (.int r138), .val (.int r145), .val (.int r152), .unset, .unset, .unset] [(.int (0 : Int32))])) t
                  rw [hv206, if_neg hc160, if_neg hc165, if_neg hc171, if_neg hc176, if_pos hc182, if_neg hc193, if_pos hc198] at k
                  exact k
                · refine XS.ifNo Y83.here hx rfl (hb hby at_198) rfl ((if0 _ _).trans (flt hc198).1) ?_
                  show Steps p.tables e below (T82.setTop (mkF m 201 #[.val (.int p0), .val (.int p1), .val (.int p2), .val (.int p3), .val (.int p4), .val (.int p5), .val (.int cn), .val (.int o), .val (.int r24), .val (.int r30), .val (.int r36), .val (.int r42), .val (.int r48), .val (.ref a28), .val (.int r131), .val (.int r138), .val (.int r145), .val (.int r152), .unset, .unset, .unset] [])) t
                  refine XS.iconst Y83.here hx rfl (hb hby at_201) ?_
                  show Steps p.tables e below (T82.setTop (mkF m 202 #[.val (.int p0), .val (.int p1), .val (.int p2), .val (.int p3), .val (.int p4), .val (.int p5), .val (.int cn), .val (.int o), .val (.int r24), .val (.int r30), .val (.int r36), .val (.int r42), .val (.int r48), .val (.ref a28), .val (.int r131), .val (.int r138), .val (.int r145), .val (.int r152), .unset, .unset, .unset] [(.int (1 : Int32))])) t
                  refine XS.goto Y83.here hx rfl (pc0 := 202) (pc' := 206) rfl (hb hby at_202) (by decide) (by decide) ?_
                  show Steps p.tables e below (T82.setTop (mkF m 206 #[.val (.int p0), .val (.int p1), .val (.int p2), .val (.int p3), .val (.int p4), .val (.int p5), .val (.int cn), .val (.int o), .val (.int r24), .val (.int r30), .val (.int r36), .val (.int r42), .val (.int r48), .val (.ref a28), .val (.int r131), .val (.int r138), .val (.int r145), .val (.int r152), .unset, .unset, .unset] [(.int (1 : Int32))])) t
                  rw [hv206, if_neg hc160, if_neg hc165, if_neg hc171, if_neg hc176, if_pos hc182, if_neg hc193, if_neg hc198] at k
                  exact k
            · refine XS.icmpNo Y83.here hx rfl (hb hby at_182) rfl (flt hc182).1 ?_
              show Steps p.tables e below (T82.setTop (mkF m 185 #[.val (.int p0), .val (.int p1), .val (.int p2), .val (.int p3), .val (.int p4), .val (.int p5), .val (.int cn), .val (.int o), .val (.int r24), .val (.int r30), .val (.int r36), .val (.int r42), .val (.int r48), .val (.ref a28), .val (.int r131), .val (.int r138), .val (.int r145), .val (.int r152), .unset, .unset, .unset] [])) t
              refine XS.iload Y83.here hx rfl (hb hby at_185) rfl ?_
              show Steps p.tables e below (T82.setTop (mkF m 187 #[.val (.int p0), .val (.int p1), .val (.int p2), .val (.int p3), .val (.int p4), .val (.int p5), .val (.int cn), .val (.int o), .val (.int r24), .val (.int r30), .val (.int r36), .val (.int r42), .val (.int r48), .val (.ref a28), .val (.int r131), .val (.int r138), .val (.int r145), .val (.int r152), .unset, .unset, .unset] [(.int r145)])) t
              by_cases hc187 : r145 < (0 : Int32)
              · refine XS.ifYes Y83.here hx rfl (pc0 := 187) (pc' := 205) rfl (hb hby at_187) rfl ((if0 _ _).trans (tlt hc187).1) (by decide) (by decide) ?_
                show Steps p.tables e below (T82.setTop (mkF m 205 #[.val (.int p0), .val (.int p1), .val (.int p2), .val (.int p3), .val (.int p4), .val (.int p5), .val (.int cn), .val (.int o), .val (.int r24), .val (.int r30), .val (.int r36), .val (.int r42), .val (.int r48), .val (.ref a28), .val (.int r131), .val (.int r138), .val (.int r145), .val (.int r152), .unset, .unset, .unset] [])) t
                refine XS.iconst Y83.here hx rfl (hb hby at_205) ?_
                show Steps p.tables e below (T82.setTop (mkF m 206 #[.val (.int p0), .val (.int p1), .val (.int p2), .val (.int p3), .val (.int p4), .val (.int p5), .val (.int cn), .val (.int o), .val (.int r24), .val (.int r30), .val (.int r36), .val (.int r42), .val (.int r48), .val (.ref a28), .val (.int r131), .val (.int r138), .val (.int r145), .val (.int r152), .unset, .unset, .unset] [(.int (0 : Int32))])) t
                rw [hv206, if_neg hc160, if_neg hc165, if_neg hc171, if_neg hc176, if_neg hc182, if_pos hc187] at k
                exact k
              · refine XS.ifNo Y83.here hx rfl (hb hby at_187) rfl ((if0 _ _).trans (flt hc187).1) ?_
                show Steps p.tables e below (T82.setTop (mkF m 190 #[.val (.int p0), .val (.int p1), .val (.int p2), .val (.int p3), .val (.int p4), .val (.int p5), .val (.int cn), .val (.int o), .val (.int r24), .val (.int r30), .val (.int r36), .val (.int r42), .val (.int r48), .val (.ref a28), .val (.int r131), .val (.int r138), .val (.int r145), .val (.int r152), .unset, .unset, .unset] [])) t
                refine XS.iload Y83.here hx rfl (hb hby at_190) rfl ?_
                show Steps p.tables e below (T82.setTop (mkF m 192 #[.val (.int p0), .val (.int p1), .val (.int p2), .val (.int p3), .val (.int p4), .val (.int p5), .val (.int cn), .val (.int o), .val (.int r24), .val (.int r30), .val (.int r36), .val (.int r42), .val (.int r48), .val (.ref a28), .val (.int r131), .val (.int r138), .val (.int r145), .val (.int r152), .unset, .unset, .unset] [(.int cn)])) t
                refine XS.iconst Y83.here hx rfl (hb hby at_192) ?_
                show Steps p.tables e below (T82.setTop (mkF m 193 #[.val (.int p0), .val (.int p1), .val (.int p2), .val (.int p3), .val (.int p4), .val (.int p5), .val (.int cn), .val (.int o), .val (.int r24), .val (.int r30), .val (.int r36), .val (.int r42), .val (.int r48), .val (.ref a28), .val (.int r131), .val (.int r138), .val (.int r145), .val (.int r152), .unset, .unset, .unset] [(.int (4 : Int32)), (.int cn)])) t
                by_cases hc193 : cn < (4 : Int32)
                · refine XS.icmpYes Y83.here hx rfl (pc0 := 193) (pc' := 201) rfl (hb hby at_193) rfl (tlt hc193).1 (by decide) (by decide) ?_
                  show Steps p.tables e below (T82.setTop (mkF m 201 #[.val (.int p0), .val (.int p1), .val (.int p2), .val (.int p3), .val (.int p4), .val (.int p5), .val (.int cn), .val (.int o), .val (.int r24), .val (.int r30), .val (.int r36), .val (.int r42), .val (.int r48), .val (.ref a28), .val (.int r131), .val (.int r138), .val (.int r145), .val (.int r152), .unset, .unset, .unset] [])) t
                  refine XS.iconst Y83.here hx rfl (hb hby at_201) ?_
                  show Steps p.tables e below (T82.setTop (mkF m 202 #[.val (.int p0), .val (.int p1), .val (.int p2), .val (.int p3), .val (.int p4), .val (.int p5), .val (.int cn), .val (.int o), .val (.int r24), .val (.int r30), .val (.int r36), .val (.int r42), .val (.int r48), .val (.ref a28), .val (.int r131), .val (.int r138), .val (.int r145), .val (.int r152), .unset, .unset, .unset] [(.int (1 : Int32))])) t
                  refine XS.goto Y83.here hx rfl (pc0 := 202) (pc' := 206) rfl (hb hby at_202) (by decide) (by decide) ?_
                  show Steps p.tables e below (T82.setTop (mkF m 206 #[.val (.int p0), .val (.int p1), .val (.int p2), .val (.int p3), .val (.int p4), .val (.int p5), .val (.int cn), .val (.int o), .val (.int r24), .val (.int r30), .val (.int r36), .val (.int r42), .val (.int r48), .val (.ref a28), .val (.int r131), .val (.int r138), .val (.int r145), .val (.int r152), .unset, .unset, .unset] [(.int (1 : Int32))])) t
                  rw [hv206, if_neg hc160, if_neg hc165, if_neg hc171, if_neg hc176, if_neg hc182, if_neg hc187, if_pos hc193] at k
                  exact k
                · refine XS.icmpNo Y83.here hx rfl (hb hby at_193) rfl (flt hc193).1 ?_
                  show Steps p.tables e below (T82.setTop (mkF m 196 #[.val (.int p0), .val (.int p1), .val (.int p2), .val (.int p3), .val (.int p4), .val (.int p5), .val (.int cn), .val (.int o), .val (.int r24), .val (.int r30), .val (.int r36), .val (.int r42), .val (.int r48), .val (.ref a28), .val (.int r131), .val (.int r138), .val (.int r145), .val (.int r152), .unset, .unset, .unset] [])) t
                  refine XS.iload Y83.here hx rfl (hb hby at_196) rfl ?_
                  show Steps p.tables e below (T82.setTop (mkF m 198 #[.val (.int p0), .val (.int p1), .val (.int p2), .val (.int p3), .val (.int p4), .val (.int p5), .val (.int cn), .val (.int o), .val (.int r24), .val (.int r30), .val (.int r36), .val (.int r42), .val (.int r48), .val (.ref a28), .val (.int r131), .val (.int r138), .val (.int r145), .val (.int r152), .unset, .unset, .unset] [(.int r152)])) t
                  by_cases hc198 : r152 < (0 : Int32)
                  · refine XS.ifYes Y83.here hx rfl (pc0 := 198) (pc' := 205) rfl (hb hby at_198) rfl ((if0 _ _).trans (tlt hc198).1) (by decide) (by decide) ?_
                    show Steps p.tables e below (T82.setTop (mkF m 205 #[.val (.int p0), .val (.int p1), .val (.int p2), .val (.int p3), .val (.int p4), .val (.int p5), .val (.int cn), .val (.int o), .val (.int r24), .val (.int r30), .val (.int r36), .val (.int r42), .val (.int r48), .val (.ref a28), .val (.int r131), .val (.int r138), .val (.int r145), .val (.int r152), .unset, .unset, .unset] [])) t
                    refine XS.iconst Y83.here hx rfl (hb hby at_205) ?_
                    show Steps p.tables e below (T82.setTop (mkF m 206 #[.val (.int p0), .val (.int p1), .val (.int p2), .val (.int p3), .val (.int p4), .val (.int p5), .val (.int cn), .val (.int o), .val (.int r24), .val (.int r30), .val (.int r36), .val (.int r42), .val (.int r48), .val (.ref a28), .val (.int r131), .val (.int r138), .val (.int r145), .val (.int r152), .unset, .unset, .unset] [(.int (0 : Int32))])) t
                    rw [hv206, if_neg hc160, if_neg hc165, if_neg hc171, if_neg hc176, if_neg hc182, if_neg hc187, if_neg hc193, if_pos hc198] at k
                    exact k
                  · refine XS.ifNo Y83.here hx rfl (hb hby at_198) rfl ((if0 _ _).trans (flt hc198).1) ?_
                    show Steps p.tables e below (T82.setTop (mkF m 201 #[.val (.int p0), .val (.int p1), .val (.int p2), .val (.int p3), .val (.int p4), .val (.int p5), .val (.int cn), .val (.int o), .val (.int r24), .val (.int r30), .val (.int r36), .val (.int r42), .val (.int r48), .val (.ref a28), .val (.int r131), .val (.int r138), .val (.int r145), .val (.int r152), .unset, .unset, .unset] [])) t
                    refine XS.iconst Y83.here hx rfl (hb hby at_201) ?_
                    show Steps p.tables e below (T82.setTop (mkF m 202 #[.val (.int p0), .val (.int p1), .val (.int p2), .val (.int p3), .val (.int p4), .val (.int p5), .val (.int cn), .val (.int o), .val (.int r24), .val (.int r30), .val (.int r36), .val (.int r42), .val (.int r48), .val (.ref a28), .val (.int r131), .val (.int r138), .val (.int r145), .val (.int r152), .unset, .unset, .unset] [(.int (1 : Int32))])) t
                    refine XS.goto Y83.here hx rfl (pc0 := 202) (pc' := 206) rfl (hb hby at_202) (by decide) (by decide) ?_
                    show Steps p.tables e below (T82.setTop (mkF m 206 #[.val (.int p0), .val (.int p1), .val (.int p2), .val (.int p3), .val (.int p4), .val (.int p5), .val (.int cn), .val (.int o), .val (.int r24), .val (.int r30), .val (.int r36), .val (.int r42), .val (.int r48), .val (.ref a28), .val (.int r131), .val (.int r138), .val (.int r145), .val (.int r152), .unset, .unset, .unset] [(.int (1 : Int32))])) t
                    rw [hv206, if_neg hc160, if_neg hc165, if_neg hc171, if_neg hc176, if_neg hc182, if_neg hc187, if_neg hc193, if_neg hc198] at k
                    exact k
  refine Rn.go (T' := T82) (g' := (mkF m 210 #[.val (.int p0), .val (.int p1), .val (.int p2), .val (.int p3), .val (.int p4), .val (.int p5), .val (.int cn), .val (.int o), .val (.int r24), .val (.int r30), .val (.int r36), .val (.int r42), .val (.int r48), .val (.ref a28), .val (.int r131), .val (.int r138), .val (.int r145), .val (.int r152), .val (.int v206), .unset, .unset] [(.int v206)])) (fun t k => ?_) ?_
  · show Steps p.tables e below (T82.setTop (mkF m 206 #[.val (.int p0), .val (.int p1), .val (.int p2), .val (.int p3), .val (.int p4), .val (.int p5), .val (.int cn), .val (.int o), .val (.int r24), .val (.int r30), .val (.int r36), .val (.int r42), .val (.int r48), .val (.ref a28), .val (.int r131), .val (.int r138), .val (.int r145), .val (.int r152), .unset, .unset, .unset] [(.int v206)])) t
    refine XS.istore Y83.here hx rfl (hb hby at_206) rfl (l' := #[.val (.int p0), .val (.int p1), .val (.int p2), .val (.int p3), .val (.int p4), .val (.int p5), .val (.int cn), .val (.int o), .val (.int r24), .val (.int r30), .val (.int r36), .val (.int r42), .val (.int r48), .val (.ref a28), .val (.int r131), .val (.int r138), .val (.int r145), .val (.int r152), .val (.int v206), .unset, .unset]) rfl ?_
    show Steps p.tables e below (T82.setTop (mkF m 208 #[.val (.int p0), .val (.int p1), .val (.int p2), .val (.int p3), .val (.int p4), .val (.int p5), .val (.int cn), .val (.int o), .val (.int r24), .val (.int r30), .val (.int r36), .val (.int r42), .val (.int r48), .val (.ref a28), .val (.int r131), .val (.int r138), .val (.int r145), .val (.int r152), .val (.int v206), .unset, .unset] [])) t
    refine XS.iload Y83.here hx rfl (hb hby at_208) rfl ?_
    show Steps p.tables e below (T82.setTop (mkF m 210 #[.val (.int p0), .val (.int p1), .val (.int p2), .val (.int p3), .val (.int p4), .val (.int p5), .val (.int cn), .val (.int o), .val (.int r24), .val (.int r30), .val (.int r36), .val (.int r42), .val (.int r48), .val (.ref a28), .val (.int r131), .val (.int r138), .val (.int r145), .val (.int r152), .val (.int v206), .unset, .unset] [(.int v206)])) t
    exact k
  obtain ⟨v310l19, hv310l19⟩ : ∃ z : Int32, z = (if v206 = (0 : Int32) then (-1 : Int32) else (if cn = (0 : Int32) then (0 : Int32) else (if cn = (1 : Int32) then r131 else (if cn = (2 : Int32) then ((r131 * (10 : Int32)) + r138) else (if cn = (3 : Int32) then (((r131 * (100 : Int32)) + (r138 * (10 : Int32))) + r145) else ((((r131 * (1000 : Int32)) + (r138 * (100 : Int32))) + (r145 * (10 : Int32))) + r152)))))) := ⟨_, rfl⟩
  refine Rn.go (T' := T82) (g' := (mkF m 310 #[.val (.int p0), .val (.int p1), .val (.int p2), .val (.int p3), .val (.int p4), .val (.int p5), .val (.int cn), .val (.int o), .val (.int r24), .val (.int r30), .val (.int r36), .val (.int r42), .val (.int r48), .val (.ref a28), .val (.int r131), .val (.int r138), .val (.int r145), .val (.int r152), .val (.int v206), .val (.int v310l19), .unset] [])) (fun t k => ?_) ?_
  · show Steps p.tables e below (T82.setTop (mkF m 210 #[.val (.int p0), .val (.int p1), .val (.int p2), .val (.int p3), .val (.int p4), .val (.int p5), .val (.int cn), .val (.int o), .val (.int r24), .val (.int r30), .val (.int r36), .val (.int r42), .val (.int r48), .val (.ref a28), .val (.int r131), .val (.int r138), .val (.int r145), .val (.int r152), .val (.int v206), .unset, .unset] [(.int v206)])) t
    by_cases hc210 : v206 = (0 : Int32)
    · refine XS.ifNo Y83.here hx rfl (hb hby at_210) rfl ((if0 _ _).trans (teq hc210).2) ?_
      show Steps p.tables e below (T82.setTop (mkF m 213 #[.val (.int p0), .val (.int p1), .val (.int p2), .val (.int p3), .val (.int p4), .val (.int p5), .val (.int cn), .val (.int o), .val (.int r24), .val (.int r30), .val (.int r36), .val (.int r42), .val (.int r48), .val (.ref a28), .val (.int r131), .val (.int r138), .val (.int r145), .val (.int r152), .val (.int v206), .unset, .unset] [])) t
      refine XS.iconst Y83.here hx rfl (hb hby at_213) ?_
      show Steps p.tables e below (T82.setTop (mkF m 214 #[.val (.int p0), .val (.int p1), .val (.int p2), .val (.int p3), .val (.int p4), .val (.int p5), .val (.int cn), .val (.int o), .val (.int r24), .val (.int r30), .val (.int r36), .val (.int r42), .val (.int r48), .val (.ref a28), .val (.int r131), .val (.int r138), .val (.int r145), .val (.int r152), .val (.int v206), .unset, .unset] [(.int (-1 : Int32))])) t
      refine XS.istore Y83.here hx rfl (hb hby at_214) rfl (l' := #[.val (.int p0), .val (.int p1), .val (.int p2), .val (.int p3), .val (.int p4), .val (.int p5), .val (.int cn), .val (.int o), .val (.int r24), .val (.int r30), .val (.int r36), .val (.int r42), .val (.int r48), .val (.ref a28), .val (.int r131), .val (.int r138), .val (.int r145), .val (.int r152), .val (.int v206), .val (.int (-1 : Int32)), .unset]) rfl ?_
      show Steps p.tables e below (T82.setTop (mkF m 216 #[.val (.int p0), .val (.int p1), .val (.int p2), .val (.int p3), .val (.int p4), .val (.int p5), .val (.int cn), .val (.int o), .val (.int r24), .val (.int r30), .val (.int r36), .val (.int r42), .val (.int r48), .val (.ref a28), .val (.int r131), .val (.int r138), .val (.int r145), .val (.int r152), .val (.int v206), .val (.int (-1 : Int32)), .unset] [])) t
      refine XS.goto Y83.here hx rfl (pc0 := 216) (pc' := 310) rfl (hb hby at_216) (by decide) (by decide) ?_
      show Steps p.tables e below (T82.setTop (mkF m 310 #[.val (.int p0), .val (.int p1), .val (.int p2), .val (.int p3), .val (.int p4), .val (.int p5), .val (.int cn), .val (.int o), .val (.int r24), .val (.int r30), .val (.int r36), .val (.int r42), .val (.int r48), .val (.ref a28), .val (.int r131), .val (.int r138), .val (.int r145), .val (.int r152), .val (.int v206), .val (.int (-1 : Int32)), .unset] [])) t
      rw [hv310l19, if_pos hc210] at k
      exact k
    · refine XS.ifYes Y83.here hx rfl (pc0 := 210) (pc' := 219) rfl (hb hby at_210) rfl ((if0 _ _).trans (feq hc210).2) (by decide) (by decide) ?_
      show Steps p.tables e below (T82.setTop (mkF m 219 #[.val (.int p0), .val (.int p1), .val (.int p2), .val (.int p3), .val (.int p4), .val (.int p5), .val (.int cn), .val (.int o), .val (.int r24), .val (.int r30), .val (.int r36), .val (.int r42), .val (.int r48), .val (.ref a28), .val (.int r131), .val (.int r138), .val (.int r145), .val (.int r152), .val (.int v206), .unset, .unset] [])) t
      refine XS.iload Y83.here hx rfl (hb hby at_219) rfl ?_
      show Steps p.tables e below (T82.setTop (mkF m 221 #[.val (.int p0), .val (.int p1), .val (.int p2), .val (.int p3), .val (.int p4), .val (.int p5), .val (.int cn), .val (.int o), .val (.int r24), .val (.int r30), .val (.int r36), .val (.int r42), .val (.int r48), .val (.ref a28), .val (.int r131), .val (.int r138), .val (.int r145), .val (.int r152), .val (.int v206), .unset, .unset] [(.int cn)])) t
      by_cases hc221 : cn = (0 : Int32)
      · refine XS.ifNo Y83.here hx rfl (hb hby at_221) rfl ((if0 _ _).trans (teq hc221).2) ?_
        show Steps p.tables e below (T82.setTop (mkF m 224 #[.val (.int p0), .val (.int p1), .val (.int p2), .val (.int p3), .val (.int p4), .val (.int p5), .val (.int cn), .val (.int o), .val (.int r24), .val (.int r30), .val (.int r36), .val (.int r42), .val (.int r48), .val (.ref a28), .val (.int r131), .val (.int r138), .val (.int r145), .val (.int r152), .val (.int v206), .unset, .unset] [])) t
        refine XS.iconst Y83.here hx rfl (hb hby at_224) ?_
        show Steps p.tables e below (T82.setTop (mkF m 225 #[.val (.int p0), .val (.int p1), .val (.int p2), .val (.int p3), .val (.int p4), .val (.int p5), .val (.int cn), .val (.int o), .val (.int r24), .val (.int r30), .val (.int r36), .val (.int r42), .val (.int r48), .val (.ref a28), .val (.int r131), .val (.int r138), .val (.int r145), .val (.int r152), .val (.int v206), .unset, .unset] [(.int (0 : Int32))])) t
        refine XS.istore Y83.here hx rfl (hb hby at_225) rfl (l' := #[.val (.int p0), .val (.int p1), .val (.int p2), .val (.int p3), .val (.int p4), .val (.int p5), .val (.int cn), .val (.int o), .val (.int r24), .val (.int r30), .val (.int r36), .val (.int r42), .val (.int r48), .val (.ref a28), .val (.int r131), .val (.int r138), .val (.int r145), .val (.int r152), .val (.int v206), .val (.int (0 : Int32)), .unset]) rfl ?_
        show Steps p.tables e below (T82.setTop (mkF m 227 #[.val (.int p0), .val (.int p1), .val (.int p2), .val (.int p3), .val (.int p4), .val (.int p5), .val (.int cn), .val (.int o), .val (.int r24), .val (.int r30), .val (.int r36), .val (.int r42), .val (.int r48), .val (.ref a28), .val (.int r131), .val (.int r138), .val (.int r145), .val (.int r152), .val (.int v206), .val (.int (0 : Int32)), .unset] [])) t
        refine XS.goto Y83.here hx rfl (pc0 := 227) (pc' := 310) rfl (hb hby at_227) (by decide) (by decide) ?_
        show Steps p.tables e below (T82.setTop (mkF m 310 #[.val (.int p0), .val (.int p1), .val (.int p2), .val (.int p3), .val (.int p4), .val (.int p5), .val (.int cn), .val (.int o), .val (.int r24), .val (.int r30), .val (.int r36), .val (.int r42), .val (.int r48), .val (.ref a28), .val (.int r131), .val (.int r138), .val (.int r145), .val (.int r152), .val (.int v206), .val (.int (0 : Int32)), .unset] [])) t
        rw [hv310l19, if_neg hc210, if_pos hc221] at k
        exact k
      · refine XS.ifYes Y83.here hx rfl (pc0 := 221) (pc' := 230) rfl (hb hby at_221) rfl ((if0 _ _).trans (feq hc221).2) (by decide) (by decide) ?_
        show Steps p.tables e below (T82.setTop (mkF m 230 #[.val (.int p0), .val (.int p1), .val (.int p2), .val (.int p3), .val (.int p4), .val (.int p5), .val (.int cn), .val (.int o), .val (.int r24), .val (.int r30), .val (.int r36), .val (.int r42), .val (.int r48), .val (.ref a28), .val (.int r131), .val (.int r138), .val (.int r145), .val (.int r152), .val (.int v206), .unset, .unset] [])) t
        refine XS.iload Y83.here hx rfl (hb hby at_230) rfl ?_
        show Steps p.tables e below (T82.setTop (mkF m 232 #[.val (.int p0), .val (.int p1), .val (.int p2), .val (.int p3), .val (.int p4), .val (.int p5), .val (.int cn), .val (.int o), .val (.int r24), .val (.int r30), .val (.int r36), .val (.int r42), .val (.int r48), .val (.ref a28), .val (.int r131), .val (.int r138), .val (.int r145), .val (.int r152), .val (.int v206), .unset, .unset] [(.int cn)])) t
        refine XS.iconst Y83.here hx rfl (hb hby at_232) ?_
        show Steps p.tables e below (T82.setTop (mkF m 233 #[.val (.int p0), .val (.int p1), .val (.int p2), .val (.int p3), .val (.int p4), .val (.int p5), .val (.int cn), .val (.int o), .val (.int r24), .val (.int r30), .val (.int r36), .val (.int r42), .val (.int r48), .val (.ref a28), .val (.int r131), .val (.int r138), .val (.int r145), .val (.int r152), .val (.int v206), .unset, .unset] [(.int (1 : Int32)), (.int cn)])) t
        by_cases hc233 : cn = (1 : Int32)
        · refine XS.icmpNo Y83.here hx rfl (hb hby at_233) rfl (teq hc233).2 ?_
          show Steps p.tables e below (T82.setTop (mkF m 236 #[.val (.int p0), .val (.int p1), .val (.int p2), .val (.int p3), .val (.int p4), .val (.int p5), .val (.int cn), .val (.int o), .val (.int r24), .val (.int r30), .val (.int r36), .val (.int r42), .val (.int r48), .val (.ref a28), .val (.int r131), .val (.int r138), .val (.int r145), .val (.int r152), .val (.int v206), .unset, .unset] [])) t
          refine XS.iload Y83.here hx rfl (hb hby at_236) rfl ?_
          show Steps p.tables e below (T82.setTop (mkF m 238 #[.val (.int p0), .val (.int p1), .val (.int p2), .val (.int p3), .val (.int p4), .val (.int p5), .val (.int cn), .val (.int o), .val (.int r24), .val (.int r30), .val (.int r36), .val (.int r42), .val (.int r48), .val (.ref a28), .val (.int r131), .val (.int r138), .val (.int r145), .val (.int r152), .val (.int v206), .unset, .unset] [(.int r131)])) t
          refine XS.istore Y83.here hx rfl (hb hby at_238) rfl (l' := #[.val (.int p0), .val (.int p1), .val (.int p2), .val (.int p3), .val (.int p4), .val (.int p5), .val (.int cn), .val (.int o), .val (.int r24), .val (.int r30), .val (.int r36), .val (.int r42), .val (.int r48), .val (.ref a28), .val (.int r131), .val (.int r138), .val (.int r145), .val (.int r152), .val (.int v206), .val (.int r131), .unset]) rfl ?_
          show Steps p.tables e below (T82.setTop (mkF m 240 #[.val (.int p0), .val (.int p1), .val (.int p2), .val (.int p3), .val (.int p4), .val (.int p5), .val (.int cn), .val (.int o), .val (.int r24), .val (.int r30), .val (.int r36), .val (.int r42), .val (.int r48), .val (.ref a28), .val (.int r131), .val (.int r138), .val (.int r145), .val (.int r152), .val (.int v206), .val (.int r131), .unset] [])) t
          refine XS.goto Y83.here hx rfl (pc0 := 240) (pc' := 310) rfl (hb hby at_240) (by decide) (by decide) ?_
          show Steps p.tables e below (T82.setTop (mkF m 310 #[.val (.int p0), .val (.int p1), .val (.int p2), .val (.int p3), .val (.int p4), .val (.int p5), .val (.int cn), .val (.int o), .val (.int r24), .val (.int r30), .val (.int r36), .val (.int r42), .val (.int r48), .val (.ref a28), .val (.int r131), .val (.int r138), .val (.int r145), .val (.int r152), .val (.int v206), .val (.int r131), .unset] [])) t
          rw [hv310l19, if_neg hc210, if_neg hc221, if_pos hc233] at k
          exact k
        · refine XS.icmpYes Y83.here hx rfl (pc0 := 233) (pc' := 243) rfl (hb hby at_233) rfl (feq hc233).2 (by decide) (by decide) ?_
          show Steps p.tables e below (T82.setTop (mkF m 243 #[.val (.int p0), .val (.int p1), .val (.int p2), .val (.int p3), .val (.int p4), .val (.int p5), .val (.int cn), .val (.int o), .val (.int r24), .val (.int r30), .val (.int r36), .val (.int r42), .val (.int r48), .val (.ref a28), .val (.int r131), .val (.int r138), .val (.int r145), .val (.int r152), .val (.int v206), .unset, .unset] [])) t
          refine XS.iload Y83.here hx rfl (hb hby at_243) rfl ?_
          show Steps p.tables e below (T82.setTop (mkF m 245 #[.val (.int p0), .val (.int p1), .val (.int p2), .val (.int p3), .val (.int p4), .val (.int p5), .val (.int cn), .val (.int o), .val (.int r24), .val (.int r30), .val (.int r36), .val (.int r42), .val (.int r48), .val (.ref a28), .val (.int r131), .val (.int r138), .val (.int r145), .val (.int r152), .val (.int v206), .unset, .unset] [(.int cn)])) t
          refine XS.iconst Y83.here hx rfl (hb hby at_245) ?_
          show Steps p.tables e below (T82.setTop (mkF m 246 #[.val (.int p0), .val (.int p1), .val (.int p2), .val (.int p3), .val (.int p4), .val (.int p5), .val (.int cn), .val (.int o), .val (.int r24), .val (.int r30), .val (.int r36), .val (.int r42), .val (.int r48), .val (.ref a28), .val (.int r131), .val (.int r138), .val (.int r145), .val (.int r152), .val (.int v206), .unset, .unset] [(.int (2 : Int32)), (.int cn)])) t
          by_cases hc246 : cn = (2 : Int32)
          · refine XS.icmpNo Y83.here hx rfl (hb hby at_246) rfl (teq hc246).2 ?_
            show Steps p.tables e below (T82.setTop (mkF m 249 #[.val (.int p0), .val (.int p1), .val (.int p2), .val (.int p3), .val (.int p4), .val (.int p5), .val (.int cn), .val (.int o), .val (.int r24), .val (.int r30), .val (.int r36), .val (.int r42), .val (.int r48), .val (.ref a28), .val (.int r131), .val (.int r138), .val (.int r145), .val (.int r152), .val (.int v206), .unset, .unset] [])) t
            refine XS.iload Y83.here hx rfl (hb hby at_249) rfl ?_
            show Steps p.tables e below (T82.setTop (mkF m 251 #[.val (.int p0), .val (.int p1), .val (.int p2), .val (.int p3), .val (.int p4), .val (.int p5), .val (.int cn), .val (.int o), .val (.int r24), .val (.int r30), .val (.int r36), .val (.int r42), .val (.int r48), .val (.ref a28), .val (.int r131), .val (.int r138), .val (.int r145), .val (.int r152), .val (.int v206), .unset, .unset] [(.int r131)])) t
            refine XS.bipush Y83.here hx rfl (hb hby at_251) ?_
            show Steps p.tables e below (T82.setTop (mkF m 253 #[.val (.int p0), .val (.int p1), .val (.int p2), .val (.int p3), .val (.int p4), .val (.int p5), .val (.int cn), .val (.int o), .val (.int r24), .val (.int r30), .val (.int r36), .val (.int r42), .val (.int r48), .val (.ref a28), .val (.int r131), .val (.int r138), .val (.int r145), .val (.int r152), .val (.int v206), .unset, .unset] [(.int (10 : Int32)), (.int r131)])) t
            refine XS.imul Y83.here hx rfl (hb hby at_253) rfl ?_
            show Steps p.tables e below (T82.setTop (mkF m 254 #[.val (.int p0), .val (.int p1), .val (.int p2), .val (.int p3), .val (.int p4), .val (.int p5), .val (.int cn), .val (.int o), .val (.int r24), .val (.int r30), .val (.int r36), .val (.int r42), .val (.int r48), .val (.ref a28), .val (.int r131), .val (.int r138), .val (.int r145), .val (.int r152), .val (.int v206), .unset, .unset] [(.int (r131 * (10 : Int32)))])) t
            refine XS.iload Y83.here hx rfl (hb hby at_254) rfl ?_
            show Steps p.tables e below (T82.setTop (mkF m 256 #[.val (.int p0), .val (.int p1), .val (.int p2), .val (.int p3), .val (.int p4), .val (.int p5), .val (.int cn), .val (.int o), .val (.int r24), .val (.int r30), .val (.int r36), .val (.int r42), .val (.int r48), .val (.ref a28), .val (.int r131), .val (.int r138), .val (.int r145), .val (.int r152), .val (.int v206), .unset, .unset] [(.int r138), (.int (r131 * (10 : Int32)))])) t
            refine XS.iadd Y83.here hx rfl (hb hby at_256) rfl ?_
            show Steps p.tables e below (T82.setTop (mkF m 257 #[.val (.int p0), .val (.int p1), .val (.int p2), .val (.int p3), .val (.int p4), .val (.int p5), .val (.int cn), .val (.int o), .val (.int r24), .val (.int r30), .val (.int r36), .val (.int r42), .val (.int r48), .val (.ref a28), .val (.int r131), .val (.int r138), .val (.int r145), .val (.int r152), .val (.int v206), .unset, .unset] [(.int ((r131 * (10 : Int32)) + r138))])) t
            refine XS.istore Y83.here hx rfl (hb hby at_257) rfl (l' := #[.val (.int p0), .val (.int p1), .val (.int p2), .val (.int p3), .val (.int p4), .val (.int p5), .val (.int cn), .val (.int o), .val (.int r24), .val (.int r30), .val (.int r36), .val (.int r42), .val (.int r48), .val (.ref a28), .val (.int r131), .val (.int r138), .val (.int r145), .val (.int r152), .val (.int v206), .val (.int ((r131 * (10 : Int32)) + r138)), .unset]) rfl ?_
            show Steps p.tables e below (T82.setTop (mkF m 259 #[.val (.int p0), .val (.int p1), .val (.int p2), .val (.int p3), .val (.int p4), .val (.int p5), .val (.int cn), .val (.int o), .val (.int r24), .val (.int r30), .val (.int r36), .val (.int r42), .val (.int r48), .val (.ref a28), .val (.int r131), .val (.int r138), .val (.int r145), .val (.int r152), .val (.int v206), .val (.int ((r131 * (10 : Int32)) + r138)), .unset] [])) t
            refine XS.goto Y83.here hx rfl (pc0 := 259) (pc' := 310) rfl (hb hby at_259) (by decide) (by decide) ?_
            show Steps p.tables e below (T82.setTop (mkF m 310 #[.val (.int p0), .val (.int p1), .val (.int p2), .val (.int p3), .val (.int p4), .val (.int p5), .val (.int cn), .val (.int o), .val (.int r24), .val (.int r30), .val (.int r36), .val (.int r42), .val (.int r48), .val (.ref a28), .val (.int r131), .val (.int r138), .val (.int r145), .val (.int r152), .val (.int v206), .val (.int ((r131 * (10 : Int32)) + r138)), .unset] [])) t
            rw [hv310l19, if_neg hc210, if_neg hc221, if_neg hc233, if_pos hc246] at k
            exact k
          · refine XS.icmpYes Y83.here hx rfl (pc0 := 246) (pc' := 262) rfl (hb hby at_246) rfl (feq hc246).2 (by decide) (by decide) ?_
            show Steps p.tables e below (T82.setTop (mkF m 262 #[.val (.int p0), .val (.int p1), .val (.int p2), .val (.int p3), .val (.int p4), .val (.int p5), .val (.int cn), .val (.int o), .val (.int r24), .val (.int r30), .val (.int r36), .val (.int r42), .val (.int r48), .val (.ref a28), .val (.int r131), .val (.int r138), .val (.int r145), .val (.int r152), .val (.int v206), .unset, .unset] [])) t
            refine XS.iload Y83.here hx rfl (hb hby at_262) rfl ?_
            show Steps p.tables e below (T82.setTop (mkF m 264 #[.val (.int p0), .val (.int p1), .val (.int p2), .val (.int p3), .val (.int p4), .val (.int p5), .val (.int cn), .val (.int o), .val (.int r24), .val (.int r30), .val (.int r36), .val (.int r42), .val (.int r48), .val (.ref a28), .val (.int r131), .val (.int r138), .val (.int r145), .val (.int r152), .val (.int v206), .unset, .unset] [(.int cn)])) t
            refine XS.iconst Y83.here hx rfl (hb hby at_264) ?_
            show Steps p.tables e below (T82.setTop (mkF m 265 #[.val (.int p0), .val (.int p1), .val (.int p2), .val (.int p3), .val (.int p4), .val (.int p5), .val (.int cn), .val (.int o), .val (.int r24), .val (.int r30), .val (.int r36), .val (.int r42), .val (.int r48), .val (.ref a28), .val (.int r131), .val (.int r138), .val (.int r145), .val (.int r152), .val (.int v206), .unset, .unset] [(.int (3 : Int32)), (.int cn)])) t
            by_cases hc265 : cn = (3 : Int32)
            · refine XS.icmpNo Y83.here hx rfl (hb hby at_265) rfl (teq hc265).2 ?_
              show Steps p.tables e below (T82.setTop (mkF m 268 #[.val (.int p0), .val (.int p1), .val (.int p2), .val (.int p3), .val (.int p4), .val (.int p5), .val (.int cn), .val (.int o), .val (.int r24), .val (.int r30), .val (.int r36), .val (.int r42), .val (.int r48), .val (.ref a28), .val (.int r131), .val (.int r138), .val (.int r145), .val (.int r152), .val (.int v206), .unset, .unset] [])) t
              refine XS.iload Y83.here hx rfl (hb hby at_268) rfl ?_
              show Steps p.tables e below (T82.setTop (mkF m 270 #[.val (.int p0), .val (.int p1), .val (.int p2), .val (.int p3), .val (.int p4), .val (.int p5), .val (.int cn), .val (.int o), .val (.int r24), .val (.int r30), .val (.int r36), .val (.int r42), .val (.int r48), .val (.ref a28), .val (.int r131), .val (.int r138), .val (.int r145), .val (.int r152), .val (.int v206), .unset, .unset] [(.int r131)])) t
              refine XS.bipush Y83.here hx rfl (hb hby at_270) ?_
              show Steps p.tables e below (T82.setTop (mkF m 272 #[.val (.int p0), .val (.int p1), .val (.int p2), .val (.int p3), .val (.int p4), .val (.int p5), .val (.int cn), .val (.int o), .val (.int r24), .val (.int r30), .val (.int r36), .val (.int r42), .val (.int r48), .val (.ref a28), .val (.int r131), .val (.int r138), .val (.int r145), .val (.int r152), .val (.int v206), .unset, .unset] [(.int (100 : Int32)), (.int r131)])) t
              refine XS.imul Y83.here hx rfl (hb hby at_272) rfl ?_
              show Steps p.tables e below (T82.setTop (mkF m 273 #[.val (.int p0), .val (.int p1), .val (.int p2), .val (.int p3), .val (.int p4), .val (.int p5), .val (.int cn), .val (.int o), .val (.int r24), .val (.int r30), .val (.int r36), .val (.int r42), .val (.int r48), .val (.ref a28), .val (.int r131), .val (.int r138), .val (.int r145), .val (.int r152), .val (.int v206), .unset, .unset] [(.int (r131 * (100 : Int32)))])) t
              refine XS.iload Y83.here hx rfl (hb hby at_273) rfl ?_
              show Steps p.tables e below (T82.setTop (mkF m 275 #[.val (.int p0), .val (.int p1), .val (.int p2), .val (.int p3), .val (.int p4), .val (.int p5), .val (.int cn), .val (.int o), .val (.int r24), .val (.int r30), .val (.int r36), .val (.int r42), .val (.int r48), .val (.ref a28), .val (.int r131), .val (.int r138), .val (.int r145), .val (.int r152), .val (.int v206), .unset, .unset] [(.int r138), (.int (r131 * (100 : Int32)))])) t
              refine XS.bipush Y83.here hx rfl (hb hby at_275) ?_
              show Steps p.tables e below (T82.setTop (mkF m 277 #[.val (.int p0), .val (.int p1), .val (.int p2), .val (.int p3), .val (.int p4), .val (.int p5), .val (.int cn), .val (.int o), .val (.int r24), .val (.int r30), .val (.int r36), .val (.int r42), .val (.int r48), .val (.ref a28), .val (.int r131), .val (.int r138), .val (.int r145), .val (.int r152), .val (.int v206), .unset, .unset] [(.int (10 : Int32)), (.int r138), (.int (r131 * (100 : Int32)))])) t
              refine XS.imul Y83.here hx rfl (hb hby at_277) rfl ?_
              show Steps p.tables e below (T82.setTop (mkF m 278 #[.val (.int p0), .val (.int p1), .val (.int p2), .val (.int p3), .val (.int p4), .val (.int p5), .val (.int cn), .val (.int o), .val (.int r24), .val (.int r30), .val (.int r36), .val (.int r42), .val (.int r48), .val (.ref a28), .val (.int r131), .val (.int r138), .val (.int r145), .val (.int r152), .val (.int v206), .unset, .unset] [(.int (r138 * (10 : Int32))), (.int (r131 * (100 : Int32)))])) t
              refine XS.iadd Y83.here hx rfl (hb hby at_278) rfl ?_
              show Steps p.tables e below (T82.setTop (mkF m 279 #[.val (.int p0), .val (.int p1), .val (.int p2), .val (.int p3), .val (.int p4), .val (.int p5), .val (.int cn), .val (.int o), .val (.int r24), .val (.int r30), .val (.int r36), .val (.int r42), .val (.int r48), .val (.ref a28), .val (.int r131), .val (.int r138), .val (.int r145), .val (.int r152), .val (.int v206), .unset, .unset] [(.int ((r131 * (100 : Int32)) + (r138 * (10 : Int32))))])) t
              refine XS.iload Y83.here hx rfl (hb hby at_279) rfl ?_
              show Steps p.tables e below (T82.setTop (mkF m 281 #[.val (.int p0), .val (.int p1), .val (.int p2), .val (.int p3), .val (.int p4), .val (.int p5), .val (.int cn), .val (.int o), .val (.int r24), .val (.int r30), .val (.int r36), .val (.int r42), .val (.int r48), .val (.ref a28), .val (.int r131), .val (.int r138), .val (.int r145), .val (.int r152), .val (.int v206), .unset, .unset] [(.int r145), (.int ((r131 * (100 : Int32)) + (r138 * (10 : Int32))))])) t
              refine XS.iadd Y83.here hx rfl (hb hby at_281) rfl ?_
              show Steps p.tables e below (T82.setTop (mkF m 282 #[.val (.int p0), .val (.int p1), .val (.int p2), .val (.int p3), .val (.int p4), .val (.int p5), .val (.int cn), .val (.int o), .val (.int r24), .val (.int r30), .val (.int r36), .val (.int r42), .val (.int r48), .val (.ref a28), .val (.int r131), .val (.int r138), .val (.int r145), .val (.int r152), .val (.int v206), .unset, .unset] [(.int (((r131 * (100 : Int32)) + (r138 * (10 : Int32))) + r145))])) t
              refine XS.istore Y83.here hx rfl (hb hby at_282) rfl (l' := #[.val (.int p0), .val (.int p1), .val (.int p2), .val (.int p3), .val (.int p4), .val (.int p5), .val (.int cn), .val (.int o), .val (.int r24), .val (.int r30), .val (.int r36), .val (.int r42), .val (.int r48), .val (.ref a28), .val (.int r131), .val (.int r138), .val (.int r145), .val (.int r152), .val (.int v206), .val (.int (((r131 * (100 : Int32)) + (r138 * (10 : Int32))) + r145)), .unset]) rfl ?_
              show Steps p.tables e below (T82.setTop (mkF m 284 #[.val (.int p0), .val (.int p1), .val (.int p2), .val (.int p3), .val (.int p4), .val (.int p5), .val (.int cn), .val (.int o), .val (.int r24), .val (.int r30), .val (.int r36), .val (.int r42), .val (.int r48), .val (.ref a28), .val (.int r131), .val (.int r138), .val (.int r145), .val (.int r152), .val (.int v206), .val (.int (((r131 * (100 : Int32)) + (r138 * (10 : Int32))) + r145)), .unset] [])) t
              refine XS.goto Y83.here hx rfl (pc0 := 284) (pc' := 310) rfl (hb hby at_284) (by decide) (by decide) ?_
              show Steps p.tables e below (T82.setTop (mkF m 310 #[.val (.int p0), .val (.int p1), .val (.int p2), .val (.int p3), .val (.int p4), .val (.int p5), .val (.int cn), .val (.int o), .val (.int r24), .val (.int r30), .val (.int r36), .val (.int r42), .val (.int r48), .val (.ref a28), .val (.int r131), .val (.int r138), .val (.int r145), .val (.int r152), .val (.int v206), .val (.int (((r131 * (100 : Int32)) + (r138 * (10 : Int32))) + r145)), .unset] [])) t
              rw [hv310l19, if_neg hc210, if_neg hc221, if_neg hc233, if_neg hc246, if_pos hc265] at k
              exact k
            · refine XS.icmpYes Y83.here hx rfl (pc0 := 265) (pc' := 287) rfl (hb hby at_265) rfl (feq hc265).2 (by decide) (by decide) ?_
              show Steps p.tables e below (T82.setTop (mkF m 287 #[.val (.int p0), .val (.int p1), .val (.int p2), .val (.int p3), .val (.int p4), .val (.int p5), .val (.int cn), .val (.int o), .val (.int r24), .val (.int r30), .val (.int r36), .val (.int r42), .val (.int r48), .val (.ref a28), .val (.int r131), .val (.int r138), .val (.int r145), .val (.int r152), .val (.int v206), .unset, .unset] [])) t
              refine XS.iload Y83.here hx rfl (hb hby at_287) rfl ?_
              show Steps p.tables e below (T82.setTop (mkF m 289 #[.val (.int p0), .val (.int p1), .val (.int p2), .val (.int p3), .val (.int p4), .val (.int p5), .val (.int cn), .val (.int o), .val (.int r24), .val (.int r30), .val (.int r36), .val (.int r42), .val (.int r48), .val (.ref a28), .val (.int r131), .val (.int r138), .val (.int r145), .val (.int r152), .val (.int v206), .unset, .unset] [(.int r131)])) t
              refine XS.sipush Y83.here hx rfl (hb hby at_289) ?_
              show Steps p.tables e below (T82.setTop (mkF m 292 #[.val (.int p0), .val (.int p1), .val (.int p2), .val (.int p3), .val (.int p4), .val (.int p5), .val (.int cn), .val (.int o), .val (.int r24), .val (.int r30), .val (.int r36), .val (.int r42), .val (.int r48), .val (.ref a28), .val (.int r131), .val (.int r138), .val (.int r145), .val (.int r152), .val (.int v206), .unset, .unset] [(.int (1000 : Int32)), (.int r131)])) t
              refine XS.imul Y83.here hx rfl (hb hby at_292) rfl ?_
              show Steps p.tables e below (T82.setTop (mkF m 293 #[.val (.int p0), .val (.int p1), .val (.int p2), .val (.int p3), .val (.int p4), .val (.int p5), .val (.int cn), .val (.int o), .val (.int r24), .val (.int r30), .val (.int r36), .val (.int r42), .val (.int r48), .val (.ref a28), .val (.int r131), .val (.int r138), .val (.int r145), .val (.int r152), .val (.int v206), .unset, .unset] [(.int (r131 * (1000 : Int32)))])) t
              refine XS.iload Y83.here hx rfl (hb hby at_293) rfl ?_
              show Steps p.tables e below (T82.setTop (mkF m 295 #[.val (.int p0), .val (.int p1), .val (.int p2), .val (.int p3), .val (.int p4), .val (.int p5), .val (.int cn), .val (.int o), .val (.int r24), .val (.int r30), .val (.int r36), .val (.int r42), .val (.int r48), .val (.ref a28), .val (.int r131), .val (.int r138), .val (.int r145), .val (.int r152), .val (.int v206), .unset, .unset] [(.int r138), (.int (r131 * (1000 : Int32)))])) t
              refine XS.bipush Y83.here hx rfl (hb hby at_295) ?_
              show Steps p.tables e below (T82.setTop (mkF m 297 #[.val (.int p0), .val (.int p1), .val (.int p2), .val (.int p3), .val (.int p4), .val (.int p5), .val (.int cn), .val (.int o), .val (.int r24), .val (.int r30), .val (.int r36), .val (.int r42), .val (.int r48), .val (.ref a28), .val (.int r131), .val (.int r138), .val (.int r145), .val (.int r152), .val (.int v206), .unset, .unset] [(.int (100 : Int32)), (.int r138), (.int (r131 * (1000 : Int32)))])) t
              refine XS.imul Y83.here hx rfl (hb hby at_297) rfl ?_
              show Steps p.tables e below (T82.setTop (mkF m 298 #[.val (.int p0), .val (.int p1), .val (.int p2), .val (.int p3), .val (.int p4), .val (.int p5), .val (.int cn), .val (.int o), .val (.int r24), .val (.int r30), .val (.int r36), .val (.int r42), .val (.int r48), .val (.ref a28), .val (.int r131), .val (.int r138), .val (.int r145), .val (.int r152), .val (.int v206), .unset, .unset] [(.int (r138 * (100 : Int32))), (.int (r131 * (1000 : Int32)))])) t
              refine XS.iadd Y83.here hx rfl (hb hby at_298) rfl ?_
              show Steps p.tables e below (T82.setTop (mkF m 299 #[.val (.int p0), .val (.int p1), .val (.int p2), .val (.int p3), .val (.int p4), .val (.int p5), .val (.int cn), .val (.int o), .val (.int r24), .val (.int r30), .val (.int r36), .val (.int r42), .val (.int r48), .val (.ref a28), .val (.int r131), .val (.int r138), .val (.int r145), .val (.int r152), .val (.int v206), .unset, .unset] [(.int ((r131 * (1000 : Int32)) + (r138 * (100 : Int32))))])) t
              refine XS.iload Y83.here hx rfl (hb hby at_299) rfl ?_
              show Steps p.tables e below (T82.setTop (mkF m 301 #[.val (.int p0), .val (.int p1), .val (.int p2), .val (.int p3), .val (.int p4), .val (.int p5), .val (.int cn), .val (.int o), .val (.int r24), .val (.int r30), .val (.int r36), .val (.int r42), .val (.int r48), .val (.ref a28), .val (.int r131), .val (.int r138), .val (.int r145), .val (.int r152), .val (.int v206), .unset, .unset] [(.int r145), (.int ((r131 * (1000 : Int32)) + (r138 * (100 : Int32))))])) t
              refine XS.bipush Y83.here hx rfl (hb hby at_301) ?_
              show Steps p.tables e below (T82.setTop (mkF m 303 #[.val (.int p0), .val (.int p1), .val (.int p2), .val (.int p3), .val (.int p4), .val (.int p5), .val (.int cn), .val (.int o), .val (.int r24), .val (.int r30), .val (.int r36), .val (.int r42), .val (.int r48), .val (.ref a28), .val (.int r131), .val (.int r138), .val (.int r145), .val (.int r152), .val (.int v206), .unset, .unset] [(.int (10 : Int32)), (.int r145), (.int ((r131 * (1000 : Int32)) + (r138 * (100 : Int32))))])) t
              refine XS.imul Y83.here hx rfl (hb hby at_303) rfl ?_
              show Steps p.tables e below (T82.setTop (mkF m 304 #[.val (.int p0), .val (.int p1), .val (.int p2), .val (.int p3), .val (.int p4), .val (.int p5), .val (.int cn), .val (.int o), .val (.int r24), .val (.int r30), .val (.int r36), .val (.int r42), .val (.int r48), .val (.ref a28), .val (.int r131), .val (.int r138), .val (.int r145), .val (.int r152), .val (.int v206), .unset, .unset] [(.int (r145 * (10 : Int32))), (.int ((r131 * (1000 : Int32)) + (r138 * (100 : Int32))))])) t
              refine XS.iadd Y83.here hx rfl (hb hby at_304) rfl ?_
              show Steps p.tables e below (T82.setTop (mkF m 305 #[.val (.int p0), .val (.int p1), .val (.int p2), .val (.int p3), .val (.int p4), .val (.int p5), .val (.int cn), .val (.int o), .val (.int r24), .val (.int r30), .val (.int r36), .val (.int r42), .val (.int r48), .val (.ref a28), .val (.int r131), .val (.int r138), .val (.int r145), .val (.int r152), .val (.int v206), .unset, .unset] [(.int (((r131 * (1000 : Int32)) + (r138 * (100 : Int32))) + (r145 * (10 : Int32))))])) t
              refine XS.iload Y83.here hx rfl (hb hby at_305) rfl ?_
              show Steps p.tables e below (T82.setTop (mkF m 307 #[.val (.int p0), .val (.int p1), .val (.int p2), .val (.int p3), .val (.int p4), .val (.int p5), .val (.int cn), .val (.int o), .val (.int r24), .val (.int r30), .val (.int r36), .val (.int r42), .val (.int r48), .val (.ref a28), .val (.int r131), .val (.int r138), .val (.int r145), .val (.int r152), .val (.int v206), .unset, .unset] [(.int r152), (.int (((r131 * (1000 : Int32)) + (r138 * (100 : Int32))) + (r145 * (10 : Int32))))])) t
              refine XS.iadd Y83.here hx rfl (hb hby at_307) rfl ?_
              show Steps p.tables e below (T82.setTop (mkF m 308 #[.val (.int p0), .val (.int p1), .val (.int p2), .val (.int p3), .val (.int p4), .val (.int p5), .val (.int cn), .val (.int o), .val (.int r24), .val (.int r30), .val (.int r36), .val (.int r42), .val (.int r48), .val (.ref a28), .val (.int r131), .val (.int r138), .val (.int r145), .val (.int r152), .val (.int v206), .unset, .unset] [(.int ((((r131 * (1000 : Int32)) + (r138 * (100 : Int32))) + (r145 * (10 : Int32))) + r152))])) t
              refine XS.istore Y83.here hx rfl (hb hby at_308) rfl (l' := #[.val (.int p0), .val (.int p1), .val (.int p2), .val (.int p3), .val (.int p4), .val (.int p5), .val (.int cn), .val (.int o), .val (.int r24), .val (.int r30), .val (.int r36), .val (.int r42), .val (.int r48), .val (.ref a28), .val (.int r131), .val (.int r138), .val (.int r145), .val (.int r152), .val (.int v206), .val (.int ((((r131 * (1000 : Int32)) + (r138 * (100 : Int32))) + (r145 * (10 : Int32))) + r152)), .unset]) rfl ?_
              show Steps p.tables e below (T82.setTop (mkF m 310 #[.val (.int p0), .val (.int p1), .val (.int p2), .val (.int p3), .val (.int p4), .val (.int p5), .val (.int cn), .val (.int o), .val (.int r24), .val (.int r30), .val (.int r36), .val (.int r42), .val (.int r48), .val (.ref a28), .val (.int r131), .val (.int r138), .val (.int r145), .val (.int r152), .val (.int v206), .val (.int ((((r131 * (1000 : Int32)) + (r138 * (100 : Int32))) + (r145 * (10 : Int32))) + r152)), .unset] [])) t
              rw [hv310l19, if_neg hc210, if_neg hc221, if_neg hc233, if_neg hc246, if_neg hc265] at k
              exact k
  refine Rn.go (T' := T82) (g' := (mkF m 316 #[.val (.int p0), .val (.int p1), .val (.int p2), .val (.int p3), .val (.int p4), .val (.int p5), .val (.int cn), .val (.int o), .val (.int r24), .val (.int r30), .val (.int r36), .val (.int r42), .val (.int r48), .val (.ref a28), .val (.int r131), .val (.int r138), .val (.int r145), .val (.int r152), .val (.int v206), .val (.int v310l19), .unset] [(.int cn), (.int o), (.ref a28)])) (fun t k => ?_) ?_
  · show Steps p.tables e below (T82.setTop (mkF m 310 #[.val (.int p0), .val (.int p1), .val (.int p2), .val (.int p3), .val (.int p4), .val (.int p5), .val (.int cn), .val (.int o), .val (.int r24), .val (.int r30), .val (.int r36), .val (.int r42), .val (.int r48), .val (.ref a28), .val (.int r131), .val (.int r138), .val (.int r145), .val (.int r152), .val (.int v206), .val (.int v310l19), .unset] [])) t
    refine XS.aload Y83.here hx rfl (hb hby at_310) rfl rfl ?_
    show Steps p.tables e below (T82.setTop (mkF m 312 #[.val (.int p0), .val (.int p1), .val (.int p2), .val (.int p3), .val (.int p4), .val (.int p5), .val (.int cn), .val (.int o), .val (.int r24), .val (.int r30), .val (.int r36), .val (.int r42), .val (.int r48), .val (.ref a28), .val (.int r131), .val (.int r138), .val (.int r145), .val (.int r152), .val (.int v206), .val (.int v310l19), .unset] [(.ref a28)])) t
    refine XS.iload Y83.here hx rfl (hb hby at_312) rfl ?_
    show Steps p.tables e below (T82.setTop (mkF m 314 #[.val (.int p0), .val (.int p1), .val (.int p2), .val (.int p3), .val (.int p4), .val (.int p5), .val (.int cn), .val (.int o), .val (.int r24), .val (.int r30), .val (.int r36), .val (.int r42), .val (.int r48), .val (.ref a28), .val (.int r131), .val (.int r138), .val (.int r145), .val (.int r152), .val (.int v206), .val (.int v310l19), .unset] [(.int o), (.ref a28)])) t
    refine XS.iload Y83.here hx rfl (hb hby at_314) rfl ?_
    show Steps p.tables e below (T82.setTop (mkF m 316 #[.val (.int p0), .val (.int p1), .val (.int p2), .val (.int p3), .val (.int p4), .val (.int p5), .val (.int cn), .val (.int o), .val (.int r24), .val (.int r30), .val (.int r36), .val (.int r42), .val (.int r48), .val (.ref a28), .val (.int r131), .val (.int r138), .val (.int r145), .val (.int r152), .val (.int v206), .val (.int v310l19), .unset] [(.int cn), (.int o), (.ref a28)])) t
    exact k
  refine On.static Y83 hx hZ (y := (⟨"com/example/nishati/nishati/io/CsvRow", "digits", "([BII)I"⟩ : MethodName)) hown (w9 hw) (w10 hw) (w12 hw) (w11 hw) (by decide) (argsL := [(.ref a28), (.int o), (.int cn)]) (rest := []) (rm3 l Z a0 hw n0 a28 o cn (6 : Int32) xs [] (by rw [x6]; decide) (by rw [own_ac hbo hbc, x6]; omega) hbo.1 hbc.1 (own_ac hbo hbc)) (W := 0) (by decide) (by decide) (by decide) (by decide) (g := (mkF m 316 #[.val (.int p0), .val (.int p1), .val (.int p2), .val (.int p3), .val (.int p4), .val (.int p5), .val (.int cn), .val (.int o), .val (.int r24), .val (.int r30), .val (.int r36), .val (.int r42), .val (.int r48), .val (.ref a28), .val (.int r131), .val (.int r138), .val (.int r145), .val (.int r152), .val (.int v206), .val (.int v310l19), .unset] [(.int cn), (.int o), (.ref a28)])) rfl (by rw [hml]; rfl) (lenOf pd2 rfl) rfl (by show 2 * 0 + _ ≤ _; exact Nat.le_of_eq rfl) (hb hby at_316) ?_
  intro T87 u89 D90 hp91 Y88
  obtain ⟨r316, hr316, rfl, rfl⟩ : ∃ z : Int32, z = (own_dg xs cn.toNatClampNeg o.toNatClampNeg 0) ∧ u89 = some (.int z) ∧ D90 = _ := ⟨_, rfl, hp91.1, hp91.2⟩
  replace Y88 : On p l e _ s m _ below meth c Z n0 T87 1 6 [ari a28 .byte (6 : Int32) xs] := Y88
  show Rn p e below F T87 (mkF m 319 #[.val (.int p0), .val (.int p1), .val (.int p2), .val (.int p3), .val (.int p4), .val (.int p5), .val (.int cn), .val (.int o), .val (.int r24), .val (.int r30), .val (.int r36), .val (.int r42), .val (.int r48), .val (.ref a28), .val (.int r131), .val (.int r138), .val (.int r145), .val (.int r152), .val (.int v206), .val (.int v310l19), .unset] [(.int r316)])
  refine Rn.go (T' := T87) (g' := (mkF m 325 #[.val (.int p0), .val (.int p1), .val (.int p2), .val (.int p3), .val (.int p4), .val (.int p5), .val (.int cn), .val (.int o), .val (.int r24), .val (.int r30), .val (.int r36), .val (.int r42), .val (.int r48), .val (.ref a28), .val (.int r131), .val (.int r138), .val (.int r145), .val (.int r152), .val (.int v206), .val (.int v310l19), .val (.int r316)] [(.int v310l19), (.int r316)])) (fun t k => ?_) ?_
  · show Steps p.tables e below (T87.setTop (mkF m 319 #[.val (.int p0), .val (.int p1), .val (.int p2), .val (.int p3), .val (.int p4), .val (.int p5), .val (.int cn), .val (.int o), .val (.int r24), .val (.int r30), .val (.int r36), .val (.int r42), .val (.int r48), .val (.ref a28), .val (.int r131), .val (.int r138), .val (.int r145), .val (.int r152), .val (.int v206), .val (.int v310l19), .unset] [(.int r316)])) t
    refine XS.istore Y88.here hx rfl (hb hby at_319) rfl (l' := #[.val (.int p0), .val (.int p1), .val (.int p2), .val (.int p3), .val (.int p4), .val (.int p5), .val (.int cn), .val (.int o), .val (.int r24), .val (.int r30), .val (.int r36), .val (.int r42), .val (.int r48), .val (.ref a28), .val (.int r131), .val (.int r138), .val (.int r145), .val (.int r152), .val (.int v206), .val (.int v310l19), .val (.int r316)]) rfl ?_
    show Steps p.tables e below (T87.setTop (mkF m 321 #[.val (.int p0), .val (.int p1), .val (.int p2), .val (.int p3), .val (.int p4), .val (.int p5), .val (.int cn), .val (.int o), .val (.int r24), .val (.int r30), .val (.int r36), .val (.int r42), .val (.int r48), .val (.ref a28), .val (.int r131), .val (.int r138), .val (.int r145), .val (.int r152), .val (.int v206), .val (.int v310l19), .val (.int r316)] [])) t
    refine XS.iload Y88.here hx rfl (hb hby at_321) rfl ?_
    show Steps p.tables e below (T87.setTop (mkF m 323 #[.val (.int p0), .val (.int p1), .val (.int p2), .val (.int p3), .val (.int p4), .val (.int p5), .val (.int cn), .val (.int o), .val (.int r24), .val (.int r30), .val (.int r36), .val (.int r42), .val (.int r48), .val (.ref a28), .val (.int r131), .val (.int r138), .val (.int r145), .val (.int r152), .val (.int v206), .val (.int v310l19), .val (.int r316)] [(.int r316)])) t
    refine XS.iload Y88.here hx rfl (hb hby at_323) rfl ?_
    show Steps p.tables e below (T87.setTop (mkF m 325 #[.val (.int p0), .val (.int p1), .val (.int p2), .val (.int p3), .val (.int p4), .val (.int p5), .val (.int cn), .val (.int o), .val (.int r24), .val (.int r30), .val (.int r36), .val (.int r42), .val (.int r48), .val (.ref a28), .val (.int r131), .val (.int r138), .val (.int r145), .val (.int r152), .val (.int v206), .val (.int v310l19), .val (.int r316)] [(.int v310l19), (.int r316)])) t
    exact k
  refine Rn.go (T' := T87) (g' := (mkF m 328 #[.val (.int p0), .val (.int p1), .val (.int p2), .val (.int p3), .val (.int p4), .val (.int p5), .val (.int cn), .val (.int o), .val (.int r24), .val (.int r30), .val (.int r36), .val (.int r42), .val (.int r48), .val (.ref a28), .val (.int r131), .val (.int r138), .val (.int r145), .val (.int r152), .val (.int v206), .val (.int v310l19), .val (.int r316)] [])) (fun t k => XS.icmpNo Y88.here hx rfl (hb hby at_325) rfl (teq (by rw [hr316]; exact own_fin _ _ _ _ _ _ _ _ _ _ _ _ _ g0 g1 g2 g3 hr131 hr138 hr145 hr152 hbc hv206 hv310l19)).2 k) ?_
  refine Rn.go (T' := T87) (g' := (mkF m 333 #[.val (.int p0), .val (.int p1), .val (.int p2), .val (.int p3), .val (.int p4), .val (.int p5), .val (.int cn), .val (.int o), .val (.int r24), .val (.int r30), .val (.int r36), .val (.int r42), .val (.int r48), .val (.ref a28), .val (.int r131), .val (.int r138), .val (.int r145), .val (.int r152), .val (.int v206), .val (.int v310l19), .val (.int r316)] [(.int (1 : Int32))])) (fun t k => ?_) ?_
  · show Steps p.tables e below (T87.setTop (mkF m 328 #[.val (.int p0), .val (.int p1), .val (.int p2), .val (.int p3), .val (.int p4), .val (.int p5), .val (.int cn), .val (.int o), .val (.int r24), .val (.int r30), .val (.int r36), .val (.int r42), .val (.int r48), .val (.ref a28), .val (.int r131), .val (.int r138), .val (.int r145), .val (.int r152), .val (.int v206), .val (.int v310l19), .val (.int r316)] [])) t
    refine XS.iconst Y88.here hx rfl (hb hby at_328) ?_
    show Steps p.tables e below (T87.setTop (mkF m 329 #[.val (.int p0), .val (.int p1), .val (.int p2), .val (.int p3), .val (.int p4), .val (.int p5), .val (.int cn), .val (.int o), .val (.int r24), .val (.int r30), .val (.int r36), .val (.int r42), .val (.int r48), .val (.ref a28), .val (.int r131), .val (.int r138), .val (.int r145), .val (.int r152), .val (.int v206), .val (.int v310l19), .val (.int r316)] [(.int (1 : Int32))])) t
    refine XS.goto Y88.here hx rfl (pc0 := 329) (pc' := 333) rfl (hb hby at_329) (by decide) (by decide) ?_
    show Steps p.tables e below (T87.setTop (mkF m 333 #[.val (.int p0), .val (.int p1), .val (.int p2), .val (.int p3), .val (.int p4), .val (.int p5), .val (.int cn), .val (.int o), .val (.int r24), .val (.int r30), .val (.int r36), .val (.int r42), .val (.int r48), .val (.ref a28), .val (.int r131), .val (.int r138), .val (.int r145), .val (.int r152), .val (.int v206), .val (.int v310l19), .val (.int r316)] [(.int (1 : Int32))])) t
    exact k
  rw [← hF]; exact On.retn Y88 hx hret (by simp) hlk (z' := (1 : Int32)) (by decide) (hb hby at_333) (by decide) (by decide) rfl
set_option maxRecDepth 65536 in
set_option maxHeartbeats 40000000 in
theorem comes_1 {Post : Tables → Env → Array Value → State → Outcome → State → Prop} (hpost : ∀ tb e args s v u, (limb_1_1.after args s (.returned v) u = true ∧ limb_1_2.after args s (.returned v) u = true ∧ True) → FrameEnd s (.returned v) u (Jvm.fieldLocs frame_1_writes args s ++ Jvm.arrayLocs frame_1_arrays args s ++ Jvm.staticLocs frame_1_statics s) 16 128 → Post tb e args s (.returned v) u) :
    ArmFor flags0 classFile x code maxLocals ret World_1 tables_1 room_1 Calls_1 rest_1 Pre_1 Post := by
  intro l hfl _ _ p e ha hc hk s m args below hf hA hF happ hP
  obtain ⟨hcalls, hrest, hpre⟩ := hP
  obtain ⟨-, -, -, hnamed, -, -, -, hat⟩ := (Spec.applies_iff hf).mp happ
  obtain ⟨hg, hn⟩ := and_e (Cond.before_iff.mp (show (Jvm.Cond.and given_1 narrow_1).before args s = true from hpre))
  obtain ⟨g1, g2⟩ := and_e hg
  obtain ⟨g3, g4⟩ := and_e g2
  obtain ⟨g5, g6⟩ := and_e g4
  obtain ⟨g7, g8⟩ := and_e g6
  obtain ⟨g9, g10⟩ := and_e g8
  obtain ⟨g11, g12⟩ := and_e g10
  obtain ⟨w0, w1, w2, w3, w4, w5, rfl⟩ : ∃ w0 w1 w2 w3 w4 w5 : Value, args = #[w0, w1, w2, w3, w4, w5] := by
    have hs : args.size = 6 := by simpa [Cond.value, given_1] using g1
    obtain ⟨L⟩ := args
    match L, hs with
    | [w0, w1, w2, w3, w4, w5], _ => exact ⟨w0, w1, w2, w3, w4, w5, rfl⟩
  have hw := fun d (hd : d ∈ tables_1) => atoms_spec (ws := Jvm.Cond.code x code maxLocals ret :: tables_1) hat d (List.mem_cons_of_mem _ hd)
  obtain ⟨i0, ei0⟩ := is_v g3
  obtain rfl : w0 = (.int i0) := Option.some.inj ei0
  obtain ⟨i1, ei1⟩ := is_v g5
  obtain rfl : w1 = (.int i1) := Option.some.inj ei1
  obtain ⟨i2, ei2⟩ := is_v g7
  obtain rfl : w2 = (.int i2) := Option.some.inj ei2
  obtain ⟨i3, ei3⟩ := is_v g9
  obtain rfl : w3 = (.int i3) := Option.some.inj ei3
  obtain ⟨i4, ei4⟩ := is_v g11
  obtain rfl : w4 = (.int i4) := Option.some.inj ei4
  obtain ⟨i5, ei5⟩ := is_v g12
  obtain rfl : w5 = (.int i5) := Option.some.inj ei5
  obtain ⟨n, o, h1, h2, h3, _, L, rfl, ⟨D', rfl, N, -⟩, hq⟩ := rm0 l s _ hw s.heap.size i0 i1 i2 i3 i4 i5 tables_1 s.heap (Hp.nil s) p e ha hc hk s m _ below hf ((Spec.applies_iff_loose hf).mp happ).1 ⟨rfl, State.Warmed39.refl s, rfl⟩ trivial
  refine ⟨n, _, h1, h2, h3, hpost _ _ _ _ _ _ ⟨Cond.after_iff.mpr rfl, Cond.after_iff.mpr (eq_i res_at (Term.int_eval (1)) rfl), trivial⟩ ⟨hq.1, hq.2.1, (hq.2.2.sift fun y hy => Or.inr (N y hy)).mono (by decide) (by decide)⟩⟩
theorem main_1_1 : Claimed_1_1 := comes_1 fun _ _ _ _ _ _ h hF => ⟨h.1, hF⟩
theorem main_1_2 : Claimed_1_2 := comes_1 fun _ _ _ _ _ _ h hF => ⟨h.2.1, hF⟩
end Jvm.Pilot.@@N@@
namespace Jvm.Pilot.@@N@@
open Jvm Jvm.ClassFile Sem Op Lib Jvm.Free Jvm.Stand Jvm.Pilot.@@N@@.Jvm.D
/-! MADE BY PROGRAM (witnessworld.py) out of the Statement's table words and the real class files: 9 classes; the members and pool entries that the words name. The judged class is class 1, her method 3. -/
namespace start1
open Jvm.ClassFile
def u (s : String) : CpInfo := .utf8 (stringToUtf16 s)
/-- a pool by its gaps: so many unusable entries, then the entry; so many at the end -/
def gap : Nat → List CpInfo → List CpInfo
  | 0, r => r
  | n + 1, r => .unusable :: gap n r
def poolList (es : List (Nat × CpInfo)) (last : Nat) : List CpInfo := es.foldr (fun e r => gap e.1 (e.2 :: r)) (gap last [])
def pool (es : List (Nat × CpInfo)) (last : Nat) : Array CpInfo := ⟨poolList es last⟩
def fileOf (pool : Array CpInfo) (this : Nat) (attrs : Array Attribute := #[]) (ms : Array MethodInfo := #[]) (fl : Nat := 33) (sup : Nat := 0) (ifs : Array Nat := #[]) (fds : Array FieldInfo := #[]) : ClassFile where
  minorVersion := 0
  majorVersion := 65
  constantPool := pool
  accessFlags := fl
  thisClass := this
  superClass := sup
  interfaces := ifs
  fields := fds
  methods := ms
  attributes := attrs
def plain (name : String) (sup : Option ClassId) : Class where
  name := name
  kind := .ordinary
  loader := none
  accessFlags := 33
  super := sup
  interfaces := #[]
  cf := none
  fields := #[]
  methods := #[]
  instanceTypes := #[]
  staticTypes := #[]
  resolved := #[]
  callSites := []
  init := .initialized
  statics := none
  mirror := none

def pool0 : Array CpInfo := pool [(5, u "<init>"), (0, u "()V"), (1, .class_ 10), (1, u "java/lang/Object")] 113

def k0m0 : Method := { name := "<init>", desc := "()V", sig := { parameters := [], returnType := none }, accessFlags := 1, code := none }
/-- java/lang/Object -/
def k0 : Class := { plain "java/lang/Object" none with
  accessFlags := 33
  interfaces := #[]
  cf := some (fileOf pool0 8 #[] #[{ accessFlags := 1, nameIndex := 5, descriptorIndex := 6, attributes := #[] }] 33 0 #[] #[])
  fields := #[]
  methods := #[k0m0]
  instanceTypes := #[]
  staticTypes := #[]
  resolved := Array.replicate 124 none
  statics := none }

def pool1 : Array CpInfo := pool [(2, .class_ 4), (1, u "java/lang/Object"), (0, u "<init>"), (0, u "()V"), (0, .integer 2147483647), (0, .methodref 9 10), (0, .class_ 11), (0, .nameAndType 12 13), (0, u "com/example/nishati/nishati/io/CsvRowDigitsPinLaw"), (0, u "draw"), (0, u "(I)B"), (0, .methodref 9 15), (0, .nameAndType 16 17), (0, u "value"), (0, u "(B)I"), (0, .methodref 19 20), (0, .class_ 21), (0, .nameAndType 22 23), (0, u "com/example/nishati/nishati/io/CsvRow"), (0, u "digits"), (0, u "([BII)I"), (3, u "law"), (0, u "(IIIIII)Z")] 4

def k1m0 : Method := { name := "<init>", desc := "()V", sig := { parameters := [], returnType := none }, accessFlags := 1, code := none }
def k1c1 : Code := { maxStack := 3, maxLocals := 1, code := method_2_code, exceptionTable := #[], attributes := #[] }
def k1m1 : Method := { name := "draw", desc := "(I)B", sig := { parameters := [.int], returnType := some .byte }, accessFlags := 10, code := some k1c1 }
def k1c2 : Code := { maxStack := 2, maxLocals := 1, code := method_3_code, exceptionTable := #[], attributes := #[] }
def k1m2 : Method := { name := "value", desc := "(B)I", sig := { parameters := [.byte], returnType := some .int }, accessFlags := 10, code := some k1c2 }
def k1c3 : Code := { maxStack := 3, maxLocals := 21, code := code, exceptionTable := #[], attributes := #[] }
def k1m3 : Method := { name := "law", desc := "(IIIIII)Z", sig := { parameters := [.int, .int, .int, .int, .int, .int], returnType := some .boolean }, accessFlags := 9, code := some k1c3 }
/-- com/example/nishati/nishati/io/CsvRowDigitsPinLaw -/
def k1 : Class := { plain "com/example/nishati/nishati/io/CsvRowDigitsPinLaw" (some 0) with
  accessFlags := 49
  interfaces := #[]
  cf := some (fileOf pool1 9 #[] #[{ accessFlags := 1, nameIndex := 5, descriptorIndex := 6, attributes := #[] }, { accessFlags := 10, nameIndex := 12, descriptorIndex := 13, attributes := #[] }, { accessFlags := 10, nameIndex := 16, descriptorIndex := 17, attributes := #[] }, { accessFlags := 9, nameIndex := 27, descriptorIndex := 28, attributes := #[] }] 49 2 #[] #[])
  fields := #[]
  methods := #[k1m0, k1m1, k1m2, k1m3]
  instanceTypes := #[]
  staticTypes := #[]
  resolved := Array.replicate 33 none
  statics := none }

def pool2 : Array CpInfo := pool [(2, .class_ 4), (1, u "java/lang/Object"), (3, .class_ 10), (1, u "com/example/nishati/nishati/io/CsvRow"), (0, u "lastDateText"), (0, u "[B"), (2, u "kind"), (0, u "Ljava/lang/String;"), (2, u "file"), (0, u "Ljava/nio/file/Path;"), (2, u "headerWidth"), (0, u "I"), (2, u "ends"), (0, u "[I"), (2, u "bytes"), (2, u "rowStart"), (2, u "rowEnd"), (2, u "line"), (0, u "J"), (2, u "width"), (55, u "lastSeparator"), (0, u "C"), (21, u "lastDate"), (0, u "Ljava/time/LocalDate;"), (21, u "digits"), (0, u "([BII)I"), (101, u "LONGEST_LINE"), (2, u "UNSPLIT")] 47

def k2c0 : Code := { maxStack := 3, maxLocals := 6, code := prog_63_method_24_code, exceptionTable := #[], attributes := #[] }
def k2m0 : Method := { name := "digits", desc := "([BII)I", sig := { parameters := [(.array .byte), .int, .int], returnType := some .int }, accessFlags := 8, code := some k2c0 }
/-- com/example/nishati/nishati/io/CsvRow -/
def k2 : Class := { plain "com/example/nishati/nishati/io/CsvRow" (some 0) with
  accessFlags := 32
  interfaces := #[]
  cf := some (fileOf pool2 8 #[] #[{ accessFlags := 8, nameIndex := 146, descriptorIndex := 147, attributes := #[] }] 32 2 #[] #[{ accessFlags := 24, nameIndex := 249, descriptorIndex := 24, attributes := #[] }, { accessFlags := 26, nameIndex := 252, descriptorIndex := 24, attributes := #[] }, { accessFlags := 18, nameIndex := 15, descriptorIndex := 16, attributes := #[] }, { accessFlags := 18, nameIndex := 19, descriptorIndex := 20, attributes := #[] }, { accessFlags := 18, nameIndex := 23, descriptorIndex := 24, attributes := #[] }, { accessFlags := 2, nameIndex := 31, descriptorIndex := 12, attributes := #[] }, { accessFlags := 2, nameIndex := 34, descriptorIndex := 24, attributes := #[] }, { accessFlags := 2, nameIndex := 37, descriptorIndex := 24, attributes := #[] }, { accessFlags := 2, nameIndex := 40, descriptorIndex := 41, attributes := #[] }, { accessFlags := 18, nameIndex := 27, descriptorIndex := 28, attributes := #[] }, { accessFlags := 2, nameIndex := 44, descriptorIndex := 24, attributes := #[] }, { accessFlags := 2, nameIndex := 11, descriptorIndex := 12, attributes := #[] }, { accessFlags := 2, nameIndex := 100, descriptorIndex := 101, attributes := #[] }, { accessFlags := 2, nameIndex := 123, descriptorIndex := 124, attributes := #[] }])
  fields := #[{ name := "LONGEST_LINE", type := .int, accessFlags := 24, slot := 0, constantValue := 0 }, { name := "UNSPLIT", type := .int, accessFlags := 26, slot := 1, constantValue := 0 }, { name := "kind", type := (.object "java/lang/String"), accessFlags := 18, slot := 0, constantValue := 0 }, { name := "file", type := (.object "java/nio/file/Path"), accessFlags := 18, slot := 1, constantValue := 0 }, { name := "headerWidth", type := .int, accessFlags := 18, slot := 2, constantValue := 0 }, { name := "bytes", type := (.array .byte), accessFlags := 2, slot := 3, constantValue := 0 }, { name := "rowStart", type := .int, accessFlags := 2, slot := 4, constantValue := 0 }, { name := "rowEnd", type := .int, accessFlags := 2, slot := 5, constantValue := 0 }, { name := "line", type := .long, accessFlags := 2, slot := 6, constantValue := 0 }, { name := "ends", type := (.array .int), accessFlags := 18, slot := 7, constantValue := 0 }, { name := "width", type := .int, accessFlags := 2, slot := 8, constantValue := 0 }, { name := "lastDateText", type := (.array .byte), accessFlags := 2, slot := 9, constantValue := 0 }, { name := "lastSeparator", type := .char, accessFlags := 2, slot := 10, constantValue := 0 }, { name := "lastDate", type := (.object "java/time/LocalDate"), accessFlags := 2, slot := 11, constantValue := 0 }]
  methods := #[k2m0]
  instanceTypes := #[(.object "java/lang/String"), (.object "java/nio/file/Path"), .int, (.array .byte), .int, .int, .long, (.array .int), .int, (.array .byte), .char, (.object "java/time/LocalDate")]
  staticTypes := #[.int, .int]
  resolved := Array.replicate 300 none
  statics := none }

def pool3 : Array CpInfo := pool [(1, u "java/lang/Cloneable"), (0, .class_ 1), (0, u "java/lang/Object"), (0, .class_ 3)] 3

/-- java/lang/Cloneable -/
def k3 : Class := { plain "java/lang/Cloneable" (some 0) with
  accessFlags := 1537
  interfaces := #[]
  cf := some (fileOf pool3 2 #[] #[] 1537 4 #[] #[])
  fields := #[]
  methods := #[]
  instanceTypes := #[]
  staticTypes := #[]
  resolved := Array.replicate 8 none
  statics := none }

def pool4 : Array CpInfo := pool [(1, u "java/io/Serializable"), (0, .class_ 1), (0, u "java/lang/Object"), (0, .class_ 3)] 3

/-- java/io/Serializable -/
def k4 : Class := { plain "java/io/Serializable" (some 0) with
  accessFlags := 1537
  interfaces := #[]
  cf := some (fileOf pool4 2 #[] #[] 1537 4 #[] #[])
  fields := #[]
  methods := #[]
  instanceTypes := #[]
  staticTypes := #[]
  resolved := Array.replicate 8 none
  statics := none }

/-- the primitive byte -/
def k5 : Class := { plain "byte" none with kind := .primitive 'B', accessFlags := 0x411 }
/-- [B -/
def k6 : Class := { plain "[B" (some 0) with kind := .array 5 .byte, interfaces := #[3, 4], accessFlags := 1041 }

/-- the primitive int -/
def k7 : Class := { plain "int" none with kind := .primitive 'I', accessFlags := 0x411 }
/-- [I -/
def k8 : Class := { plain "[I" (some 0) with kind := .array 7 .int, interfaces := #[3, 4], accessFlags := 1041 }

def heap : Heap := #[]
def classes : Array Class := #[k0, k1, k2, k3, k4, k5, k6, k7, k8]
def interned : List (Array UInt16 × Addr) := []
def slotsUsed : Nat := 0
def theMethod : MethodId := ⟨1, 3⟩
def args0 : Array Value := #[.int 1, .int 2, .int 3, .int 4, .int 5, .int 6]
def aboutOver (below : List Frame) : State where
  vm := { classes := classes, interned := interned.toArray }
  heap := heap
  slotsUsed := slotsUsed
  threads := #[{ frames := .invoking theMethod args0 :: below }]
def below0 : List Frame := [.native { method := ⟨0, 0⟩, args := #[] }]
def about1 : State := aboutOver below0
def p0 : Program := .bare "" "" ""
def e0 : Env := launch0.env 0 0 0
theorem w_frames : about1.frames = Frame.invoking theMethod args0 :: below0 := rfl
set_option maxRecDepth 65536 in
theorem w_args : argsFit about1.vm theMethod args0 = true := by decide +kernel
set_option maxRecDepth 65536 in
theorem w_heap : heapFits about1 = true := by decide +kernel
set_option maxRecDepth 65536 in
theorem w_runnable : about1.curStatus? = some .runnable := by decide +kernel
set_option maxRecDepth 65536 in
theorem w_alone : about1.alone = true := by decide +kernel
set_option maxRecDepth 65536 in
theorem w_named : about1.methodNamed? x = some theMethod := by decide +kernel
set_option maxRecDepth 65536 in
theorem w_hears : about1.hears theMethod below0 = true := by decide +kernel
set_option maxRecDepth 65536 in
theorem w_ripe : about1.ripe theMethod args0 below0 = true := by decide +kernel
theorem w_running : about1.status = .running := rfl
set_option maxRecDepth 65536 in
theorem w_room : about1.hasRoom e0.platform room_1 = true :=
  launch0.hasRoom_least _ room_1 (by decide +kernel) (by decide +kernel) (by decide +kernel) (by decide +kernel) (by decide +kernel) (by decide +kernel)
theorem allAtoms_all (ts : List Jvm.Cond) (a : Array Jvm.Value) (st : Jvm.State) : (allAtoms ts).before a st = ts.all (fun c => c.before a st) := by
  induction ts with
  | nil => rfl
  | cons c t ih =>
    show (Jvm.Cond.and c (allAtoms t)).before a st = _
    rw [Jvm.Cond.before_and, ih, List.all_cons]
def words1 : List Jvm.Cond := Jvm.Cond.code x code maxLocals ret :: tables_1
/-- a 'code' word, met by the world's own term for the bytes: nothing is compared byte by byte -/
theorem code_word {y : MethodName} {bytes : ByteArray} {mx : Nat} {rt : Option FieldType} {a : Array Value} {s : State} {m : MethodId} {meth : Method} {c : Code} (h1 : s.methodNamed? y = some m) (h2 : s.vm.method? m = some meth) (h3 : meth.code = some c) (h4 : c.code = bytes)
    (h5 : (c.maxLocals == mx && c.exceptionTable.isEmpty && decide (c.maxStack ≤ mostOperands) && decide (meth.sig.returnType = rt) && !meth.locks && decide (parseMethodDescriptor y.desc = some meth.sig)) = true) : (Jvm.Cond.code y bytes mx rt).before a s = true := by
  simp only [Bool.and_eq_true, beq_iff_eq, Bool.not_eq_true', decide_eq_true_eq] at h5
  obtain ⟨⟨⟨⟨⟨g1, g2⟩, g3⟩, g4⟩, g5⟩, g6⟩ := h5
  simp [Cond.before, Cond.holds, Cond.value, h1, h2, h3, h4, g1, g2, g3, g4, g5, g6]
def isCode : Jvm.Cond → Bool
  | .code _ _ _ _ => true
  | _ => false
theorem all_split {L : List Jvm.Cond} {P : Jvm.Cond → Bool} (h1 : L.all (fun c => isCode c || P c) = true) (h2 : ∀ c ∈ L.filter isCode, P c = true) : L.all P = true := by
  refine List.all_eq_true.mpr fun c hc => ?_
  have h := List.all_eq_true.mp h1 c hc
  rcases Bool.eq_false_or_eq_true (isCode c) with hi | hi
  · exact h2 c (List.mem_filter.mpr ⟨hc, hi⟩)
  · simpa [hi] using h
set_option maxRecDepth 65536 in
theorem w_c0 : (Jvm.Cond.code x code maxLocals ret).before args0 about1 = true := code_word (m := ⟨1, 3⟩) (meth := k1m3) (c := k1c3) (by decide +kernel) rfl rfl rfl (by decide +kernel)
set_option maxRecDepth 65536 in
theorem w_c1 : (Jvm.Cond.code ({ cls := "com/example/nishati/nishati/io/CsvRowDigitsPinLaw", name := "draw", desc := "(I)B" } : Jvm.MethodName) method_2_code (1 : Nat) (Option.some Jvm.ClassFile.FieldType.byte)).before args0 about1 = true := code_word (m := ⟨1, 1⟩) (meth := k1m1) (c := k1c1) (by decide +kernel) rfl rfl rfl (by decide +kernel)
set_option maxRecDepth 65536 in
theorem w_c2 : (Jvm.Cond.code ({ cls := "com/example/nishati/nishati/io/CsvRowDigitsPinLaw", name := "value", desc := "(B)I" } : Jvm.MethodName) method_3_code (1 : Nat) (Option.some Jvm.ClassFile.FieldType.int)).before args0 about1 = true := code_word (m := ⟨1, 2⟩) (meth := k1m2) (c := k1c2) (by decide +kernel) rfl rfl rfl (by decide +kernel)
set_option maxRecDepth 65536 in
theorem w_c3 : (Jvm.Cond.code ({ cls := "com/example/nishati/nishati/io/CsvRow", name := "digits", desc := "([BII)I" } : Jvm.MethodName) prog_63_method_24_code (6 : Nat) (Option.some Jvm.ClassFile.FieldType.int)).before args0 about1 = true := code_word (m := ⟨2, 0⟩) (meth := k2m0) (c := k2c0) (by decide +kernel) rfl rfl rfl (by decide +kernel)
def codes1 : List Jvm.Cond := [Jvm.Cond.code x code maxLocals ret, Jvm.Cond.code ({ cls := "com/example/nishati/nishati/io/CsvRowDigitsPinLaw", name := "draw", desc := "(I)B" } : Jvm.MethodName) method_2_code (1 : Nat) (Option.some Jvm.ClassFile.FieldType.byte), Jvm.Cond.code ({ cls := "com/example/nishati/nishati/io/CsvRowDigitsPinLaw", name := "value", desc := "(B)I" } : Jvm.MethodName) method_3_code (1 : Nat) (Option.some Jvm.ClassFile.FieldType.int), Jvm.Cond.code ({ cls := "com/example/nishati/nishati/io/CsvRow", name := "digits", desc := "([BII)I" } : Jvm.MethodName) prog_63_method_24_code (6 : Nat) (Option.some Jvm.ClassFile.FieldType.int)]
set_option maxRecDepth 65536 in
theorem codes_eq : words1.filter isCode = codes1 := rfl
theorem w_codes : ∀ c ∈ words1.filter isCode, c.before args0 about1 = true := by
  rw [codes_eq]
  intro c hc
  simp only [codes1, List.mem_cons, List.not_mem_nil, or_false] at hc
  rcases hc with rfl | rfl | rfl | rfl
  · exact w_c0
  · exact w_c1
  · exact w_c2
  · exact w_c3
set_option maxRecDepth 65536 in
theorem w_t1 : words1.all (fun c => isCode c || c.before args0 about1) = true := by decide +kernel
theorem w_tables : (allAtoms (Jvm.Cond.code x code maxLocals ret :: tables_1)).before args0 about1 = true := by
  rw [allAtoms_all]
  show words1.all (fun c => c.before args0 about1) = true
  refine all_split ?_ w_codes
  rw [w_t1]
set_option maxRecDepth 65536 in
theorem w_case : (Jvm.Cond.and given_1 narrow_1).before args0 about1 = true := by decide +kernel
theorem w_applies : (headSpec (Jvm.Cond.code x code maxLocals ret :: tables_1) room_1).applies x e0.platform about1 = true :=
  (Spec.applies_iff w_frames).mpr ⟨w_running, w_runnable, w_alone, w_named, w_hears, w_ripe, w_room, w_tables⟩
theorem atStart : AtStart classFile x code maxLocals ret World_1 tables_1 room_1 Calls_1 rest_1 Pre_1 launch0 p0 e0 about1 theMethod args0 below0 :=
  ⟨lists_1, trivial, launch0.admits_env _ _ _, launch0.least_env, fairChoices_fair.cas, fairChoices_fair.clock, w_frames, w_args, w_heap, w_applies, trivial, trivial, w_case⟩
end start1
theorem witness_1 : WitnessClaimed_1 := ⟨start1.p0, start1.e0, start1.about1, start1.theMethod, start1.args0, start1.below0, start1.atStart⟩
end Jvm.Pilot.@@N@@
