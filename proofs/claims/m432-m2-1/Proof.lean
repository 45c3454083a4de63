import JvmDerived
import JvmDerived.Pilot.@@N@@Statement
import JvmDerived.Pilot.@@N@@Code
set_option linter.unusedVariables false
set_option linter.unusedSimpArgs false
@@BLOCK:NumsL.lean.txt@@
namespace Jvm.Pilot.@@N@@
open Jvm Jvm.ClassFile Sem Op Lib Jvm.Free Jvm.Stand Jvm.LawKit Jvm.RoadKit Bundle Jvm.Pilot.@@N@@.Jvm.D
/-! ## A. The run goes on: a walk in steps, its end left open -/
section Base
variable {p : Program} {l : Launch} {e : Env} {R : Room} {s : State} {m : MethodId} {args : Array Value} {below : List Frame} {meth : Method} {c : Code} {T T' : State} {locs : List Loc} {cells slots : Nat} {Z : State} {a0 : Array Value} {F : State → Prop} {g g' : JFrame} {n0 : Nat} {h h' : Heap} {a b : Addr} {C n d : String} {v w : Value} {sl : Nat}
/-- the run from T with the frame g on top comes to a state of which F holds -/
def Rn (p : Program) (e : Env) (below : List Frame) (F : State → Prop) (T : State) (g : JFrame) : Prop := ∃ U, Steps p.tables e below (T.setTop g) U ∧ F U
theorem Rn.go (st : ∀ t, Steps p.tables e below (T'.setTop g') t → Steps p.tables e below (T.setTop g) t) (k : Rn p e below F T' g') : Rn p e below F T g := by
  obtain ⟨U, h1, h2⟩ := k; exact ⟨U, st _ h1, h2⟩
theorem Rn.to (st : Steps p.tables e below (T.setTop g) (T'.setTop g')) (k : Rn p e below F T' g') : Rn p e below F T g := by
  obtain ⟨U, h1, h2⟩ := k; exact ⟨U, st.trans h1, h2⟩
theorem own_lcW (x y : Int64) : lcmpW x y = if x > y then 1 else if x = y then 0 else -1 := rfl
theorem own_nat (x : Int32) : x.toNatClampNeg = x.toInt.toNat := rfl
theorem own_remI {x y : Int32} {k : Int} (hy : y.toInt = k) (hx : 0 ≤ x.toInt) : (x % y).toInt = x.toInt % k := by rw [Jvm.Kit.i32_rem_nonneg hx, hy]
theorem own_irem {g : JFrame} {target : State} (h : At T m c below) (hx : p.tables.exec = Jvm.exec) (hg : g.method = m) {x y : Int32} {rest : List Value} (hd : decode c.code g.pc = .ok (.irem, 1)) (hs : g.stack = .int y :: .int x :: rest) (hy : y ≠ 0)
    (hr : Steps p.tables e below (T.setTop { g with pc := g.pc + 1, stack := .int (x % y) :: rest }) target) : Steps p.tables e below (T.setTop g) target := by
  have q : x - x / y * y = x % y := irem_eq_mod x y
  exact XS.irem h hx hg hd hs hy (by rw [q]; exact hr)
/-! ## B. What the heap holds: a list of the objects and arrays that the law has made -/
abbrev Itm : Type := (String × List (String × String × Value)) ⊕ (FieldType × Int32 × List Value)
abbrev ob (a : Addr) (C : String) (fs : List (String × String × Value)) : Addr × Itm := (a, .inl (C, fs))
abbrev ar (a : Addr) (ty : FieldType) (n : Int32) (vs : List Value) : Addr × Itm := (a, .inr (ty, n, vs))
abbrev ari (a : Addr) (ty : FieldType) (n : Int32) (xs : List Int32) : Addr × Itm := ar a ty n (xs.map Value.int)
abbrev arj (a : Addr) (n : Int32) (xs : List Int64) : Addr × Itm := ar a .long n (xs.map Value.long)
def Obj (Z : State) (h : Heap) (a : Addr) (C : String) (fs : List (String × String × Value)) : Prop := Exa Z h a C ∧ (∀ f ∈ fs, Fld Z h a C f.1 f.2.1 f.2.2) ∧ (fs.map fun f => Jvm.RoadKit.slotOf Z C f.1 f.2.1).Nodup
def Ary (Z : State) (h : Heap) (a : Addr) (ty : FieldType) (n : Int32) (vs : List Value) : Prop := (∃ k, Arv Z h a k ty n vs (defaultValue ty) ∧ ∀ C, ty = .object C → Ovr Z k C) ∧ vs.length = n.toNatClampNeg
def itm (Z : State) (h : Heap) (x : Addr × Itm) : Prop := match x.2 with
  | .inl o => Obj Z h x.1 o.1 o.2
  | .inr o => Ary Z h x.1 o.1 o.2.1 o.2.2
/-- made by the law, or an array of no places (which nobody can write) -/
def Frs (n0 : Nat) (x : Addr × Itm) : Prop := n0 ≤ x.1 ∨ ∃ ty n, x.2 = .inr (ty, n, [])
def Hp (Z : State) (n0 : Nat) (h : Heap) (D : List (Addr × Itm)) : Prop := Old Z n0 h ∧ (∀ x ∈ D, Frs n0 x ∧ itm Z h x) ∧ (D.map (·.1)).Nodup
variable {fs : List (String × String × Value)} {vs : List Value} {ty : FieldType} {z : Int32} {x : Addr × Itm} {D : List (Addr × Itm)} {I J : Itm} {i j : Nat}
theorem map_same {α β : Type} (f : α → β) (L : List α) (i : Nat) (x y : α) (h : L[i]? = some x) (q : f y = f x) : (L.set i y).map f = L.map f := by
  apply List.ext_getElem?
  intro k
  rw [List.getElem?_map, List.getElem?_map, List.getElem?_set]
  by_cases e : i = k
  · subst e
    rw [if_pos rfl, if_pos (List.getElem?_eq_some_iff.mp h).1, h]; simp [q]
  · rw [if_neg e]
theorem Obj.lt (O : Obj Z h a C fs) : a < h.size := O.1.lt
theorem Ary.lt (O : Ary Z h a ty z vs) : a < h.size := by obtain ⟨⟨k, V, -⟩, -⟩ := O; exact V.lt
theorem itm.lt (O : itm Z h x) : x.1 < h.size := by
  obtain ⟨a, I⟩ := x
  cases I with
  | inl o => exact Obj.lt (show Obj Z h a o.1 o.2 from O)
  | inr o => exact Ary.lt (show Ary Z h a o.1 o.2.1 o.2.2 from O)
theorem itm.ext (E : Ext h h') (O : itm Z h x) : itm Z h' x := by
  obtain ⟨a, I⟩ := x
  cases I with
  | inl o =>
    have O' : Obj Z h a o.1 o.2 := O
    exact (show Obj Z h' a o.1 o.2 from ⟨O'.1.ext E, fun f hf => (O'.2.1 f hf).ext E, O'.2.2⟩)
  | inr o =>
    have O' : Ary Z h a o.1 o.2.1 o.2.2 := O
    obtain ⟨⟨k, V, u⟩, q⟩ := O'
    exact (show Ary Z h' a o.1 o.2.1 o.2.2 from ⟨⟨k, V.ext E, u⟩, q⟩)
theorem itm.other (W : Wr h h' b sl v) (q : x.1 ≠ b) (O : itm Z h x) : itm Z h' x := by
  obtain ⟨a, I⟩ := x
  cases I with
  | inl o =>
    have O' : Obj Z h a o.1 o.2 := O
    exact (show Obj Z h' a o.1 o.2 from ⟨O'.1.wr W, fun f hf => (O'.2.1 f hf).other W (Or.inl q), O'.2.2⟩)
  | inr o =>
    have O' : Ary Z h a o.1 o.2.1 o.2.2 := O
    obtain ⟨⟨k, V, u⟩, r⟩ := O'
    exact (show Ary Z h' a o.1 o.2.1 o.2.2 from ⟨⟨k, V.other W q, u⟩, r⟩)
theorem Obj.put (hj : fs[j]? = some (n, d, w)) (W : Wr h h' a (Jvm.RoadKit.slotOf Z C n d) v) (O : Obj Z h a C fs) : Obj Z h' a C (fs.set j (n, d, v)) := by
  have hjl : j < fs.length := (List.getElem?_eq_some_iff.mp hj).1
  refine ⟨O.1.wr W, fun f hf => ?_, ?_⟩
  · obtain ⟨i, hi⟩ := List.mem_iff_getElem?.mp hf
    by_cases e : j = i
    · subst e
      rw [List.getElem?_set_self hjl] at hi
      cases hi
      exact (O.2.1 _ (List.mem_of_getElem? hj)).same W
    · rw [List.getElem?_set_ne e] at hi
      refine (O.2.1 f (List.mem_of_getElem? hi)).other W (Or.inr fun q => e ?_)
      have hil : i < fs.length := (List.getElem?_eq_some_iff.mp hi).1
      refine ((List.getElem?_inj (i := i) (j := j) (by simpa using hil) O.2.2).mp ?_).symm
      rw [List.getElem?_map, List.getElem?_map, hi, hj]
      simp [q]
  · rw [map_same _ fs j (n, d, w) (n, d, v) hj rfl]; exact O.2.2
theorem Ary.put {k : Int32} (hk : ¬ k < 0) (hl : k.toNatClampNeg < vs.length) (hv : fits ty v = true) (W : Wr h h' a k.toNatClampNeg v) (O : Ary Z h a ty z vs) : Ary Z h' a ty z (vs.set k.toNatClampNeg v) := by
  obtain ⟨⟨kc, ⟨cl, A, q1, S, q3, H, G⟩, u⟩, q⟩ := O
  exact ⟨⟨kc, Arv.set A q1 S q3 H G hv W _ rfl hl, u⟩, by rw [List.length_set]; exact q⟩
theorem Frs.obj (q : Frs n0 (ob a C fs)) : n0 ≤ a := q.elim id fun ⟨_, _, r⟩ => by cases r
theorem Frs.arr {k : Nat} (q : Frs n0 (ar a ty z vs)) (hl : k < vs.length) : n0 ≤ a := q.elim id fun ⟨_, _, r⟩ => by cases r; cases hl
theorem Hp.get (H : Hp Z n0 h D) (hi : D[i]? = some x) : Frs n0 x ∧ itm Z h x := H.2.1 _ (List.mem_of_getElem? hi)
theorem Hp.obj (H : Hp Z n0 h D) (hi : D[i]? = some (ob a C fs)) : Obj Z h a C fs := (H.get hi).2
theorem Hp.ary (H : Hp Z n0 h D) (hi : D[i]? = some (ar a ty z vs)) : Ary Z h a ty z vs := (H.get hi).2
theorem Hp.fld (H : Hp Z n0 h D) (hi : D[i]? = some (ob a C fs)) (hj : fs[j]? = some (n, d, v)) : Fld Z h a C n d v := (H.obj hi).2.1 _ (List.mem_of_getElem? hj)
theorem Hp.exa (H : Hp Z n0 h D) (hi : D[i]? = some (ob a C fs)) : Exa Z h a C := (H.obj hi).1
theorem Hp.upd (H : Hp Z n0 h D) (hi : D[i]? = some (a, I)) (hfr : n0 ≤ a) (W : Wr h h' a sl v) (q : itm Z h (a, I) → itm Z h' (a, J)) : Hp Z n0 h' (D.set i (a, J)) := by
  have hil : i < D.length := (List.getElem?_eq_some_iff.mp hi).1
  refine ⟨H.1.wr W hfr, fun x hx => ?_, ?_⟩
  · obtain ⟨k, hk⟩ := List.mem_iff_getElem?.mp hx
    by_cases e : i = k
    · subst e
      rw [List.getElem?_set_self hil] at hk
      cases hk
      exact ⟨Or.inl hfr, q (H.get hi).2⟩
    · rw [List.getElem?_set_ne e] at hk
      refine ⟨(H.get hk).1, (H.get hk).2.other W fun r => e ?_⟩
      refine (List.getElem?_inj (i := i) (j := k) (by simpa using hil) H.2.2).mp ?_
      rw [List.getElem?_map, List.getElem?_map, hi, hk]
      simp [r]
  · rw [map_same _ D i (a, I) (a, J) hi rfl]; exact H.2.2
theorem Hp.new (H : Hp Z n0 h D) (E : Ext h h') (q : itm Z h' (h.size, I)) : Hp Z n0 h' (D ++ [(h.size, I)]) := by
  have hsz : n0 ≤ h.size := by rw [← H.1.1]; exact H.1.2.1
  refine ⟨H.1.ext E, fun x hx => ?_, ?_⟩
  · rcases List.mem_append.mp hx with r | r
    · exact ⟨(H.2.1 x r).1, (H.2.1 x r).2.ext E⟩
    · cases List.mem_singleton.mp r; exact ⟨Or.inl hsz, q⟩
  · rw [List.map_append, List.nodup_append]
    refine ⟨H.2.2, by simp, fun y hy z hz => ?_⟩
    obtain ⟨x, hx, rfl⟩ := List.mem_map.mp hy
    have : z = h.size := by simpa using hz
    rw [this]
    exact Nat.ne_of_lt (H.2.1 x hx).2.lt
theorem Hp.nil (Z : State) : Hp Z Z.heap.size Z.heap [] := ⟨Old.start Z, (fun _ q => by cases q), List.nodup_nil⟩
theorem Hp.ext (H : Hp Z n0 h D) (E : Ext h h') : Hp Z n0 h' D := ⟨H.1.ext E, fun x hx => ⟨(H.2.1 x hx).1, (H.2.1 x hx).2.ext E⟩, H.2.2⟩
/-- a walk stands at T, has made so many cells and slots, has written nothing old, and its heap holds D -/
def On (p : Program) (l : Launch) (e : Env) (R : Room) (s : State) (m : MethodId) (args : Array Value) (below : List Frame) (meth : Method) (c : Code) (Z : State) (n0 : Nat) (T : State) (cells slots : Nat) (D : List (Addr × Itm)) : Prop := ∃ locs, Stand p l e R s m args below meth c T locs cells slots ∧ Fr n0 locs ∧ Hp Z n0 T.heap D
theorem On.here (Y : On p l e R s m args below meth c Z n0 T cells slots D) : At T m c below := by obtain ⟨_, X, -⟩ := Y; exact X.here
/-- what is known of the heap may be forgotten -/
theorem On.weak {D D' : List (Addr × Itm)} (Y : On p l e R s m args below meth c Z n0 T cells slots D) (q : D'.Sublist D) : On p l e R s m args below meth c Z n0 T cells slots D' := by
  obtain ⟨locs, X, N, H⟩ := Y
  exact ⟨locs, X, N, H.1, fun x hx => H.2.1 x (q.subset hx), H.2.2.sublist (q.map _)⟩
/-! ## C. One law a step -/
theorem On.getf (Y : On p l e R s m args below meth c Z n0 T cells slots D) (hx : p.tables.exec = Jvm.exec) (hZ : Z.Warmed39 s.vm) {own : String} {index : Nat} (hown : s.vm.findClass own = some m.cls) (w : (Cond.fieldLink own index C n d).before a0 Z = true) (hi : D[i]? = some (ob a C fs)) (hj : fs[j]? = some (n, d, v))
    {g : JFrame} (hg : g.method = m) {rest : List Value} (hs : g.stack = .ref a :: rest) (hd : decode c.code g.pc = .ok (.getfield index, 3)) (k : ∀ T', On p l e R s m args below meth c Z n0 T' cells slots D → Rn p e below F T' { g with pc := g.pc + 3, stack := v :: rest }) : Rn p e below F T g := by
  obtain ⟨locs, X, N, H⟩ := Y
  obtain ⟨T', X', e', st⟩ := getF X hx hZ hown (host := "") (Or.inl w) Via.refl rfl (H.fld hi hj) hg hs hd
  exact Rn.go st (k T' ⟨locs, X', N, by rw [e']; exact H⟩)
theorem On.putf (Y : On p l e R s m args below meth c Z n0 T cells slots D) (hx : p.tables.exec = Jvm.exec) (hZ : Z.Warmed39 s.vm) {own : String} {index kk : Nat} (hown : s.vm.findClass own = some m.cls) (wl : (Cond.fieldLink own index C n d).before a0 Z = true) (hi : D[i]? = some (ob a C fs)) (hj : fs[j]? = some (n, d, w))
    (L : (Cond.lays C C n d).before a0 Z = true ∨ ((Cond.laysFinal C C n d).before a0 Z = true ∧ own = C ∧ meth.name = "<init>")) (wi : (Cond.instantiable C kk).before a0 Z = true) (hty : parseFieldDescriptor d = some ty) {v v' : Value} (hn : narrow ty v = v') (hf : fits ty v' = true)
    {g : JFrame} (hg : g.method = m) {rest : List Value} (hs : g.stack = v :: .ref a :: rest) (hd : decode c.code g.pc = .ok (.putfield index, 3)) (k : ∀ T', On p l e R s m args below meth c Z n0 T' cells slots (D.set i (ob a C (fs.set j (n, d, v')))) → Rn p e below F T' { g with pc := g.pc + 3, stack := rest }) : Rn p e below F T g := by
  obtain ⟨locs, X, N, H⟩ := Y
  obtain ⟨T', h', X', e', W, st⟩ := putFN X hx hZ hown wl Via.refl rfl (H.fld hi hj) (H.exa hi) L wi hty hn hf hg hs hd
  have hfr := (H.get hi).1.obj
  refine Rn.go st (k T' ⟨_, X', Fr.snoc X' N hfr, ?_⟩)
  rw [e']
  exact H.upd hi hfr W fun O => Obj.put hj W O
theorem On.newo (Y : On p l e R s m args below meth c Z n0 T cells slots D) (hx : p.tables.exec = Jvm.exec) (hZ : Z.Warmed39 s.vm) {own : String} {index k : Nat} (hown : s.vm.findClass own = some m.cls) (w : (Cond.classLink own index C).before a0 Z = true) (wi : (Cond.instantiable C k).before a0 Z = true) (wz : (Cond.initialized C).before a0 Z = true)
    (fs : List (String × String × Value)) (hl : ∀ f ∈ fs, Laid Z a0 C C f.1 f.2.1 ∧ ∃ ty, parseFieldDescriptor f.2.1 = some ty ∧ f.2.2 = defaultValue ty) (hn : (fs.map (·.1)).Nodup)
    {g : JFrame} (hg : g.method = m) (hd : decode c.code g.pc = .ok (.new index, 3)) (hc : cells + 1 ≤ R.cells) (hs : slots + k ≤ R.slots)
    (kk : ∀ T' a, On p l e R s m args below meth c Z n0 T' (cells + 1) (slots + k) (D ++ [ob a C fs]) → Rn p e below F T' { g with pc := g.pc + 3, stack := .ref a :: g.stack }) : Rn p e below F T g := by
  obtain ⟨locs, X, N, H⟩ := Y
  obtain ⟨T', h', X', e', E, A, Df, -, st⟩ := newO X hx hZ hown w wi wz rfl hg hd hc hs
  refine Rn.go st (kk T' _ ⟨_, X', N, ?_⟩)
  rw [e']
  refine H.new E (show Obj Z h' _ C fs from ⟨A, fun f hf => ?_, ?_⟩)
  · obtain ⟨L, ty, h1, h2⟩ := hl f hf
    rw [h2]; exact Df L h1
  · rw [List.nodup_iff_pairwise_ne, List.pairwise_map] at hn ⊢
    refine List.Pairwise.imp_of_mem (fun {x y} hx hy q => ?_) hn
    obtain ⟨L, ty, h1, -⟩ := hl x hx
    obtain ⟨L', ty', h1', -⟩ := hl y hy
    exact slot_ne L L' q h1 h1'
theorem On.newp (Y : On p l e R s m args below meth c Z n0 T cells slots D) (hx : p.tables.exec = Jvm.exec) (hZ : Z.Warmed39 s.vm) {aty : ArrayType} (w : (Cond.arrayClass (newarray.typeOf aty)).before a0 Z = true) {g : JFrame} (hg : g.method = m) (hd : decode c.code g.pc = .ok (.newarray aty, 2)) {z : Int32} {rest : List Value} (hs : g.stack = .int z :: rest)
    (hn : ¬ z < 0) {cap N : Nat} (hN : z.toNatClampNeg = N) (hcap : N ≤ cap) (hb : cap * 8 ≤ 536870912) (hc : cells + 1 ≤ R.cells) (hl : slots + cap ≤ R.slots) {dv : Value} (hdv : defaultValue (newarray.typeOf aty) = dv)
    (k : ∀ T' a, On p l e R s m args below meth c Z n0 T' (cells + 1) (slots + cap) (D ++ [ar a (newarray.typeOf aty) z (List.replicate N dv)]) → Rn p e below F T' { g with pc := g.pc + 2, stack := .ref a :: rest }) : Rn p e below F T g := by
  obtain ⟨locs, X, Nl, H⟩ := Y
  subst hN hdv
  obtain ⟨T', h', cA, X', e', E, A, st⟩ := newP X hx hZ w rfl hg hd hs hn hcap hb hc hl
  refine Rn.go st (k T' _ ⟨_, X', Nl, ?_⟩)
  rw [e']
  exact H.new E (show Ary Z h' _ _ z _ from ⟨⟨_, (Arv.new A hn).pad (pad_rep [] _ _), fun C hC => by cases aty <;> cases hC⟩, by simp⟩)
theorem On.newr (Y : On p l e R s m args below meth c Z n0 T cells slots D) (hx : p.tables.exec = Jvm.exec) (hZ : Z.Warmed39 s.vm) {own : String} {index : Nat} (hown : s.vm.findClass own = some m.cls) (w1 : (Cond.classLink own index C).before a0 Z = true) (w2 : (Cond.arrayOver (.object C)).before a0 Z = true) {g : JFrame} (hg : g.method = m) (hd : decode c.code g.pc = .ok (.anewarray index, 3)) {z : Int32} {rest : List Value} (hs : g.stack = .int z :: rest)
    (hn : ¬ z < 0) {cap N : Nat} (hN : z.toNatClampNeg = N) (hcap : N ≤ cap) (hb : cap * 8 ≤ 536870912) (hc : cells + 1 ≤ R.cells) (hl : slots + cap ≤ R.slots)
    (k : ∀ T' a, On p l e R s m args below meth c Z n0 T' (cells + 1) (slots + cap) (D ++ [ar a (.object C) z (List.replicate N .null)]) → Rn p e below F T' { g with pc := g.pc + 3, stack := .ref a :: rest }) : Rn p e below F T g := by
  obtain ⟨locs, X, Nl, H⟩ := Y
  subst hN
  obtain ⟨T', h', cA, X', e', E, A, O, st⟩ := newR X hx hZ hown w1 w2 rfl hg hd hs hn hcap hb hc hl
  refine Rn.go st (k T' _ ⟨_, X', Nl, ?_⟩)
  rw [e']
  exact H.new E (show Ary Z h' _ _ z _ from ⟨⟨_, (Arv.new A hn).pad (pad_rep [] _ _), fun C' hC => by cases hC; exact O⟩, by simp⟩)
theorem On.isto (Y : On p l e R s m args below meth c Z n0 T cells slots D) (hx : p.tables.exec = Jvm.exec) (hZ : Z.Warmed39 s.vm) {xs : List Int32} (hi : D[i]? = some (ari a .int z xs)) {k x : Int32} (hk : ¬ k < 0) (hl : k.toNatClampNeg < xs.length)
    {g : JFrame} (hg : g.method = m) {rest : List Value} (hs : g.stack = .int x :: .int k :: .ref a :: rest) (hd : decode c.code g.pc = .ok (.iastore, 1))
    (kk : ∀ T', On p l e R s m args below meth c Z n0 T' cells slots (D.set i (ari a .int z (xs.set k.toNatClampNeg x))) → Rn p e below F T' { g with pc := g.pc + 1, stack := rest }) : Rn p e below F T g := by
  obtain ⟨locs, X, N, H⟩ := Y
  obtain ⟨⟨kc, ⟨cl, A, q1, S, q3, Hh, G⟩, -⟩, q⟩ := H.ary hi
  have hl' : k.toNatClampNeg < (xs.map Value.int).length := by simpa using hl
  obtain ⟨T', h', X', e', W, st⟩ := stI X hx hZ rfl A (fun r => r.elim hk fun r => absurd hl' (by rw [q, ← S]; exact Nat.not_lt.mpr r)) hg hs hd
  have hfr := (H.get hi).1.arr hl'
  refine Rn.go st (kk T' ⟨_, X', Fr.snoc X' N hfr, ?_⟩)
  rw [e']
  refine H.upd hi hfr W fun O => ?_
  have := Ary.put hk hl' rfl W O
  rw [← List.map_set] at this
  exact this
theorem On.bsto (Y : On p l e R s m args below meth c Z n0 T cells slots D) (hx : p.tables.exec = Jvm.exec) (hZ : Z.Warmed39 s.vm) {xs : List Int32} (hi : D[i]? = some (ari a .byte z xs)) {k x : Int32} (hk : ¬ k < 0) (hl : k.toNatClampNeg < xs.length)
    {g : JFrame} (hg : g.method = m) {rest : List Value} (hs : g.stack = .int x :: .int k :: .ref a :: rest) (hd : decode c.code g.pc = .ok (.bastore, 1))
    (kk : ∀ T', On p l e R s m args below meth c Z n0 T' cells slots (D.set i (ari a .byte z (xs.set k.toNatClampNeg x.toInt8.toInt32))) → Rn p e below F T' { g with pc := g.pc + 1, stack := rest }) : Rn p e below F T g := by
  obtain ⟨locs, X, N, H⟩ := Y
  obtain ⟨⟨kc, ⟨cl, A, q1, S, q3, Hh, G⟩, -⟩, q⟩ := H.ary hi
  have hl' : k.toNatClampNeg < (xs.map Value.int).length := by simpa using hl
  obtain ⟨T', h', X', e', W, st⟩ := stB X hx hZ rfl A (fun r => r.elim hk fun r => absurd hl' (by rw [q, ← S]; exact Nat.not_lt.mpr r)) hg hs hd
  have hfr := (H.get hi).1.arr hl'
  refine Rn.go st (kk T' ⟨_, X', Fr.snoc X' N hfr, ?_⟩)
  rw [e']
  refine H.upd hi hfr W fun O => ?_
  have := Ary.put hk hl' (fits_nar_byte _) W O
  rw [← List.map_set] at this
  exact this
theorem On.zsto (Y : On p l e R s m args below meth c Z n0 T cells slots D) (hx : p.tables.exec = Jvm.exec) (hZ : Z.Warmed39 s.vm) {xs : List Int32} (hi : D[i]? = some (ari a .boolean z xs)) {k x : Int32} (hk : ¬ k < 0) (hl : k.toNatClampNeg < xs.length)
    {g : JFrame} (hg : g.method = m) {rest : List Value} (hs : g.stack = .int x :: .int k :: .ref a :: rest) (hd : decode c.code g.pc = .ok (.bastore, 1))
    (kk : ∀ T', On p l e R s m args below meth c Z n0 T' cells slots (D.set i (ari a .boolean z (xs.set k.toNatClampNeg (x &&& 1)))) → Rn p e below F T' { g with pc := g.pc + 1, stack := rest }) : Rn p e below F T g := by
  obtain ⟨locs, X, N, H⟩ := Y
  obtain ⟨⟨kc, ⟨cl, A, q1, S, q3, Hh, G⟩, -⟩, q⟩ := H.ary hi
  have hl' : k.toNatClampNeg < (xs.map Value.int).length := by simpa using hl
  obtain ⟨T', h', X', e', W, st⟩ := stZ X hx hZ rfl A (fun r => r.elim hk fun r => absurd hl' (by rw [q, ← S]; exact Nat.not_lt.mpr r)) hg hs hd
  have hfr := (H.get hi).1.arr hl'
  refine Rn.go st (kk T' ⟨_, X', Fr.snoc X' N hfr, ?_⟩)
  rw [e']
  refine H.upd hi hfr W fun O => ?_
  have := Ary.put hk hl' (fits_nar_bool _) W O
  rw [← List.map_set] at this
  exact this
theorem On.jsto (Y : On p l e R s m args below meth c Z n0 T cells slots D) (hx : p.tables.exec = Jvm.exec) (hZ : Z.Warmed39 s.vm) {xs : List Int64} (hi : D[i]? = some (arj a z xs)) {k : Int32} {x : Int64} (hk : ¬ k < 0) (hl : k.toNatClampNeg < xs.length)
    {g : JFrame} (hg : g.method = m) {rest : List Value} (hs : g.stack = .long x :: .int k :: .ref a :: rest) (hd : decode c.code g.pc = .ok (.lastore, 1))
    (kk : ∀ T', On p l e R s m args below meth c Z n0 T' cells slots (D.set i (arj a z (xs.set k.toNatClampNeg x))) → Rn p e below F T' { g with pc := g.pc + 1, stack := rest }) : Rn p e below F T g := by
  obtain ⟨locs, X, N, H⟩ := Y
  obtain ⟨⟨kc, ⟨cl, A, q1, S, q3, Hh, G⟩, -⟩, q⟩ := H.ary hi
  have hl' : k.toNatClampNeg < (xs.map Value.long).length := by simpa using hl
  obtain ⟨T', h', X', e', W, st⟩ := stJ X hx hZ rfl A (fun r => r.elim hk fun r => absurd hl' (by rw [q, ← S]; exact Nat.not_lt.mpr r)) hg hs hd
  have hfr := (H.get hi).1.arr hl'
  refine Rn.go st (kk T' ⟨_, X', Fr.snoc X' N hfr, ?_⟩)
  rw [e']
  refine H.upd hi hfr W fun O => ?_
  have := Ary.put hk hl' rfl W O
  rw [← List.map_set] at this
  exact this
/-- the cell of an array, opened for a load -/
theorem Ary.at (O : Ary Z h a ty z vs) {k : Int32} (hk : ¬ k < 0) (hv : vs[k.toNatClampNeg]? = some v) : ∃ cl, Arr Z h a cl ty ∧ ¬ (k < 0 ∨ cl.slots.size ≤ k.toNatClampNeg) ∧ cl.slots[k.toNatClampNeg]? = some v := by
  obtain ⟨⟨kc, ⟨cl, A, q1, S, q3, H, G⟩, -⟩, q⟩ := O
  have hl := (List.getElem?_eq_some_iff.mp hv).1
  have hl2 : k.toNatClampNeg < cl.slots.size := by rw [S, ← q]; exact hl
  exact ⟨cl, A, fun r => r.elim hk (Nat.not_le.mpr hl2), by rw [H _ hl2, List.getD_eq_getElem?_getD, hv]; rfl⟩
theorem On.ild (Y : On p l e R s m args below meth c Z n0 T cells slots D) (hx : p.tables.exec = Jvm.exec) (hZ : Z.Warmed39 s.vm) {xs : List Int32} (hi : D[i]? = some (ari a .int z xs)) {k x : Int32} (hk : ¬ k < 0) (hv : xs[k.toNatClampNeg]? = some x)
    {g : JFrame} (hg : g.method = m) {rest : List Value} (hs : g.stack = .int k :: .ref a :: rest) (hd : decode c.code g.pc = .ok (.iaload, 1))
    (kk : Rn p e below F T { g with pc := g.pc + 1, stack := .int x :: rest }) : Rn p e below F T g := by
  obtain ⟨locs, X, N, H⟩ := Y
  obtain ⟨cl, A, h1, h2⟩ := (H.ary hi).at (v := .int x) hk (by simp [List.getElem?_map, hv])
  exact Rn.go (fun t kt => X.iaload hx A.1 (State.isArrayOf_alike hZ.alike A.2.1) A.2.2 h1 h2 hg hs hd t kt) kk
theorem On.bld (Y : On p l e R s m args below meth c Z n0 T cells slots D) (hx : p.tables.exec = Jvm.exec) (hZ : Z.Warmed39 s.vm) {xs : List Int32} (hi : D[i]? = some (ari a .byte z xs)) {k x : Int32} (hk : ¬ k < 0) (hv : xs[k.toNatClampNeg]? = some x)
    {g : JFrame} (hg : g.method = m) {rest : List Value} (hs : g.stack = .int k :: .ref a :: rest) (hd : decode c.code g.pc = .ok (.baload, 1))
    (kk : Rn p e below F T { g with pc := g.pc + 1, stack := .int x :: rest }) : Rn p e below F T g := by
  obtain ⟨locs, X, N, H⟩ := Y
  obtain ⟨cl, A, h1, h2⟩ := (H.ary hi).at (v := .int x) hk (by simp [List.getElem?_map, hv])
  exact Rn.go (fun t kt => X.baloadBytes hx A.1 (State.isArrayOf_alike hZ.alike A.2.1) A.2.2 h1 h2 hg hs hd t kt) kk
theorem On.zld (Y : On p l e R s m args below meth c Z n0 T cells slots D) (hx : p.tables.exec = Jvm.exec) (hZ : Z.Warmed39 s.vm) {xs : List Int32} (hi : D[i]? = some (ari a .boolean z xs)) {k x : Int32} (hk : ¬ k < 0) (hv : xs[k.toNatClampNeg]? = some x)
    {g : JFrame} (hg : g.method = m) {rest : List Value} (hs : g.stack = .int k :: .ref a :: rest) (hd : decode c.code g.pc = .ok (.baload, 1))
    (kk : Rn p e below F T { g with pc := g.pc + 1, stack := .int x :: rest }) : Rn p e below F T g := by
  obtain ⟨locs, X, N, H⟩ := Y
  obtain ⟨cl, A, h1, h2⟩ := (H.ary hi).at (v := .int x) hk (by simp [List.getElem?_map, hv])
  exact Rn.go (fun t kt => X.baloadBooleans hx A.1 (State.isArrayOf_alike hZ.alike A.2.1) A.2.2 h1 h2 hg hs hd t kt) kk
theorem On.jld (Y : On p l e R s m args below meth c Z n0 T cells slots D) (hx : p.tables.exec = Jvm.exec) (hZ : Z.Warmed39 s.vm) {xs : List Int64} (hi : D[i]? = some (arj a z xs)) {k : Int32} {x : Int64} (hk : ¬ k < 0) (hv : xs[k.toNatClampNeg]? = some x)
    {g : JFrame} (hg : g.method = m) {rest : List Value} (hs : g.stack = .int k :: .ref a :: rest) (hd : decode c.code g.pc = .ok (.laload, 1))
    (kk : Rn p e below F T { g with pc := g.pc + 1, stack := .long x :: rest }) : Rn p e below F T g := by
  obtain ⟨locs, X, N, H⟩ := Y
  obtain ⟨cl, A, h1, h2⟩ := (H.ary hi).at (v := .long x) hk (by simp [List.getElem?_map, hv])
  exact Rn.go (fun t kt => X.laload hx A.1 (State.isArrayOf_alike hZ.alike A.2.1) A.2.2 h1 h2 hg hs hd t kt) kk
theorem On.alen (Y : On p l e R s m args below meth c Z n0 T cells slots D) (hx : p.tables.exec = Jvm.exec) (hZ : Z.Warmed39 s.vm) (hi : D[i]? = some (ar a ty z vs))
    {g : JFrame} (hg : g.method = m) {rest : List Value} (hs : g.stack = .ref a :: rest) (hd : decode c.code g.pc = .ok (.arraylength, 1))
    (kk : Rn p e below F T { g with pc := g.pc + 1, stack := .int z :: rest }) : Rn p e below F T g := by
  obtain ⟨locs, X, N, H⟩ := Y
  obtain ⟨⟨kc, ⟨cl, A, q1, S, q3, Hh, G⟩, -⟩, q⟩ := H.ary hi
  refine Rn.go (fun t kt => X.arraylength hx A.1 (State.isArrayOf_alike hZ.alike A.2.1) hg hs hd t kt) ?_
  rw [len_of S q3]; exact kk
theorem On.ldcI (Y : On p l e R s m args below meth c Z n0 T cells slots D) (hx : p.tables.exec = Jvm.exec) (hZ : Z.Warmed39 s.vm) {own : String} {index : Nat} {x : Int32} (hown : s.vm.findClass own = some m.cls) (w : (Cond.constant own index x).before a0 Z = true)
    {g : JFrame} (hg : g.method = m) (hd : decode c.code g.pc = .ok (.ldc index, 2)) (kk : Rn p e below F T { g with pc := g.pc + 2, stack := .int x :: g.stack }) : Rn p e below F T g := by
  obtain ⟨locs, X, N, H⟩ := Y
  exact Rn.go (X.ldcInt hx hown (mvT hZ w) hg hd) kk
theorem On.ldcJ (Y : On p l e R s m args below meth c Z n0 T cells slots D) (hx : p.tables.exec = Jvm.exec) (hZ : Z.Warmed39 s.vm) {own : String} {index : Nat} {x : Int64} (hown : s.vm.findClass own = some m.cls) (w : (Cond.constantLong own index x).before a0 Z = true)
    {g : JFrame} (hg : g.method = m) (hd : decode c.code g.pc = .ok (.ldc2_w index, 3)) (kk : Rn p e below F T { g with pc := g.pc + 3, stack := .long x :: g.stack }) : Rn p e below F T g := by
  obtain ⟨locs, X, N, H⟩ := Y
  exact Rn.go (X.ldc2Long hx hown (mvT hZ w) hg hd) kk
theorem On.sldcI (Y : On p l e R s m args below meth c Z n0 T cells slots D) (hx : p.tables.exec = Jvm.exec) (hZ : Z.Warmed39 s.vm) {own : String} {index : Nat} {x : Int32} (hown : s.vm.findClass own = some m.cls) (w : (Cond.constant own index x).before a0 Z = true)
    {g : JFrame} (hg : g.method = m) (hd : decode c.code g.pc = .ok (.ldc index, 2)) : ∀ t, Steps p.tables e below (T.setTop { g with pc := g.pc + 2, stack := .int x :: g.stack }) t → Steps p.tables e below (T.setTop g) t := by
  obtain ⟨locs, X, N, H⟩ := Y
  exact X.ldcInt hx hown (mvT hZ w) hg hd
theorem On.sldcJ (Y : On p l e R s m args below meth c Z n0 T cells slots D) (hx : p.tables.exec = Jvm.exec) (hZ : Z.Warmed39 s.vm) {own : String} {index : Nat} {x : Int64} (hown : s.vm.findClass own = some m.cls) (w : (Cond.constantLong own index x).before a0 Z = true)
    {g : JFrame} (hg : g.method = m) (hd : decode c.code g.pc = .ok (.ldc2_w index, 3)) : ∀ t, Steps p.tables e below (T.setTop { g with pc := g.pc + 3, stack := .long x :: g.stack }) t → Steps p.tables e below (T.setTop g) t := by
  obtain ⟨locs, X, N, H⟩ := Y
  exact X.ldc2Long hx hown (mvT hZ w) hg hd
theorem On.ini (Y : On p l e R s m args below meth c Z n0 T cells slots D) (hx : p.tables.exec = Jvm.exec) (hZ : Z.Warmed39 s.vm) {own : String} {idx : Nat} (hown : s.vm.findClass own = some m.cls) (w1 : (Cond.methodLink own idx Lib.objectInit).before a0 Z = true) (w2 : (Cond.instanceMethod Lib.objectInit).before a0 Z = true)
    (w3 : (Cond.code Lib.objectInit ⟨#[0xb1]⟩ 1 none).before a0 Z = true) {g : JFrame} (hg : g.method = m) (hsize : g.locals.size = c.maxLocals) {a : Addr} {rest : List Value} (hs : g.stack = .ref a :: rest) (hd : decode c.code g.pc = .ok (.invokespecial idx, 3))
    (hf : 1 ≤ R.frames) {W : Nat} (hW : 2 * g.monitorRoom + (rest.map fun v => v.category).sum ≤ W) (hl : W + 12 ≤ R.locals)
    (k : ∀ T', On p l e R s m args below meth c Z n0 T' cells slots D → Rn p e below F T' { g with pc := g.pc + 3, stack := rest }) : Rn p e below F T g := by
  obtain ⟨locs, X, N, H⟩ := Y
  obtain ⟨T', X', e', st⟩ := initO X hx hZ hown w1 w2 w3 rfl hg hsize hs hd hf hW hl
  exact Rn.go st (k T' ⟨locs, X', N, by rw [e']; exact H⟩)
/-! ## D. A method's contract: from a heap that holds D, with these arguments, it returns v and leaves a heap that holds D', where P v D' -/
def QP (Z : State) (n0 : Nat) (P : Option Value → List (Addr × Itm) → Prop) (v : Option Value) (h : Heap) (L : List Loc) : Prop := ∃ D', P v D' ∧ Fr n0 L ∧ Hp Z n0 h D'
def Con (l : Launch) (Z : State) (n0 : Nat) (y : MethodName) (bytes : ByteArray) (maxL : Nat) (ret : Option FieldType) (rm : Room) (as : Array Value) (D : List (Addr × Itm)) (P : Option Value → List (Addr × Itm) → Prop) : Prop :=
  ∀ (ws : List Cond) (h0 : Heap), Hp Z n0 h0 D → MetFree l y (head1 (Cond.code y bytes maxL ret :: ws) rm) (fun a U => a = as ∧ Z.Warmed39 U.vm ∧ U.heap = h0) (fun _ _ _ _ _ => True) (fun _ U o U' => ∃ v L, o = .returned v ∧ QP Z n0 P v U'.heap L ∧ FrameEnd U o U' L rm.cells rm.slots)
def Cx (p : Program) (s : State) (m : MethodId) (meth : Method) (c : Code) (Z : State) (y : MethodName) (bytes : ByteArray) (maxL : Nat) (ret : Option FieldType) : Prop :=
  p.tables.exec = Jvm.exec ∧ c.code = bytes ∧ c.maxLocals = maxL ∧ s.vm.findClass y.cls = some m.cls ∧ meth.name = y.name ∧ meth.sig.returnType = ret ∧ meth.locks = false ∧ Z.Warmed39 s.vm
def Fi (Z : State) (n0 : Nat) (below : List Frame) (s : State) (kc ks : Nat) (P : Option Value → List (Addr × Itm) → Prop) (U : State) : Prop := ∃ o, U.status = .running ∧ Ended U below o ∧ ∃ v L, o = .returned v ∧ QP Z n0 P v U.heap L ∧ FrameEnd s o U L kc ks
variable {y : MethodName} {bytes : ByteArray} {maxL : Nat} {ret : Option FieldType} {rm : Room} {as : Array Value} {P : Option Value → List (Addr × Itm) → Prop} {kc ks : Nat}
theorem Con.of (hp : plainFor y = true) (body : ∀ {p : Program} {e : Env} {s : State} {m : MethodId} {below : List Frame} {meth : Method} {c : Code} {T : State}, Cx p s m meth c Z y bytes maxL ret → On p l e rm s m as below meth c Z n0 T 0 0 D → Rn p e below (Fi Z n0 below s rm.cells rm.slots P) T (entryFrame m as maxL)) :
    Con l Z n0 y bytes maxL ret rm as D P := by
  intro ws h0 H
  refine MetFree.of_bodySF hp hisR ?_
  intro p e s m args below meth c s₁ Bd hml0 hP hK
  obtain ⟨rfl, hZ, hh⟩ := hP
  have X0 : Stand p l e rm s m args below meth c s₁ [] 0 0 := Stand.of_body Bd
  have e0 : s₁.heap = h0 := by rw [← hh, Bd.state]; rfl
  obtain ⟨U, h1, o, h2, h3, h4⟩ := body ⟨Bd.exec, Bd.bytes, hml0, findClass_of_methodNamed Bd.named, (name_of_methodNamed Bd.named Bd.method).1, Bd.returns, Bd.notSynchronized, hZ⟩ ⟨[], X0, Fr.nil n0, by rw [e0]; exact H⟩
  exact ⟨U, o, h1, h2, h3, h4⟩
theorem On.out (Y : On p l e R s m args below meth c Z n0 T cells slots D) {v : Option Value} (hv : meth.sig.returnType = none → v = none) (hlk : meth.locks = false) (hc : cells ≤ kc) (hs : slots ≤ ks) (hP : P v D)
    (st : ∀ locs fs, Stand p l e R s m args below meth c T locs cells slots → (∀ (f : JFrame) (acts : List Action), f.method = m → f.locked = none → f.entered = [] → (doReturn e (T.setTop f) acts v).1 = T.setFrames fs) → Steps p.tables e below (T.setTop g) (T.setFrames fs)) : Rn p e below (Fi Z n0 below s kc ks P) T g := by
  obtain ⟨locs, X, N, H⟩ := Y
  obtain ⟨fs, hr, hrun, hended, hW, hsame⟩ := X.leave hv hlk
  exact ⟨_, st locs fs X hr, _, hrun, hended, _, _, rfl, ⟨D, hP, N, H⟩, ⟨_, rfl⟩, hW, hsame.mono hc hs⟩
theorem On.retv (Y : On p l e R s m args below meth c Z n0 T cells slots D) (hx : p.tables.exec = Jvm.exec) (hret : meth.sig.returnType = none) (hlk : meth.locks = false) {pc : Nat} {Ls : Array Slot} (hd : decode c.code pc = .ok (.return_, 1)) (hc : cells ≤ kc) (hs : slots ≤ ks) (hP : P none D) : Rn p e below (Fi Z n0 below s kc ks P) T (mkF m pc Ls []) :=
  Y.out (fun _ => rfl) hlk hc hs hP fun locs fs X hr => X.returnOut hx hret hd hr
theorem On.reti (Y : On p l e R s m args below meth c Z n0 T cells slots D) (hx : p.tables.exec = Jvm.exec) (hret : meth.sig.returnType = some .int) (hlk : meth.locks = false) {pc : Nat} {Ls : Array Slot} {z : Int32} {rest : List Value} (hd : decode c.code pc = .ok (.ireturn, 1)) (hc : cells ≤ kc) (hs : slots ≤ ks) (hP : P (some (.int z)) D) : Rn p e below (Fi Z n0 below s kc ks P) T (mkF m pc Ls (.int z :: rest)) :=
  Y.out (fun q => by rw [hret] at q; cases q) hlk hc hs hP fun locs fs X hr => retOut X hx hret rfl (Or.inl ⟨rfl, Or.inl rfl, _, rfl⟩) hd hr
theorem On.retn (Y : On p l e R s m args below meth c Z n0 T cells slots D) (hx : p.tables.exec = Jvm.exec) {t : FieldType} (hret : meth.sig.returnType = some t) (ht : t = .boolean ∨ t = .byte ∨ t = .char ∨ t = .short) (hlk : meth.locks = false) {pc : Nat} {Ls : Array Slot} {z z' : Int32} (hz : nar t z = z') {rest : List Value} (hd : decode c.code pc = .ok (.ireturn, 1)) (hc : cells ≤ kc) (hs : slots ≤ ks) (hP : P (some (.int z')) D) : Rn p e below (Fi Z n0 below s kc ks P) T (mkF m pc Ls (.int z :: rest)) := by
  subst hz
  exact Y.out (fun q => by rw [hret] at q; cases q) hlk hc hs hP fun locs fs X hr => retN X hx hret ht hd hr
theorem On.retj (Y : On p l e R s m args below meth c Z n0 T cells slots D) (hx : p.tables.exec = Jvm.exec) (hret : meth.sig.returnType = some .long) (hlk : meth.locks = false) {pc : Nat} {Ls : Array Slot} {z : Int64} {rest : List Value} (hd : decode c.code pc = .ok (.lreturn, 1)) (hc : cells ≤ kc) (hs : slots ≤ ks) (hP : P (some (.long z)) D) : Rn p e below (Fi Z n0 below s kc ks P) T (mkF m pc Ls (.long z :: rest)) :=
  Y.out (fun q => by rw [hret] at q; cases q) hlk hc hs hP fun locs fs X hr => retOut X hx hret rfl (Or.inr (Or.inl ⟨rfl, rfl, _, rfl⟩)) hd hr
theorem On.reta (Y : On p l e R s m args below meth c Z n0 T cells slots D) (hx : p.tables.exec = Jvm.exec) {t : FieldType} (hret : meth.sig.returnType = some t) (ht : t.isReference = true) (hlk : meth.locks = false) {pc : Nat} {Ls : Array Slot} {z : Value} (hz : z.isRef = true) (hn : narrow t z = z) {rest : List Value} (hd : decode c.code pc = .ok (.areturn, 1)) (hc : cells ≤ kc) (hs : slots ≤ ks) (hP : P (some z) D) : Rn p e below (Fi Z n0 below s kc ks P) T (mkF m pc Ls (z :: rest)) :=
  Y.out (fun q => by rw [hret] at q; cases q) hlk hc hs hP fun locs fs X hr => retOut X hx hret hn (Or.inr (Or.inr (Or.inr (Or.inr ⟨rfl, ht, hz⟩)))) hd hr
/-! ## E. Calls -/
theorem On.special (Y : On p l e R s m args below meth c Z n0 T cells slots D) (hx : p.tables.exec = Jvm.exec) (hZ : Z.Warmed39 s.vm) {own : String} {index : Nat} (hy1 : y.name = "<init>") (hown : s.vm.findClass own = some m.cls) (w1 : (Cond.methodLink own index y).before a0 Z = true) (w2 : (Cond.instanceMethod y).before a0 Z = true) (w3 : (Cond.code y bytes maxL none).before a0 Z = true) (w4 : (Cond.initialized y.cls).before a0 Z = true)
    (hy : y.cls ≠ "java/lang/invoke/MethodHandle" ∧ y.cls ≠ "java/lang/invoke/VarHandle") {a : Addr} {argsL rest : List Value} (K : Con l Z n0 y bytes maxL none rm (.ref a :: argsL).toArray D P)
    {W : Nat} (hf : rm.frames + 1 ≤ R.frames) (hl : W + (maxL + 11) + rm.locals ≤ R.locals) (hc : cells + rm.cells ≤ R.cells) (hs : slots + rm.slots ≤ R.slots)
    {g : JFrame} (hg : g.method = m) (hsize : g.locals.size = c.maxLocals) (hlen : ∀ sig, parseMethodDescriptor y.desc = some sig → argsL.length = sig.parameters.length) (hstack : g.stack = argsL.reverse ++ .ref a :: rest) (hW : 2 * g.monitorRoom + (rest.map fun v => v.category).sum ≤ W) (hd : decode c.code g.pc = .ok (.invokespecial index, 3))
    (k : ∀ T' v D', P v D' → On p l e R s m args below meth c Z n0 T' (cells + rm.cells) (slots + rm.slots) D' → Rn p e below F T' { g with pc := g.pc + 3, stack := v.toList ++ rest }) : Rn p e below F T g := by
  obtain ⟨locs, X, N, H⟩ := Y
  obtain ⟨v, _, ⟨T', L', k', n'⟩, -, X', ⟨Lc, hQ, l', y', z'⟩, st⟩ := X.specialBack hx hy1 hown (mvT hZ w1) (mvT hZ w2) (mvT hZ w3) hy (backOf (W := W) (K [] T.heap H) hZ w3 w4 hf hl) hg hsize (Steps.refl _) (a := a) (argsL := argsL) (rest := rest) hlen hstack hW hd (fun _ _ => ⟨rfl, rfl, hc, hs⟩)
  dsimp only [Pt.U, Pt.locs, Pt.cells, Pt.slots] at X' l' y' z' st hQ
  subst l' y' z'
  obtain ⟨D', hP, N', H'⟩ := hQ
  exact Rn.to st (k T' v D' hP ⟨_, X', Fr.app N N', H'⟩)
theorem On.virtual (Y : On p l e R s m args below meth c Z n0 T cells slots D) (hx : p.tables.exec = Jvm.exec) (hZ : Z.Warmed39 s.vm) {own : String} {index : Nat} (hown : s.vm.findClass own = some m.cls) (w1 : (Cond.methodLink own index y).before a0 Z = true) (w2 : (Cond.declares y).before a0 Z = true) (w3 : (Cond.instanceMethod y).before a0 Z = true) (w4 : (Cond.selects C y y).before a0 Z = true) (w5 : (Cond.code y bytes maxL ret).before a0 Z = true) (w6 : (Cond.initialized y.cls).before a0 Z = true)
    (hy : y.cls ≠ "java/lang/invoke/MethodHandle" ∧ y.cls ≠ "java/lang/invoke/VarHandle") {a : Addr} {argsL rest : List Value} (hi : D[i]? = some (ob a C fs)) (K : Con l Z n0 y bytes maxL ret rm (.ref a :: argsL).toArray D P)
    {W : Nat} (hf : rm.frames + 1 ≤ R.frames) (hl : W + (maxL + 11) + rm.locals ≤ R.locals) (hc : cells + rm.cells ≤ R.cells) (hs : slots + rm.slots ≤ R.slots)
    {g : JFrame} (hg : g.method = m) (hsize : g.locals.size = c.maxLocals) (hlen : ∀ sig, parseMethodDescriptor y.desc = some sig → argsL.length = sig.parameters.length) (hstack : g.stack = argsL.reverse ++ .ref a :: rest) (hW : 2 * g.monitorRoom + (rest.map fun v => v.category).sum ≤ W) (hd : decode c.code g.pc = .ok (.invokevirtual index, 3))
    (k : ∀ T' v D', P v D' → On p l e R s m args below meth c Z n0 T' (cells + rm.cells) (slots + rm.slots) D' → Rn p e below F T' { g with pc := g.pc + 3, stack := v.toList ++ rest }) : Rn p e below F T g := by
  obtain ⟨locs, X, N, H⟩ := Y
  obtain ⟨cq, kq, qa, qb, qc⟩ := isOf hZ rfl (H.exa hi)
  obtain ⟨v, _, ⟨T', L', k', n'⟩, -, X', ⟨Lc, hQ, l', y', z'⟩, st⟩ := X.virtualBack hx (y := y) (z := y) hown (mvT hZ w1) (mvT hZ w2) (notFace_of_selects (args := #[]) (mvT hZ w4)) (mvT hZ w4) (mvT hZ w3) hy (backOf (W := W) (K [] T.heap H) hZ w5 w6 hf hl) qa qc hg hsize (Steps.refl _) (argsL := argsL) (rest := rest) hlen hstack hW hd (fun _ _ => ⟨rfl, rfl, hc, hs⟩)
  dsimp only [Pt.U, Pt.locs, Pt.cells, Pt.slots] at X' l' y' z' st hQ
  subst l' y' z'
  obtain ⟨D', hP, N', H'⟩ := hQ
  exact Rn.to st (k T' v D' hP ⟨_, X', Fr.app N N', H'⟩)
theorem On.static (Y : On p l e R s m args below meth c Z n0 T cells slots D) (hx : p.tables.exec = Jvm.exec) (hZ : Z.Warmed39 s.vm) {own : String} {index : Nat} (hown : s.vm.findClass own = some m.cls) (w1 : (Cond.methodLink own index y).before a0 Z = true) (w2 : (Cond.static y).before a0 Z = true) (w3 : (Cond.code y bytes maxL ret).before a0 Z = true) (w4 : (Cond.initialized y.cls).before a0 Z = true)
    (hy : y.cls ≠ "java/lang/invoke/MethodHandle" ∧ y.cls ≠ "java/lang/invoke/VarHandle") {argsL rest : List Value} (K : Con l Z n0 y bytes maxL ret rm argsL.toArray D P)
    {W : Nat} (hf : rm.frames + 1 ≤ R.frames) (hl : W + (maxL + 11) + rm.locals ≤ R.locals) (hc : cells + rm.cells ≤ R.cells) (hs : slots + rm.slots ≤ R.slots)
    {g : JFrame} (hg : g.method = m) (hsize : g.locals.size = c.maxLocals) (hlen : ∀ sig, parseMethodDescriptor y.desc = some sig → argsL.length = sig.parameters.length) (hstack : g.stack = argsL.reverse ++ rest) (hW : 2 * g.monitorRoom + (rest.map fun v => v.category).sum ≤ W) (hd : decode c.code g.pc = .ok (.invokestatic index, 3))
    (k : ∀ T' v D', P v D' → On p l e R s m args below meth c Z n0 T' (cells + rm.cells) (slots + rm.slots) D' → Rn p e below F T' { g with pc := g.pc + 3, stack := v.toList ++ rest }) : Rn p e below F T g := by
  obtain ⟨locs, X, N, H⟩ := Y
  obtain ⟨v, _, ⟨T', L', k', n'⟩, -, X', ⟨Lc, hQ, l', y', z'⟩, st⟩ := Jvm.LawKit.callS X hx hown (mvT hZ w1) (mvT hZ w2) (mvT hZ w4) (mvT hZ w3) hy (backOf (W := W) (K [] T.heap H) hZ w3 w4 hf hl) hg hsize (argsL := argsL) (rest := rest) hlen hstack hW hd (fun _ _ => ⟨rfl, rfl, hc, hs⟩)
  dsimp only [Pt.U, Pt.locs, Pt.cells, Pt.slots] at X' l' y' z' st hQ
  subst l' y' z'
  obtain ⟨D', hP, N', H'⟩ := hQ
  exact Rn.go st (k T' v D' hP ⟨_, X', Fr.app N N', H'⟩)
theorem On.priv (Y : On p l e R s m args below meth c Z n0 T cells slots D) (hx : p.tables.exec = Jvm.exec) (hZ : Z.Warmed39 s.vm) {own : String} {index kk : Nat} (hown : s.vm.findClass own = some m.cls) (w1 : (Cond.methodLink own index y).before a0 Z = true) (w2 : (Cond.instanceMethod y).before a0 Z = true) (w3 : (Cond.privateMethod y).before a0 Z = true) (wi : (Cond.instantiable y.cls kk).before a0 Z = true) (w4 : (Cond.code y bytes maxL ret).before a0 Z = true) (w5 : (Cond.initialized y.cls).before a0 Z = true)
    (hy : y.cls ≠ "java/lang/invoke/MethodHandle" ∧ y.cls ≠ "java/lang/invoke/VarHandle") {a : Addr} {argsL rest : List Value} (hi : D[i]? = some (ob a C fs)) (K : Con l Z n0 y bytes maxL ret rm (.ref a :: argsL).toArray D P)
    {W : Nat} (hf : rm.frames + 1 ≤ R.frames) (hl : W + (maxL + 11) + rm.locals ≤ R.locals) (hc : cells + rm.cells ≤ R.cells) (hs : slots + rm.slots ≤ R.slots)
    {g : JFrame} (hg : g.method = m) (hsize : g.locals.size = c.maxLocals) (hlen : ∀ sig, parseMethodDescriptor y.desc = some sig → argsL.length = sig.parameters.length) (hstack : g.stack = argsL.reverse ++ .ref a :: rest) (hW : 2 * g.monitorRoom + (rest.map fun v => v.category).sum ≤ W) (hd : decode c.code g.pc = .ok (.invokevirtual index, 3))
    (k : ∀ T' v D', P v D' → On p l e R s m args below meth c Z n0 T' (cells + rm.cells) (slots + rm.slots) D' → Rn p e below F T' { g with pc := g.pc + 3, stack := v.toList ++ rest }) : Rn p e below F T g := by
  obtain ⟨locs, X, N, H⟩ := Y
  have hp : s.PrivateAt y := Cond.privateMethod_at (mvP hZ w3 (args := #[]))
  have wi' : (Cond.instantiable y.cls kk).before args s = true := mvT hZ wi
  obtain ⟨cc, kc, i1, i2, -, i4, -⟩ := Cond.instantiable_spec wi'
  have hsel : (Cond.selects y.cls y y).before args s = true := selects_self_of_private i1 i2 (by simp at i4; exact i4.1) hp (mvT hZ w2) hy
  obtain ⟨cq, q, q'⟩ := (H.exa hi).cell
  obtain ⟨v, _, ⟨T', L', k', n'⟩, -, X', ⟨Lc, hQ, l', y', z'⟩, st⟩ := X.privateBack hx (y := y) hown (mvT hZ w1) (mvT hZ w2) hsel hp (mvT hZ w4) hy (backOf (W := W) (K [] T.heap H) hZ w4 w5 hf hl) hg hsize (Steps.refl _) (a := a) q q' (argsL := argsL) (rest := rest) hlen hstack hW hd (fun _ _ => ⟨rfl, rfl, hc, hs⟩)
  dsimp only [Pt.U, Pt.locs, Pt.cells, Pt.slots] at X' l' y' z' st hQ
  subst l' y' z'
  obtain ⟨D', hP, N', H'⟩ := hQ
  exact Rn.to st (k T' v D' hP ⟨_, X', Fr.app N N', H'⟩)
theorem On.insY (Y : On p l e R s m args below meth c Z n0 T cells slots D) (hx : p.tables.exec = Jvm.exec) (hZ : Z.Warmed39 s.vm) {own : String} {index : Nat} (hown : s.vm.findClass own = some m.cls) (w : (Cond.classLink own index C).before a0 Z = true) (hi : D[i]? = some (ob a C fs))
    {g : JFrame} (hg : g.method = m) {rest : List Value} (hs : g.stack = .ref a :: rest) (hd : decode c.code g.pc = .ok (.instanceof index, 3)) (k : ∀ T', On p l e R s m args below meth c Z n0 T' cells slots D → Rn p e below F T' { g with pc := g.pc + 3, stack := .int 1 :: rest }) : Rn p e below F T g := by
  obtain ⟨locs, X, N, H⟩ := Y
  obtain ⟨T', X', e', st⟩ := instY X hx hZ hown w rfl (Ins.self (H.exa hi)) hg hs hd
  exact Rn.go st (k T' ⟨locs, X', N, by rw [e']; exact H⟩)
theorem On.castS (Y : On p l e R s m args below meth c Z n0 T cells slots D) (hx : p.tables.exec = Jvm.exec) (hZ : Z.Warmed39 s.vm) {own : String} {index : Nat} (hown : s.vm.findClass own = some m.cls) (w : (Cond.classLink own index C).before a0 Z = true) (hi : D[i]? = some (ob a C fs))
    {g : JFrame} (hg : g.method = m) {rest : List Value} (hs : g.stack = .ref a :: rest) (hd : decode c.code g.pc = .ok (.checkcast index, 3)) (k : ∀ T', On p l e R s m args below meth c Z n0 T' cells slots D → Rn p e below F T' { g with pc := g.pc + 3 }) : Rn p e below F T g := by
  obtain ⟨locs, X, N, H⟩ := Y
  obtain ⟨T', X', e', st⟩ := castY X hx hZ hown w rfl (Ins.self (H.exa hi)) hg hs hd
  exact Rn.go st (k T' ⟨locs, X', N, by rw [e']; exact H⟩)
theorem On.insN (Y : On p l e R s m args below meth c Z n0 T cells slots D) (hx : p.tables.exec = Jvm.exec) (hZ : Z.Warmed39 s.vm) {own K : String} {index kk : Nat} (hown : s.vm.findClass own = some m.cls) (w : (Cond.classLink own index K).before a0 Z = true) (hi : D[i]? = some (ob a C fs)) (wi : (Cond.instantiable K kk).before a0 Z = true) {ch : List String} (hw : ∀ w ∈ Cond.chainWords (C :: ch), w.before a0 Z = true) (hn : K ∉ C :: ch)
    {g : JFrame} (hg : g.method = m) {rest : List Value} (hs : g.stack = .ref a :: rest) (hd : decode c.code g.pc = .ok (.instanceof index, 3)) (k : ∀ T', On p l e R s m args below meth c Z n0 T' cells slots D → Rn p e below F T' { g with pc := g.pc + 3, stack := .int 0 :: rest }) : Rn p e below F T g := by
  obtain ⟨locs, X, N, H⟩ := Y
  obtain ⟨cy, ky, i1, i2, i3, i4, -⟩ := Cond.instantiable_spec wi
  obtain ⟨cx, kx, j1, -⟩ := Cond.chain_head hw
  obtain ⟨T', X', e', st⟩ := instNo X hx hZ hown w rfl (H.exa hi) ⟨cx, cy, j1, i1, Vm.notAssignable_of_chain j1 i1 i2 i3 (by simp at i4; exact i4.1) hw hn⟩ hg hs hd
  exact Rn.go st (k T' ⟨locs, X', N, by rw [e']; exact H⟩)
theorem On.insNull (Y : On p l e R s m args below meth c Z n0 T cells slots D) (hx : p.tables.exec = Jvm.exec) {index : Nat}
    {g : JFrame} (hg : g.method = m) {rest : List Value} (hs : g.stack = .null :: rest) (hd : decode c.code g.pc = .ok (.instanceof index, 3)) (k : Rn p e below F T { g with pc := g.pc + 3, stack := .int 0 :: rest }) : Rn p e below F T g := by
  obtain ⟨locs, X, N, H⟩ := Y
  exact Rn.go (fun t kt => X.instanceofNull hx hg hs hd t kt) k
end Base
theorem own_le7 {v : Int32} (h1 : 0 ≤ v.toInt) (h2 : v.toInt ≤ 7) : v = 0 ∨ v = 1 ∨ v = 2 ∨ v = 3 ∨ v = 4 ∨ v = 5 ∨ v = 6 ∨ v = 7 := by
  have : v.toInt = 0 ∨ v.toInt = 1 ∨ v.toInt = 2 ∨ v.toInt = 3 ∨ v.toInt = 4 ∨ v.toInt = 5 ∨ v.toInt = 6 ∨ v.toInt = 7 := by omega
  rcases this with h | h | h | h | h | h | h | h
  · exact Or.inl (Int32.toInt_inj.mp (h.trans rfl))
  · exact Or.inr (Or.inl (Int32.toInt_inj.mp (h.trans rfl)))
  · exact Or.inr (Or.inr (Or.inl (Int32.toInt_inj.mp (h.trans rfl))))
  · exact Or.inr (Or.inr (Or.inr (Or.inl (Int32.toInt_inj.mp (h.trans rfl)))))
  · exact Or.inr (Or.inr (Or.inr (Or.inr (Or.inl (Int32.toInt_inj.mp (h.trans rfl))))))
  · exact Or.inr (Or.inr (Or.inr (Or.inr (Or.inr (Or.inl (Int32.toInt_inj.mp (h.trans rfl)))))))
  · exact Or.inr (Or.inr (Or.inr (Or.inr (Or.inr (Or.inr (Or.inl (Int32.toInt_inj.mp (h.trans rfl))))))))
  · exact Or.inr (Or.inr (Or.inr (Or.inr (Or.inr (Or.inr (Or.inr (Int32.toInt_inj.mp (h.trans rfl))))))))
/-! ## F. The words, the instructions, the names -/
abbrev own_C0 : String := "com/example/oxalis/oxalis/Rect"
abbrev own_F0 (v0 v1 v2 v3 : Value) : List (String × String × Value) := [("left", "I", v0), ("top", "I", v1), ("right", "I", v2), ("bottom", "I", v3)]
abbrev own_C1 : String := "com/example/oxalis/oxalis/Insets"
abbrev own_F1 (v0 v1 v2 v3 : Value) : List (String × String × Value) := [("left", "I", v0), ("top", "I", v1), ("right", "I", v2), ("bottom", "I", v3)]
theorem w0 {Z : State} {a0 : Array Value} (hw : ∀ d ∈ tables_1, d.before a0 Z = true) : (Jvm.Cond.classLink "com/example/oxalis/oxalis/RectEqualsPinLaw" (7 : Nat) "com/example/oxalis/oxalis/Rect").before a0 Z = true := hw _ (List.mem_of_getElem? (i := 0) rfl)
theorem w1 {Z : State} {a0 : Array Value} (hw : ∀ d ∈ tables_1, d.before a0 Z = true) : (Jvm.Cond.instantiable "com/example/oxalis/oxalis/Rect" (4 : Nat)).before a0 Z = true := hw _ (List.mem_of_getElem? (i := 1) rfl)
theorem w2 {Z : State} {a0 : Array Value} (hw : ∀ d ∈ tables_1, d.before a0 Z = true) : (Jvm.Cond.initialized "com/example/oxalis/oxalis/Rect").before a0 Z = true := hw _ (List.mem_of_getElem? (i := 2) rfl)
theorem w3 {Z : State} {a0 : Array Value} (hw : ∀ d ∈ tables_1, d.before a0 Z = true) : (Jvm.Cond.methodLink "com/example/oxalis/oxalis/RectEqualsPinLaw" (9 : Nat) ({ cls := "com/example/oxalis/oxalis/Rect", name := "<init>", desc := "(IIII)V" } : Jvm.MethodName)).before a0 Z = true := hw _ (List.mem_of_getElem? (i := 3) rfl)
theorem w4 {Z : State} {a0 : Array Value} (hw : ∀ d ∈ tables_1, d.before a0 Z = true) : (Jvm.Cond.instanceMethod ({ cls := "com/example/oxalis/oxalis/Rect", name := "<init>", desc := "(IIII)V" } : Jvm.MethodName)).before a0 Z = true := hw _ (List.mem_of_getElem? (i := 4) rfl)
theorem w5 {Z : State} {a0 : Array Value} (hw : ∀ d ∈ tables_1, d.before a0 Z = true) : (Jvm.Cond.code ({ cls := "com/example/oxalis/oxalis/Rect", name := "<init>", desc := "(IIII)V" } : Jvm.MethodName) prog_48_method_1_code (5 : Nat) (Option.none : Option Jvm.ClassFile.FieldType)).before a0 Z = true := hw _ (List.mem_of_getElem? (i := 5) rfl)
theorem w6 {Z : State} {a0 : Array Value} (hw : ∀ d ∈ tables_1, d.before a0 Z = true) : (Jvm.Cond.methodLink "com/example/oxalis/oxalis/Rect" (1 : Nat) ({ cls := "java/lang/Object", name := "<init>", desc := "()V" } : Jvm.MethodName)).before a0 Z = true := hw _ (List.mem_of_getElem? (i := 6) rfl)
theorem w7 {Z : State} {a0 : Array Value} (hw : ∀ d ∈ tables_1, d.before a0 Z = true) : (Jvm.Cond.instanceMethod ({ cls := "java/lang/Object", name := "<init>", desc := "()V" } : Jvm.MethodName)).before a0 Z = true := hw _ (List.mem_of_getElem? (i := 7) rfl)
theorem w8 {Z : State} {a0 : Array Value} (hw : ∀ d ∈ tables_1, d.before a0 Z = true) : (Jvm.Cond.code ({ cls := "java/lang/Object", name := "<init>", desc := "()V" } : Jvm.MethodName) object_method_1_code (1 : Nat) (Option.none : Option Jvm.ClassFile.FieldType)).before a0 Z = true := hw _ (List.mem_of_getElem? (i := 8) rfl)
theorem w9 {Z : State} {a0 : Array Value} (hw : ∀ d ∈ tables_1, d.before a0 Z = true) : (Jvm.Cond.fieldLink "com/example/oxalis/oxalis/Rect" (7 : Nat) "com/example/oxalis/oxalis/Rect" "left" "I").before a0 Z = true := hw _ (List.mem_of_getElem? (i := 9) rfl)
theorem w10 {Z : State} {a0 : Array Value} (hw : ∀ d ∈ tables_1, d.before a0 Z = true) : (Jvm.Cond.laysFinal "com/example/oxalis/oxalis/Rect" "com/example/oxalis/oxalis/Rect" "left" "I").before a0 Z = true := hw _ (List.mem_of_getElem? (i := 10) rfl)
theorem w11 {Z : State} {a0 : Array Value} (hw : ∀ d ∈ tables_1, d.before a0 Z = true) : (Jvm.Cond.fieldLink "com/example/oxalis/oxalis/Rect" (13 : Nat) "com/example/oxalis/oxalis/Rect" "top" "I").before a0 Z = true := hw _ (List.mem_of_getElem? (i := 11) rfl)
theorem w12 {Z : State} {a0 : Array Value} (hw : ∀ d ∈ tables_1, d.before a0 Z = true) : (Jvm.Cond.laysFinal "com/example/oxalis/oxalis/Rect" "com/example/oxalis/oxalis/Rect" "top" "I").before a0 Z = true := hw _ (List.mem_of_getElem? (i := 12) rfl)
theorem w13 {Z : State} {a0 : Array Value} (hw : ∀ d ∈ tables_1, d.before a0 Z = true) : (Jvm.Cond.fieldLink "com/example/oxalis/oxalis/Rect" (16 : Nat) "com/example/oxalis/oxalis/Rect" "right" "I").before a0 Z = true := hw _ (List.mem_of_getElem? (i := 13) rfl)
theorem w14 {Z : State} {a0 : Array Value} (hw : ∀ d ∈ tables_1, d.before a0 Z = true) : (Jvm.Cond.laysFinal "com/example/oxalis/oxalis/Rect" "com/example/oxalis/oxalis/Rect" "right" "I").before a0 Z = true := hw _ (List.mem_of_getElem? (i := 14) rfl)
theorem w15 {Z : State} {a0 : Array Value} (hw : ∀ d ∈ tables_1, d.before a0 Z = true) : (Jvm.Cond.fieldLink "com/example/oxalis/oxalis/Rect" (19 : Nat) "com/example/oxalis/oxalis/Rect" "bottom" "I").before a0 Z = true := hw _ (List.mem_of_getElem? (i := 15) rfl)
theorem w16 {Z : State} {a0 : Array Value} (hw : ∀ d ∈ tables_1, d.before a0 Z = true) : (Jvm.Cond.laysFinal "com/example/oxalis/oxalis/Rect" "com/example/oxalis/oxalis/Rect" "bottom" "I").before a0 Z = true := hw _ (List.mem_of_getElem? (i := 16) rfl)
theorem w17 {Z : State} {a0 : Array Value} (hw : ∀ d ∈ tables_1, d.before a0 Z = true) : (Jvm.Cond.methodLink "com/example/oxalis/oxalis/RectEqualsPinLaw" (15 : Nat) ({ cls := "com/example/oxalis/oxalis/Rect", name := "equals", desc := "(Ljava/lang/Object;)Z" } : Jvm.MethodName)).before a0 Z = true := hw _ (List.mem_of_getElem? (i := 17) rfl)
theorem w18 {Z : State} {a0 : Array Value} (hw : ∀ d ∈ tables_1, d.before a0 Z = true) : (Jvm.Cond.declares ({ cls := "com/example/oxalis/oxalis/Rect", name := "equals", desc := "(Ljava/lang/Object;)Z" } : Jvm.MethodName)).before a0 Z = true := hw _ (List.mem_of_getElem? (i := 18) rfl)
theorem w19 {Z : State} {a0 : Array Value} (hw : ∀ d ∈ tables_1, d.before a0 Z = true) : (Jvm.Cond.instanceMethod ({ cls := "com/example/oxalis/oxalis/Rect", name := "equals", desc := "(Ljava/lang/Object;)Z" } : Jvm.MethodName)).before a0 Z = true := hw _ (List.mem_of_getElem? (i := 19) rfl)
theorem w20 {Z : State} {a0 : Array Value} (hw : ∀ d ∈ tables_1, d.before a0 Z = true) : (Jvm.Cond.selects "com/example/oxalis/oxalis/Rect" ({ cls := "com/example/oxalis/oxalis/Rect", name := "equals", desc := "(Ljava/lang/Object;)Z" } : Jvm.MethodName) ({ cls := "com/example/oxalis/oxalis/Rect", name := "equals", desc := "(Ljava/lang/Object;)Z" } : Jvm.MethodName)).before a0 Z = true := hw _ (List.mem_of_getElem? (i := 20) rfl)
theorem w21 {Z : State} {a0 : Array Value} (hw : ∀ d ∈ tables_1, d.before a0 Z = true) : (Jvm.Cond.code ({ cls := "com/example/oxalis/oxalis/Rect", name := "equals", desc := "(Ljava/lang/Object;)Z" } : Jvm.MethodName) prog_48_method_12_code (3 : Nat) (Option.some Jvm.ClassFile.FieldType.boolean)).before a0 Z = true := hw _ (List.mem_of_getElem? (i := 21) rfl)
theorem w22 {Z : State} {a0 : Array Value} (hw : ∀ d ∈ tables_1, d.before a0 Z = true) : (Jvm.Cond.classLink "com/example/oxalis/oxalis/Rect" (8 : Nat) "com/example/oxalis/oxalis/Rect").before a0 Z = true := hw _ (List.mem_of_getElem? (i := 22) rfl)
theorem w24 {Z : State} {a0 : Array Value} (hw : ∀ d ∈ tables_1, d.before a0 Z = true) : (Jvm.Cond.classLink "com/example/oxalis/oxalis/RectEqualsPinLaw" (12 : Nat) "com/example/oxalis/oxalis/Insets").before a0 Z = true := hw _ (List.mem_of_getElem? (i := 24) rfl)
theorem w25 {Z : State} {a0 : Array Value} (hw : ∀ d ∈ tables_1, d.before a0 Z = true) : (Jvm.Cond.instantiable "com/example/oxalis/oxalis/Insets" (4 : Nat)).before a0 Z = true := hw _ (List.mem_of_getElem? (i := 25) rfl)
theorem w26 {Z : State} {a0 : Array Value} (hw : ∀ d ∈ tables_1, d.before a0 Z = true) : (Jvm.Cond.initialized "com/example/oxalis/oxalis/Insets").before a0 Z = true := hw _ (List.mem_of_getElem? (i := 26) rfl)
theorem w27 {Z : State} {a0 : Array Value} (hw : ∀ d ∈ tables_1, d.before a0 Z = true) : (Jvm.Cond.methodLink "com/example/oxalis/oxalis/RectEqualsPinLaw" (14 : Nat) ({ cls := "com/example/oxalis/oxalis/Insets", name := "<init>", desc := "(IIII)V" } : Jvm.MethodName)).before a0 Z = true := hw _ (List.mem_of_getElem? (i := 27) rfl)
theorem w28 {Z : State} {a0 : Array Value} (hw : ∀ d ∈ tables_1, d.before a0 Z = true) : (Jvm.Cond.instanceMethod ({ cls := "com/example/oxalis/oxalis/Insets", name := "<init>", desc := "(IIII)V" } : Jvm.MethodName)).before a0 Z = true := hw _ (List.mem_of_getElem? (i := 28) rfl)
theorem w29 {Z : State} {a0 : Array Value} (hw : ∀ d ∈ tables_1, d.before a0 Z = true) : (Jvm.Cond.code ({ cls := "com/example/oxalis/oxalis/Insets", name := "<init>", desc := "(IIII)V" } : Jvm.MethodName) prog_26_method_1_code (5 : Nat) (Option.none : Option Jvm.ClassFile.FieldType)).before a0 Z = true := hw _ (List.mem_of_getElem? (i := 29) rfl)
theorem w30 {Z : State} {a0 : Array Value} (hw : ∀ d ∈ tables_1, d.before a0 Z = true) : (Jvm.Cond.methodLink "com/example/oxalis/oxalis/Insets" (1 : Nat) ({ cls := "java/lang/Object", name := "<init>", desc := "()V" } : Jvm.MethodName)).before a0 Z = true := hw _ (List.mem_of_getElem? (i := 30) rfl)
theorem w31 {Z : State} {a0 : Array Value} (hw : ∀ d ∈ tables_1, d.before a0 Z = true) : (Jvm.Cond.fieldLink "com/example/oxalis/oxalis/Insets" (7 : Nat) "com/example/oxalis/oxalis/Insets" "left" "I").before a0 Z = true := hw _ (List.mem_of_getElem? (i := 31) rfl)
theorem w32 {Z : State} {a0 : Array Value} (hw : ∀ d ∈ tables_1, d.before a0 Z = true) : (Jvm.Cond.laysFinal "com/example/oxalis/oxalis/Insets" "com/example/oxalis/oxalis/Insets" "left" "I").before a0 Z = true := hw _ (List.mem_of_getElem? (i := 32) rfl)
theorem w33 {Z : State} {a0 : Array Value} (hw : ∀ d ∈ tables_1, d.before a0 Z = true) : (Jvm.Cond.fieldLink "com/example/oxalis/oxalis/Insets" (13 : Nat) "com/example/oxalis/oxalis/Insets" "top" "I").before a0 Z = true := hw _ (List.mem_of_getElem? (i := 33) rfl)
theorem w34 {Z : State} {a0 : Array Value} (hw : ∀ d ∈ tables_1, d.before a0 Z = true) : (Jvm.Cond.laysFinal "com/example/oxalis/oxalis/Insets" "com/example/oxalis/oxalis/Insets" "top" "I").before a0 Z = true := hw _ (List.mem_of_getElem? (i := 34) rfl)
theorem w35 {Z : State} {a0 : Array Value} (hw : ∀ d ∈ tables_1, d.before a0 Z = true) : (Jvm.Cond.fieldLink "com/example/oxalis/oxalis/Insets" (16 : Nat) "com/example/oxalis/oxalis/Insets" "right" "I").before a0 Z = true := hw _ (List.mem_of_getElem? (i := 35) rfl)
theorem w36 {Z : State} {a0 : Array Value} (hw : ∀ d ∈ tables_1, d.before a0 Z = true) : (Jvm.Cond.laysFinal "com/example/oxalis/oxalis/Insets" "com/example/oxalis/oxalis/Insets" "right" "I").before a0 Z = true := hw _ (List.mem_of_getElem? (i := 36) rfl)
theorem w37 {Z : State} {a0 : Array Value} (hw : ∀ d ∈ tables_1, d.before a0 Z = true) : (Jvm.Cond.fieldLink "com/example/oxalis/oxalis/Insets" (19 : Nat) "com/example/oxalis/oxalis/Insets" "bottom" "I").before a0 Z = true := hw _ (List.mem_of_getElem? (i := 37) rfl)
theorem w38 {Z : State} {a0 : Array Value} (hw : ∀ d ∈ tables_1, d.before a0 Z = true) : (Jvm.Cond.laysFinal "com/example/oxalis/oxalis/Insets" "com/example/oxalis/oxalis/Insets" "bottom" "I").before a0 Z = true := hw _ (List.mem_of_getElem? (i := 38) rfl)
theorem w39 {Z : State} {a0 : Array Value} (hw : ∀ d ∈ tables_1, d.before a0 Z = true) : (Jvm.Cond.superclass "com/example/oxalis/oxalis/Insets" "java/lang/Object").before a0 Z = true := hw _ (List.mem_of_getElem? (i := 39) rfl)
theorem w40 {Z : State} {a0 : Array Value} (hw : ∀ d ∈ tables_1, d.before a0 Z = true) : (Jvm.Cond.noSuperclass "java/lang/Object").before a0 Z = true := hw _ (List.mem_of_getElem? (i := 40) rfl)
theorem d1_0 : decode prog_48_method_1_code 0 = .ok (.aload_n 0, 1) := by decide +kernel
theorem d1_1 : decode prog_48_method_1_code 1 = .ok (.invokespecial 1, 3) := by decide +kernel
theorem d1_4 : decode prog_48_method_1_code 4 = .ok (.aload_n 0, 1) := by decide +kernel
theorem d1_5 : decode prog_48_method_1_code 5 = .ok (.iload_n 1, 1) := by decide +kernel
theorem d1_6 : decode prog_48_method_1_code 6 = .ok (.putfield 7, 3) := by decide +kernel
theorem d1_9 : decode prog_48_method_1_code 9 = .ok (.aload_n 0, 1) := by decide +kernel
theorem d1_10 : decode prog_48_method_1_code 10 = .ok (.iload_n 2, 1) := by decide +kernel
theorem d1_11 : decode prog_48_method_1_code 11 = .ok (.putfield 13, 3) := by decide +kernel
theorem d1_14 : decode prog_48_method_1_code 14 = .ok (.aload_n 0, 1) := by decide +kernel
theorem d1_15 : decode prog_48_method_1_code 15 = .ok (.iload_n 3, 1) := by decide +kernel
theorem d1_16 : decode prog_48_method_1_code 16 = .ok (.putfield 16, 3) := by decide +kernel
theorem d1_19 : decode prog_48_method_1_code 19 = .ok (.aload_n 0, 1) := by decide +kernel
theorem d1_20 : decode prog_48_method_1_code 20 = .ok (.iload 4, 2) := by decide +kernel
theorem d1_22 : decode prog_48_method_1_code 22 = .ok (.putfield 19, 3) := by decide +kernel
theorem d1_25 : decode prog_48_method_1_code 25 = .ok (.return_, 1) := by decide +kernel
theorem d3_0 : decode prog_48_method_12_code 0 = .ok (.aload_n 1, 1) := by decide +kernel
theorem d3_1 : decode prog_48_method_12_code 1 = .ok (.instanceof 8, 3) := by decide +kernel
theorem d3_4 : decode prog_48_method_12_code 4 = .ok (.ifCond .eq 56, 3) := by decide +kernel
theorem d3_7 : decode prog_48_method_12_code 7 = .ok (.aload_n 1, 1) := by decide +kernel
theorem d3_8 : decode prog_48_method_12_code 8 = .ok (.checkcast 8, 3) := by decide +kernel
theorem d3_11 : decode prog_48_method_12_code 11 = .ok (.astore_n 2, 1) := by decide +kernel
theorem d3_12 : decode prog_48_method_12_code 12 = .ok (.aload_n 0, 1) := by decide +kernel
theorem d3_13 : decode prog_48_method_12_code 13 = .ok (.getfield 7, 3) := by decide +kernel
theorem d3_16 : decode prog_48_method_12_code 16 = .ok (.aload_n 2, 1) := by decide +kernel
theorem d3_17 : decode prog_48_method_12_code 17 = .ok (.getfield 7, 3) := by decide +kernel
theorem d3_20 : decode prog_48_method_12_code 20 = .ok (.if_icmp .ne 40, 3) := by decide +kernel
theorem d3_23 : decode prog_48_method_12_code 23 = .ok (.aload_n 0, 1) := by decide +kernel
theorem d3_24 : decode prog_48_method_12_code 24 = .ok (.getfield 13, 3) := by decide +kernel
theorem d3_27 : decode prog_48_method_12_code 27 = .ok (.aload_n 2, 1) := by decide +kernel
theorem d3_28 : decode prog_48_method_12_code 28 = .ok (.getfield 13, 3) := by decide +kernel
theorem d3_31 : decode prog_48_method_12_code 31 = .ok (.if_icmp .ne 29, 3) := by decide +kernel
theorem d3_34 : decode prog_48_method_12_code 34 = .ok (.aload_n 0, 1) := by decide +kernel
theorem d3_35 : decode prog_48_method_12_code 35 = .ok (.getfield 16, 3) := by decide +kernel
theorem d3_38 : decode prog_48_method_12_code 38 = .ok (.aload_n 2, 1) := by decide +kernel
theorem d3_39 : decode prog_48_method_12_code 39 = .ok (.getfield 16, 3) := by decide +kernel
theorem d3_42 : decode prog_48_method_12_code 42 = .ok (.if_icmp .ne 18, 3) := by decide +kernel
theorem d3_45 : decode prog_48_method_12_code 45 = .ok (.aload_n 0, 1) := by decide +kernel
theorem d3_46 : decode prog_48_method_12_code 46 = .ok (.getfield 19, 3) := by decide +kernel
theorem d3_49 : decode prog_48_method_12_code 49 = .ok (.aload_n 2, 1) := by decide +kernel
theorem d3_50 : decode prog_48_method_12_code 50 = .ok (.getfield 19, 3) := by decide +kernel
theorem d3_53 : decode prog_48_method_12_code 53 = .ok (.if_icmp .ne 7, 3) := by decide +kernel
theorem d3_56 : decode prog_48_method_12_code 56 = .ok (.iconst 1, 1) := by decide +kernel
theorem d3_57 : decode prog_48_method_12_code 57 = .ok (.goto 4, 3) := by decide +kernel
theorem d3_60 : decode prog_48_method_12_code 60 = .ok (.iconst 0, 1) := by decide +kernel
theorem d3_61 : decode prog_48_method_12_code 61 = .ok (.ireturn, 1) := by decide +kernel
theorem d4_0 : decode prog_26_method_1_code 0 = .ok (.aload_n 0, 1) := by decide +kernel
theorem d4_1 : decode prog_26_method_1_code 1 = .ok (.invokespecial 1, 3) := by decide +kernel
theorem d4_4 : decode prog_26_method_1_code 4 = .ok (.aload_n 0, 1) := by decide +kernel
theorem d4_5 : decode prog_26_method_1_code 5 = .ok (.iload_n 1, 1) := by decide +kernel
theorem d4_6 : decode prog_26_method_1_code 6 = .ok (.putfield 7, 3) := by decide +kernel
theorem d4_9 : decode prog_26_method_1_code 9 = .ok (.aload_n 0, 1) := by decide +kernel
theorem d4_10 : decode prog_26_method_1_code 10 = .ok (.iload_n 2, 1) := by decide +kernel
theorem d4_11 : decode prog_26_method_1_code 11 = .ok (.putfield 13, 3) := by decide +kernel
theorem d4_14 : decode prog_26_method_1_code 14 = .ok (.aload_n 0, 1) := by decide +kernel
theorem d4_15 : decode prog_26_method_1_code 15 = .ok (.iload_n 3, 1) := by decide +kernel
theorem d4_16 : decode prog_26_method_1_code 16 = .ok (.putfield 16, 3) := by decide +kernel
theorem d4_19 : decode prog_26_method_1_code 19 = .ok (.aload_n 0, 1) := by decide +kernel
theorem d4_20 : decode prog_26_method_1_code 20 = .ok (.iload 4, 2) := by decide +kernel
theorem d4_22 : decode prog_26_method_1_code 22 = .ok (.putfield 19, 3) := by decide +kernel
theorem d4_25 : decode prog_26_method_1_code 25 = .ok (.return_, 1) := by decide +kernel
theorem pd0 : parseMethodDescriptor "(IIII)V" = some ⟨[.int, .int, .int, .int], none⟩ := by decide +kernel
theorem pd1 : parseMethodDescriptor "(Ljava/lang/Object;)Z" = some ⟨[(.object "java/lang/Object")], some .boolean⟩ := by decide +kernel
theorem pn0 : plainName "com/example/oxalis/oxalis/Rect" = true := by first | (simp [plainName, overriddenIn]; done) | decide +kernel
theorem pn1 : plainName "com/example/oxalis/oxalis/Insets" = true := by first | (simp [plainName, overriddenIn]; done) | decide +kernel
theorem pn2 : plainName "com/example/oxalis/oxalis/RectEqualsPinLaw" = true := by first | (simp [plainName, overriddenIn]; done) | decide +kernel
theorem own_chain {Z : State} {a0 : Array Value} (hw : ∀ d ∈ tables_1, d.before a0 Z = true) : ∀ w ∈ Cond.chainWords ("com/example/oxalis/oxalis/Insets" :: ["java/lang/Object"]), w.before a0 Z = true := by
  intro w h
  simp only [Cond.chainWords, List.mem_cons, List.not_mem_nil, or_false] at h
  rcases h with rfl | rfl
  · exact (w39 hw)
  · exact (w40 hw)
theorem own_lay_0 {Z : State} {a0 : Array Value} (hw : ∀ d ∈ tables_1, d.before a0 Z = true) : ∀ f ∈ ([("left", "I", (.int (0 : Int32))), ("top", "I", (.int (0 : Int32))), ("right", "I", (.int (0 : Int32))), ("bottom", "I", (.int (0 : Int32)))] : List (String × String × Value)), Laid Z a0 "com/example/oxalis/oxalis/Rect" "com/example/oxalis/oxalis/Rect" f.1 f.2.1 ∧ ∃ ty, parseFieldDescriptor f.2.1 = some ty ∧ f.2.2 = defaultValue ty := by
  intro f hf
  simp only [List.mem_cons, List.not_mem_nil, or_false] at hf
  rcases hf with rfl | rfl | rfl | rfl
  · exact ⟨Or.inr (w10 hw), .int, by decide, rfl⟩
  · exact ⟨Or.inr (w12 hw), .int, by decide, rfl⟩
  · exact ⟨Or.inr (w14 hw), .int, by decide, rfl⟩
  · exact ⟨Or.inr (w16 hw), .int, by decide, rfl⟩
theorem own_lay_1 {Z : State} {a0 : Array Value} (hw : ∀ d ∈ tables_1, d.before a0 Z = true) : ∀ f ∈ ([("left", "I", (.int (0 : Int32))), ("top", "I", (.int (0 : Int32))), ("right", "I", (.int (0 : Int32))), ("bottom", "I", (.int (0 : Int32)))] : List (String × String × Value)), Laid Z a0 "com/example/oxalis/oxalis/Insets" "com/example/oxalis/oxalis/Insets" f.1 f.2.1 ∧ ∃ ty, parseFieldDescriptor f.2.1 = some ty ∧ f.2.2 = defaultValue ty := by
  intro f hf
  simp only [List.mem_cons, List.not_mem_nil, or_false] at hf
  rcases hf with rfl | rfl | rfl | rfl
  · exact ⟨Or.inr (w32 hw), .int, by decide, rfl⟩
  · exact ⟨Or.inr (w34 hw), .int, by decide, rfl⟩
  · exact ⟨Or.inr (w36 hw), .int, by decide, rfl⟩
  · exact ⟨Or.inr (w38 hw), .int, by decide, rfl⟩
theorem ef_rmI0 (m : MethodId) (a : Addr) (x0 : Int32) (x1 : Int32) (x2 : Int32) (x3 : Int32) : entryFrame m #[(.ref a), (.int x0), (.int x1), (.int x2), (.int x3)] 5 = (mkF m 0 #[.val (.ref a), .val (.int x0), .val (.int x1), .val (.int x2), .val (.int x3)] []) := by first | (simp [entryFrame, mkF, argsToLocals, Value.category]; done) | rfl
set_option maxRecDepth 65536 in
set_option maxHeartbeats 40000000 in
theorem rmI0 (l : Launch) (Z : State) (a0 : Array Value) (hw : ∀ d ∈ tables_1, d.before a0 Z = true) (n0 : Nat) (a : Addr) (x0 : Int32) (x1 : Int32) (x2 : Int32) (x3 : Int32) (Dr : List (Addr × Itm)) :
    Con l Z n0 (⟨"com/example/oxalis/oxalis/Rect", "<init>", "(IIII)V"⟩ : MethodName) prog_48_method_1_code 5 none ({ frames := 1, cells := 0, slots := 0, locals := 12 } : Room) #[(.ref a), (.int x0), (.int x1), (.int x2), (.int x3)] ((ob a own_C0 (own_F0 (.int (0 : Int32)) (.int (0 : Int32)) (.int (0 : Int32)) (.int (0 : Int32)))) :: Dr) (fun v D' => v = none ∧ D' = ((ob a own_C0 (own_F0 (.int x0) (.int x1) (.int x2) (.int x3))) :: Dr)) := by
  refine Con.of (plainFor_of_name pn0) ?_
  intro p e s m below meth c T cx Y
  obtain ⟨hx, hby, hml, hown, hnm, hret, hlk, hZ⟩ := cx
  rw [ef_rmI0]
  generalize hF : Fi Z n0 below s _ _ _ = F
  refine Rn.go (T' := T) (g' := (mkF m 1 #[.val (.ref a), .val (.int x0), .val (.int x1), .val (.int x2), .val (.int x3)] [(.ref a)])) (fun t k => ?_) ?_
  · show Steps p.tables e below (T.setTop (mkF m 0 #[.val (.ref a), .val (.int x0), .val (.int x1), .val (.int x2), .val (.int x3)] [])) t
    refine XS.aloadN Y.here hx rfl (hb hby d1_0) rfl rfl ?_
    show Steps p.tables e below (T.setTop (mkF m 1 #[.val (.ref a), .val (.int x0), .val (.int x1), .val (.int x2), .val (.int x3)] [(.ref a)])) t
    exact k
  refine On.ini Y hx hZ hown (w6 hw) (w7 hw) (w8 hw) (g := (mkF m 1 #[.val (.ref a), .val (.int x0), .val (.int x1), .val (.int x2), .val (.int x3)] [(.ref a)])) rfl (by rw [hml]; rfl) rfl (hb hby d1_1) (by decide) (W := 0) (by show 2 * 0 + _ ≤ _; exact Nat.le_of_eq rfl) (by decide) fun T1 Y2 => ?_
  show Rn p e below F T1 (mkF m 4 #[.val (.ref a), .val (.int x0), .val (.int x1), .val (.int x2), .val (.int x3)] [])
  refine Rn.go (T' := T1) (g' := (mkF m 6 #[.val (.ref a), .val (.int x0), .val (.int x1), .val (.int x2), .val (.int x3)] [(.int x0), (.ref a)])) (fun t k => ?_) ?_
  · show Steps p.tables e below (T1.setTop (mkF m 4 #[.val (.ref a), .val (.int x0), .val (.int x1), .val (.int x2), .val (.int x3)] [])) t
    refine XS.aloadN Y2.here hx rfl (hb hby d1_4) rfl rfl ?_
    show Steps p.tables e below (T1.setTop (mkF m 5 #[.val (.ref a), .val (.int x0), .val (.int x1), .val (.int x2), .val (.int x3)] [(.ref a)])) t
    refine XS.iloadN Y2.here hx rfl (hb hby d1_5) rfl ?_
    show Steps p.tables e below (T1.setTop (mkF m 6 #[.val (.ref a), .val (.int x0), .val (.int x1), .val (.int x2), .val (.int x3)] [(.int x0), (.ref a)])) t
    exact k
  refine On.putf Y2 hx hZ hown (w9 hw) (i := 0) (j := 0) rfl rfl (Or.inr ⟨(w10 hw), rfl, hnm⟩) (w1 hw) (ty := .int) (by decide) (v' := (.int x0)) rfl rfl (g := (mkF m 6 #[.val (.ref a), .val (.int x0), .val (.int x1), .val (.int x2), .val (.int x3)] [(.int x0), (.ref a)])) rfl rfl (hb hby d1_6) fun T3 Y4 => ?_
  replace Y4 : On p l e _ s m _ below meth c Z n0 T3 0 0 ((ob a own_C0 (own_F0 (.int x0) (.int (0 : Int32)) (.int (0 : Int32)) (.int (0 : Int32)))) :: Dr) := Y4
  show Rn p e below F T3 (mkF m 9 #[.val (.ref a), .val (.int x0), .val (.int x1), .val (.int x2), .val (.int x3)] [])
  refine Rn.go (T' := T3) (g' := (mkF m 11 #[.val (.ref a), .val (.int x0), .val (.int x1), .val (.int x2), .val (.int x3)] [(.int x1), (.ref a)])) (fun t k => ?_) ?_
  · show Steps p.tables e below (T3.setTop (mkF m 9 #[.val (.ref a), .val (.int x0), .val (.int x1), .val (.int x2), .val (.int x3)] [])) t
    refine XS.aloadN Y4.here hx rfl (hb hby d1_9) rfl rfl ?_
    show Steps p.tables e below (T3.setTop (mkF m 10 #[.val (.ref a), .val (.int x0), .val (.int x1), .val (.int x2), .val (.int x3)] [(.ref a)])) t
    refine XS.iloadN Y4.here hx rfl (hb hby d1_10) rfl ?_
    show Steps p.tables e below (T3.setTop (mkF m 11 #[.val (.ref a), .val (.int x0), .val (.int x1), .val (.int x2), .val (.int x3)] [(.int x1), (.ref a)])) t
    exact k
  refine On.putf Y4 hx hZ hown (w11 hw) (i := 0) (j := 1) rfl rfl (Or.inr ⟨(w12 hw), rfl, hnm⟩) (w1 hw) (ty := .int) (by decide) (v' := (.int x1)) rfl rfl (g := (mkF m 11 #[.val (.ref a), .val (.int x0), .val (.int x1), .val (.int x2), .val (.int x3)] [(.int x1), (.ref a)])) rfl rfl (hb hby d1_11) fun T5 Y6 => ?_
  replace Y6 : On p l e _ s m _ below meth c Z n0 T5 0 0 ((ob a own_C0 (own_F0 (.int x0) (.int x1) (.int (0 : Int32)) (.int (0 : Int32)))) :: Dr) := Y6
  show Rn p e below F T5 (mkF m 14 #[.val (.ref a), .val (.int x0), .val (.int x1), .val (.int x2), .val (.int x3)] [])
  refine Rn.go (T' := T5) (g' := (mkF m 16 #[.val (.ref a), .val (.int x0), .val (.int x1), .val (.int x2), .val (.int x3)] [(.int x2), (.ref a)])) (fun t k => ?_) ?_
  · show Steps p.tables e below (T5.setTop (mkF m 14 #[.val (.ref a), .val (.int x0), .val (.int x1), .val (.int x2), .val (.int x3)] [])) t
    refine XS.aloadN Y6.here hx rfl (hb hby d1_14) rfl rfl ?_
    show Steps p.tables e below (T5.setTop (mkF m 15 #[.val (.ref a), .val (.int x0), .val (.int x1), .val (.int x2), .val (.int x3)] [(.ref a)])) t
    refine XS.iloadN Y6.here hx rfl (hb hby d1_15) rfl ?_
    show Steps p.tables e below (T5.setTop (mkF m 16 #[.val (.ref a), .val (.int x0), .val (.int x1), .val (.int x2), .val (.int x3)] [(.int x2), (.ref a)])) t
    exact k
  refine On.putf Y6 hx hZ hown (w13 hw) (i := 0) (j := 2) rfl rfl (Or.inr ⟨(w14 hw), rfl, hnm⟩) (w1 hw) (ty := .int) (by decide) (v' := (.int x2)) rfl rfl (g := (mkF m 16 #[.val (.ref a), .val (.int x0), .val (.int x1), .val (.int x2), .val (.int x3)] [(.int x2), (.ref a)])) rfl rfl (hb hby d1_16) fun T7 Y8 => ?_
  replace Y8 : On p l e _ s m _ below meth c Z n0 T7 0 0 ((ob a own_C0 (own_F0 (.int x0) (.int x1) (.int x2) (.int (0 : Int32)))) :: Dr) := Y8
  show Rn p e below F T7 (mkF m 19 #[.val (.ref a), .val (.int x0), .val (.int x1), .val (.int x2), .val (.int x3)] [])
  refine Rn.go (T' := T7) (g' := (mkF m 22 #[.val (.ref a), .val (.int x0), .val (.int x1), .val (.int x2), .val (.int x3)] [(.int x3), (.ref a)])) (fun t k => ?_) ?_
  · show Steps p.tables e below (T7.setTop (mkF m 19 #[.val (.ref a), .val (.int x0), .val (.int x1), .val (.int x2), .val (.int x3)] [])) t
    refine XS.aloadN Y8.here hx rfl (hb hby d1_19) rfl rfl ?_
    show Steps p.tables e below (T7.setTop (mkF m 20 #[.val (.ref a), .val (.int x0), .val (.int x1), .val (.int x2), .val (.int x3)] [(.ref a)])) t
    refine XS.iload Y8.here hx rfl (hb hby d1_20) rfl ?_
    show Steps p.tables e below (T7.setTop (mkF m 22 #[.val (.ref a), .val (.int x0), .val (.int x1), .val (.int x2), .val (.int x3)] [(.int x3), (.ref a)])) t
    exact k
  refine On.putf Y8 hx hZ hown (w15 hw) (i := 0) (j := 3) rfl rfl (Or.inr ⟨(w16 hw), rfl, hnm⟩) (w1 hw) (ty := .int) (by decide) (v' := (.int x3)) rfl rfl (g := (mkF m 22 #[.val (.ref a), .val (.int x0), .val (.int x1), .val (.int x2), .val (.int x3)] [(.int x3), (.ref a)])) rfl rfl (hb hby d1_22) fun T9 Y10 => ?_
  replace Y10 : On p l e _ s m _ below meth c Z n0 T9 0 0 ((ob a own_C0 (own_F0 (.int x0) (.int x1) (.int x2) (.int x3))) :: Dr) := Y10
  show Rn p e below F T9 (mkF m 25 #[.val (.ref a), .val (.int x0), .val (.int x1), .val (.int x2), .val (.int x3)] [])
  rw [← hF]; exact On.retv Y10 hx hret hlk (hb hby d1_25) (by decide) (by decide) ⟨rfl, rfl⟩
theorem ef_rmI1 (m : MethodId) (a : Addr) (x0 : Int32) (x1 : Int32) (x2 : Int32) (x3 : Int32) : entryFrame m #[(.ref a), (.int x0), (.int x1), (.int x2), (.int x3)] 5 = (mkF m 0 #[.val (.ref a), .val (.int x0), .val (.int x1), .val (.int x2), .val (.int x3)] []) := by first | (simp [entryFrame, mkF, argsToLocals, Value.category]; done) | rfl
set_option maxRecDepth 65536 in
set_option maxHeartbeats 40000000 in
theorem rmI1 (l : Launch) (Z : State) (a0 : Array Value) (hw : ∀ d ∈ tables_1, d.before a0 Z = true) (n0 : Nat) (a : Addr) (x0 : Int32) (x1 : Int32) (x2 : Int32) (x3 : Int32) (it0 : Addr × Itm) (Dr : List (Addr × Itm)) :
    Con l Z n0 (⟨"com/example/oxalis/oxalis/Rect", "<init>", "(IIII)V"⟩ : MethodName) prog_48_method_1_code 5 none ({ frames := 1, cells := 0, slots := 0, locals := 12 } : Room) #[(.ref a), (.int x0), (.int x1), (.int x2), (.int x3)] ((it0) :: (ob a own_C0 (own_F0 (.int (0 : Int32)) (.int (0 : Int32)) (.int (0 : Int32)) (.int (0 : Int32)))) :: Dr) (fun v D' => v = none ∧ D' = ((it0) :: (ob a own_C0 (own_F0 (.int x0) (.int x1) (.int x2) (.int x3))) :: Dr)) := by
  refine Con.of (plainFor_of_name pn0) ?_
  intro p e s m below meth c T cx Y
  obtain ⟨hx, hby, hml, hown, hnm, hret, hlk, hZ⟩ := cx
  rw [ef_rmI1]
  generalize hF : Fi Z n0 below s _ _ _ = F
  refine Rn.go (T' := T) (g' := (mkF m 1 #[.val (.ref a), .val (.int x0), .val (.int x1), .val (.int x2), .val (.int x3)] [(.ref a)])) (fun t k => ?_) ?_
  · show Steps p.tables e below (T.setTop (mkF m 0 #[.val (.ref a), .val (.int x0), .val (.int x1), .val (.int x2), .val (.int x3)] [])) t
    refine XS.aloadN Y.here hx rfl (hb hby d1_0) rfl rfl ?_
    show Steps p.tables e below (T.setTop (mkF m 1 #[.val (.ref a), .val (.int x0), .val (.int x1), .val (.int x2), .val (.int x3)] [(.ref a)])) t
    exact k
  refine On.ini Y hx hZ hown (w6 hw) (w7 hw) (w8 hw) (g := (mkF m 1 #[.val (.ref a), .val (.int x0), .val (.int x1), .val (.int x2), .val (.int x3)] [(.ref a)])) rfl (by rw [hml]; rfl) rfl (hb hby d1_1) (by decide) (W := 0) (by show 2 * 0 + _ ≤ _; exact Nat.le_of_eq rfl) (by decide) fun T1 Y2 => ?_
  show Rn p e below F T1 (mkF m 4 #[.val (.ref a), .val (.int x0), .val (.int x1), .val (.int x2), .val (.int x3)] [])
  refine Rn.go (T' := T1) (g' := (mkF m 6 #[.val (.ref a), .val (.int x0), .val (.int x1), .val (.int x2), .val (.int x3)] [(.int x0), (.ref a)])) (fun t k => ?_) ?_
  · show Steps p.tables e below (T1.setTop (mkF m 4 #[.val (.ref a), .val (.int x0), .val (.int x1), .val (.int x2), .val (.int x3)] [])) t
    refine XS.aloadN Y2.here hx rfl (hb hby d1_4) rfl rfl ?_
    show Steps p.tables e below (T1.setTop (mkF m 5 #[.val (.ref a), .val (.int x0), .val (.int x1), .val (.int x2), .val (.int x3)] [(.ref a)])) t
    refine XS.iloadN Y2.here hx rfl (hb hby d1_5) rfl ?_
    show Steps p.tables e below (T1.setTop (mkF m 6 #[.val (.ref a), .val (.int x0), .val (.int x1), .val (.int x2), .val (.int x3)] [(.int x0), (.ref a)])) t
    exact k
  refine On.putf Y2 hx hZ hown (w9 hw) (i := 1) (j := 0) rfl rfl (Or.inr ⟨(w10 hw), rfl, hnm⟩) (w1 hw) (ty := .int) (by decide) (v' := (.int x0)) rfl rfl (g := (mkF m 6 #[.val (.ref a), .val (.int x0), .val (.int x1), .val (.int x2), .val (.int x3)] [(.int x0), (.ref a)])) rfl rfl (hb hby d1_6) fun T3 Y4 => ?_
  replace Y4 : On p l e _ s m _ below meth c Z n0 T3 0 0 ((it0) :: (ob a own_C0 (own_F0 (.int x0) (.int (0 : Int32)) (.int (0 : Int32)) (.int (0 : Int32)))) :: Dr) := Y4
  show Rn p e below F T3 (mkF m 9 #[.val (.ref a), .val (.int x0), .val (.int x1), .val (.int x2), .val (.int x3)] [])
  refine Rn.go (T' := T3) (g' := (mkF m 11 #[.val (.ref a), .val (.int x0), .val (.int x1), .val (.int x2), .val (.int x3)] [(.int x1), (.ref a)])) (fun t k => ?_) ?_
  · show Steps p.tables e below (T3.setTop (mkF m 9 #[.val (.ref a), .val (.int x0), .val (.int x1), .val (.int x2), .val (.int x3)] [])) t
    refine XS.aloadN Y4.here hx rfl (hb hby d1_9) rfl rfl ?_
    show Steps p.tables e below (T3.setTop (mkF m 10 #[.val (.ref a), .val (.int x0), .val (.int x1), .val (.int x2), .val (.int x3)] [(.ref a)])) t
    refine XS.iloadN Y4.here hx rfl (hb hby d1_10) rfl ?_
    show Steps p.tables e below (T3.setTop (mkF m 11 #[.val (.ref a), .val (.int x0), .val (.int x1), .val (.int x2), .val (.int x3)] [(.int x1), (.ref a)])) t
    exact k
  refine On.putf Y4 hx hZ hown (w11 hw) (i := 1) (j := 1) rfl rfl (Or.inr ⟨(w12 hw), rfl, hnm⟩) (w1 hw) (ty := .int) (by decide) (v' := (.int x1)) rfl rfl (g := (mkF m 11 #[.val (.ref a), .val (.int x0), .val (.int x1), .val (.int x2), .val (.int x3)] [(.int x1), (.ref a)])) rfl rfl (hb hby d1_11) fun T5 Y6 => ?_
  replace Y6 : On p l e _ s m _ below meth c Z n0 T5 0 0 ((it0) :: (ob a own_C0 (own_F0 (.int x0) (.int x1) (.int (0 : Int32)) (.int (0 : Int32)))) :: Dr) := Y6
  show Rn p e below F T5 (mkF m 14 #[.val (.ref a), .val (.int x0), .val (.int x1), .val (.int x2), .val (.int x3)] [])
  refine Rn.go (T' := T5) (g' := (mkF m 16 #[.val (.ref a), .val (.int x0), .val (.int x1), .val (.int x2), .val (.int x3)] [(.int x2), (.ref a)])) (fun t k => ?_) ?_
  · show Steps p.tables e below (T5.setTop (mkF m 14 #[.val (.ref a), .val (.int x0), .val (.int x1), .val (.int x2), .val (.int x3)] [])) t
    refine XS.aloadN Y6.here hx rfl (hb hby d1_14) rfl rfl ?_
    show Steps p.tables e below (T5.setTop (mkF m 15 #[.val (.ref a), .val (.int x0), .val (.int x1), .val (.int x2), .val (.int x3)] [(.ref a)])) t
    refine XS.iloadN Y6.here hx rfl (hb hby d1_15) rfl ?_
    show Steps p.tables e below (T5.setTop (mkF m 16 #[.val (.ref a), .val (.int x0), .val (.int x1), .val (.int x2), .val (.int x3)] [(.int x2), (.ref a)])) t
    exact k
  refine On.putf Y6 hx hZ hown (w13 hw) (i := 1) (j := 2) rfl rfl (Or.inr ⟨(w14 hw), rfl, hnm⟩) (w1 hw) (ty := .int) (by decide) (v' := (.int x2)) rfl rfl (g := (mkF m 16 #[.val (.ref a), .val (.int x0), .val (.int x1), .val (.int x2), .val (.int x3)] [(.int x2), (.ref a)])) rfl rfl (hb hby d1_16) fun T7 Y8 => ?_
  replace Y8 : On p l e _ s m _ below meth c Z n0 T7 0 0 ((it0) :: (ob a own_C0 (own_F0 (.int x0) (.int x1) (.int x2) (.int (0 : Int32)))) :: Dr) := Y8
  show Rn p e below F T7 (mkF m 19 #[.val (.ref a), .val (.int x0), .val (.int x1), .val (.int x2), .val (.int x3)] [])
  refine Rn.go (T' := T7) (g' := (mkF m 22 #[.val (.ref a), .val (.int x0), .val (.int x1), .val (.int x2), .val (.int x3)] [(.int x3), (.ref a)])) (fun t k => ?_) ?_
  · show Steps p.tables e below (T7.setTop (mkF m 19 #[.val (.ref a), .val (.int x0), .val (.int x1), .val (.int x2), .val (.int x3)] [])) t
    refine XS.aloadN Y8.here hx rfl (hb hby d1_19) rfl rfl ?_
    show Steps p.tables e below (T7.setTop (mkF m 20 #[.val (.ref a), .val (.int x0), .val (.int x1), .val (.int x2), .val (.int x3)] [(.ref a)])) t
    refine XS.iload Y8.here hx rfl (hb hby d1_20) rfl ?_
    show Steps p.tables e below (T7.setTop (mkF m 22 #[.val (.ref a), .val (.int x0), .val (.int x1), .val (.int x2), .val (.int x3)] [(.int x3), (.ref a)])) t
    exact k
  refine On.putf Y8 hx hZ hown (w15 hw) (i := 1) (j := 3) rfl rfl (Or.inr ⟨(w16 hw), rfl, hnm⟩) (w1 hw) (ty := .int) (by decide) (v' := (.int x3)) rfl rfl (g := (mkF m 22 #[.val (.ref a), .val (.int x0), .val (.int x1), .val (.int x2), .val (.int x3)] [(.int x3), (.ref a)])) rfl rfl (hb hby d1_22) fun T9 Y10 => ?_
  replace Y10 : On p l e _ s m _ below meth c Z n0 T9 0 0 ((it0) :: (ob a own_C0 (own_F0 (.int x0) (.int x1) (.int x2) (.int x3))) :: Dr) := Y10
  show Rn p e below F T9 (mkF m 25 #[.val (.ref a), .val (.int x0), .val (.int x1), .val (.int x2), .val (.int x3)] [])
  rw [← hF]; exact On.retv Y10 hx hret hlk (hb hby d1_25) (by decide) (by decide) ⟨rfl, rfl⟩
theorem ef_rmJ1 (m : MethodId) (a : Addr) (x0 : Int32) (x1 : Int32) (x2 : Int32) (x3 : Int32) : entryFrame m #[(.ref a), (.int x0), (.int x1), (.int x2), (.int x3)] 5 = (mkF m 0 #[.val (.ref a), .val (.int x0), .val (.int x1), .val (.int x2), .val (.int x3)] []) := by first | (simp [entryFrame, mkF, argsToLocals, Value.category]; done) | rfl
set_option maxRecDepth 65536 in
set_option maxHeartbeats 40000000 in
theorem rmJ1 (l : Launch) (Z : State) (a0 : Array Value) (hw : ∀ d ∈ tables_1, d.before a0 Z = true) (n0 : Nat) (a : Addr) (x0 : Int32) (x1 : Int32) (x2 : Int32) (x3 : Int32) (it0 : Addr × Itm) (Dr : List (Addr × Itm)) :
    Con l Z n0 (⟨"com/example/oxalis/oxalis/Insets", "<init>", "(IIII)V"⟩ : MethodName) prog_26_method_1_code 5 none ({ frames := 1, cells := 0, slots := 0, locals := 12 } : Room) #[(.ref a), (.int x0), (.int x1), (.int x2), (.int x3)] ((it0) :: (ob a own_C1 (own_F1 (.int (0 : Int32)) (.int (0 : Int32)) (.int (0 : Int32)) (.int (0 : Int32)))) :: Dr) (fun v D' => v = none ∧ D' = ((it0) :: (ob a own_C1 (own_F1 (.int x0) (.int x1) (.int x2) (.int x3))) :: Dr)) := by
  refine Con.of (plainFor_of_name pn1) ?_
  intro p e s m below meth c T cx Y
  obtain ⟨hx, hby, hml, hown, hnm, hret, hlk, hZ⟩ := cx
  rw [ef_rmJ1]
  generalize hF : Fi Z n0 below s _ _ _ = F
  refine Rn.go (T' := T) (g' := (mkF m 1 #[.val (.ref a), .val (.int x0), .val (.int x1), .val (.int x2), .val (.int x3)] [(.ref a)])) (fun t k => ?_) ?_
  · show Steps p.tables e below (T.setTop (mkF m 0 #[.val (.ref a), .val (.int x0), .val (.int x1), .val (.int x2), .val (.int x3)] [])) t
    refine XS.aloadN Y.here hx rfl (hb hby d4_0) rfl rfl ?_
    show Steps p.tables e below (T.setTop (mkF m 1 #[.val (.ref a), .val (.int x0), .val (.int x1), .val (.int x2), .val (.int x3)] [(.ref a)])) t
    exact k
  refine On.ini Y hx hZ hown (w30 hw) (w7 hw) (w8 hw) (g := (mkF m 1 #[.val (.ref a), .val (.int x0), .val (.int x1), .val (.int x2), .val (.int x3)] [(.ref a)])) rfl (by rw [hml]; rfl) rfl (hb hby d4_1) (by decide) (W := 0) (by show 2 * 0 + _ ≤ _; exact Nat.le_of_eq rfl) (by decide) fun T1 Y2 => ?_
  show Rn p e below F T1 (mkF m 4 #[.val (.ref a), .val (.int x0), .val (.int x1), .val (.int x2), .val (.int x3)] [])
  refine Rn.go (T' := T1) (g' := (mkF m 6 #[.val (.ref a), .val (.int x0), .val (.int x1), .val (.int x2), .val (.int x3)] [(.int x0), (.ref a)])) (fun t k => ?_) ?_
  · show Steps p.tables e below (T1.setTop (mkF m 4 #[.val (.ref a), .val (.int x0), .val (.int x1), .val (.int x2), .val (.int x3)] [])) t
    refine XS.aloadN Y2.here hx rfl (hb hby d4_4) rfl rfl ?_
    show Steps p.tables e below (T1.setTop (mkF m 5 #[.val (.ref a), .val (.int x0), .val (.int x1), .val (.int x2), .val (.int x3)] [(.ref a)])) t
    refine XS.iloadN Y2.here hx rfl (hb hby d4_5) rfl ?_
    show Steps p.tables e below (T1.setTop (mkF m 6 #[.val (.ref a), .val (.int x0), .val (.int x1), .val (.int x2), .val (.int x3)] [(.int x0), (.ref a)])) t
    exact k
  refine On.putf Y2 hx hZ hown (w31 hw) (i := 1) (j := 0) rfl rfl (Or.inr ⟨(w32 hw), rfl, hnm⟩) (w25 hw) (ty := .int) (by decide) (v' := (.int x0)) rfl rfl (g := (mkF m 6 #[.val (.ref a), .val (.int x0), .val (.int x1), .val (.int x2), .val (.int x3)] [(.int x0), (.ref a)])) rfl rfl (hb hby d4_6) fun T3 Y4 => ?_
  replace Y4 : On p l e _ s m _ below meth c Z n0 T3 0 0 ((it0) :: (ob a own_C1 (own_F1 (.int x0) (.int (0 : Int32)) (.int (0 : Int32)) (.int (0 : Int32)))) :: Dr) := Y4
  show Rn p e below F T3 (mkF m 9 #[.val (.ref a), .val (.int x0), .val (.int x1), .val (.int x2), .val (.int x3)] [])
  refine Rn.go (T' := T3) (g' := (mkF m 11 #[.val (.ref a), .val (.int x0), .val (.int x1), .val (.int x2), .val (.int x3)] [(.int x1), (.ref a)])) (fun t k => ?_) ?_
  · show Steps p.tables e below (T3.setTop (mkF m 9 #[.val (.ref a), .val (.int x0), .val (.int x1), .val (.int x2), .val (.int x3)] [])) t
    refine XS.aloadN Y4.here hx rfl (hb hby d4_9) rfl rfl ?_
    show Steps p.tables e below (T3.setTop (mkF m 10 #[.val (.ref a), .val (.int x0), .val (.int x1), .val (.int x2), .val (.int x3)] [(.ref a)])) t
    refine XS.iloadN Y4.here hx rfl (hb hby d4_10) rfl ?_
    show Steps p.tables e below (T3.setTop (mkF m 11 #[.val (.ref a), .val (.int x0), .val (.int x1), .val (.int x2), .val (.int x3)] [(.int x1), (.ref a)])) t
    exact k
  refine On.putf Y4 hx hZ hown (w33 hw) (i := 1) (j := 1) rfl rfl (Or.inr ⟨(w34 hw), rfl, hnm⟩) (w25 hw) (ty := .int) (by decide) (v' := (.int x1)) rfl rfl (g := (mkF m 11 #[.val (.ref a), .val (.int x0), .val (.int x1), .val (.int x2), .val (.int x3)] [(.int x1), (.ref a)])) rfl rfl (hb hby d4_11) fun T5 Y6 => ?_
  replace Y6 : On p l e _ s m _ below meth c Z n0 T5 0 0 ((it0) :: (ob a own_C1 (own_F1 (.int x0) (.int x1) (.int (0 : Int32)) (.int (0 : Int32)))) :: Dr) := Y6
  show Rn p e below F T5 (mkF m 14 #[.val (.ref a), .val (.int x0), .val (.int x1), .val (.int x2), .val (.int x3)] [])
  refine Rn.go (T' := T5) (g' := (mkF m 16 #[.val (.ref a), .val (.int x0), .val (.int x1), .val (.int x2), .val (.int x3)] [(.int x2), (.ref a)])) (fun t k => ?_) ?_
  · show Steps p.tables e below (T5.setTop (mkF m 14 #[.val (.ref a), .val (.int x0), .val (.int x1), .val (.int x2), .val (.int x3)] [])) t
    refine XS.aloadN Y6.here hx rfl (hb hby d4_14) rfl rfl ?_
    show Steps p.tables e below (T5.setTop (mkF m 15 #[.val (.ref a), .val (.int x0), .val (.int x1), .val (.int x2), .val (.int x3)] [(.ref a)])) t
    refine XS.iloadN Y6.here hx rfl (hb hby d4_15) rfl ?_
    show Steps p.tables e below (T5.setTop (mkF m 16 #[.val (.ref a), .val (.int x0), .val (.int x1), .val (.int x2), .val (.int x3)] [(.int x2), (.ref a)])) t
    exact k
  refine On.putf Y6 hx hZ hown (w35 hw) (i := 1) (j := 2) rfl rfl (Or.inr ⟨(w36 hw), rfl, hnm⟩) (w25 hw) (ty := .int) (by decide) (v' := (.int x2)) rfl rfl (g := (mkF m 16 #[.val (.ref a), .val (.int x0), .val (.int x1), .val (.int x2), .val (.int x3)] [(.int x2), (.ref a)])) rfl rfl (hb hby d4_16) fun T7 Y8 => ?_
  replace Y8 : On p l e _ s m _ below meth c Z n0 T7 0 0 ((it0) :: (ob a own_C1 (own_F1 (.int x0) (.int x1) (.int x2) (.int (0 : Int32)))) :: Dr) := Y8
  show Rn p e below F T7 (mkF m 19 #[.val (.ref a), .val (.int x0), .val (.int x1), .val (.int x2), .val (.int x3)] [])
  refine Rn.go (T' := T7) (g' := (mkF m 22 #[.val (.ref a), .val (.int x0), .val (.int x1), .val (.int x2), .val (.int x3)] [(.int x3), (.ref a)])) (fun t k => ?_) ?_
  · show Steps p.tables e below (T7.setTop (mkF m 19 #[.val (.ref a), .val (.int x0), .val (.int x1), .val (.int x2), .val (.int x3)] [])) t
    refine XS.aloadN Y8.here hx rfl (hb hby d4_19) rfl rfl ?_
    show Steps p.tables e below (T7.setTop (mkF m 20 #[.val (.ref a), .val (.int x0), .val (.int x1), .val (.int x2), .val (.int x3)] [(.ref a)])) t
    refine XS.iload Y8.here hx rfl (hb hby d4_20) rfl ?_
    show Steps p.tables e below (T7.setTop (mkF m 22 #[.val (.ref a), .val (.int x0), .val (.int x1), .val (.int x2), .val (.int x3)] [(.int x3), (.ref a)])) t
    exact k
  refine On.putf Y8 hx hZ hown (w37 hw) (i := 1) (j := 3) rfl rfl (Or.inr ⟨(w38 hw), rfl, hnm⟩) (w25 hw) (ty := .int) (by decide) (v' := (.int x3)) rfl rfl (g := (mkF m 22 #[.val (.ref a), .val (.int x0), .val (.int x1), .val (.int x2), .val (.int x3)] [(.int x3), (.ref a)])) rfl rfl (hb hby d4_22) fun T9 Y10 => ?_
  replace Y10 : On p l e _ s m _ below meth c Z n0 T9 0 0 ((it0) :: (ob a own_C1 (own_F1 (.int x0) (.int x1) (.int x2) (.int x3))) :: Dr) := Y10
  show Rn p e below F T9 (mkF m 25 #[.val (.ref a), .val (.int x0), .val (.int x1), .val (.int x2), .val (.int x3)] [])
  rw [← hF]; exact On.retv Y10 hx hret hlk (hb hby d4_25) (by decide) (by decide) ⟨rfl, rfl⟩
def own_eq4 (x0 x1 x2 x3 y0 y1 y2 y3 : Int32) : Int32 := if x0 = y0 then (if x1 = y1 then (if x2 = y2 then (if x3 = y3 then 1 else 0) else 0) else 0) else 0
theorem ef_rmE01 (m : MethodId) (a : Addr) (b : Addr) : entryFrame m #[(.ref a), (.ref b)] 3 = (mkF m 0 #[.val (.ref a), .val (.ref b), .unset] []) := by first | (simp [entryFrame, mkF, argsToLocals, Value.category]; done) | rfl
set_option maxRecDepth 65536 in
set_option maxHeartbeats 40000000 in
theorem rmE01 (l : Launch) (Z : State) (a0 : Array Value) (hw : ∀ d ∈ tables_1, d.before a0 Z = true) (n0 : Nat) (a : Addr) (b : Addr) (x0 : Int32) (x1 : Int32) (x2 : Int32) (x3 : Int32) (y0 : Int32) (y1 : Int32) (y2 : Int32) (y3 : Int32) (Dr : List (Addr × Itm)) :
    Con l Z n0 (⟨"com/example/oxalis/oxalis/Rect", "equals", "(Ljava/lang/Object;)Z"⟩ : MethodName) prog_48_method_12_code 3 (some .boolean) ({ frames := 0, cells := 0, slots := 0, locals := 0 } : Room) #[(.ref a), (.ref b)] ((ob a own_C0 (own_F0 (.int x0) (.int x1) (.int x2) (.int x3))) :: (ob b own_C0 (own_F0 (.int y0) (.int y1) (.int y2) (.int y3))) :: Dr) (fun v D' => v = some (.int (own_eq4 x0 x1 x2 x3 y0 y1 y2 y3)) ∧ D' = ((ob a own_C0 (own_F0 (.int x0) (.int x1) (.int x2) (.int x3))) :: (ob b own_C0 (own_F0 (.int y0) (.int y1) (.int y2) (.int y3))) :: Dr)) := by
  refine Con.of (plainFor_of_name pn0) ?_
  intro p e s m below meth c T cx Y
  obtain ⟨hx, hby, hml, hown, hnm, hret, hlk, hZ⟩ := cx
  rw [ef_rmE01]
  generalize hF : Fi Z n0 below s _ _ _ = F
  refine Rn.go (T' := T) (g' := (mkF m 1 #[.val (.ref a), .val (.ref b), .unset] [(.ref b)])) (fun t k => ?_) ?_
  · show Steps p.tables e below (T.setTop (mkF m 0 #[.val (.ref a), .val (.ref b), .unset] [])) t
    refine XS.aloadN Y.here hx rfl (hb hby d3_0) rfl rfl ?_
    show Steps p.tables e below (T.setTop (mkF m 1 #[.val (.ref a), .val (.ref b), .unset] [(.ref b)])) t
    exact k
  refine On.insY Y hx hZ hown (w22 hw) (i := 1) rfl (g := (mkF m 1 #[.val (.ref a), .val (.ref b), .unset] [(.ref b)])) rfl rfl (hb hby d3_1) fun T1 Y2 => ?_
  show Rn p e below F T1 (mkF m 4 #[.val (.ref a), .val (.ref b), .unset] [(.int (1 : Int32))])
  refine Rn.go (T' := T1) (g' := (mkF m 7 #[.val (.ref a), .val (.ref b), .unset] [])) (fun t k => XS.ifNo Y2.here hx rfl (hb hby d3_4) rfl ((if0 _ _).trans (feq (by decide)).1) k) ?_
  refine Rn.go (T' := T1) (g' := (mkF m 8 #[.val (.ref a), .val (.ref b), .unset] [(.ref b)])) (fun t k => ?_) ?_
  · show Steps p.tables e below (T1.setTop (mkF m 7 #[.val (.ref a), .val (.ref b), .unset] [])) t
    refine XS.aloadN Y2.here hx rfl (hb hby d3_7) rfl rfl ?_
    show Steps p.tables e below (T1.setTop (mkF m 8 #[.val (.ref a), .val (.ref b), .unset] [(.ref b)])) t
    exact k
  refine On.castS Y2 hx hZ hown (w22 hw) (i := 1) rfl (g := (mkF m 8 #[.val (.ref a), .val (.ref b), .unset] [(.ref b)])) rfl rfl (hb hby d3_8) fun T3 Y4 => ?_
  show Rn p e below F T3 (mkF m 11 #[.val (.ref a), .val (.ref b), .unset] [(.ref b)])
  refine Rn.go (T' := T3) (g' := (mkF m 13 #[.val (.ref a), .val (.ref b), .val (.ref b)] [(.ref a)])) (fun t k => ?_) ?_
  · show Steps p.tables e below (T3.setTop (mkF m 11 #[.val (.ref a), .val (.ref b), .unset] [(.ref b)])) t
    refine XS.astoreN Y4.here hx rfl (hb hby d3_11) rfl rfl (l' := #[.val (.ref a), .val (.ref b), .val (.ref b)]) rfl ?_
    show Steps p.tables e below (T3.setTop (mkF m 12 #[.val (.ref a), .val (.ref b), .val (.ref b)] [])) t
    refine XS.aloadN Y4.here hx rfl (hb hby d3_12) rfl rfl ?_
    show Steps p.tables e below (T3.setTop (mkF m 13 #[.val (.ref a), .val (.ref b), .val (.ref b)] [(.ref a)])) t
    exact k
  refine On.getf Y4 hx hZ hown (w9 hw) (i := 0) (j := 0) rfl rfl (g := (mkF m 13 #[.val (.ref a), .val (.ref b), .val (.ref b)] [(.ref a)])) rfl rfl (hb hby d3_13) fun T5 Y6 => ?_
  show Rn p e below F T5 (mkF m 16 #[.val (.ref a), .val (.ref b), .val (.ref b)] [(.int x0)])
  refine Rn.go (T' := T5) (g' := (mkF m 17 #[.val (.ref a), .val (.ref b), .val (.ref b)] [(.ref b), (.int x0)])) (fun t k => ?_) ?_
  · show Steps p.tables e below (T5.setTop (mkF m 16 #[.val (.ref a), .val (.ref b), .val (.ref b)] [(.int x0)])) t
    refine XS.aloadN Y6.here hx rfl (hb hby d3_16) rfl rfl ?_
    show Steps p.tables e below (T5.setTop (mkF m 17 #[.val (.ref a), .val (.ref b), .val (.ref b)] [(.ref b), (.int x0)])) t
    exact k
  refine On.getf Y6 hx hZ hown (w9 hw) (i := 1) (j := 0) rfl rfl (g := (mkF m 17 #[.val (.ref a), .val (.ref b), .val (.ref b)] [(.ref b), (.int x0)])) rfl rfl (hb hby d3_17) fun T7 Y8 => ?_
  show Rn p e below F T7 (mkF m 20 #[.val (.ref a), .val (.ref b), .val (.ref b)] [(.int y0), (.int x0)])
  by_cases hc20 : x0 = y0
  · refine Rn.go (T' := T7) (g' := (mkF m 23 #[.val (.ref a), .val (.ref b), .val (.ref b)] [])) (fun t k => XS.icmpNo Y8.here hx rfl (hb hby d3_20) rfl (teq hc20).2 k) ?_
    refine Rn.go (T' := T7) (g' := (mkF m 24 #[.val (.ref a), .val (.ref b), .val (.ref b)] [(.ref a)])) (fun t k => ?_) ?_
    · show Steps p.tables e below (T7.setTop (mkF m 23 #[.val (.ref a), .val (.ref b), .val (.ref b)] [])) t
      refine XS.aloadN Y8.here hx rfl (hb hby d3_23) rfl rfl ?_
      show Steps p.tables e below (T7.setTop (mkF m 24 #[.val (.ref a), .val (.ref b), .val (.ref b)] [(.ref a)])) t
      exact k
    refine On.getf Y8 hx hZ hown (w11 hw) (i := 0) (j := 1) rfl rfl (g := (mkF m 24 #[.val (.ref a), .val (.ref b), .val (.ref b)] [(.ref a)])) rfl rfl (hb hby d3_24) fun T9 Y10 => ?_
    show Rn p e below F T9 (mkF m 27 #[.val (.ref a), .val (.ref b), .val (.ref b)] [(.int x1)])
    refine Rn.go (T' := T9) (g' := (mkF m 28 #[.val (.ref a), .val (.ref b), .val (.ref b)] [(.ref b), (.int x1)])) (fun t k => ?_) ?_
    · show Steps p.tables e below (T9.setTop (mkF m 27 #[.val (.ref a), .val (.ref b), .val (.ref b)] [(.int x1)])) t
      refine XS.aloadN Y10.here hx rfl (hb hby d3_27) rfl rfl ?_
      show Steps p.tables e below (T9.setTop (mkF m 28 #[.val (.ref a), .val (.ref b), .val (.ref b)] [(.ref b), (.int x1)])) t
      exact k
    refine On.getf Y10 hx hZ hown (w11 hw) (i := 1) (j := 1) rfl rfl (g := (mkF m 28 #[.val (.ref a), .val (.ref b), .val (.ref b)] [(.ref b), (.int x1)])) rfl rfl (hb hby d3_28) fun T11 Y12 => ?_
    show Rn p e below F T11 (mkF m 31 #[.val (.ref a), .val (.ref b), .val (.ref b)] [(.int y1), (.int x1)])
    by_cases hc31 : x1 = y1
    · refine Rn.go (T' := T11) (g' := (mkF m 34 #[.val (.ref a), .val (.ref b), .val (.ref b)] [])) (fun t k => XS.icmpNo Y12.here hx rfl (hb hby d3_31) rfl (teq hc31).2 k) ?_
      refine Rn.go (T' := T11) (g' := (mkF m 35 #[.val (.ref a), .val (.ref b), .val (.ref b)] [(.ref a)])) (fun t k => ?_) ?_
      · show Steps p.tables e below (T11.setTop (mkF m 34 #[.val (.ref a), .val (.ref b), .val (.ref b)] [])) t
        refine XS.aloadN Y12.here hx rfl (hb hby d3_34) rfl rfl ?_
        show Steps p.tables e below (T11.setTop (mkF m 35 #[.val (.ref a), .val (.ref b), .val (.ref b)] [(.ref a)])) t
        exact k
      refine On.getf Y12 hx hZ hown (w13 hw) (i := 0) (j := 2) rfl rfl (g := (mkF m 35 #[.val (.ref a), .val (.ref b), .val (.ref b)] [(.ref a)])) rfl rfl (hb hby d3_35) fun T13 Y14 => ?_
      show Rn p e below F T13 (mkF m 38 #[.val (.ref a), .val (.ref b), .val (.ref b)] [(.int x2)])
      refine Rn.go (T' := T13) (g' := (mkF m 39 #[.val (.ref a), .val (.ref b), .val (.ref b)] [(.ref b), (.int x2)])) (fun t k => ?_) ?_
      · show Steps p.tables e below (T13.setTop (mkF m 38 #[.val (.ref a), .val (.ref b), .val (.ref b)] [(.int x2)])) t
        refine XS.aloadN Y14.here hx rfl (hb hby d3_38) rfl rfl ?_
        show Steps p.tables e below (T13.setTop (mkF m 39 #[.val (.ref a), .val (.ref b), .val (.ref b)] [(.ref b), (.int x2)])) t
        exact k
      refine On.getf Y14 hx hZ hown (w13 hw) (i := 1) (j := 2) rfl rfl (g := (mkF m 39 #[.val (.ref a), .val (.ref b), .val (.ref b)] [(.ref b), (.int x2)])) rfl rfl (hb hby d3_39) fun T15 Y16 => ?_
      show Rn p e below F T15 (mkF m 42 #[.val (.ref a), .val (.ref b), .val (.ref b)] [(.int y2), (.int x2)])
      by_cases hc42 : x2 = y2
      · refine Rn.go (T' := T15) (g' := (mkF m 45 #[.val (.ref a), .val (.ref b), .val (.ref b)] [])) (fun t k => XS.icmpNo Y16.here hx rfl (hb hby d3_42) rfl (teq hc42).2 k) ?_
        refine Rn.go (T' := T15) (g' := (mkF m 46 #[.val (.ref a), .val (.ref b), .val (.ref b)] [(.ref a)])) (fun t k => ?_) ?_
        · show Steps p.tables e below (T15.setTop (mkF m 45 #[.val (.ref a), .val (.ref b), .val (.ref b)] [])) t
          refine XS.aloadN Y16.here hx rfl (hb hby d3_45) rfl rfl ?_
          show Steps p.tables e below (T15.setTop (mkF m 46 #[.val (.ref a), .val (.ref b), .val (.ref b)] [(.ref a)])) t
          exact k
        refine On.getf Y16 hx hZ hown (w15 hw) (i := 0) (j := 3) rfl rfl (g := (mkF m 46 #[.val (.ref a), .val (.ref b), .val (.ref b)] [(.ref a)])) rfl rfl (hb hby d3_46) fun T17 Y18 => ?_
        show Rn p e below F T17 (mkF m 49 #[.val (.ref a), .val (.ref b), .val (.ref b)] [(.int x3)])
        refine Rn.go (T' := T17) (g' := (mkF m 50 #[.val (.ref a), .val (.ref b), .val (.ref b)] [(.ref b), (.int x3)])) (fun t k => ?_) ?_
        · show Steps p.tables e below (T17.setTop (mkF m 49 #[.val (.ref a), .val (.ref b), .val (.ref b)] [(.int x3)])) t
          refine XS.aloadN Y18.here hx rfl (hb hby d3_49) rfl rfl ?_
          show Steps p.tables e below (T17.setTop (mkF m 50 #[.val (.ref a), .val (.ref b), .val (.ref b)] [(.ref b), (.int x3)])) t
          exact k
        refine On.getf Y18 hx hZ hown (w15 hw) (i := 1) (j := 3) rfl rfl (g := (mkF m 50 #[.val (.ref a), .val (.ref b), .val (.ref b)] [(.ref b), (.int x3)])) rfl rfl (hb hby d3_50) fun T19 Y20 => ?_
        show Rn p e below F T19 (mkF m 53 #[.val (.ref a), .val (.ref b), .val (.ref b)] [(.int y3), (.int x3)])
        by_cases hc53 : x3 = y3
        · refine Rn.go (T' := T19) (g' := (mkF m 56 #[.val (.ref a), .val (.ref b), .val (.ref b)] [])) (fun t k => XS.icmpNo Y20.here hx rfl (hb hby d3_53) rfl (teq hc53).2 k) ?_
          refine Rn.go (T' := T19) (g' := (mkF m 61 #[.val (.ref a), .val (.ref b), .val (.ref b)] [(.int (1 : Int32))])) (fun t k => ?_) ?_
          · show Steps p.tables e below (T19.setTop (mkF m 56 #[.val (.ref a), .val (.ref b), .val (.ref b)] [])) t
            refine XS.iconst Y20.here hx rfl (hb hby d3_56) ?_
            show Steps p.tables e below (T19.setTop (mkF m 57 #[.val (.ref a), .val (.ref b), .val (.ref b)] [(.int (1 : Int32))])) t
            refine XS.goto Y20.here hx rfl (pc0 := 57) (pc' := 61) rfl (hb hby d3_57) (by decide) (by decide) ?_
            show Steps p.tables e below (T19.setTop (mkF m 61 #[.val (.ref a), .val (.ref b), .val (.ref b)] [(.int (1 : Int32))])) t
            exact k
          rw [← hF]; exact On.retn Y20 hx hret (by simp) hlk (z' := (1 : Int32)) (by decide) (hb hby d3_61) (by decide) (by decide) ⟨by simp [own_eq4, hc20, hc31, hc42, hc53], rfl⟩
        · refine Rn.go (T' := T19) (g' := (mkF m 60 #[.val (.ref a), .val (.ref b), .val (.ref b)] [])) (fun t k => XS.icmpYes Y20.here hx rfl (pc0 := 53) (pc' := 60) rfl (hb hby d3_53) rfl (feq hc53).2 (by decide) (by decide) k) ?_
          refine Rn.go (T' := T19) (g' := (mkF m 61 #[.val (.ref a), .val (.ref b), .val (.ref b)] [(.int (0 : Int32))])) (fun t k => ?_) ?_
          · show Steps p.tables e below (T19.setTop (mkF m 60 #[.val (.ref a), .val (.ref b), .val (.ref b)] [])) t
            refine XS.iconst Y20.here hx rfl (hb hby d3_60) ?_
            show Steps p.tables e below (T19.setTop (mkF m 61 #[.val (.ref a), .val (.ref b), .val (.ref b)] [(.int (0 : Int32))])) t
            exact k
          rw [← hF]; exact On.retn Y20 hx hret (by simp) hlk (z' := (0 : Int32)) (by decide) (hb hby d3_61) (by decide) (by decide) ⟨by simp [own_eq4, hc20, hc31, hc42, hc53], rfl⟩
      · refine Rn.go (T' := T15) (g' := (mkF m 60 #[.val (.ref a), .val (.ref b), .val (.ref b)] [])) (fun t k => XS.icmpYes Y16.here hx rfl (pc0 := 42) (pc' := 60) rfl (hb hby d3_42) rfl (feq hc42).2 (by decide) (by decide) k) ?_
        refine Rn.go (T' := T15) (g' := (mkF m 61 #[.val (.ref a), .val (.ref b), .val (.ref b)] [(.int (0 : Int32))])) (fun t k => ?_) ?_
        · show Steps p.tables e below (T15.setTop (mkF m 60 #[.val (.ref a), .val (.ref b), .val (.ref b)] [])) t
          refine XS.iconst Y16.here hx rfl (hb hby d3_60) ?_
          show Steps p.tables e below (T15.setTop (mkF m 61 #[.val (.ref a), .val (.ref b), .val (.ref b)] [(.int (0 : Int32))])) t
          exact k
        rw [← hF]; exact On.retn Y16 hx hret (by simp) hlk (z' := (0 : Int32)) (by decide) (hb hby d3_61) (by decide) (by decide) ⟨by simp [own_eq4, hc20, hc31, hc42], rfl⟩
    · refine Rn.go (T' := T11) (g' := (mkF m 60 #[.val (.ref a), .val (.ref b), .val (.ref b)] [])) (fun t k => XS.icmpYes Y12.here hx rfl (pc0 := 31) (pc' := 60) rfl (hb hby d3_31) rfl (feq hc31).2 (by decide) (by decide) k) ?_
      refine Rn.go (T' := T11) (g' := (mkF m 61 #[.val (.ref a), .val (.ref b), .val (.ref b)] [(.int (0 : Int32))])) (fun t k => ?_) ?_
      · show Steps p.tables e below (T11.setTop (mkF m 60 #[.val (.ref a), .val (.ref b), .val (.ref b)] [])) t
        refine XS.iconst Y12.here hx rfl (hb hby d3_60) ?_
        show Steps p.tables e below (T11.setTop (mkF m 61 #[.val (.ref a), .val (.ref b), .val (.ref b)] [(.int (0 : Int32))])) t
        exact k
      rw [← hF]; exact On.retn Y12 hx hret (by simp) hlk (z' := (0 : Int32)) (by decide) (hb hby d3_61) (by decide) (by decide) ⟨by simp [own_eq4, hc20, hc31], rfl⟩
  · refine Rn.go (T' := T7) (g' := (mkF m 60 #[.val (.ref a), .val (.ref b), .val (.ref b)] [])) (fun t k => XS.icmpYes Y8.here hx rfl (pc0 := 20) (pc' := 60) rfl (hb hby d3_20) rfl (feq hc20).2 (by decide) (by decide) k) ?_
    refine Rn.go (T' := T7) (g' := (mkF m 61 #[.val (.ref a), .val (.ref b), .val (.ref b)] [(.int (0 : Int32))])) (fun t k => ?_) ?_
    · show Steps p.tables e below (T7.setTop (mkF m 60 #[.val (.ref a), .val (.ref b), .val (.ref b)] [])) t
      refine XS.iconst Y8.here hx rfl (hb hby d3_60) ?_
      show Steps p.tables e below (T7.setTop (mkF m 61 #[.val (.ref a), .val (.ref b), .val (.ref b)] [(.int (0 : Int32))])) t
      exact k
    rw [← hF]; exact On.retn Y8 hx hret (by simp) hlk (z' := (0 : Int32)) (by decide) (hb hby d3_61) (by decide) (by decide) ⟨by simp [own_eq4, hc20], rfl⟩
theorem ef_rmE10 (m : MethodId) (b : Addr) (a : Addr) : entryFrame m #[(.ref b), (.ref a)] 3 = (mkF m 0 #[.val (.ref b), .val (.ref a), .unset] []) := by first | (simp [entryFrame, mkF, argsToLocals, Value.category]; done) | rfl
set_option maxRecDepth 65536 in
set_option maxHeartbeats 40000000 in
theorem rmE10 (l : Launch) (Z : State) (a0 : Array Value) (hw : ∀ d ∈ tables_1, d.before a0 Z = true) (n0 : Nat) (b : Addr) (a : Addr) (x0 : Int32) (x1 : Int32) (x2 : Int32) (x3 : Int32) (y0 : Int32) (y1 : Int32) (y2 : Int32) (y3 : Int32) (Dr : List (Addr × Itm)) :
    Con l Z n0 (⟨"com/example/oxalis/oxalis/Rect", "equals", "(Ljava/lang/Object;)Z"⟩ : MethodName) prog_48_method_12_code 3 (some .boolean) ({ frames := 0, cells := 0, slots := 0, locals := 0 } : Room) #[(.ref b), (.ref a)] ((ob a own_C0 (own_F0 (.int x0) (.int x1) (.int x2) (.int x3))) :: (ob b own_C0 (own_F0 (.int y0) (.int y1) (.int y2) (.int y3))) :: Dr) (fun v D' => v = some (.int (own_eq4 y0 y1 y2 y3 x0 x1 x2 x3)) ∧ D' = ((ob a own_C0 (own_F0 (.int x0) (.int x1) (.int x2) (.int x3))) :: (ob b own_C0 (own_F0 (.int y0) (.int y1) (.int y2) (.int y3))) :: Dr)) := by
  refine Con.of (plainFor_of_name pn0) ?_
  intro p e s m below meth c T cx Y
  obtain ⟨hx, hby, hml, hown, hnm, hret, hlk, hZ⟩ := cx
  rw [ef_rmE10]
  generalize hF : Fi Z n0 below s _ _ _ = F
  refine Rn.go (T' := T) (g' := (mkF m 1 #[.val (.ref b), .val (.ref a), .unset] [(.ref a)])) (fun t k => ?_) ?_
  · show Steps p.tables e below (T.setTop (mkF m 0 #[.val (.ref b), .val (.ref a), .unset] [])) t
    refine XS.aloadN Y.here hx rfl (hb hby d3_0) rfl rfl ?_
    show Steps p.tables e below (T.setTop (mkF m 1 #[.val (.ref b), .val (.ref a), .unset] [(.ref a)])) t
    exact k
  refine On.insY Y hx hZ hown (w22 hw) (i := 0) rfl (g := (mkF m 1 #[.val (.ref b), .val (.ref a), .unset] [(.ref a)])) rfl rfl (hb hby d3_1) fun T1 Y2 => ?_
  show Rn p e below F T1 (mkF m 4 #[.val (.ref b), .val (.ref a), .unset] [(.int (1 : Int32))])
  refine Rn.go (T' := T1) (g' := (mkF m 7 #[.val (.ref b), .val (.ref a), .unset] [])) (fun t k => XS.ifNo Y2.here hx rfl (hb hby d3_4) rfl ((if0 _ _).trans (feq (by decide)).1) k) ?_
  refine Rn.go (T' := T1) (g' := (mkF m 8 #[.val (.ref b), .val (.ref a), .unset] [(.ref a)])) (fun t k => ?_) ?_
  · show Steps p.tables e below (T1.setTop (mkF m 7 #[.val (.ref b), .val (.ref a), .unset] [])) t
    refine XS.aloadN Y2.here hx rfl (hb hby d3_7) rfl rfl ?_
    show Steps p.tables e below (T1.setTop (mkF m 8 #[.val (.ref b), .val (.ref a), .unset] [(.ref a)])) t
    exact k
  refine On.castS Y2 hx hZ hown (w22 hw) (i := 0) rfl (g := (mkF m 8 #[.val (.ref b), .val (.ref a), .unset] [(.ref a)])) rfl rfl (hb hby d3_8) fun T3 Y4 => ?_
  show Rn p e below F T3 (mkF m 11 #[.val (.ref b), .val (.ref a), .unset] [(.ref a)])
  refine Rn.go (T' := T3) (g' := (mkF m 13 #[.val (.ref b), .val (.ref a), .val (.ref a)] [(.ref b)])) (fun t k => ?_) ?_
  · show Steps p.tables e below (T3.setTop (mkF m 11 #[.val (.ref b), .val (.ref a), .unset] [(.ref a)])) t
    refine XS.astoreN Y4.here hx rfl (hb hby d3_11) rfl rfl (l' := #[.val (.ref b), .val (.ref a), .val (.ref a)]) rfl ?_
    show Steps p.tables e below (T3.setTop (mkF m 12 #[.val (.ref b), .val (.ref a), .val (.ref a)] [])) t
    refine XS.aloadN Y4.here hx rfl (hb hby d3_12) rfl rfl ?_
    show Steps p.tables e below (T3.setTop (mkF m 13 #[.val (.ref b), .val (.ref a), .val (.ref a)] [(.ref b)])) t
    exact k
  refine On.getf Y4 hx hZ hown (w9 hw) (i := 1) (j := 0) rfl rfl (g := (mkF m 13 #[.val (.ref b), .val (.ref a), .val (.ref a)] [(.ref b)])) rfl rfl (hb hby d3_13) fun T5 Y6 => ?_
  show Rn p e below F T5 (mkF m 16 #[.val (.ref b), .val (.ref a), .val (.ref a)] [(.int y0)])
  refine Rn.go (T' := T5) (g' := (mkF m 17 #[.val (.ref b), .val (.ref a), .val (.ref a)] [(.ref a), (.int y0)])) (fun t k => ?_) ?_
  · show Steps p.tables e below (T5.setTop (mkF m 16 #[.val (.ref b), .val (.ref a), .val (.ref a)] [(.int y0)])) t
    refine XS.aloadN Y6.here hx rfl (hb hby d3_16) rfl rfl ?_
    show Steps p.tables e below (T5.setTop (mkF m 17 #[.val (.ref b), .val (.ref a), .val (.ref a)] [(.ref a), (.int y0)])) t
    exact k
  refine On.getf Y6 hx hZ hown (w9 hw) (i := 0) (j := 0) rfl rfl (g := (mkF m 17 #[.val (.ref b), .val (.ref a), .val (.ref a)] [(.ref a), (.int y0)])) rfl rfl (hb hby d3_17) fun T7 Y8 => ?_
  show Rn p e below F T7 (mkF m 20 #[.val (.ref b), .val (.ref a), .val (.ref a)] [(.int x0), (.int y0)])
  by_cases hc20 : y0 = x0
  · refine Rn.go (T' := T7) (g' := (mkF m 23 #[.val (.ref b), .val (.ref a), .val (.ref a)] [])) (fun t k => XS.icmpNo Y8.here hx rfl (hb hby d3_20) rfl (teq hc20).2 k) ?_
    refine Rn.go (T' := T7) (g' := (mkF m 24 #[.val (.ref b), .val (.ref a), .val (.ref a)] [(.ref b)])) (fun t k => ?_) ?_
    · show Steps p.tables e below (T7.setTop (mkF m 23 #[.val (.ref b), .val (.ref a), .val (.ref a)] [])) t
      refine XS.aloadN Y8.here hx rfl (hb hby d3_23) rfl rfl ?_
      show Steps p.tables e below (T7.setTop (mkF m 24 #[.val (.ref b), .val (.ref a), .val (.ref a)] [(.ref b)])) t
      exact k
    refine On.getf Y8 hx hZ hown (w11 hw) (i := 1) (j := 1) rfl rfl (g := (mkF m 24 #[.val (.ref b), .val (.ref a), .val (.ref a)] [(.ref b)])) rfl rfl (hb hby d3_24) fun T9 Y10 => ?_
    show Rn p e below F T9 (mkF m 27 #[.val (.ref b), .val (.ref a), .val (.ref a)] [(.int y1)])
    refine Rn.go (T' := T9) (g' := (mkF m 28 #[.val (.ref b), .val (.ref a), .val (.ref a)] [(.ref a), (.int y1)])) (fun t k => ?_) ?_
    · show Steps p.tables e below (T9.setTop (mkF m 27 #[.val (.ref b), .val (.ref a), .val (.ref a)] [(.int y1)])) t
      refine XS.aloadN Y10.here hx rfl (hb hby d3_27) rfl rfl ?_
      show Steps p.tables e below (T9.setTop (mkF m 28 #[.val (.ref b), .val (.ref a), .val (.ref a)] [(.ref a), (.int y1)])) t
      exact k
    refine On.getf Y10 hx hZ hown (w11 hw) (i := 0) (j := 1) rfl rfl (g := (mkF m 28 #[.val (.ref b), .val (.ref a), .val (.ref a)] [(.ref a), (.int y1)])) rfl rfl (hb hby d3_28) fun T11 Y12 => ?_
    show Rn p e below F T11 (mkF m 31 #[.val (.ref b), .val (.ref a), .val (.ref a)] [(.int x1), (.int y1)])
    by_cases hc31 : y1 = x1
    · refine Rn.go (T' := T11) (g' := (mkF m 34 #[.val (.ref b), .val (.ref a), .val (.ref a)] [])) (fun t k => XS.icmpNo Y12.here hx rfl (hb hby d3_31) rfl (teq hc31).2 k) ?_
      refine Rn.go (T' := T11) (g' := (mkF m 35 #[.val (.ref b), .val (.ref a), .val (.ref a)] [(.ref b)])) (fun t k => ?_) ?_
      · show Steps p.tables e below (T11.setTop (mkF m 34 #[.val (.ref b), .val (.ref a), .val (.ref a)] [])) t
        refine XS.aloadN Y12.here hx rfl (hb hby d3_34) rfl rfl ?_
        show Steps p.tables e below (T11.setTop (mkF m 35 #[.val (.ref b), .val (.ref a), .val (.ref a)] [(.ref b)])) t
        exact k
      refine On.getf Y12 hx hZ hown (w13 hw) (i := 1) (j := 2) rfl rfl (g := (mkF m 35 #[.val (.ref b), .val (.ref a), .val (.ref a)] [(.ref b)])) rfl rfl (hb hby d3_35) fun T13 Y14 => ?_
      show Rn p e below F T13 (mkF m 38 #[.val (.ref b), .val (.ref a), .val (.ref a)] [(.int y2)])
      refine Rn.go (T' := T13) (g' := (mkF m 39 #[.val (.ref b), .val (.ref a), .val (.ref a)] [(.ref a), (.int y2)])) (fun t k => ?_) ?_
      · show Steps p.tables e below (T13.setTop (mkF m 38 #[.val (.ref b), .val (.ref a), .val (.ref a)] [(.int y2)])) t
        refine XS.aloadN Y14.here hx rfl (hb hby d3_38) rfl rfl ?_
        show Steps p.tables e below (T13.setTop (mkF m 39 #[.val (.ref b), .val (.ref a), .val (.ref a)] [(.ref a), (.int y2)])) t
        exact k
      refine On.getf Y14 hx hZ hown (w13 hw) (i := 0) (j := 2) rfl rfl (g := (mkF m 39 #[.val (.ref b), .val (.ref a), .val (.ref a)] [(.ref a), (.int y2)])) rfl rfl (hb hby d3_39) fun T15 Y16 => ?_
      show Rn p e below F T15 (mkF m 42 #[.val (.ref b), .val (.ref a), .val (.ref a)] [(.int x2), (.int y2)])
      by_cases hc42 : y2 = x2
      · refine Rn.go (T' := T15) (g' := (mkF m 45 #[.val (.ref b), .val (.ref a), .val (.ref a)] [])) (fun t k => XS.icmpNo Y16.here hx rfl (hb hby d3_42) rfl (teq hc42).2 k) ?_
        refine Rn.go (T' := T15) (g' := (mkF m 46 #[.val (.ref b), .val (.ref a), .val (.ref a)] [(.ref b)])) (fun t k => ?_) ?_
        · show Steps p.tables e below (T15.setTop (mkF m 45 #[.val (.ref b), .val (.ref a), .val (.ref a)] [])) t
          refine XS.aloadN Y16.here hx rfl (hb hby d3_45) rfl rfl ?_
          show Steps p.tables e below (T15.setTop (mkF m 46 #[.val (.ref b), .val (.ref a), .val (.ref a)] [(.ref b)])) t
          exact k
        refine On.getf Y16 hx hZ hown (w15 hw) (i := 1) (j := 3) rfl rfl (g := (mkF m 46 #[.val (.ref b), .val (.ref a), .val (.ref a)] [(.ref b)])) rfl rfl (hb hby d3_46) fun T17 Y18 => ?_
        show Rn p e below F T17 (mkF m 49 #[.val (.ref b), .val (.ref a), .val (.ref a)] [(.int y3)])
        refine Rn.go (T' := T17) (g' := (mkF m 50 #[.val (.ref b), .val (.ref a), .val (.ref a)] [(.ref a), (.int y3)])) (fun t k => ?_) ?_
        · show Steps p.tables e below (T17.setTop (mkF m 49 #[.val (.ref b), .val (.ref a), .val (.ref a)] [(.int y3)])) t
          refine XS.aloadN Y18.here hx rfl (hb hby d3_49) rfl rfl ?_
          show Steps p.tables e below (T17.setTop (mkF m 50 #[.val (.ref b), .val (.ref a), .val (.ref a)] [(.ref a), (.int y3)])) t
          exact k
        refine On.getf Y18 hx hZ hown (w15 hw) (i := 0) (j := 3) rfl rfl (g := (mkF m 50 #[.val (.ref b), .val (.ref a), .val (.ref a)] [(.ref a), (.int y3)])) rfl rfl (hb hby d3_50) fun T19 Y20 => ?_
        show Rn p e below F T19 (mkF m 53 #[.val (.ref b), .val (.ref a), .val (.ref a)] [(.int x3), (.int y3)])
        by_cases hc53 : y3 = x3
        · refine Rn.go (T' := T19) (g' := (mkF m 56 #[.val (.ref b), .val (.ref a), .val (.ref a)] [])) (fun t k => XS.icmpNo Y20.here hx rfl (hb hby d3_53) rfl (teq hc53).2 k) ?_
          refine Rn.go (T' := T19) (g' := (mkF m 61 #[.val (.ref b), .val (.ref a), .val (.ref a)] [(.int (1 : Int32))])) (fun t k => ?_) ?_
          · show Steps p.tables e below (T19.setTop (mkF m 56 #[.val (.ref b), .val (.ref a), .val (.ref a)] [])) t
            refine XS.iconst Y20.here hx rfl (hb hby d3_56) ?_
            show Steps p.tables e below (T19.setTop (mkF m 57 #[.val (.ref b), .val (.ref a), .val (.ref a)] [(.int (1 : Int32))])) t
            refine XS.goto Y20.here hx rfl (pc0 := 57) (pc' := 61) rfl (hb hby d3_57) (by decide) (by decide) ?_
            show Steps p.tables e below (T19.setTop (mkF m 61 #[.val (.ref b), .val (.ref a), .val (.ref a)] [(.int (1 : Int32))])) t
            exact k
          rw [← hF]; exact On.retn Y20 hx hret (by simp) hlk (z' := (1 : Int32)) (by decide) (hb hby d3_61) (by decide) (by decide) ⟨by simp [own_eq4, hc20, hc31, hc42, hc53], rfl⟩
        · refine Rn.go (T' := T19) (g' := (mkF m 60 #[.val (.ref b), .val (.ref a), .val (.ref a)] [])) (fun t k => XS.icmpYes Y20.here hx rfl (pc0 := 53) (pc' := 60) rfl (hb hby d3_53) rfl (feq hc53).2 (by decide) (by decide) k) ?_
          refine Rn.go (T' := T19) (g' := (mkF m 61 #[.val (.ref b), .val (.ref a), .val (.ref a)] [(.int (0 : Int32))])) (fun t k => ?_) ?_
          · show Steps p.tables e below (T19.setTop (mkF m 60 #[.val (.ref b), .val (.ref a), .val (.ref a)] [])) t
            refine XS.iconst Y20.here hx rfl (hb hby d3_60) ?_
            show Steps p.tables e below (T19.setTop (mkF m 61 #[.val (.ref b), .val (.ref a), .val (.ref a)] [(.int (0 : Int32))])) t
            exact k
          rw [← hF]; exact On.retn Y20 hx hret (by simp) hlk (z' := (0 : Int32)) (by decide) (hb hby d3_61) (by decide) (by decide) ⟨by simp [own_eq4, hc20, hc31, hc42, hc53], rfl⟩
      · refine Rn.go (T' := T15) (g' := (mkF m 60 #[.val (.ref b), .val (.ref a), .val (.ref a)] [])) (fun t k => XS.icmpYes Y16.here hx rfl (pc0 := 42) (pc' := 60) rfl (hb hby d3_42) rfl (feq hc42).2 (by decide) (by decide) k) ?_
        refine Rn.go (T' := T15) (g' := (mkF m 61 #[.val (.ref b), .val (.ref a), .val (.ref a)] [(.int (0 : Int32))])) (fun t k => ?_) ?_
        · show Steps p.tables e below (T15.setTop (mkF m 60 #[.val (.ref b), .val (.ref a), .val (.ref a)] [])) t
          refine XS.iconst Y16.here hx rfl (hb hby d3_60) ?_
          show Steps p.tables e below (T15.setTop (mkF m 61 #[.val (.ref b), .val (.ref a), .val (.ref a)] [(.int (0 : Int32))])) t
          exact k
        rw [← hF]; exact On.retn Y16 hx hret (by simp) hlk (z' := (0 : Int32)) (by decide) (hb hby d3_61) (by decide) (by decide) ⟨by simp [own_eq4, hc20, hc31, hc42], rfl⟩
    · refine Rn.go (T' := T11) (g' := (mkF m 60 #[.val (.ref b), .val (.ref a), .val (.ref a)] [])) (fun t k => XS.icmpYes Y12.here hx rfl (pc0 := 31) (pc' := 60) rfl (hb hby d3_31) rfl (feq hc31).2 (by decide) (by decide) k) ?_
      refine Rn.go (T' := T11) (g' := (mkF m 61 #[.val (.ref b), .val (.ref a), .val (.ref a)] [(.int (0 : Int32))])) (fun t k => ?_) ?_
      · show Steps p.tables e below (T11.setTop (mkF m 60 #[.val (.ref b), .val (.ref a), .val (.ref a)] [])) t
        refine XS.iconst Y12.here hx rfl (hb hby d3_60) ?_
        show Steps p.tables e below (T11.setTop (mkF m 61 #[.val (.ref b), .val (.ref a), .val (.ref a)] [(.int (0 : Int32))])) t
        exact k
      rw [← hF]; exact On.retn Y12 hx hret (by simp) hlk (z' := (0 : Int32)) (by decide) (hb hby d3_61) (by decide) (by decide) ⟨by simp [own_eq4, hc20, hc31], rfl⟩
  · refine Rn.go (T' := T7) (g' := (mkF m 60 #[.val (.ref b), .val (.ref a), .val (.ref a)] [])) (fun t k => XS.icmpYes Y8.here hx rfl (pc0 := 20) (pc' := 60) rfl (hb hby d3_20) rfl (feq hc20).2 (by decide) (by decide) k) ?_
    refine Rn.go (T' := T7) (g' := (mkF m 61 #[.val (.ref b), .val (.ref a), .val (.ref a)] [(.int (0 : Int32))])) (fun t k => ?_) ?_
    · show Steps p.tables e below (T7.setTop (mkF m 60 #[.val (.ref b), .val (.ref a), .val (.ref a)] [])) t
      refine XS.iconst Y8.here hx rfl (hb hby d3_60) ?_
      show Steps p.tables e below (T7.setTop (mkF m 61 #[.val (.ref b), .val (.ref a), .val (.ref a)] [(.int (0 : Int32))])) t
      exact k
    rw [← hF]; exact On.retn Y8 hx hret (by simp) hlk (z' := (0 : Int32)) (by decide) (hb hby d3_61) (by decide) (by decide) ⟨by simp [own_eq4, hc20], rfl⟩
theorem ef_rmE00 (m : MethodId) (a : Addr) : entryFrame m #[(.ref a), (.ref a)] 3 = (mkF m 0 #[.val (.ref a), .val (.ref a), .unset] []) := by first | (simp [entryFrame, mkF, argsToLocals, Value.category]; done) | rfl
set_option maxRecDepth 65536 in
set_option maxHeartbeats 40000000 in
theorem rmE00 (l : Launch) (Z : State) (a0 : Array Value) (hw : ∀ d ∈ tables_1, d.before a0 Z = true) (n0 : Nat) (a : Addr) (x0 : Int32) (x1 : Int32) (x2 : Int32) (x3 : Int32) (Dr : List (Addr × Itm)) :
    Con l Z n0 (⟨"com/example/oxalis/oxalis/Rect", "equals", "(Ljava/lang/Object;)Z"⟩ : MethodName) prog_48_method_12_code 3 (some .boolean) ({ frames := 0, cells := 0, slots := 0, locals := 0 } : Room) #[(.ref a), (.ref a)] ((ob a own_C0 (own_F0 (.int x0) (.int x1) (.int x2) (.int x3))) :: Dr) (fun v D' => v = some (.int (1 : Int32)) ∧ D' = ((ob a own_C0 (own_F0 (.int x0) (.int x1) (.int x2) (.int x3))) :: Dr)) := by
  refine Con.of (plainFor_of_name pn0) ?_
  intro p e s m below meth c T cx Y
  obtain ⟨hx, hby, hml, hown, hnm, hret, hlk, hZ⟩ := cx
  rw [ef_rmE00]
  generalize hF : Fi Z n0 below s _ _ _ = F
  refine Rn.go (T' := T) (g' := (mkF m 1 #[.val (.ref a), .val (.ref a), .unset] [(.ref a)])) (fun t k => ?_) ?_
  · show Steps p.tables e below (T.setTop (mkF m 0 #[.val (.ref a), .val (.ref a), .unset] [])) t
    refine XS.aloadN Y.here hx rfl (hb hby d3_0) rfl rfl ?_
    show Steps p.tables e below (T.setTop (mkF m 1 #[.val (.ref a), .val (.ref a), .unset] [(.ref a)])) t
    exact k
  refine On.insY Y hx hZ hown (w22 hw) (i := 0) rfl (g := (mkF m 1 #[.val (.ref a), .val (.ref a), .unset] [(.ref a)])) rfl rfl (hb hby d3_1) fun T1 Y2 => ?_
  show Rn p e below F T1 (mkF m 4 #[.val (.ref a), .val (.ref a), .unset] [(.int (1 : Int32))])
  refine Rn.go (T' := T1) (g' := (mkF m 7 #[.val (.ref a), .val (.ref a), .unset] [])) (fun t k => XS.ifNo Y2.here hx rfl (hb hby d3_4) rfl ((if0 _ _).trans (feq (by decide)).1) k) ?_
  refine Rn.go (T' := T1) (g' := (mkF m 8 #[.val (.ref a), .val (.ref a), .unset] [(.ref a)])) (fun t k => ?_) ?_
  · show Steps p.tables e below (T1.setTop (mkF m 7 #[.val (.ref a), .val (.ref a), .unset] [])) t
    refine XS.aloadN Y2.here hx rfl (hb hby d3_7) rfl rfl ?_
    show Steps p.tables e below (T1.setTop (mkF m 8 #[.val (.ref a), .val (.ref a), .unset] [(.ref a)])) t
    exact k
  refine On.castS Y2 hx hZ hown (w22 hw) (i := 0) rfl (g := (mkF m 8 #[.val (.ref a), .val (.ref a), .unset] [(.ref a)])) rfl rfl (hb hby d3_8) fun T3 Y4 => ?_
  show Rn p e below F T3 (mkF m 11 #[.val (.ref a), .val (.ref a), .unset] [(.ref a)])
  refine Rn.go (T' := T3) (g' := (mkF m 13 #[.val (.ref a), .val (.ref a), .val (.ref a)] [(.ref a)])) (fun t k => ?_) ?_
  · show Steps p.tables e below (T3.setTop (mkF m 11 #[.val (.ref a), .val (.ref a), .unset] [(.ref a)])) t
    refine XS.astoreN Y4.here hx rfl (hb hby d3_11) rfl rfl (l' := #[.val (.ref a), .val (.ref a), .val (.ref a)]) rfl ?_
    show Steps p.tables e below (T3.setTop (mkF m 12 #[.val (.ref a), .val (.ref a), .val (.ref a)] [])) t
    refine XS.aloadN Y4.here hx rfl (hb hby d3_12) rfl rfl ?_
    show Steps p.tables e below (T3.setTop (mkF m 13 #[.val (.ref a), .val (.ref a), .val (.ref a)] [(.ref a)])) t
    exact k
  refine On.getf Y4 hx hZ hown (w9 hw) (i := 0) (j := 0) rfl rfl (g := (mkF m 13 #[.val (.ref a), .val (.ref a), .val (.ref a)] [(.ref a)])) rfl rfl (hb hby d3_13) fun T5 Y6 => ?_
  show Rn p e below F T5 (mkF m 16 #[.val (.ref a), .val (.ref a), .val (.ref a)] [(.int x0)])
  refine Rn.go (T' := T5) (g' := (mkF m 17 #[.val (.ref a), .val (.ref a), .val (.ref a)] [(.ref a), (.int x0)])) (fun t k => ?_) ?_
  · show Steps p.tables e below (T5.setTop (mkF m 16 #[.val (.ref a), .val (.ref a), .val (.ref a)] [(.int x0)])) t
    refine XS.aloadN Y6.here hx rfl (hb hby d3_16) rfl rfl ?_
    show Steps p.tables e below (T5.setTop (mkF m 17 #[.val (.ref a), .val (.ref a), .val (.ref a)] [(.ref a), (.int x0)])) t
    exact k
  refine On.getf Y6 hx hZ hown (w9 hw) (i := 0) (j := 0) rfl rfl (g := (mkF m 17 #[.val (.ref a), .val (.ref a), .val (.ref a)] [(.ref a), (.int x0)])) rfl rfl (hb hby d3_17) fun T7 Y8 => ?_
  show Rn p e below F T7 (mkF m 20 #[.val (.ref a), .val (.ref a), .val (.ref a)] [(.int x0), (.int x0)])
  refine Rn.go (T' := T7) (g' := (mkF m 23 #[.val (.ref a), .val (.ref a), .val (.ref a)] [])) (fun t k => XS.icmpNo Y8.here hx rfl (hb hby d3_20) rfl (teq rfl).2 k) ?_
  refine Rn.go (T' := T7) (g' := (mkF m 24 #[.val (.ref a), .val (.ref a), .val (.ref a)] [(.ref a)])) (fun t k => ?_) ?_
  · show Steps p.tables e below (T7.setTop (mkF m 23 #[.val (.ref a), .val (.ref a), .val (.ref a)] [])) t
    refine XS.aloadN Y8.here hx rfl (hb hby d3_23) rfl rfl ?_
    show Steps p.tables e below (T7.setTop (mkF m 24 #[.val (.ref a), .val (.ref a), .val (.ref a)] [(.ref a)])) t
    exact k
  refine On.getf Y8 hx hZ hown (w11 hw) (i := 0) (j := 1) rfl rfl (g := (mkF m 24 #[.val (.ref a), .val (.ref a), .val (.ref a)] [(.ref a)])) rfl rfl (hb hby d3_24) fun T9 Y10 => ?_
  show Rn p e below F T9 (mkF m 27 #[.val (.ref a), .val (.ref a), .val (.ref a)] [(.int x1)])
  refine Rn.go (T' := T9) (g' := (mkF m 28 #[.val (.ref a), .val (.ref a), .val (.ref a)] [(.ref a), (.int x1)])) (fun t k => ?_) ?_
  · show Steps p.tables e below (T9.setTop (mkF m 27 #[.val (.ref a), .val (.ref a), .val (.ref a)] [(.int x1)])) t
    refine XS.aloadN Y10.here hx rfl (hb hby d3_27) rfl rfl ?_
    show Steps p.tables e below (T9.setTop (mkF m 28 #[.val (.ref a), .val (.ref a), .val (.ref a)] [(.ref a), (.int x1)])) t
    exact k
  refine On.getf Y10 hx hZ hown (w11 hw) (i := 0) (j := 1) rfl rfl (g := (mkF m 28 #[.val (.ref a), .val (.ref a), .val (.ref a)] [(.ref a), (.int x1)])) rfl rfl (hb hby d3_28) fun T11 Y12 => ?_
  show Rn p e below F T11 (mkF m 31 #[.val (.ref a), .val (.ref a), .val (.ref a)] [(.int x1), (.int x1)])
  refine Rn.go (T' := T11) (g' := (mkF m 34 #[.val (.ref a), .val (.ref a), .val (.ref a)] [])) (fun t k => XS.icmpNo Y12.here hx rfl (hb hby d3_31) rfl (teq rfl).2 k) ?_
  refine Rn.go (T' := T11) (g' := (mkF m 35 #[.val (.ref a), .val (.ref a), .val (.ref a)] [(.ref a)])) (fun t k => ?_) ?_
  · show Steps p.tables e below (T11.setTop (mkF m 34 #[.val (.ref a), .val (.ref a), .val (.ref a)] [])) t
    refine XS.aloadN Y12.here hx rfl (hb hby d3_34) rfl rfl ?_
    show Steps p.tables e below (T11.setTop (mkF m 35 #[.val (.ref a), .val (.ref a), .val (.ref a)] [(.ref a)])) t
    exact k
  refine On.getf Y12 hx hZ hown (w13 hw) (i := 0) (j := 2) rfl rfl (g := (mkF m 35 #[.val (.ref a), .val (.ref a), .val (.ref a)] [(.ref a)])) rfl rfl (hb hby d3_35) fun T13 Y14 => ?_
  show Rn p e below F T13 (mkF m 38 #[.val (.ref a), .val (.ref a), .val (.ref a)] [(.int x2)])
  refine Rn.go (T' := T13) (g' := (mkF m 39 #[.val (.ref a), .val (.ref a), .val (.ref a)] [(.ref a), (.int x2)])) (fun t k => ?_) ?_
  · show Steps p.tables e below (T13.setTop (mkF m 38 #[.val (.ref a), .val (.ref a), .val (.ref a)] [(.int x2)])) t
    refine XS.aloadN Y14.here hx rfl (hb hby d3_38) rfl rfl ?_
    show Steps p.tables e below (T13.setTop (mkF m 39 #[.val (.ref a), .val (.ref a), .val (.ref a)] [(.ref a), (.int x2)])) t
    exact k
  refine On.getf Y14 hx hZ hown (w13 hw) (i := 0) (j := 2) rfl rfl (g := (mkF m 39 #[.val (.ref a), .val (.ref a), .val (.ref a)] [(.ref a), (.int x2)])) rfl rfl (hb hby d3_39) fun T15 Y16 => ?_
  show Rn p e below F T15 (mkF m 42 #[.val (.ref a), .val (.ref a), .val (.ref a)] [(.int x2), (.int x2)])
  refine Rn.go (T' := T15) (g' := (mkF m 45 #[.val (.ref a), .val (.ref a), .val (.ref a)] [])) (fun t k => XS.icmpNo Y16.here hx rfl (hb hby d3_42) rfl (teq rfl).2 k) ?_
  refine Rn.go (T' := T15) (g' := (mkF m 46 #[.val (.ref a), .val (.ref a), .val (.ref a)] [(.ref a)])) (fun t k => ?_) ?_
  · show Steps p.tables e below (T15.setTop (mkF m 45 #[.val (.ref a), .val (.ref a), .val (.ref a)] [])) t
    refine XS.aloadN Y16.here hx rfl (hb hby d3_45) rfl rfl ?_
    show Steps p.tables e below (T15.setTop (mkF m 46 #[.val (.ref a), .val (.ref a), .val (.ref a)] [(.ref a)])) t
    exact k
  refine On.getf Y16 hx hZ hown (w15 hw) (i := 0) (j := 3) rfl rfl (g := (mkF m 46 #[.val (.ref a), .val (.ref a), .val (.ref a)] [(.ref a)])) rfl rfl (hb hby d3_46) fun T17 Y18 => ?_
  show Rn p e below F T17 (mkF m 49 #[.val (.ref a), .val (.ref a), .val (.ref a)] [(.int x3)])
  refine Rn.go (T' := T17) (g' := (mkF m 50 #[.val (.ref a), .val (.ref a), .val (.ref a)] [(.ref a), (.int x3)])) (fun t k => ?_) ?_
  · show Steps p.tables e below (T17.setTop (mkF m 49 #[.val (.ref a), .val (.ref a), .val (.ref a)] [(.int x3)])) t
    refine XS.aloadN Y18.here hx rfl (hb hby d3_49) rfl rfl ?_
    show Steps p.tables e below (T17.setTop (mkF m 50 #[.val (.ref a), .val (.ref a), .val (.ref a)] [(.ref a), (.int x3)])) t
    exact k
  refine On.getf Y18 hx hZ hown (w15 hw) (i := 0) (j := 3) rfl rfl (g := (mkF m 50 #[.val (.ref a), .val (.ref a), .val (.ref a)] [(.ref a), (.int x3)])) rfl rfl (hb hby d3_50) fun T19 Y20 => ?_
  show Rn p e below F T19 (mkF m 53 #[.val (.ref a), .val (.ref a), .val (.ref a)] [(.int x3), (.int x3)])
  refine Rn.go (T' := T19) (g' := (mkF m 56 #[.val (.ref a), .val (.ref a), .val (.ref a)] [])) (fun t k => XS.icmpNo Y20.here hx rfl (hb hby d3_53) rfl (teq rfl).2 k) ?_
  refine Rn.go (T' := T19) (g' := (mkF m 61 #[.val (.ref a), .val (.ref a), .val (.ref a)] [(.int (1 : Int32))])) (fun t k => ?_) ?_
  · show Steps p.tables e below (T19.setTop (mkF m 56 #[.val (.ref a), .val (.ref a), .val (.ref a)] [])) t
    refine XS.iconst Y20.here hx rfl (hb hby d3_56) ?_
    show Steps p.tables e below (T19.setTop (mkF m 57 #[.val (.ref a), .val (.ref a), .val (.ref a)] [(.int (1 : Int32))])) t
    refine XS.goto Y20.here hx rfl (pc0 := 57) (pc' := 61) rfl (hb hby d3_57) (by decide) (by decide) ?_
    show Steps p.tables e below (T19.setTop (mkF m 61 #[.val (.ref a), .val (.ref a), .val (.ref a)] [(.int (1 : Int32))])) t
    exact k
  rw [← hF]; exact On.retn Y20 hx hret (by simp) hlk (z' := (1 : Int32)) (by decide) (hb hby d3_61) (by decide) (by decide) ⟨rfl, rfl⟩
theorem ef_rmEI (m : MethodId) (a : Addr) (b : Addr) : entryFrame m #[(.ref a), (.ref b)] 3 = (mkF m 0 #[.val (.ref a), .val (.ref b), .unset] []) := by first | (simp [entryFrame, mkF, argsToLocals, Value.category]; done) | rfl
set_option maxRecDepth 65536 in
set_option maxHeartbeats 40000000 in
theorem rmEI (l : Launch) (Z : State) (a0 : Array Value) (hw : ∀ d ∈ tables_1, d.before a0 Z = true) (n0 : Nat) (a : Addr) (b : Addr) (x0 : Int32) (x1 : Int32) (x2 : Int32) (x3 : Int32) (y0 : Int32) (y1 : Int32) (y2 : Int32) (y3 : Int32) (Dr : List (Addr × Itm)) :
    Con l Z n0 (⟨"com/example/oxalis/oxalis/Rect", "equals", "(Ljava/lang/Object;)Z"⟩ : MethodName) prog_48_method_12_code 3 (some .boolean) ({ frames := 0, cells := 0, slots := 0, locals := 0 } : Room) #[(.ref a), (.ref b)] ((ob a own_C0 (own_F0 (.int x0) (.int x1) (.int x2) (.int x3))) :: (ob b own_C1 (own_F1 (.int y0) (.int y1) (.int y2) (.int y3))) :: Dr) (fun v D' => v = some (.int (0 : Int32)) ∧ D' = ((ob a own_C0 (own_F0 (.int x0) (.int x1) (.int x2) (.int x3))) :: (ob b own_C1 (own_F1 (.int y0) (.int y1) (.int y2) (.int y3))) :: Dr)) := by
  refine Con.of (plainFor_of_name pn0) ?_
  intro p e s m below meth c T cx Y
  obtain ⟨hx, hby, hml, hown, hnm, hret, hlk, hZ⟩ := cx
  rw [ef_rmEI]
  generalize hF : Fi Z n0 below s _ _ _ = F
  refine Rn.go (T' := T) (g' := (mkF m 1 #[.val (.ref a), .val (.ref b), .unset] [(.ref b)])) (fun t k => ?_) ?_
  · show Steps p.tables e below (T.setTop (mkF m 0 #[.val (.ref a), .val (.ref b), .unset] [])) t
    refine XS.aloadN Y.here hx rfl (hb hby d3_0) rfl rfl ?_
    show Steps p.tables e below (T.setTop (mkF m 1 #[.val (.ref a), .val (.ref b), .unset] [(.ref b)])) t
    exact k
  refine On.insN Y hx hZ hown (w22 hw) (i := 1) rfl (w1 hw) (ch := ["java/lang/Object"]) (own_chain hw) (by decide) (g := (mkF m 1 #[.val (.ref a), .val (.ref b), .unset] [(.ref b)])) rfl rfl (hb hby d3_1) fun T1 Y2 => ?_
  show Rn p e below F T1 (mkF m 4 #[.val (.ref a), .val (.ref b), .unset] [(.int (0 : Int32))])
  refine Rn.go (T' := T1) (g' := (mkF m 60 #[.val (.ref a), .val (.ref b), .unset] [])) (fun t k => XS.ifYes Y2.here hx rfl (pc0 := 4) (pc' := 60) rfl (hb hby d3_4) rfl ((if0 _ _).trans (teq rfl).1) (by decide) (by decide) k) ?_
  refine Rn.go (T' := T1) (g' := (mkF m 61 #[.val (.ref a), .val (.ref b), .unset] [(.int (0 : Int32))])) (fun t k => ?_) ?_
  · show Steps p.tables e below (T1.setTop (mkF m 60 #[.val (.ref a), .val (.ref b), .unset] [])) t
    refine XS.iconst Y2.here hx rfl (hb hby d3_60) ?_
    show Steps p.tables e below (T1.setTop (mkF m 61 #[.val (.ref a), .val (.ref b), .unset] [(.int (0 : Int32))])) t
    exact k
  rw [← hF]; exact On.retn Y2 hx hret (by simp) hlk (z' := (0 : Int32)) (by decide) (hb hby d3_61) (by decide) (by decide) ⟨rfl, rfl⟩
theorem ef_rmEN (m : MethodId) (a : Addr) : entryFrame m #[(.ref a), .null] 3 = (mkF m 0 #[.val (.ref a), .val .null, .unset] []) := by first | (simp [entryFrame, mkF, argsToLocals, Value.category]; done) | rfl
set_option maxRecDepth 65536 in
set_option maxHeartbeats 40000000 in
theorem rmEN (l : Launch) (Z : State) (a0 : Array Value) (hw : ∀ d ∈ tables_1, d.before a0 Z = true) (n0 : Nat) (a : Addr) (x0 : Int32) (x1 : Int32) (x2 : Int32) (x3 : Int32) (Dr : List (Addr × Itm)) :
    Con l Z n0 (⟨"com/example/oxalis/oxalis/Rect", "equals", "(Ljava/lang/Object;)Z"⟩ : MethodName) prog_48_method_12_code 3 (some .boolean) ({ frames := 0, cells := 0, slots := 0, locals := 0 } : Room) #[(.ref a), .null] ((ob a own_C0 (own_F0 (.int x0) (.int x1) (.int x2) (.int x3))) :: Dr) (fun v D' => v = some (.int (0 : Int32)) ∧ D' = ((ob a own_C0 (own_F0 (.int x0) (.int x1) (.int x2) (.int x3))) :: Dr)) := by
  refine Con.of (plainFor_of_name pn0) ?_
  intro p e s m below meth c T cx Y
  obtain ⟨hx, hby, hml, hown, hnm, hret, hlk, hZ⟩ := cx
  rw [ef_rmEN]
  generalize hF : Fi Z n0 below s _ _ _ = F
  refine Rn.go (T' := T) (g' := (mkF m 1 #[.val (.ref a), .val .null, .unset] [.null])) (fun t k => ?_) ?_
  · show Steps p.tables e below (T.setTop (mkF m 0 #[.val (.ref a), .val .null, .unset] [])) t
    refine XS.aloadN Y.here hx rfl (hb hby d3_0) rfl rfl ?_
    show Steps p.tables e below (T.setTop (mkF m 1 #[.val (.ref a), .val .null, .unset] [.null])) t
    exact k
  refine On.insNull Y hx (g := (mkF m 1 #[.val (.ref a), .val .null, .unset] [.null])) rfl rfl (hb hby d3_1) ?_
  show Rn p e below F T (mkF m 4 #[.val (.ref a), .val .null, .unset] [(.int (0 : Int32))])
  refine Rn.go (T' := T) (g' := (mkF m 60 #[.val (.ref a), .val .null, .unset] [])) (fun t k => XS.ifYes Y.here hx rfl (pc0 := 4) (pc' := 60) rfl (hb hby d3_4) rfl ((if0 _ _).trans (teq rfl).1) (by decide) (by decide) k) ?_
  refine Rn.go (T' := T) (g' := (mkF m 61 #[.val (.ref a), .val .null, .unset] [(.int (0 : Int32))])) (fun t k => ?_) ?_
  · show Steps p.tables e below (T.setTop (mkF m 60 #[.val (.ref a), .val .null, .unset] [])) t
    refine XS.iconst Y.here hx rfl (hb hby d3_60) ?_
    show Steps p.tables e below (T.setTop (mkF m 61 #[.val (.ref a), .val .null, .unset] [(.int (0 : Int32))])) t
    exact k
  rw [← hF]; exact On.retn Y hx hret (by simp) hlk (z' := (0 : Int32)) (by decide) (hb hby d3_61) (by decide) (by decide) ⟨rfl, rfl⟩
theorem own_add0 (x y : Int32) : (x = x + y) ↔ y = 0 := by
  constructor
  · intro h
    have h2 : x + y - x = x - x := by rw [← h]
    rw [Int32.add_comm, Int32.add_sub_cancel, Int32.sub_self] at h2
    exact h2
  · rintro rfl; simp
theorem own_4 (x0 x1 x2 x3 : Int32) : own_eq4 x0 x1 x2 x3 x0 x1 x2 x3 = 1 := by simp [own_eq4]
theorem own_7a (l t r b v : Int32) (h : v = (if l = t then (if t = r then (if r = b then (1 : Int32) else (0 : Int32)) else (0 : Int32)) else (0 : Int32))) : own_eq4 l t r b t r b l = v := by
  rw [h]; unfold own_eq4
  by_cases h1 : l = t
  · subst h1
    by_cases h2 : l = r
    · subst h2
      by_cases h3 : l = b
      · subst h3; simp
      · simp [h3]
    · simp [h2]
  · simp [h1]
theorem own_7b (l t r b v : Int32) (h : v = (if l = t then (if t = r then (if r = b then (1 : Int32) else (0 : Int32)) else (0 : Int32)) else (0 : Int32))) : own_eq4 t r b l l t r b = v := by
  rw [← own_7a l t r b v h]; unfold own_eq4
  simp only [eq_comm (a := t) (b := l), eq_comm (a := r) (b := t), eq_comm (a := b) (b := r), eq_comm (a := l) (b := b)]
theorem own_0a (l t r b d k v dl dt dr db : Int32) (hk : k = 0 ∨ k = 1 ∨ k = 2 ∨ k = 3) (h1 : dl = (if k = (0 : Int32) then d else (0 : Int32))) (h2 : dt = (if k = (1 : Int32) then d else (0 : Int32))) (h3 : dr = (if k = (2 : Int32) then d else (0 : Int32))) (h4 : db = (if k = (3 : Int32) then d else (0 : Int32))) (h : v = (if d = (0 : Int32) then (1 : Int32) else (0 : Int32))) :
    own_eq4 l t r b (l + dl) (t + dt) (r + dr) (b + db) = v := by
  unfold own_eq4
  simp only [own_add0]
  rcases hk with rfl | rfl | rfl | rfl
  all_goals
    simp at h1 h2 h3 h4
    rw [h1, h2, h3, h4, h]; simp
theorem own_sym (x0 x1 x2 x3 y0 y1 y2 y3 : Int32) : own_eq4 y0 y1 y2 y3 x0 x1 x2 x3 = own_eq4 x0 x1 x2 x3 y0 y1 y2 y3 := by
  unfold own_eq4
  simp only [eq_comm (a := y0) (b := x0), eq_comm (a := y1) (b := x1), eq_comm (a := y2) (b := x2), eq_comm (a := y3) (b := x3)]
theorem own_k (x k : Int32) (hk : k = x &&& 7) (h5 : ¬ k = 5) (h6 : ¬ k = 6) (h4 : ¬ k = 4) (h7 : ¬ k = 7) : k = 0 ∨ k = 1 ∨ k = 2 ∨ k = 3 := by
  have h := Jvm.Kit.i32_mask x 7 (k := 3) (by decide) (by decide)
  rw [← hk] at h
  have hb : 0 ≤ k.toInt ∧ k.toInt ≤ 7 := by omega
  rcases own_le7 hb.1 hb.2 with e | e | e | e | e | e | e | e
  all_goals first | (exact absurd e h4) | (exact absurd e h5) | (exact absurd e h6) | (exact absurd e h7) | simp [e]
theorem ef_rm0 (m : MethodId) (p0 : Int32) (p1 : Int32) (p2 : Int32) (p3 : Int32) (p4 : Int32) (p5 : Int32) : entryFrame m #[(.int p0), (.int p1), (.int p2), (.int p3), (.int p4), (.int p5)] maxLocals = (mkF m 0 #[.val (.int p0), .val (.int p1), .val (.int p2), .val (.int p3), .val (.int p4), .val (.int p5), .unset, .unset, .unset, .unset, .unset, .unset, .unset, .unset] []) := by first | (simp [entryFrame, mkF, argsToLocals, Value.category, maxLocals]; done) | rfl
set_option maxRecDepth 65536 in
set_option maxHeartbeats 40000000 in
theorem rm0 (l : Launch) (Z : State) (a0 : Array Value) (hw : ∀ d ∈ tables_1, d.before a0 Z = true) (n0 : Nat) (p0 : Int32) (p1 : Int32) (p2 : Int32) (p3 : Int32) (p4 : Int32) (p5 : Int32) :
    Con l Z n0 x code maxLocals ret room_1 #[(.int p0), (.int p1), (.int p2), (.int p3), (.int p4), (.int p5)] [] (fun v _ => v = some (.int 1)) := by
  refine Con.of (plainFor_of_name pn2) ?_
  intro p e s m below meth c T cx Y
  obtain ⟨hx, hby, hml, hown, hnm, hret, hlk, hZ⟩ := cx
  rw [ef_rm0]
  generalize hF : Fi Z n0 below s _ _ _ = F
  refine Rn.go (T' := T) (g' := (mkF m 7 #[.val (.int p0), .val (.int p1), .val (.int p2), .val (.int p3), .val (.int p4), .val (.int p5), .val (.int (p5 &&& (7 : Int32))), .unset, .unset, .unset, .unset, .unset, .unset, .unset] [])) (fun t k => ?_) ?_
  · show Steps p.tables e below (T.setTop (mkF m 0 #[.val (.int p0), .val (.int p1), .val (.int p2), .val (.int p3), .val (.int p4), .val (.int p5), .unset, .unset, .unset, .unset, .unset, .unset, .unset, .unset] [])) t
    refine XS.iload Y.here hx rfl (hb hby at_0) rfl ?_
    show Steps p.tables e below (T.setTop (mkF m 2 #[.val (.int p0), .val (.int p1), .val (.int p2), .val (.int p3), .val (.int p4), .val (.int p5), .unset, .unset, .unset, .unset, .unset, .unset, .unset, .unset] [(.int p5)])) t
    refine XS.bipush Y.here hx rfl (hb hby at_2) ?_
    show Steps p.tables e below (T.setTop (mkF m 4 #[.val (.int p0), .val (.int p1), .val (.int p2), .val (.int p3), .val (.int p4), .val (.int p5), .unset, .unset, .unset, .unset, .unset, .unset, .unset, .unset] [(.int (7 : Int32)), (.int p5)])) t
    refine XS.iand Y.here hx rfl (hb hby at_4) rfl ?_
    show Steps p.tables e below (T.setTop (mkF m 5 #[.val (.int p0), .val (.int p1), .val (.int p2), .val (.int p3), .val (.int p4), .val (.int p5), .unset, .unset, .unset, .unset, .unset, .unset, .unset, .unset] [(.int (p5 &&& (7 : Int32)))])) t
    refine XS.istore Y.here hx rfl (hb hby at_5) rfl (l' := #[.val (.int p0), .val (.int p1), .val (.int p2), .val (.int p3), .val (.int p4), .val (.int p5), .val (.int (p5 &&& (7 : Int32))), .unset, .unset, .unset, .unset, .unset, .unset, .unset]) rfl ?_
    show Steps p.tables e below (T.setTop (mkF m 7 #[.val (.int p0), .val (.int p1), .val (.int p2), .val (.int p3), .val (.int p4), .val (.int p5), .val (.int (p5 &&& (7 : Int32))), .unset, .unset, .unset, .unset, .unset, .unset, .unset] [])) t
    exact k
  obtain ⟨kk, hkk⟩ : ∃ z : Int32, z = (p5 &&& (7 : Int32)) := ⟨_, rfl⟩
  rw [← hkk]
  refine On.newo Y hx hZ hown (w0 hw) (w1 hw) (w2 hw) _ (own_lay_0 hw) (by decide) (g := (mkF m 7 #[.val (.int p0), .val (.int p1), .val (.int p2), .val (.int p3), .val (.int p4), .val (.int p5), .val (.int kk), .unset, .unset, .unset, .unset, .unset, .unset, .unset] [])) rfl (hb hby at_7) (by decide) (by decide) fun T1 a3 Y2 => ?_
  replace Y2 : On p l e _ s m _ below meth c Z n0 T1 1 4 [ob a3 own_C0 (own_F0 (.int (0 : Int32)) (.int (0 : Int32)) (.int (0 : Int32)) (.int (0 : Int32)))] := Y2
  show Rn p e below F T1 (mkF m 10 #[.val (.int p0), .val (.int p1), .val (.int p2), .val (.int p3), .val (.int p4), .val (.int p5), .val (.int kk), .unset, .unset, .unset, .unset, .unset, .unset, .unset] [(.ref a3)])
  refine Rn.go (T' := T1) (g' := (mkF m 15 #[.val (.int p0), .val (.int p1), .val (.int p2), .val (.int p3), .val (.int p4), .val (.int p5), .val (.int kk), .unset, .unset, .unset, .unset, .unset, .unset, .unset] [(.int p3), (.int p2), (.int p1), (.int p0), (.ref a3), (.ref a3)])) (fun t k => ?_) ?_
  · show Steps p.tables e below (T1.setTop (mkF m 10 #[.val (.int p0), .val (.int p1), .val (.int p2), .val (.int p3), .val (.int p4), .val (.int p5), .val (.int kk), .unset, .unset, .unset, .unset, .unset, .unset, .unset] [(.ref a3)])) t
    refine XS.dup Y2.here hx rfl (hb hby at_10) rfl rfl ?_
    show Steps p.tables e below (T1.setTop (mkF m 11 #[.val (.int p0), .val (.int p1), .val (.int p2), .val (.int p3), .val (.int p4), .val (.int p5), .val (.int kk), .unset, .unset, .unset, .unset, .unset, .unset, .unset] [(.ref a3), (.ref a3)])) t
    refine XS.iloadN Y2.here hx rfl (hb hby at_11) rfl ?_
    show Steps p.tables e below (T1.setTop (mkF m 12 #[.val (.int p0), .val (.int p1), .val (.int p2), .val (.int p3), .val (.int p4), .val (.int p5), .val (.int kk), .unset, .unset, .unset, .unset, .unset, .unset, .unset] [(.int p0), (.ref a3), (.ref a3)])) t
    refine XS.iloadN Y2.here hx rfl (hb hby at_12) rfl ?_
    show Steps p.tables e below (T1.setTop (mkF m 13 #[.val (.int p0), .val (.int p1), .val (.int p2), .val (.int p3), .val (.int p4), .val (.int p5), .val (.int kk), .unset, .unset, .unset, .unset, .unset, .unset, .unset] [(.int p1), (.int p0), (.ref a3), (.ref a3)])) t
    refine XS.iloadN Y2.here hx rfl (hb hby at_13) rfl ?_
    show Steps p.tables e below (T1.setTop (mkF m 14 #[.val (.int p0), .val (.int p1), .val (.int p2), .val (.int p3), .val (.int p4), .val (.int p5), .val (.int kk), .unset, .unset, .unset, .unset, .unset, .unset, .unset] [(.int p2), (.int p1), (.int p0), (.ref a3), (.ref a3)])) t
    refine XS.iloadN Y2.here hx rfl (hb hby at_14) rfl ?_
    show Steps p.tables e below (T1.setTop (mkF m 15 #[.val (.int p0), .val (.int p1), .val (.int p2), .val (.int p3), .val (.int p4), .val (.int p5), .val (.int kk), .unset, .unset, .unset, .unset, .unset, .unset, .unset] [(.int p3), (.int p2), (.int p1), (.int p0), (.ref a3), (.ref a3)])) t
    exact k
  refine On.special Y2 hx hZ (y := (⟨"com/example/oxalis/oxalis/Rect", "<init>", "(IIII)V"⟩ : MethodName)) rfl hown (w3 hw) (w4 hw) (w5 hw) (w2 hw) (by decide) (a := a3) (argsL := [(.int p0), (.int p1), (.int p2), (.int p3)]) (rest := [(.ref a3)]) (rmI0 l Z a0 hw n0 a3 p0 p1 p2 p3 []) (W := 1) (by decide) (by decide) (by decide) (by decide) (g := (mkF m 15 #[.val (.int p0), .val (.int p1), .val (.int p2), .val (.int p3), .val (.int p4), .val (.int p5), .val (.int kk), .unset, .unset, .unset, .unset, .unset, .unset, .unset] [(.int p3), (.int p2), (.int p1), (.int p0), (.ref a3), (.ref a3)])) rfl (by rw [hml]; rfl) (lenOf pd0 rfl) rfl (by show 2 * 0 + _ ≤ _; exact Nat.le_of_eq rfl) (hb hby at_15) ?_
  intro T4 u6 D7 hp8 Y5
  obtain ⟨rfl, rfl⟩ := hp8
  replace Y5 : On p l e _ s m _ below meth c Z n0 T4 1 4 [ob a3 own_C0 (own_F0 (.int p0) (.int p1) (.int p2) (.int p3))] := Y5
  show Rn p e below F T4 (mkF m 18 #[.val (.int p0), .val (.int p1), .val (.int p2), .val (.int p3), .val (.int p4), .val (.int p5), .val (.int kk), .unset, .unset, .unset, .unset, .unset, .unset, .unset] [(.ref a3)])
  refine Rn.go (T' := T4) (g' := (mkF m 23 #[.val (.int p0), .val (.int p1), .val (.int p2), .val (.int p3), .val (.int p4), .val (.int p5), .val (.int kk), .val (.ref a3), .unset, .unset, .unset, .unset, .unset, .unset] [(.int (5 : Int32)), (.int kk)])) (fun t k => ?_) ?_
  · show Steps p.tables e below (T4.setTop (mkF m 18 #[.val (.int p0), .val (.int p1), .val (.int p2), .val (.int p3), .val (.int p4), .val (.int p5), .val (.int kk), .unset, .unset, .unset, .unset, .unset, .unset, .unset] [(.ref a3)])) t
    refine XS.astore Y5.here hx rfl (hb hby at_18) rfl rfl (l' := #[.val (.int p0), .val (.int p1), .val (.int p2), .val (.int p3), .val (.int p4), .val (.int p5), .val (.int kk), .val (.ref a3), .unset, .unset, .unset, .unset, .unset, .unset]) rfl ?_
    show Steps p.tables e below (T4.setTop (mkF m 20 #[.val (.int p0), .val (.int p1), .val (.int p2), .val (.int p3), .val (.int p4), .val (.int p5), .val (.int kk), .val (.ref a3), .unset, .unset, .unset, .unset, .unset, .unset] [])) t
    refine XS.iload Y5.here hx rfl (hb hby at_20) rfl ?_
    show Steps p.tables e below (T4.setTop (mkF m 22 #[.val (.int p0), .val (.int p1), .val (.int p2), .val (.int p3), .val (.int p4), .val (.int p5), .val (.int kk), .val (.ref a3), .unset, .unset, .unset, .unset, .unset, .unset] [(.int kk)])) t
    refine XS.iconst Y5.here hx rfl (hb hby at_22) ?_
    show Steps p.tables e below (T4.setTop (mkF m 23 #[.val (.int p0), .val (.int p1), .val (.int p2), .val (.int p3), .val (.int p4), .val (.int p5), .val (.int kk), .val (.ref a3), .unset, .unset, .unset, .unset, .unset, .unset] [(.int (5 : Int32)), (.int kk)])) t
    exact k
  by_cases hc23 : kk = (5 : Int32)
  · refine Rn.go (T' := T4) (g' := (mkF m 26 #[.val (.int p0), .val (.int p1), .val (.int p2), .val (.int p3), .val (.int p4), .val (.int p5), .val (.int kk), .val (.ref a3), .unset, .unset, .unset, .unset, .unset, .unset] [])) (fun t k => XS.icmpNo Y5.here hx rfl (hb hby at_23) rfl (teq hc23).2 k) ?_
    refine On.newo Y5 hx hZ hown (w24 hw) (w25 hw) (w26 hw) _ (own_lay_1 hw) (by decide) (g := (mkF m 26 #[.val (.int p0), .val (.int p1), .val (.int p2), .val (.int p3), .val (.int p4), .val (.int p5), .val (.int kk), .val (.ref a3), .unset, .unset, .unset, .unset, .unset, .unset] [])) rfl (hb hby at_26) (by decide) (by decide) fun T9 a11 Y10 => ?_
    replace Y10 : On p l e _ s m _ below meth c Z n0 T9 2 8 [ob a3 own_C0 (own_F0 (.int p0) (.int p1) (.int p2) (.int p3)), ob a11 own_C1 (own_F1 (.int (0 : Int32)) (.int (0 : Int32)) (.int (0 : Int32)) (.int (0 : Int32)))] := Y10
    show Rn p e below F T9 (mkF m 29 #[.val (.int p0), .val (.int p1), .val (.int p2), .val (.int p3), .val (.int p4), .val (.int p5), .val (.int kk), .val (.ref a3), .unset, .unset, .unset, .unset, .unset, .unset] [(.ref a11)])
    refine Rn.go (T' := T9) (g' := (mkF m 34 #[.val (.int p0), .val (.int p1), .val (.int p2), .val (.int p3), .val (.int p4), .val (.int p5), .val (.int kk), .val (.ref a3), .unset, .unset, .unset, .unset, .unset, .unset] [(.int p3), (.int p2), (.int p1), (.int p0), (.ref a11), (.ref a11)])) (fun t k => ?_) ?_
    · show Steps p.tables e below (T9.setTop (mkF m 29 #[.val (.int p0), .val (.int p1), .val (.int p2), .val (.int p3), .val (.int p4), .val (.int p5), .val (.int kk), .val (.ref a3), .unset, .unset, .unset, .unset, .unset, .unset] [(.ref a11)])) t
      refine XS.dup Y10.here hx rfl (hb hby at_29) rfl rfl ?_
      show Steps p.tables e below (T9.setTop (mkF m 30 #[.val (.int p0), .val (.int p1), .val (.int p2), .val (.int p3), .val (.int p4), .val (.int p5), .val (.int kk), .val (.ref a3), .unset, .unset, .unset, .unset, .unset, .unset] [(.ref a11), (.ref a11)])) t
      refine XS.iloadN Y10.here hx rfl (hb hby at_30) rfl ?_
      show Steps p.tables e below (T9.setTop (mkF m 31 #[.val (.int p0), .val (.int p1), .val (.int p2), .val (.int p3), .val (.int p4), .val (.int p5), .val (.int kk), .val (.ref a3), .unset, .unset, .unset, .unset, .unset, .unset] [(.int p0), (.ref a11), (.ref a11)])) t
      refine XS.iloadN Y10.here hx rfl (hb hby at_31) rfl ?_
      show Steps p.tables e below (T9.setTop (mkF m 32 #[.val (.int p0), .val (.int p1), .val (.int p2), .val (.int p3), .val (.int p4), .val (.int p5), .val (.int kk), .val (.ref a3), .unset, .unset, .unset, .unset, .unset, .unset] [(.int p1), (.int p0), (.ref a11), (.ref a11)])) t
      refine XS.iloadN Y10.here hx rfl (hb hby at_32) rfl ?_
      show Steps p.tables e below (T9.setTop (mkF m 33 #[.val (.int p0), .val (.int p1), .val (.int p2), .val (.int p3), .val (.int p4), .val (.int p5), .val (.int kk), .val (.ref a3), .unset, .unset, .unset, .unset, .unset, .unset] [(.int p2), (.int p1), (.int p0), (.ref a11), (.ref a11)])) t
      refine XS.iloadN Y10.here hx rfl (hb hby at_33) rfl ?_
      show Steps p.tables e below (T9.setTop (mkF m 34 #[.val (.int p0), .val (.int p1), .val (.int p2), .val (.int p3), .val (.int p4), .val (.int p5), .val (.int kk), .val (.ref a3), .unset, .unset, .unset, .unset, .unset, .unset] [(.int p3), (.int p2), (.int p1), (.int p0), (.ref a11), (.ref a11)])) t
      exact k
    refine On.special Y10 hx hZ (y := (⟨"com/example/oxalis/oxalis/Insets", "<init>", "(IIII)V"⟩ : MethodName)) rfl hown (w27 hw) (w28 hw) (w29 hw) (w26 hw) (by decide) (a := a11) (argsL := [(.int p0), (.int p1), (.int p2), (.int p3)]) (rest := [(.ref a11)]) (rmJ1 l Z a0 hw n0 a11 p0 p1 p2 p3 (ob a3 own_C0 (own_F0 (.int p0) (.int p1) (.int p2) (.int p3))) []) (W := 1) (by decide) (by decide) (by decide) (by decide) (g := (mkF m 34 #[.val (.int p0), .val (.int p1), .val (.int p2), .val (.int p3), .val (.int p4), .val (.int p5), .val (.int kk), .val (.ref a3), .unset, .unset, .unset, .unset, .unset, .unset] [(.int p3), (.int p2), (.int p1), (.int p0), (.ref a11), (.ref a11)])) rfl (by rw [hml]; rfl) (lenOf pd0 rfl) rfl (by show 2 * 0 + _ ≤ _; exact Nat.le_of_eq rfl) (hb hby at_34) ?_
    intro T12 u14 D15 hp16 Y13
    obtain ⟨rfl, rfl⟩ := hp16
    replace Y13 : On p l e _ s m _ below meth c Z n0 T12 2 8 [ob a3 own_C0 (own_F0 (.int p0) (.int p1) (.int p2) (.int p3)), ob a11 own_C1 (own_F1 (.int p0) (.int p1) (.int p2) (.int p3))] := Y13
    show Rn p e below F T12 (mkF m 37 #[.val (.int p0), .val (.int p1), .val (.int p2), .val (.int p3), .val (.int p4), .val (.int p5), .val (.int kk), .val (.ref a3), .unset, .unset, .unset, .unset, .unset, .unset] [(.ref a11)])
    refine Rn.go (T' := T12) (g' := (mkF m 43 #[.val (.int p0), .val (.int p1), .val (.int p2), .val (.int p3), .val (.int p4), .val (.int p5), .val (.int kk), .val (.ref a3), .val (.ref a11), .unset, .unset, .unset, .unset, .unset] [(.ref a11), (.ref a3)])) (fun t k => ?_) ?_
    · show Steps p.tables e below (T12.setTop (mkF m 37 #[.val (.int p0), .val (.int p1), .val (.int p2), .val (.int p3), .val (.int p4), .val (.int p5), .val (.int kk), .val (.ref a3), .unset, .unset, .unset, .unset, .unset, .unset] [(.ref a11)])) t
      refine XS.astore Y13.here hx rfl (hb hby at_37) rfl rfl (l' := #[.val (.int p0), .val (.int p1), .val (.int p2), .val (.int p3), .val (.int p4), .val (.int p5), .val (.int kk), .val (.ref a3), .val (.ref a11), .unset, .unset, .unset, .unset, .unset]) rfl ?_
      show Steps p.tables e below (T12.setTop (mkF m 39 #[.val (.int p0), .val (.int p1), .val (.int p2), .val (.int p3), .val (.int p4), .val (.int p5), .val (.int kk), .val (.ref a3), .val (.ref a11), .unset, .unset, .unset, .unset, .unset] [])) t
      refine XS.aload Y13.here hx rfl (hb hby at_39) rfl rfl ?_
      show Steps p.tables e below (T12.setTop (mkF m 41 #[.val (.int p0), .val (.int p1), .val (.int p2), .val (.int p3), .val (.int p4), .val (.int p5), .val (.int kk), .val (.ref a3), .val (.ref a11), .unset, .unset, .unset, .unset, .unset] [(.ref a3)])) t
      refine XS.aload Y13.here hx rfl (hb hby at_41) rfl rfl ?_
      show Steps p.tables e below (T12.setTop (mkF m 43 #[.val (.int p0), .val (.int p1), .val (.int p2), .val (.int p3), .val (.int p4), .val (.int p5), .val (.int kk), .val (.ref a3), .val (.ref a11), .unset, .unset, .unset, .unset, .unset] [(.ref a11), (.ref a3)])) t
      exact k
    refine On.virtual Y13 hx hZ (y := (⟨"com/example/oxalis/oxalis/Rect", "equals", "(Ljava/lang/Object;)Z"⟩ : MethodName)) (C := "com/example/oxalis/oxalis/Rect") hown (w17 hw) (w18 hw) (w19 hw) (w20 hw) (w21 hw) (w2 hw) (by decide) (a := a3) (argsL := [(.ref a11)]) (rest := []) (i := 0) rfl (rmEI l Z a0 hw n0 a3 a11 p0 p1 p2 p3 p0 p1 p2 p3 []) (W := 0) (by decide) (by decide) (by decide) (by decide) (g := (mkF m 43 #[.val (.int p0), .val (.int p1), .val (.int p2), .val (.int p3), .val (.int p4), .val (.int p5), .val (.int kk), .val (.ref a3), .val (.ref a11), .unset, .unset, .unset, .unset, .unset] [(.ref a11), (.ref a3)])) rfl (by rw [hml]; rfl) (lenOf pd1 rfl) rfl (by show 2 * 0 + _ ≤ _; exact Nat.le_of_eq rfl) (hb hby at_43) ?_
    intro T17 u19 D20 hp21 Y18
    obtain ⟨rfl, rfl⟩ := hp21
    replace Y18 : On p l e _ s m _ below meth c Z n0 T17 2 8 [ob a3 own_C0 (own_F0 (.int p0) (.int p1) (.int p2) (.int p3)), ob a11 own_C1 (own_F1 (.int p0) (.int p1) (.int p2) (.int p3))] := Y18
    show Rn p e below F T17 (mkF m 46 #[.val (.int p0), .val (.int p1), .val (.int p2), .val (.int p3), .val (.int p4), .val (.int p5), .val (.int kk), .val (.ref a3), .val (.ref a11), .unset, .unset, .unset, .unset, .unset] [(.int (0 : Int32))])
    refine Rn.go (T' := T17) (g' := (mkF m 49 #[.val (.int p0), .val (.int p1), .val (.int p2), .val (.int p3), .val (.int p4), .val (.int p5), .val (.int kk), .val (.ref a3), .val (.ref a11), .unset, .unset, .unset, .unset, .unset] [])) (fun t k => XS.ifNo Y18.here hx rfl (hb hby at_46) rfl ((if0 _ _).trans (teq rfl).2) k) ?_
    refine Rn.go (T' := T17) (g' := (mkF m 54 #[.val (.int p0), .val (.int p1), .val (.int p2), .val (.int p3), .val (.int p4), .val (.int p5), .val (.int kk), .val (.ref a3), .val (.ref a11), .unset, .unset, .unset, .unset, .unset] [(.int (1 : Int32))])) (fun t k => ?_) ?_
    · show Steps p.tables e below (T17.setTop (mkF m 49 #[.val (.int p0), .val (.int p1), .val (.int p2), .val (.int p3), .val (.int p4), .val (.int p5), .val (.int kk), .val (.ref a3), .val (.ref a11), .unset, .unset, .unset, .unset, .unset] [])) t
      refine XS.iconst Y18.here hx rfl (hb hby at_49) ?_
      show Steps p.tables e below (T17.setTop (mkF m 50 #[.val (.int p0), .val (.int p1), .val (.int p2), .val (.int p3), .val (.int p4), .val (.int p5), .val (.int kk), .val (.ref a3), .val (.ref a11), .unset, .unset, .unset, .unset, .unset] [(.int (1 : Int32))])) t
      refine XS.goto Y18.here hx rfl (pc0 := 50) (pc' := 54) rfl (hb hby at_50) (by decide) (by decide) ?_
      show Steps p.tables e below (T17.setTop (mkF m 54 #[.val (.int p0), .val (.int p1), .val (.int p2), .val (.int p3), .val (.int p4), .val (.int p5), .val (.int kk), .val (.ref a3), .val (.ref a11), .unset, .unset, .unset, .unset, .unset] [(.int (1 : Int32))])) t
      exact k
    rw [← hF]; exact On.retn Y18 hx hret (by simp) hlk (z' := (1 : Int32)) (by decide) (hb hby at_54) (by decide) (by decide) rfl
  · refine Rn.go (T' := T4) (g' := (mkF m 55 #[.val (.int p0), .val (.int p1), .val (.int p2), .val (.int p3), .val (.int p4), .val (.int p5), .val (.int kk), .val (.ref a3), .unset, .unset, .unset, .unset, .unset, .unset] [])) (fun t k => XS.icmpYes Y5.here hx rfl (pc0 := 23) (pc' := 55) rfl (hb hby at_23) rfl (feq hc23).2 (by decide) (by decide) k) ?_
    refine Rn.go (T' := T4) (g' := (mkF m 59 #[.val (.int p0), .val (.int p1), .val (.int p2), .val (.int p3), .val (.int p4), .val (.int p5), .val (.int kk), .val (.ref a3), .unset, .unset, .unset, .unset, .unset, .unset] [(.int (6 : Int32)), (.int kk)])) (fun t k => ?_) ?_
    · show Steps p.tables e below (T4.setTop (mkF m 55 #[.val (.int p0), .val (.int p1), .val (.int p2), .val (.int p3), .val (.int p4), .val (.int p5), .val (.int kk), .val (.ref a3), .unset, .unset, .unset, .unset, .unset, .unset] [])) t
      refine XS.iload Y5.here hx rfl (hb hby at_55) rfl ?_
      show Steps p.tables e below (T4.setTop (mkF m 57 #[.val (.int p0), .val (.int p1), .val (.int p2), .val (.int p3), .val (.int p4), .val (.int p5), .val (.int kk), .val (.ref a3), .unset, .unset, .unset, .unset, .unset, .unset] [(.int kk)])) t
      refine XS.bipush Y5.here hx rfl (hb hby at_57) ?_
      show Steps p.tables e below (T4.setTop (mkF m 59 #[.val (.int p0), .val (.int p1), .val (.int p2), .val (.int p3), .val (.int p4), .val (.int p5), .val (.int kk), .val (.ref a3), .unset, .unset, .unset, .unset, .unset, .unset] [(.int (6 : Int32)), (.int kk)])) t
      exact k
    by_cases hc59 : kk = (6 : Int32)
    · refine Rn.go (T' := T4) (g' := (mkF m 62 #[.val (.int p0), .val (.int p1), .val (.int p2), .val (.int p3), .val (.int p4), .val (.int p5), .val (.int kk), .val (.ref a3), .unset, .unset, .unset, .unset, .unset, .unset] [])) (fun t k => XS.icmpNo Y5.here hx rfl (hb hby at_59) rfl (teq hc59).2 k) ?_
      refine Rn.go (T' := T4) (g' := (mkF m 69 #[.val (.int p0), .val (.int p1), .val (.int p2), .val (.int p3), .val (.int p4), .val (.int p5), .val (.int kk), .val (.ref a3), .val .null, .unset, .unset, .unset, .unset, .unset] [.null, (.ref a3)])) (fun t k => ?_) ?_
      · show Steps p.tables e below (T4.setTop (mkF m 62 #[.val (.int p0), .val (.int p1), .val (.int p2), .val (.int p3), .val (.int p4), .val (.int p5), .val (.int kk), .val (.ref a3), .unset, .unset, .unset, .unset, .unset, .unset] [])) t
        refine XS.aconstNull Y5.here hx rfl (hb hby at_62) ?_
        show Steps p.tables e below (T4.setTop (mkF m 63 #[.val (.int p0), .val (.int p1), .val (.int p2), .val (.int p3), .val (.int p4), .val (.int p5), .val (.int kk), .val (.ref a3), .unset, .unset, .unset, .unset, .unset, .unset] [.null])) t
        refine XS.astore Y5.here hx rfl (hb hby at_63) rfl rfl (l' := #[.val (.int p0), .val (.int p1), .val (.int p2), .val (.int p3), .val (.int p4), .val (.int p5), .val (.int kk), .val (.ref a3), .val .null, .unset, .unset, .unset, .unset, .unset]) rfl ?_
        show Steps p.tables e below (T4.setTop (mkF m 65 #[.val (.int p0), .val (.int p1), .val (.int p2), .val (.int p3), .val (.int p4), .val (.int p5), .val (.int kk), .val (.ref a3), .val .null, .unset, .unset, .unset, .unset, .unset] [])) t
        refine XS.aload Y5.here hx rfl (hb hby at_65) rfl rfl ?_
        show Steps p.tables e below (T4.setTop (mkF m 67 #[.val (.int p0), .val (.int p1), .val (.int p2), .val (.int p3), .val (.int p4), .val (.int p5), .val (.int kk), .val (.ref a3), .val .null, .unset, .unset, .unset, .unset, .unset] [(.ref a3)])) t
        refine XS.aload Y5.here hx rfl (hb hby at_67) rfl rfl ?_
        show Steps p.tables e below (T4.setTop (mkF m 69 #[.val (.int p0), .val (.int p1), .val (.int p2), .val (.int p3), .val (.int p4), .val (.int p5), .val (.int kk), .val (.ref a3), .val .null, .unset, .unset, .unset, .unset, .unset] [.null, (.ref a3)])) t
        exact k
      refine On.virtual Y5 hx hZ (y := (⟨"com/example/oxalis/oxalis/Rect", "equals", "(Ljava/lang/Object;)Z"⟩ : MethodName)) (C := "com/example/oxalis/oxalis/Rect") hown (w17 hw) (w18 hw) (w19 hw) (w20 hw) (w21 hw) (w2 hw) (by decide) (a := a3) (argsL := [.null]) (rest := []) (i := 0) rfl (rmEN l Z a0 hw n0 a3 p0 p1 p2 p3 []) (W := 0) (by decide) (by decide) (by decide) (by decide) (g := (mkF m 69 #[.val (.int p0), .val (.int p1), .val (.int p2), .val (.int p3), .val (.int p4), .val (.int p5), .val (.int kk), .val (.ref a3), .val .null, .unset, .unset, .unset, .unset, .unset] [.null, (.ref a3)])) rfl (by rw [hml]; rfl) (lenOf pd1 rfl) rfl (by show 2 * 0 + _ ≤ _; exact Nat.le_of_eq rfl) (hb hby at_69) ?_
      intro T22 u24 D25 hp26 Y23
      obtain ⟨rfl, rfl⟩ := hp26
      replace Y23 : On p l e _ s m _ below meth c Z n0 T22 1 4 [ob a3 own_C0 (own_F0 (.int p0) (.int p1) (.int p2) (.int p3))] := Y23
      show Rn p e below F T22 (mkF m 72 #[.val (.int p0), .val (.int p1), .val (.int p2), .val (.int p3), .val (.int p4), .val (.int p5), .val (.int kk), .val (.ref a3), .val .null, .unset, .unset, .unset, .unset, .unset] [(.int (0 : Int32))])
      refine Rn.go (T' := T22) (g' := (mkF m 75 #[.val (.int p0), .val (.int p1), .val (.int p2), .val (.int p3), .val (.int p4), .val (.int p5), .val (.int kk), .val (.ref a3), .val .null, .unset, .unset, .unset, .unset, .unset] [])) (fun t k => XS.ifNo Y23.here hx rfl (hb hby at_72) rfl ((if0 _ _).trans (teq rfl).2) k) ?_
      refine Rn.go (T' := T22) (g' := (mkF m 80 #[.val (.int p0), .val (.int p1), .val (.int p2), .val (.int p3), .val (.int p4), .val (.int p5), .val (.int kk), .val (.ref a3), .val .null, .unset, .unset, .unset, .unset, .unset] [(.int (1 : Int32))])) (fun t k => ?_) ?_
      · show Steps p.tables e below (T22.setTop (mkF m 75 #[.val (.int p0), .val (.int p1), .val (.int p2), .val (.int p3), .val (.int p4), .val (.int p5), .val (.int kk), .val (.ref a3), .val .null, .unset, .unset, .unset, .unset, .unset] [])) t
        refine XS.iconst Y23.here hx rfl (hb hby at_75) ?_
        show Steps p.tables e below (T22.setTop (mkF m 76 #[.val (.int p0), .val (.int p1), .val (.int p2), .val (.int p3), .val (.int p4), .val (.int p5), .val (.int kk), .val (.ref a3), .val .null, .unset, .unset, .unset, .unset, .unset] [(.int (1 : Int32))])) t
        refine XS.goto Y23.here hx rfl (pc0 := 76) (pc' := 80) rfl (hb hby at_76) (by decide) (by decide) ?_
        show Steps p.tables e below (T22.setTop (mkF m 80 #[.val (.int p0), .val (.int p1), .val (.int p2), .val (.int p3), .val (.int p4), .val (.int p5), .val (.int kk), .val (.ref a3), .val .null, .unset, .unset, .unset, .unset, .unset] [(.int (1 : Int32))])) t
        exact k
      rw [← hF]; exact On.retn Y23 hx hret (by simp) hlk (z' := (1 : Int32)) (by decide) (hb hby at_80) (by decide) (by decide) rfl
    · refine Rn.go (T' := T4) (g' := (mkF m 81 #[.val (.int p0), .val (.int p1), .val (.int p2), .val (.int p3), .val (.int p4), .val (.int p5), .val (.int kk), .val (.ref a3), .unset, .unset, .unset, .unset, .unset, .unset] [])) (fun t k => XS.icmpYes Y5.here hx rfl (pc0 := 59) (pc' := 81) rfl (hb hby at_59) rfl (feq hc59).2 (by decide) (by decide) k) ?_
      refine Rn.go (T' := T4) (g' := (mkF m 84 #[.val (.int p0), .val (.int p1), .val (.int p2), .val (.int p3), .val (.int p4), .val (.int p5), .val (.int kk), .val (.ref a3), .unset, .unset, .unset, .unset, .unset, .unset] [(.int (4 : Int32)), (.int kk)])) (fun t k => ?_) ?_
      · show Steps p.tables e below (T4.setTop (mkF m 81 #[.val (.int p0), .val (.int p1), .val (.int p2), .val (.int p3), .val (.int p4), .val (.int p5), .val (.int kk), .val (.ref a3), .unset, .unset, .unset, .unset, .unset, .unset] [])) t
        refine XS.iload Y5.here hx rfl (hb hby at_81) rfl ?_
        show Steps p.tables e below (T4.setTop (mkF m 83 #[.val (.int p0), .val (.int p1), .val (.int p2), .val (.int p3), .val (.int p4), .val (.int p5), .val (.int kk), .val (.ref a3), .unset, .unset, .unset, .unset, .unset, .unset] [(.int kk)])) t
        refine XS.iconst Y5.here hx rfl (hb hby at_83) ?_
        show Steps p.tables e below (T4.setTop (mkF m 84 #[.val (.int p0), .val (.int p1), .val (.int p2), .val (.int p3), .val (.int p4), .val (.int p5), .val (.int kk), .val (.ref a3), .unset, .unset, .unset, .unset, .unset, .unset] [(.int (4 : Int32)), (.int kk)])) t
        exact k
      by_cases hc84 : kk = (4 : Int32)
      · refine Rn.go (T' := T4) (g' := (mkF m 87 #[.val (.int p0), .val (.int p1), .val (.int p2), .val (.int p3), .val (.int p4), .val (.int p5), .val (.int kk), .val (.ref a3), .unset, .unset, .unset, .unset, .unset, .unset] [])) (fun t k => XS.icmpNo Y5.here hx rfl (hb hby at_84) rfl (teq hc84).2 k) ?_
        refine On.newo Y5 hx hZ hown (w0 hw) (w1 hw) (w2 hw) _ (own_lay_0 hw) (by decide) (g := (mkF m 87 #[.val (.int p0), .val (.int p1), .val (.int p2), .val (.int p3), .val (.int p4), .val (.int p5), .val (.int kk), .val (.ref a3), .unset, .unset, .unset, .unset, .unset, .unset] [])) rfl (hb hby at_87) (by decide) (by decide) fun T27 a29 Y28 => ?_
        replace Y28 : On p l e _ s m _ below meth c Z n0 T27 2 8 [ob a3 own_C0 (own_F0 (.int p0) (.int p1) (.int p2) (.int p3)), ob a29 own_C0 (own_F0 (.int (0 : Int32)) (.int (0 : Int32)) (.int (0 : Int32)) (.int (0 : Int32)))] := Y28
        show Rn p e below F T27 (mkF m 90 #[.val (.int p0), .val (.int p1), .val (.int p2), .val (.int p3), .val (.int p4), .val (.int p5), .val (.int kk), .val (.ref a3), .unset, .unset, .unset, .unset, .unset, .unset] [(.ref a29)])
        refine Rn.go (T' := T27) (g' := (mkF m 95 #[.val (.int p0), .val (.int p1), .val (.int p2), .val (.int p3), .val (.int p4), .val (.int p5), .val (.int kk), .val (.ref a3), .unset, .unset, .unset, .unset, .unset, .unset] [(.int p3), (.int p2), (.int p1), (.int p0), (.ref a29), (.ref a29)])) (fun t k => ?_) ?_
        · show Steps p.tables e below (T27.setTop (mkF m 90 #[.val (.int p0), .val (.int p1), .val (.int p2), .val (.int p3), .val (.int p4), .val (.int p5), .val (.int kk), .val (.ref a3), .unset, .unset, .unset, .unset, .unset, .unset] [(.ref a29)])) t
          refine XS.dup Y28.here hx rfl (hb hby at_90) rfl rfl ?_
          show Steps p.tables e below (T27.setTop (mkF m 91 #[.val (.int p0), .val (.int p1), .val (.int p2), .val (.int p3), .val (.int p4), .val (.int p5), .val (.int kk), .val (.ref a3), .unset, .unset, .unset, .unset, .unset, .unset] [(.ref a29), (.ref a29)])) t
          refine XS.iloadN Y28.here hx rfl (hb hby at_91) rfl ?_
          show Steps p.tables e below (T27.setTop (mkF m 92 #[.val (.int p0), .val (.int p1), .val (.int p2), .val (.int p3), .val (.int p4), .val (.int p5), .val (.int kk), .val (.ref a3), .unset, .unset, .unset, .unset, .unset, .unset] [(.int p0), (.ref a29), (.ref a29)])) t
          refine XS.iloadN Y28.here hx rfl (hb hby at_92) rfl ?_
          show Steps p.tables e below (T27.setTop (mkF m 93 #[.val (.int p0), .val (.int p1), .val (.int p2), .val (.int p3), .val (.int p4), .val (.int p5), .val (.int kk), .val (.ref a3), .unset, .unset, .unset, .unset, .unset, .unset] [(.int p1), (.int p0), (.ref a29), (.ref a29)])) t
          refine XS.iloadN Y28.here hx rfl (hb hby at_93) rfl ?_
          show Steps p.tables e below (T27.setTop (mkF m 94 #[.val (.int p0), .val (.int p1), .val (.int p2), .val (.int p3), .val (.int p4), .val (.int p5), .val (.int kk), .val (.ref a3), .unset, .unset, .unset, .unset, .unset, .unset] [(.int p2), (.int p1), (.int p0), (.ref a29), (.ref a29)])) t
          refine XS.iloadN Y28.here hx rfl (hb hby at_94) rfl ?_
          show Steps p.tables e below (T27.setTop (mkF m 95 #[.val (.int p0), .val (.int p1), .val (.int p2), .val (.int p3), .val (.int p4), .val (.int p5), .val (.int kk), .val (.ref a3), .unset, .unset, .unset, .unset, .unset, .unset] [(.int p3), (.int p2), (.int p1), (.int p0), (.ref a29), (.ref a29)])) t
          exact k
        refine On.special Y28 hx hZ (y := (⟨"com/example/oxalis/oxalis/Rect", "<init>", "(IIII)V"⟩ : MethodName)) rfl hown (w3 hw) (w4 hw) (w5 hw) (w2 hw) (by decide) (a := a29) (argsL := [(.int p0), (.int p1), (.int p2), (.int p3)]) (rest := [(.ref a29)]) (rmI1 l Z a0 hw n0 a29 p0 p1 p2 p3 (ob a3 own_C0 (own_F0 (.int p0) (.int p1) (.int p2) (.int p3))) []) (W := 1) (by decide) (by decide) (by decide) (by decide) (g := (mkF m 95 #[.val (.int p0), .val (.int p1), .val (.int p2), .val (.int p3), .val (.int p4), .val (.int p5), .val (.int kk), .val (.ref a3), .unset, .unset, .unset, .unset, .unset, .unset] [(.int p3), (.int p2), (.int p1), (.int p0), (.ref a29), (.ref a29)])) rfl (by rw [hml]; rfl) (lenOf pd0 rfl) rfl (by show 2 * 0 + _ ≤ _; exact Nat.le_of_eq rfl) (hb hby at_95) ?_
        intro T30 u32 D33 hp34 Y31
        obtain ⟨rfl, rfl⟩ := hp34
        replace Y31 : On p l e _ s m _ below meth c Z n0 T30 2 8 [ob a3 own_C0 (own_F0 (.int p0) (.int p1) (.int p2) (.int p3)), ob a29 own_C0 (own_F0 (.int p0) (.int p1) (.int p2) (.int p3))] := Y31
        show Rn p e below F T30 (mkF m 98 #[.val (.int p0), .val (.int p1), .val (.int p2), .val (.int p3), .val (.int p4), .val (.int p5), .val (.int kk), .val (.ref a3), .unset, .unset, .unset, .unset, .unset, .unset] [(.ref a29)])
        refine Rn.go (T' := T30) (g' := (mkF m 247 #[.val (.int p0), .val (.int p1), .val (.int p2), .val (.int p3), .val (.int p4), .val (.int p5), .val (.int kk), .val (.ref a3), .val (.ref a29), .val (.int (1 : Int32)), .unset, .unset, .unset, .unset] [(.ref a29), (.ref a3)])) (fun t k => ?_) ?_
        · show Steps p.tables e below (T30.setTop (mkF m 98 #[.val (.int p0), .val (.int p1), .val (.int p2), .val (.int p3), .val (.int p4), .val (.int p5), .val (.int kk), .val (.ref a3), .unset, .unset, .unset, .unset, .unset, .unset] [(.ref a29)])) t
          refine XS.astore Y31.here hx rfl (hb hby at_98) rfl rfl (l' := #[.val (.int p0), .val (.int p1), .val (.int p2), .val (.int p3), .val (.int p4), .val (.int p5), .val (.int kk), .val (.ref a3), .val (.ref a29), .unset, .unset, .unset, .unset, .unset]) rfl ?_
          show Steps p.tables e below (T30.setTop (mkF m 100 #[.val (.int p0), .val (.int p1), .val (.int p2), .val (.int p3), .val (.int p4), .val (.int p5), .val (.int kk), .val (.ref a3), .val (.ref a29), .unset, .unset, .unset, .unset, .unset] [])) t
          refine XS.iconst Y31.here hx rfl (hb hby at_100) ?_
          show Steps p.tables e below (T30.setTop (mkF m 101 #[.val (.int p0), .val (.int p1), .val (.int p2), .val (.int p3), .val (.int p4), .val (.int p5), .val (.int kk), .val (.ref a3), .val (.ref a29), .unset, .unset, .unset, .unset, .unset] [(.int (1 : Int32))])) t
          refine XS.istore Y31.here hx rfl (hb hby at_101) rfl (l' := #[.val (.int p0), .val (.int p1), .val (.int p2), .val (.int p3), .val (.int p4), .val (.int p5), .val (.int kk), .val (.ref a3), .val (.ref a29), .val (.int (1 : Int32)), .unset, .unset, .unset, .unset]) rfl ?_
          show Steps p.tables e below (T30.setTop (mkF m 103 #[.val (.int p0), .val (.int p1), .val (.int p2), .val (.int p3), .val (.int p4), .val (.int p5), .val (.int kk), .val (.ref a3), .val (.ref a29), .val (.int (1 : Int32)), .unset, .unset, .unset, .unset] [])) t
          refine XS.goto Y31.here hx rfl (pc0 := 103) (pc' := 243) rfl (hb hby at_103) (by decide) (by decide) ?_
          show Steps p.tables e below (T30.setTop (mkF m 243 #[.val (.int p0), .val (.int p1), .val (.int p2), .val (.int p3), .val (.int p4), .val (.int p5), .val (.int kk), .val (.ref a3), .val (.ref a29), .val (.int (1 : Int32)), .unset, .unset, .unset, .unset] [])) t
          refine XS.aload Y31.here hx rfl (hb hby at_243) rfl rfl ?_
          show Steps p.tables e below (T30.setTop (mkF m 245 #[.val (.int p0), .val (.int p1), .val (.int p2), .val (.int p3), .val (.int p4), .val (.int p5), .val (.int kk), .val (.ref a3), .val (.ref a29), .val (.int (1 : Int32)), .unset, .unset, .unset, .unset] [(.ref a3)])) t
          refine XS.aload Y31.here hx rfl (hb hby at_245) rfl rfl ?_
          show Steps p.tables e below (T30.setTop (mkF m 247 #[.val (.int p0), .val (.int p1), .val (.int p2), .val (.int p3), .val (.int p4), .val (.int p5), .val (.int kk), .val (.ref a3), .val (.ref a29), .val (.int (1 : Int32)), .unset, .unset, .unset, .unset] [(.ref a29), (.ref a3)])) t
          exact k
        refine On.virtual Y31 hx hZ (y := (⟨"com/example/oxalis/oxalis/Rect", "equals", "(Ljava/lang/Object;)Z"⟩ : MethodName)) (C := "com/example/oxalis/oxalis/Rect") hown (w17 hw) (w18 hw) (w19 hw) (w20 hw) (w21 hw) (w2 hw) (by decide) (a := a3) (argsL := [(.ref a29)]) (rest := []) (i := 0) rfl (rmE01 l Z a0 hw n0 a3 a29 p0 p1 p2 p3 p0 p1 p2 p3 []) (W := 0) (by decide) (by decide) (by decide) (by decide) (g := (mkF m 247 #[.val (.int p0), .val (.int p1), .val (.int p2), .val (.int p3), .val (.int p4), .val (.int p5), .val (.int kk), .val (.ref a3), .val (.ref a29), .val (.int (1 : Int32)), .unset, .unset, .unset, .unset] [(.ref a29), (.ref a3)])) rfl (by rw [hml]; rfl) (lenOf pd1 rfl) rfl (by show 2 * 0 + _ ≤ _; exact Nat.le_of_eq rfl) (hb hby at_247) ?_
        intro T35 u37 D38 hp39 Y36
        obtain ⟨r247, hr247, rfl, rfl⟩ : ∃ z : Int32, z = (own_eq4 p0 p1 p2 p3 p0 p1 p2 p3) ∧ u37 = some (.int z) ∧ D38 = _ := ⟨_, rfl, hp39.1, hp39.2⟩
        replace Y36 : On p l e _ s m _ below meth c Z n0 T35 2 8 [ob a3 own_C0 (own_F0 (.int p0) (.int p1) (.int p2) (.int p3)), ob a29 own_C0 (own_F0 (.int p0) (.int p1) (.int p2) (.int p3))] := Y36
        show Rn p e below F T35 (mkF m 250 #[.val (.int p0), .val (.int p1), .val (.int p2), .val (.int p3), .val (.int p4), .val (.int p5), .val (.int kk), .val (.ref a3), .val (.ref a29), .val (.int (1 : Int32)), .unset, .unset, .unset, .unset] [(.int r247)])
        refine Rn.go (T' := T35) (g' := (mkF m 252 #[.val (.int p0), .val (.int p1), .val (.int p2), .val (.int p3), .val (.int p4), .val (.int p5), .val (.int kk), .val (.ref a3), .val (.ref a29), .val (.int (1 : Int32)), .unset, .unset, .unset, .unset] [(.int (1 : Int32)), (.int r247)])) (fun t k => ?_) ?_
        · show Steps p.tables e below (T35.setTop (mkF m 250 #[.val (.int p0), .val (.int p1), .val (.int p2), .val (.int p3), .val (.int p4), .val (.int p5), .val (.int kk), .val (.ref a3), .val (.ref a29), .val (.int (1 : Int32)), .unset, .unset, .unset, .unset] [(.int r247)])) t
          refine XS.iload Y36.here hx rfl (hb hby at_250) rfl ?_
          show Steps p.tables e below (T35.setTop (mkF m 252 #[.val (.int p0), .val (.int p1), .val (.int p2), .val (.int p3), .val (.int p4), .val (.int p5), .val (.int kk), .val (.ref a3), .val (.ref a29), .val (.int (1 : Int32)), .unset, .unset, .unset, .unset] [(.int (1 : Int32)), (.int r247)])) t
          exact k
        refine Rn.go (T' := T35) (g' := (mkF m 255 #[.val (.int p0), .val (.int p1), .val (.int p2), .val (.int p3), .val (.int p4), .val (.int p5), .val (.int kk), .val (.ref a3), .val (.ref a29), .val (.int (1 : Int32)), .unset, .unset, .unset, .unset] [])) (fun t k => XS.icmpNo Y36.here hx rfl (hb hby at_252) rfl (teq (by rw [hr247]; exact own_4 _ _ _ _)).2 k) ?_
        refine Rn.go (T' := T35) (g' := (mkF m 259 #[.val (.int p0), .val (.int p1), .val (.int p2), .val (.int p3), .val (.int p4), .val (.int p5), .val (.int kk), .val (.ref a3), .val (.ref a29), .val (.int (1 : Int32)), .unset, .unset, .unset, .unset] [(.ref a3), (.ref a29)])) (fun t k => ?_) ?_
        · show Steps p.tables e below (T35.setTop (mkF m 255 #[.val (.int p0), .val (.int p1), .val (.int p2), .val (.int p3), .val (.int p4), .val (.int p5), .val (.int kk), .val (.ref a3), .val (.ref a29), .val (.int (1 : Int32)), .unset, .unset, .unset, .unset] [])) t
          refine XS.aload Y36.here hx rfl (hb hby at_255) rfl rfl ?_
          show Steps p.tables e below (T35.setTop (mkF m 257 #[.val (.int p0), .val (.int p1), .val (.int p2), .val (.int p3), .val (.int p4), .val (.int p5), .val (.int kk), .val (.ref a3), .val (.ref a29), .val (.int (1 : Int32)), .unset, .unset, .unset, .unset] [(.ref a29)])) t
          refine XS.aload Y36.here hx rfl (hb hby at_257) rfl rfl ?_
          show Steps p.tables e below (T35.setTop (mkF m 259 #[.val (.int p0), .val (.int p1), .val (.int p2), .val (.int p3), .val (.int p4), .val (.int p5), .val (.int kk), .val (.ref a3), .val (.ref a29), .val (.int (1 : Int32)), .unset, .unset, .unset, .unset] [(.ref a3), (.ref a29)])) t
          exact k
        refine On.virtual Y36 hx hZ (y := (⟨"com/example/oxalis/oxalis/Rect", "equals", "(Ljava/lang/Object;)Z"⟩ : MethodName)) (C := "com/example/oxalis/oxalis/Rect") hown (w17 hw) (w18 hw) (w19 hw) (w20 hw) (w21 hw) (w2 hw) (by decide) (a := a29) (argsL := [(.ref a3)]) (rest := []) (i := 1) rfl (rmE10 l Z a0 hw n0 a29 a3 p0 p1 p2 p3 p0 p1 p2 p3 []) (W := 0) (by decide) (by decide) (by decide) (by decide) (g := (mkF m 259 #[.val (.int p0), .val (.int p1), .val (.int p2), .val (.int p3), .val (.int p4), .val (.int p5), .val (.int kk), .val (.ref a3), .val (.ref a29), .val (.int (1 : Int32)), .unset, .unset, .unset, .unset] [(.ref a3), (.ref a29)])) rfl (by rw [hml]; rfl) (lenOf pd1 rfl) rfl (by show 2 * 0 + _ ≤ _; exact Nat.le_of_eq rfl) (hb hby at_259) ?_
        intro T40 u42 D43 hp44 Y41
        obtain ⟨r259, hr259, rfl, rfl⟩ : ∃ z : Int32, z = (own_eq4 p0 p1 p2 p3 p0 p1 p2 p3) ∧ u42 = some (.int z) ∧ D43 = _ := ⟨_, rfl, hp44.1, hp44.2⟩
        replace Y41 : On p l e _ s m _ below meth c Z n0 T40 2 8 [ob a3 own_C0 (own_F0 (.int p0) (.int p1) (.int p2) (.int p3)), ob a29 own_C0 (own_F0 (.int p0) (.int p1) (.int p2) (.int p3))] := Y41
        show Rn p e below F T40 (mkF m 262 #[.val (.int p0), .val (.int p1), .val (.int p2), .val (.int p3), .val (.int p4), .val (.int p5), .val (.int kk), .val (.ref a3), .val (.ref a29), .val (.int (1 : Int32)), .unset, .unset, .unset, .unset] [(.int r259)])
        refine Rn.go (T' := T40) (g' := (mkF m 264 #[.val (.int p0), .val (.int p1), .val (.int p2), .val (.int p3), .val (.int p4), .val (.int p5), .val (.int kk), .val (.ref a3), .val (.ref a29), .val (.int (1 : Int32)), .unset, .unset, .unset, .unset] [(.int (1 : Int32)), (.int r259)])) (fun t k => ?_) ?_
        · show Steps p.tables e below (T40.setTop (mkF m 262 #[.val (.int p0), .val (.int p1), .val (.int p2), .val (.int p3), .val (.int p4), .val (.int p5), .val (.int kk), .val (.ref a3), .val (.ref a29), .val (.int (1 : Int32)), .unset, .unset, .unset, .unset] [(.int r259)])) t
          refine XS.iload Y41.here hx rfl (hb hby at_262) rfl ?_
          show Steps p.tables e below (T40.setTop (mkF m 264 #[.val (.int p0), .val (.int p1), .val (.int p2), .val (.int p3), .val (.int p4), .val (.int p5), .val (.int kk), .val (.ref a3), .val (.ref a29), .val (.int (1 : Int32)), .unset, .unset, .unset, .unset] [(.int (1 : Int32)), (.int r259)])) t
          exact k
        refine Rn.go (T' := T40) (g' := (mkF m 267 #[.val (.int p0), .val (.int p1), .val (.int p2), .val (.int p3), .val (.int p4), .val (.int p5), .val (.int kk), .val (.ref a3), .val (.ref a29), .val (.int (1 : Int32)), .unset, .unset, .unset, .unset] [])) (fun t k => XS.icmpNo Y41.here hx rfl (hb hby at_264) rfl (teq (by rw [hr259]; exact own_4 _ _ _ _)).2 k) ?_
        refine Rn.go (T' := T40) (g' := (mkF m 271 #[.val (.int p0), .val (.int p1), .val (.int p2), .val (.int p3), .val (.int p4), .val (.int p5), .val (.int kk), .val (.ref a3), .val (.ref a29), .val (.int (1 : Int32)), .unset, .unset, .unset, .unset] [(.ref a3), (.ref a3)])) (fun t k => ?_) ?_
        · show Steps p.tables e below (T40.setTop (mkF m 267 #[.val (.int p0), .val (.int p1), .val (.int p2), .val (.int p3), .val (.int p4), .val (.int p5), .val (.int kk), .val (.ref a3), .val (.ref a29), .val (.int (1 : Int32)), .unset, .unset, .unset, .unset] [])) t
          refine XS.aload Y41.here hx rfl (hb hby at_267) rfl rfl ?_
          show Steps p.tables e below (T40.setTop (mkF m 269 #[.val (.int p0), .val (.int p1), .val (.int p2), .val (.int p3), .val (.int p4), .val (.int p5), .val (.int kk), .val (.ref a3), .val (.ref a29), .val (.int (1 : Int32)), .unset, .unset, .unset, .unset] [(.ref a3)])) t
          refine XS.aload Y41.here hx rfl (hb hby at_269) rfl rfl ?_
          show Steps p.tables e below (T40.setTop (mkF m 271 #[.val (.int p0), .val (.int p1), .val (.int p2), .val (.int p3), .val (.int p4), .val (.int p5), .val (.int kk), .val (.ref a3), .val (.ref a29), .val (.int (1 : Int32)), .unset, .unset, .unset, .unset] [(.ref a3), (.ref a3)])) t
          exact k
        refine On.virtual Y41 hx hZ (y := (⟨"com/example/oxalis/oxalis/Rect", "equals", "(Ljava/lang/Object;)Z"⟩ : MethodName)) (C := "com/example/oxalis/oxalis/Rect") hown (w17 hw) (w18 hw) (w19 hw) (w20 hw) (w21 hw) (w2 hw) (by decide) (a := a3) (argsL := [(.ref a3)]) (rest := []) (i := 0) rfl (rmE00 l Z a0 hw n0 a3 p0 p1 p2 p3 [ob a29 own_C0 (own_F0 (.int p0) (.int p1) (.int p2) (.int p3))]) (W := 0) (by decide) (by decide) (by decide) (by decide) (g := (mkF m 271 #[.val (.int p0), .val (.int p1), .val (.int p2), .val (.int p3), .val (.int p4), .val (.int p5), .val (.int kk), .val (.ref a3), .val (.ref a29), .val (.int (1 : Int32)), .unset, .unset, .unset, .unset] [(.ref a3), (.ref a3)])) rfl (by rw [hml]; rfl) (lenOf pd1 rfl) rfl (by show 2 * 0 + _ ≤ _; exact Nat.le_of_eq rfl) (hb hby at_271) ?_
        intro T45 u47 D48 hp49 Y46
        obtain ⟨rfl, rfl⟩ := hp49
        replace Y46 : On p l e _ s m _ below meth c Z n0 T45 2 8 [ob a3 own_C0 (own_F0 (.int p0) (.int p1) (.int p2) (.int p3)), ob a29 own_C0 (own_F0 (.int p0) (.int p1) (.int p2) (.int p3))] := Y46
        show Rn p e below F T45 (mkF m 274 #[.val (.int p0), .val (.int p1), .val (.int p2), .val (.int p3), .val (.int p4), .val (.int p5), .val (.int kk), .val (.ref a3), .val (.ref a29), .val (.int (1 : Int32)), .unset, .unset, .unset, .unset] [(.int (1 : Int32))])
        refine Rn.go (T' := T45) (g' := (mkF m 277 #[.val (.int p0), .val (.int p1), .val (.int p2), .val (.int p3), .val (.int p4), .val (.int p5), .val (.int kk), .val (.ref a3), .val (.ref a29), .val (.int (1 : Int32)), .unset, .unset, .unset, .unset] [])) (fun t k => XS.ifNo Y46.here hx rfl (hb hby at_274) rfl ((if0 _ _).trans (feq (by decide)).1) k) ?_
        refine Rn.go (T' := T45) (g' := (mkF m 282 #[.val (.int p0), .val (.int p1), .val (.int p2), .val (.int p3), .val (.int p4), .val (.int p5), .val (.int kk), .val (.ref a3), .val (.ref a29), .val (.int (1 : Int32)), .unset, .unset, .unset, .unset] [(.int (1 : Int32))])) (fun t k => ?_) ?_
        · show Steps p.tables e below (T45.setTop (mkF m 277 #[.val (.int p0), .val (.int p1), .val (.int p2), .val (.int p3), .val (.int p4), .val (.int p5), .val (.int kk), .val (.ref a3), .val (.ref a29), .val (.int (1 : Int32)), .unset, .unset, .unset, .unset] [])) t
          refine XS.iconst Y46.here hx rfl (hb hby at_277) ?_
          show Steps p.tables e below (T45.setTop (mkF m 278 #[.val (.int p0), .val (.int p1), .val (.int p2), .val (.int p3), .val (.int p4), .val (.int p5), .val (.int kk), .val (.ref a3), .val (.ref a29), .val (.int (1 : Int32)), .unset, .unset, .unset, .unset] [(.int (1 : Int32))])) t
          refine XS.goto Y46.here hx rfl (pc0 := 278) (pc' := 282) rfl (hb hby at_278) (by decide) (by decide) ?_
          show Steps p.tables e below (T45.setTop (mkF m 282 #[.val (.int p0), .val (.int p1), .val (.int p2), .val (.int p3), .val (.int p4), .val (.int p5), .val (.int kk), .val (.ref a3), .val (.ref a29), .val (.int (1 : Int32)), .unset, .unset, .unset, .unset] [(.int (1 : Int32))])) t
          exact k
        rw [← hF]; exact On.retn Y46 hx hret (by simp) hlk (z' := (1 : Int32)) (by decide) (hb hby at_282) (by decide) (by decide) rfl
      · refine Rn.go (T' := T4) (g' := (mkF m 106 #[.val (.int p0), .val (.int p1), .val (.int p2), .val (.int p3), .val (.int p4), .val (.int p5), .val (.int kk), .val (.ref a3), .unset, .unset, .unset, .unset, .unset, .unset] [])) (fun t k => XS.icmpYes Y5.here hx rfl (pc0 := 84) (pc' := 106) rfl (hb hby at_84) rfl (feq hc84).2 (by decide) (by decide) k) ?_
        refine Rn.go (T' := T4) (g' := (mkF m 110 #[.val (.int p0), .val (.int p1), .val (.int p2), .val (.int p3), .val (.int p4), .val (.int p5), .val (.int kk), .val (.ref a3), .unset, .unset, .unset, .unset, .unset, .unset] [(.int (7 : Int32)), (.int kk)])) (fun t k => ?_) ?_
        · show Steps p.tables e below (T4.setTop (mkF m 106 #[.val (.int p0), .val (.int p1), .val (.int p2), .val (.int p3), .val (.int p4), .val (.int p5), .val (.int kk), .val (.ref a3), .unset, .unset, .unset, .unset, .unset, .unset] [])) t
          refine XS.iload Y5.here hx rfl (hb hby at_106) rfl ?_
          show Steps p.tables e below (T4.setTop (mkF m 108 #[.val (.int p0), .val (.int p1), .val (.int p2), .val (.int p3), .val (.int p4), .val (.int p5), .val (.int kk), .val (.ref a3), .unset, .unset, .unset, .unset, .unset, .unset] [(.int kk)])) t
          refine XS.bipush Y5.here hx rfl (hb hby at_108) ?_
          show Steps p.tables e below (T4.setTop (mkF m 110 #[.val (.int p0), .val (.int p1), .val (.int p2), .val (.int p3), .val (.int p4), .val (.int p5), .val (.int kk), .val (.ref a3), .unset, .unset, .unset, .unset, .unset, .unset] [(.int (7 : Int32)), (.int kk)])) t
          exact k
        by_cases hc110 : kk = (7 : Int32)
        · refine Rn.go (T' := T4) (g' := (mkF m 113 #[.val (.int p0), .val (.int p1), .val (.int p2), .val (.int p3), .val (.int p4), .val (.int p5), .val (.int kk), .val (.ref a3), .unset, .unset, .unset, .unset, .unset, .unset] [])) (fun t k => XS.icmpNo Y5.here hx rfl (hb hby at_110) rfl (teq hc110).2 k) ?_
          refine On.newo Y5 hx hZ hown (w0 hw) (w1 hw) (w2 hw) _ (own_lay_0 hw) (by decide) (g := (mkF m 113 #[.val (.int p0), .val (.int p1), .val (.int p2), .val (.int p3), .val (.int p4), .val (.int p5), .val (.int kk), .val (.ref a3), .unset, .unset, .unset, .unset, .unset, .unset] [])) rfl (hb hby at_113) (by decide) (by decide) fun T50 a52 Y51 => ?_
          replace Y51 : On p l e _ s m _ below meth c Z n0 T50 2 8 [ob a3 own_C0 (own_F0 (.int p0) (.int p1) (.int p2) (.int p3)), ob a52 own_C0 (own_F0 (.int (0 : Int32)) (.int (0 : Int32)) (.int (0 : Int32)) (.int (0 : Int32)))] := Y51
          show Rn p e below F T50 (mkF m 116 #[.val (.int p0), .val (.int p1), .val (.int p2), .val (.int p3), .val (.int p4), .val (.int p5), .val (.int kk), .val (.ref a3), .unset, .unset, .unset, .unset, .unset, .unset] [(.ref a52)])
          refine Rn.go (T' := T50) (g' := (mkF m 121 #[.val (.int p0), .val (.int p1), .val (.int p2), .val (.int p3), .val (.int p4), .val (.int p5), .val (.int kk), .val (.ref a3), .unset, .unset, .unset, .unset, .unset, .unset] [(.int p0), (.int p3), (.int p2), (.int p1), (.ref a52), (.ref a52)])) (fun t k => ?_) ?_
          · show Steps p.tables e below (T50.setTop (mkF m 116 #[.val (.int p0), .val (.int p1), .val (.int p2), .val (.int p3), .val (.int p4), .val (.int p5), .val (.int kk), .val (.ref a3), .unset, .unset, .unset, .unset, .unset, .unset] [(.ref a52)])) t
            refine XS.dup Y51.here hx rfl (hb hby at_116) rfl rfl ?_
            show Steps p.tables e below (T50.setTop (mkF m 117 #[.val (.int p0), .val (.int p1), .val (.int p2), .val (.int p3), .val (.int p4), .val (.int p5), .val (.int kk), .val (.ref a3), .unset, .unset, .unset, .unset, .unset, .unset] [(.ref a52), (.ref a52)])) t
            refine XS.iloadN Y51.here hx rfl (hb hby at_117) rfl ?_
            show Steps p.tables e below (T50.setTop (mkF m 118 #[.val (.int p0), .val (.int p1), .val (.int p2), .val (.int p3), .val (.int p4), .val (.int p5), .val (.int kk), .val (.ref a3), .unset, .unset, .unset, .unset, .unset, .unset] [(.int p1), (.ref a52), (.ref a52)])) t
            refine XS.iloadN Y51.here hx rfl (hb hby at_118) rfl ?_
            show Steps p.tables e below (T50.setTop (mkF m 119 #[.val (.int p0), .val (.int p1), .val (.int p2), .val (.int p3), .val (.int p4), .val (.int p5), .val (.int kk), .val (.ref a3), .unset, .unset, .unset, .unset, .unset, .unset] [(.int p2), (.int p1), (.ref a52), (.ref a52)])) t
            refine XS.iloadN Y51.here hx rfl (hb hby at_119) rfl ?_
            show Steps p.tables e below (T50.setTop (mkF m 120 #[.val (.int p0), .val (.int p1), .val (.int p2), .val (.int p3), .val (.int p4), .val (.int p5), .val (.int kk), .val (.ref a3), .unset, .unset, .unset, .unset, .unset, .unset] [(.int p3), (.int p2), (.int p1), (.ref a52), (.ref a52)])) t
            refine XS.iloadN Y51.here hx rfl (hb hby at_120) rfl ?_
            show Steps p.tables e below (T50.setTop (mkF m 121 #[.val (.int p0), .val (.int p1), .val (.int p2), .val (.int p3), .val (.int p4), .val (.int p5), .val (.int kk), .val (.ref a3), .unset, .unset, .unset, .unset, .unset, .unset] [(.int p0), (.int p3), (.int p2), (.int p1), (.ref a52), (.ref a52)])) t
            exact k
          refine On.special Y51 hx hZ (y := (⟨"com/example/oxalis/oxalis/Rect", "<init>", "(IIII)V"⟩ : MethodName)) rfl hown (w3 hw) (w4 hw) (w5 hw) (w2 hw) (by decide) (a := a52) (argsL := [(.int p1), (.int p2), (.int p3), (.int p0)]) (rest := [(.ref a52)]) (rmI1 l Z a0 hw n0 a52 p1 p2 p3 p0 (ob a3 own_C0 (own_F0 (.int p0) (.int p1) (.int p2) (.int p3))) []) (W := 1) (by decide) (by decide) (by decide) (by decide) (g := (mkF m 121 #[.val (.int p0), .val (.int p1), .val (.int p2), .val (.int p3), .val (.int p4), .val (.int p5), .val (.int kk), .val (.ref a3), .unset, .unset, .unset, .unset, .unset, .unset] [(.int p0), (.int p3), (.int p2), (.int p1), (.ref a52), (.ref a52)])) rfl (by rw [hml]; rfl) (lenOf pd0 rfl) rfl (by show 2 * 0 + _ ≤ _; exact Nat.le_of_eq rfl) (hb hby at_121) ?_
          intro T53 u55 D56 hp57 Y54
          obtain ⟨rfl, rfl⟩ := hp57
          replace Y54 : On p l e _ s m _ below meth c Z n0 T53 2 8 [ob a3 own_C0 (own_F0 (.int p0) (.int p1) (.int p2) (.int p3)), ob a52 own_C0 (own_F0 (.int p1) (.int p2) (.int p3) (.int p0))] := Y54
          show Rn p e below F T53 (mkF m 124 #[.val (.int p0), .val (.int p1), .val (.int p2), .val (.int p3), .val (.int p4), .val (.int p5), .val (.int kk), .val (.ref a3), .unset, .unset, .unset, .unset, .unset, .unset] [(.ref a52)])
          refine Rn.go (T' := T53) (g' := (mkF m 128 #[.val (.int p0), .val (.int p1), .val (.int p2), .val (.int p3), .val (.int p4), .val (.int p5), .val (.int kk), .val (.ref a3), .val (.ref a52), .unset, .unset, .unset, .unset, .unset] [(.int p1), (.int p0)])) (fun t k => ?_) ?_
          · show Steps p.tables e below (T53.setTop (mkF m 124 #[.val (.int p0), .val (.int p1), .val (.int p2), .val (.int p3), .val (.int p4), .val (.int p5), .val (.int kk), .val (.ref a3), .unset, .unset, .unset, .unset, .unset, .unset] [(.ref a52)])) t
            refine XS.astore Y54.here hx rfl (hb hby at_124) rfl rfl (l' := #[.val (.int p0), .val (.int p1), .val (.int p2), .val (.int p3), .val (.int p4), .val (.int p5), .val (.int kk), .val (.ref a3), .val (.ref a52), .unset, .unset, .unset, .unset, .unset]) rfl ?_
            show Steps p.tables e below (T53.setTop (mkF m 126 #[.val (.int p0), .val (.int p1), .val (.int p2), .val (.int p3), .val (.int p4), .val (.int p5), .val (.int kk), .val (.ref a3), .val (.ref a52), .unset, .unset, .unset, .unset, .unset] [])) t
            refine XS.iloadN Y54.here hx rfl (hb hby at_126) rfl ?_
            show Steps p.tables e below (T53.setTop (mkF m 127 #[.val (.int p0), .val (.int p1), .val (.int p2), .val (.int p3), .val (.int p4), .val (.int p5), .val (.int kk), .val (.ref a3), .val (.ref a52), .unset, .unset, .unset, .unset, .unset] [(.int p0)])) t
            refine XS.iloadN Y54.here hx rfl (hb hby at_127) rfl ?_
            show Steps p.tables e below (T53.setTop (mkF m 128 #[.val (.int p0), .val (.int p1), .val (.int p2), .val (.int p3), .val (.int p4), .val (.int p5), .val (.int kk), .val (.ref a3), .val (.ref a52), .unset, .unset, .unset, .unset, .unset] [(.int p1), (.int p0)])) t
            exact k
          obtain ⟨v146, hv146⟩ : ∃ z : Int32, z = (if p0 = p1 then (if p1 = p2 then (if p2 = p3 then (1 : Int32) else (0 : Int32)) else (0 : Int32)) else (0 : Int32)) := ⟨_, rfl⟩
          refine Rn.go (T' := T53) (g' := (mkF m 146 #[.val (.int p0), .val (.int p1), .val (.int p2), .val (.int p3), .val (.int p4), .val (.int p5), .val (.int kk), .val (.ref a3), .val (.ref a52), .unset, .unset, .unset, .unset, .unset] [(.int v146)])) (fun t k => ?_) ?_
          · show Steps p.tables e below (T53.setTop (mkF m 128 #[.val (.int p0), .val (.int p1), .val (.int p2), .val (.int p3), .val (.int p4), .val (.int p5), .val (.int kk), .val (.ref a3), .val (.ref a52), .unset, .unset, .unset, .unset, .unset] [(.int p1), (.int p0)])) t
            by_cases hc128 : p0 = p1
            · refine XS.icmpNo Y54.here hx rfl (hb hby at_128) rfl (teq hc128).2 ?_
              show Steps p.tables e below (T53.setTop (mkF m 131 #[.val (.int p0), .val (.int p1), .val (.int p2), .val (.int p3), .val (.int p4), .val (.int p5), .val (.int kk), .val (.ref a3), .val (.ref a52), .unset, .unset, .unset, .unset, .unset] [])) t
              refine XS.iloadN Y54.here hx rfl (hb hby at_131) rfl ?_
              show Steps p.tables e below (T53.setTop (mkF m 132 #[.val (.int p0), .val (.int p1), .val (.int p2), .val (.int p3), .val (.int p4), .val (.int p5), .val (.int kk), .val (.ref a3), .val (.ref a52), .unset, .unset, .unset, .unset, .unset] [(.int p1)])) t
              refine XS.iloadN Y54.here hx rfl (hb hby at_132) rfl ?_
              show Steps p.tables e below (T53.setTop (mkF m 133 #[.val (.int p0), .val (.int p1), .val (.int p2), .val (.int p3), .val (.int p4), .val (.int p5), .val (.int kk), .val (.ref a3), .val (.ref a52), .unset, .unset, .unset, .unset, .unset] [(.int p2), (.int p1)])) t
              by_cases hc133 : p1 = p2
              · refine XS.icmpNo Y54.here hx rfl (hb hby at_133) rfl (teq hc133).2 ?_
                show Steps p.tables e below (T53.setTop (mkF m 136 #[.val (.int p0), .val (.int p1), .val (.int p2), .val (.int p3), .val (.int p4), .val (.int p5), .val (.int kk), .val (.ref a3), .val (.ref a52), .unset, .unset, .unset, .unset, .unset] [])) t
                refine XS.iloadN Y54.here hx rfl (hb hby at_136) rfl ?_
                show Steps p.tables e below (T53.setTop (mkF m 137 #[.val (.int p0), .val (.int p1), .val (.int p2), .val (.int p3), .val (.int p4), .val (.int p5), .val (.int kk), .val (.ref a3), .val (.ref a52), .unset, .unset, .unset, .unset, .unset] [(.int p2)])) t
                refine XS.iloadN Y54.here hx rfl (hb hby at_137) rfl ?_
                show Steps p.tables e below (T53.setTop (mkF m 138 #[.val (.int p0), .val (.int p1), .val (.int p2), .val (.int p3), .val (.int p4), .val (.int p5), .val (.int kk), .val (.ref a3), .val (.ref a52), .unset, .unset, .unset, .unset, .unset] [(.int p3), (.int p2)])) t
                by_cases hc138 : p2 = p3
                · refine XS.icmpNo Y54.here hx rfl (hb hby at_138) rfl (teq hc138).2 ?_
                  show Steps p.tables e below (T53.setTop (mkF m 141 #[.val (.int p0), .val (.int p1), .val (.int p2), .val (.int p3), .val (.int p4), .val (.int p5), .val (.int kk), .val (.ref a3), .val (.ref a52), .unset, .unset, .unset, .unset, .unset] [])) t
                  refine XS.iconst Y54.here hx rfl (hb hby at_141) ?_
                  show Steps p.tables e below (T53.setTop (mkF m 142 #[.val (.int p0), .val (.int p1), .val (.int p2), .val (.int p3), .val (.int p4), .val (.int p5), .val (.int kk), .val (.ref a3), .val (.ref a52), .unset, .unset, .unset, .unset, .unset] [(.int (1 : Int32))])) t
                  refine XS.goto Y54.here hx rfl (pc0 := 142) (pc' := 146) rfl (hb hby at_142) (by decide) (by decide) ?_
                  show Steps p.tables e below (T53.setTop (mkF m 146 #[.val (.int p0), .val (.int p1), .val (.int p2), .val (.int p3), .val (.int p4), .val (.int p5), .val (.int kk), .val (.ref a3), .val (.ref a52), .unset, .unset, .unset, .unset, .unset] [(.int (1 : Int32))])) t
                  rw [hv146, if_pos hc128, if_pos hc133, if_pos hc138] at k
                  exact k
                · refine XS.icmpYes Y54.here hx rfl (pc0 := 138) (pc' := 145) rfl (hb hby at_138) rfl (feq hc138).2 (by decide) (by decide) ?_
                  show Steps p.tables e below (T53.setTop (mkF m 145 #[.val (.int p0), .val (.int p1), .val (.int p2), .val (.int p3), .val (.int p4), .val (.int p5), .val (.int kk), .val (.ref a3), .val (.ref a52), .unset, .unset, .unset, .unset, .unset] [])) t
                  refine XS.iconst Y54.here hx rfl (hb hby at_145) ?_
                  show Steps p.tables e below (T53.setTop (mkF m 146 #[.val (.int p0), .val (.int p1), .val (.int p2), .val (.int p3), .val (.int p4), .val (.int p5), .val (.int kk), .val (.ref a3), .val (.ref a52), .unset, .unset, .unset, .unset, .unset] [(.int (0 : Int32))])) t
                  rw [hv146, if_pos hc128, if_pos hc133, if_neg hc138] at k
                  exact k
              · refine XS.icmpYes Y54.here hx rfl (pc0 := 133) (pc' := 145) rfl (hb hby at_133) rfl (feq hc133).2 (by decide) (by decide) ?_
                show Steps p.tables e below (T53.setTop (mkF m 145 #[.val (.int p0), .val (.int p1), .val (.int p2), .val (.int p3), .val (.int p4), .val (.int p5), .val (.int kk), .val (.ref a3), .val (.ref a52), .unset, .unset, .unset, .unset, .unset] [])) t
                refine XS.iconst Y54.here hx rfl (hb hby at_145) ?_
                show Steps p.tables e below (T53.setTop (mkF m 146 #[.val (.int p0), .val (.int p1), .val (.int p2), .val (.int p3), .val (.int p4), .val (.int p5), .val (.int kk), .val (.ref a3), .val (.ref a52), .unset, .unset, .unset, .unset, .unset] [(.int (0 : Int32))])) t
                rw [hv146, if_pos hc128, if_neg hc133] at k
                exact k
            · refine XS.icmpYes Y54.here hx rfl (pc0 := 128) (pc' := 145) rfl (hb hby at_128) rfl (feq hc128).2 (by decide) (by decide) ?_
              show Steps p.tables e below (T53.setTop (mkF m 145 #[.val (.int p0), .val (.int p1), .val (.int p2), .val (.int p3), .val (.int p4), .val (.int p5), .val (.int kk), .val (.ref a3), .val (.ref a52), .unset, .unset, .unset, .unset, .unset] [])) t
              refine XS.iconst Y54.here hx rfl (hb hby at_145) ?_
              show Steps p.tables e below (T53.setTop (mkF m 146 #[.val (.int p0), .val (.int p1), .val (.int p2), .val (.int p3), .val (.int p4), .val (.int p5), .val (.int kk), .val (.ref a3), .val (.ref a52), .unset, .unset, .unset, .unset, .unset] [(.int (0 : Int32))])) t
              rw [hv146, if_neg hc128] at k
              exact k
          refine Rn.go (T' := T53) (g' := (mkF m 247 #[.val (.int p0), .val (.int p1), .val (.int p2), .val (.int p3), .val (.int p4), .val (.int p5), .val (.int kk), .val (.ref a3), .val (.ref a52), .val (.int v146), .unset, .unset, .unset, .unset] [(.ref a52), (.ref a3)])) (fun t k => ?_) ?_
          · show Steps p.tables e below (T53.setTop (mkF m 146 #[.val (.int p0), .val (.int p1), .val (.int p2), .val (.int p3), .val (.int p4), .val (.int p5), .val (.int kk), .val (.ref a3), .val (.ref a52), .unset, .unset, .unset, .unset, .unset] [(.int v146)])) t
            refine XS.istore Y54.here hx rfl (hb hby at_146) rfl (l' := #[.val (.int p0), .val (.int p1), .val (.int p2), .val (.int p3), .val (.int p4), .val (.int p5), .val (.int kk), .val (.ref a3), .val (.ref a52), .val (.int v146), .unset, .unset, .unset, .unset]) rfl ?_
            show Steps p.tables e below (T53.setTop (mkF m 148 #[.val (.int p0), .val (.int p1), .val (.int p2), .val (.int p3), .val (.int p4), .val (.int p5), .val (.int kk), .val (.ref a3), .val (.ref a52), .val (.int v146), .unset, .unset, .unset, .unset] [])) t
            refine XS.goto Y54.here hx rfl (pc0 := 148) (pc' := 243) rfl (hb hby at_148) (by decide) (by decide) ?_
            show Steps p.tables e below (T53.setTop (mkF m 243 #[.val (.int p0), .val (.int p1), .val (.int p2), .val (.int p3), .val (.int p4), .val (.int p5), .val (.int kk), .val (.ref a3), .val (.ref a52), .val (.int v146), .unset, .unset, .unset, .unset] [])) t
            refine XS.aload Y54.here hx rfl (hb hby at_243) rfl rfl ?_
            show Steps p.tables e below (T53.setTop (mkF m 245 #[.val (.int p0), .val (.int p1), .val (.int p2), .val (.int p3), .val (.int p4), .val (.int p5), .val (.int kk), .val (.ref a3), .val (.ref a52), .val (.int v146), .unset, .unset, .unset, .unset] [(.ref a3)])) t
            refine XS.aload Y54.here hx rfl (hb hby at_245) rfl rfl ?_
            show Steps p.tables e below (T53.setTop (mkF m 247 #[.val (.int p0), .val (.int p1), .val (.int p2), .val (.int p3), .val (.int p4), .val (.int p5), .val (.int kk), .val (.ref a3), .val (.ref a52), .val (.int v146), .unset, .unset, .unset, .unset] [(.ref a52), (.ref a3)])) t
            exact k
          refine On.virtual Y54 hx hZ (y := (⟨"com/example/oxalis/oxalis/Rect", "equals", "(Ljava/lang/Object;)Z"⟩ : MethodName)) (C := "com/example/oxalis/oxalis/Rect") hown (w17 hw) (w18 hw) (w19 hw) (w20 hw) (w21 hw) (w2 hw) (by decide) (a := a3) (argsL := [(.ref a52)]) (rest := []) (i := 0) rfl (rmE01 l Z a0 hw n0 a3 a52 p0 p1 p2 p3 p1 p2 p3 p0 []) (W := 0) (by decide) (by decide) (by decide) (by decide) (g := (mkF m 247 #[.val (.int p0), .val (.int p1), .val (.int p2), .val (.int p3), .val (.int p4), .val (.int p5), .val (.int kk), .val (.ref a3), .val (.ref a52), .val (.int v146), .unset, .unset, .unset, .unset] [(.ref a52), (.ref a3)])) rfl (by rw [hml]; rfl) (lenOf pd1 rfl) rfl (by show 2 * 0 + _ ≤ _; exact Nat.le_of_eq rfl) (hb hby at_247) ?_
          intro T58 u60 D61 hp62 Y59
          obtain ⟨r247, hr247, rfl, rfl⟩ : ∃ z : Int32, z = (own_eq4 p0 p1 p2 p3 p1 p2 p3 p0) ∧ u60 = some (.int z) ∧ D61 = _ := ⟨_, rfl, hp62.1, hp62.2⟩
          replace Y59 : On p l e _ s m _ below meth c Z n0 T58 2 8 [ob a3 own_C0 (own_F0 (.int p0) (.int p1) (.int p2) (.int p3)), ob a52 own_C0 (own_F0 (.int p1) (.int p2) (.int p3) (.int p0))] := Y59
          show Rn p e below F T58 (mkF m 250 #[.val (.int p0), .val (.int p1), .val (.int p2), .val (.int p3), .val (.int p4), .val (.int p5), .val (.int kk), .val (.ref a3), .val (.ref a52), .val (.int v146), .unset, .unset, .unset, .unset] [(.int r247)])
          refine Rn.go (T' := T58) (g' := (mkF m 252 #[.val (.int p0), .val (.int p1), .val (.int p2), .val (.int p3), .val (.int p4), .val (.int p5), .val (.int kk), .val (.ref a3), .val (.ref a52), .val (.int v146), .unset, .unset, .unset, .unset] [(.int v146), (.int r247)])) (fun t k => ?_) ?_
          · show Steps p.tables e below (T58.setTop (mkF m 250 #[.val (.int p0), .val (.int p1), .val (.int p2), .val (.int p3), .val (.int p4), .val (.int p5), .val (.int kk), .val (.ref a3), .val (.ref a52), .val (.int v146), .unset, .unset, .unset, .unset] [(.int r247)])) t
            refine XS.iload Y59.here hx rfl (hb hby at_250) rfl ?_
            show Steps p.tables e below (T58.setTop (mkF m 252 #[.val (.int p0), .val (.int p1), .val (.int p2), .val (.int p3), .val (.int p4), .val (.int p5), .val (.int kk), .val (.ref a3), .val (.ref a52), .val (.int v146), .unset, .unset, .unset, .unset] [(.int v146), (.int r247)])) t
            exact k
          refine Rn.go (T' := T58) (g' := (mkF m 255 #[.val (.int p0), .val (.int p1), .val (.int p2), .val (.int p3), .val (.int p4), .val (.int p5), .val (.int kk), .val (.ref a3), .val (.ref a52), .val (.int v146), .unset, .unset, .unset, .unset] [])) (fun t k => XS.icmpNo Y59.here hx rfl (hb hby at_252) rfl (teq (by rw [hr247]; exact own_7a _ _ _ _ _ hv146)).2 k) ?_
          refine Rn.go (T' := T58) (g' := (mkF m 259 #[.val (.int p0), .val (.int p1), .val (.int p2), .val (.int p3), .val (.int p4), .val (.int p5), .val (.int kk), .val (.ref a3), .val (.ref a52), .val (.int v146), .unset, .unset, .unset, .unset] [(.ref a3), (.ref a52)])) (fun t k => ?_) ?_
          · show Steps p.tables e below (T58.setTop (mkF m 255 #[.val (.int p0), .val (.int p1), .val (.int p2), .val (.int p3), .val (.int p4), .val (.int p5), .val (.int kk), .val (.ref a3), .val (.ref a52), .val (.int v146), .unset, .unset, .unset, .unset] [])) t
            refine XS.aload Y59.here hx rfl (hb hby at_255) rfl rfl ?_
            show Steps p.tables e below (T58.setTop (mkF m 257 #[.val (.int p0), .val (.int p1), .val (.int p2), .val (.int p3), .val (.int p4), .val (.int p5), .val (.int kk), .val (.ref a3), .val (.ref a52), .val (.int v146), .unset, .unset, .unset, .unset] [(.ref a52)])) t
            refine XS.aload Y59.here hx rfl (hb hby at_257) rfl rfl ?_
            show Steps p.tables e below (T58.setTop (mkF m 259 #[.val (.int p0), .val (.int p1), .val (.int p2), .val (.int p3), .val (.int p4), .val (.int p5), .val (.int kk), .val (.ref a3), .val (.ref a52), .val (.int v146), .unset, .unset, .unset, .unset] [(.ref a3), (.ref a52)])) t
            exact k
          refine On.virtual Y59 hx hZ (y := (⟨"com/example/oxalis/oxalis/Rect", "equals", "(Ljava/lang/Object;)Z"⟩ : MethodName)) (C := "com/example/oxalis/oxalis/Rect") hown (w17 hw) (w18 hw) (w19 hw) (w20 hw) (w21 hw) (w2 hw) (by decide) (a := a52) (argsL := [(.ref a3)]) (rest := []) (i := 1) rfl (rmE10 l Z a0 hw n0 a52 a3 p0 p1 p2 p3 p1 p2 p3 p0 []) (W := 0) (by decide) (by decide) (by decide) (by decide) (g := (mkF m 259 #[.val (.int p0), .val (.int p1), .val (.int p2), .val (.int p3), .val (.int p4), .val (.int p5), .val (.int kk), .val (.ref a3), .val (.ref a52), .val (.int v146), .unset, .unset, .unset, .unset] [(.ref a3), (.ref a52)])) rfl (by rw [hml]; rfl) (lenOf pd1 rfl) rfl (by show 2 * 0 + _ ≤ _; exact Nat.le_of_eq rfl) (hb hby at_259) ?_
          intro T63 u65 D66 hp67 Y64
          obtain ⟨r259, hr259, rfl, rfl⟩ : ∃ z : Int32, z = (own_eq4 p1 p2 p3 p0 p0 p1 p2 p3) ∧ u65 = some (.int z) ∧ D66 = _ := ⟨_, rfl, hp67.1, hp67.2⟩
          replace Y64 : On p l e _ s m _ below meth c Z n0 T63 2 8 [ob a3 own_C0 (own_F0 (.int p0) (.int p1) (.int p2) (.int p3)), ob a52 own_C0 (own_F0 (.int p1) (.int p2) (.int p3) (.int p0))] := Y64
          show Rn p e below F T63 (mkF m 262 #[.val (.int p0), .val (.int p1), .val (.int p2), .val (.int p3), .val (.int p4), .val (.int p5), .val (.int kk), .val (.ref a3), .val (.ref a52), .val (.int v146), .unset, .unset, .unset, .unset] [(.int r259)])
          refine Rn.go (T' := T63) (g' := (mkF m 264 #[.val (.int p0), .val (.int p1), .val (.int p2), .val (.int p3), .val (.int p4), .val (.int p5), .val (.int kk), .val (.ref a3), .val (.ref a52), .val (.int v146), .unset, .unset, .unset, .unset] [(.int v146), (.int r259)])) (fun t k => ?_) ?_
          · show Steps p.tables e below (T63.setTop (mkF m 262 #[.val (.int p0), .val (.int p1), .val (.int p2), .val (.int p3), .val (.int p4), .val (.int p5), .val (.int kk), .val (.ref a3), .val (.ref a52), .val (.int v146), .unset, .unset, .unset, .unset] [(.int r259)])) t
            refine XS.iload Y64.here hx rfl (hb hby at_262) rfl ?_
            show Steps p.tables e below (T63.setTop (mkF m 264 #[.val (.int p0), .val (.int p1), .val (.int p2), .val (.int p3), .val (.int p4), .val (.int p5), .val (.int kk), .val (.ref a3), .val (.ref a52), .val (.int v146), .unset, .unset, .unset, .unset] [(.int v146), (.int r259)])) t
            exact k
          refine Rn.go (T' := T63) (g' := (mkF m 267 #[.val (.int p0), .val (.int p1), .val (.int p2), .val (.int p3), .val (.int p4), .val (.int p5), .val (.int kk), .val (.ref a3), .val (.ref a52), .val (.int v146), .unset, .unset, .unset, .unset] [])) (fun t k => XS.icmpNo Y64.here hx rfl (hb hby at_264) rfl (teq (by rw [hr259]; exact own_7b _ _ _ _ _ hv146)).2 k) ?_
          refine Rn.go (T' := T63) (g' := (mkF m 271 #[.val (.int p0), .val (.int p1), .val (.int p2), .val (.int p3), .val (.int p4), .val (.int p5), .val (.int kk), .val (.ref a3), .val (.ref a52), .val (.int v146), .unset, .unset, .unset, .unset] [(.ref a3), (.ref a3)])) (fun t k => ?_) ?_
          · show Steps p.tables e below (T63.setTop (mkF m 267 #[.val (.int p0), .val (.int p1), .val (.int p2), .val (.int p3), .val (.int p4), .val (.int p5), .val (.int kk), .val (.ref a3), .val (.ref a52), .val (.int v146), .unset, .unset, .unset, .unset] [])) t
            refine XS.aload Y64.here hx rfl (hb hby at_267) rfl rfl ?_
            show Steps p.tables e below (T63.setTop (mkF m 269 #[.val (.int p0), .val (.int p1), .val (.int p2), .val (.int p3), .val (.int p4), .val (.int p5), .val (.int kk), .val (.ref a3), .val (.ref a52), .val (.int v146), .unset, .unset, .unset, .unset] [(.ref a3)])) t
            refine XS.aload Y64.here hx rfl (hb hby at_269) rfl rfl ?_
            show Steps p.tables e below (T63.setTop (mkF m 271 #[.val (.int p0), .val (.int p1), .val (.int p2), .val (.int p3), .val (.int p4), .val (.int p5), .val (.int kk), .val (.ref a3), .val (.ref a52), .val (.int v146), .unset, .unset, .unset, .unset] [(.ref a3), (.ref a3)])) t
            exact k
          refine On.virtual Y64 hx hZ (y := (⟨"com/example/oxalis/oxalis/Rect", "equals", "(Ljava/lang/Object;)Z"⟩ : MethodName)) (C := "com/example/oxalis/oxalis/Rect") hown (w17 hw) (w18 hw) (w19 hw) (w20 hw) (w21 hw) (w2 hw) (by decide) (a := a3) (argsL := [(.ref a3)]) (rest := []) (i := 0) rfl (rmE00 l Z a0 hw n0 a3 p0 p1 p2 p3 [ob a52 own_C0 (own_F0 (.int p1) (.int p2) (.int p3) (.int p0))]) (W := 0) (by decide) (by decide) (by decide) (by decide) (g := (mkF m 271 #[.val (.int p0), .val (.int p1), .val (.int p2), .val (.int p3), .val (.int p4), .val (.int p5), .val (.int kk), .val (.ref a3), .val (.ref a52), .val (.int v146), .unset, .unset, .unset, .unset] [(.ref a3), (.ref a3)])) rfl (by rw [hml]; rfl) (lenOf pd1 rfl) rfl (by show 2 * 0 + _ ≤ _; exact Nat.le_of_eq rfl) (hb hby at_271) ?_
          intro T68 u70 D71 hp72 Y69
          obtain ⟨rfl, rfl⟩ := hp72
          replace Y69 : On p l e _ s m _ below meth c Z n0 T68 2 8 [ob a3 own_C0 (own_F0 (.int p0) (.int p1) (.int p2) (.int p3)), ob a52 own_C0 (own_F0 (.int p1) (.int p2) (.int p3) (.int p0))] := Y69
          show Rn p e below F T68 (mkF m 274 #[.val (.int p0), .val (.int p1), .val (.int p2), .val (.int p3), .val (.int p4), .val (.int p5), .val (.int kk), .val (.ref a3), .val (.ref a52), .val (.int v146), .unset, .unset, .unset, .unset] [(.int (1 : Int32))])
          refine Rn.go (T' := T68) (g' := (mkF m 277 #[.val (.int p0), .val (.int p1), .val (.int p2), .val (.int p3), .val (.int p4), .val (.int p5), .val (.int kk), .val (.ref a3), .val (.ref a52), .val (.int v146), .unset, .unset, .unset, .unset] [])) (fun t k => XS.ifNo Y69.here hx rfl (hb hby at_274) rfl ((if0 _ _).trans (feq (by decide)).1) k) ?_
          refine Rn.go (T' := T68) (g' := (mkF m 282 #[.val (.int p0), .val (.int p1), .val (.int p2), .val (.int p3), .val (.int p4), .val (.int p5), .val (.int kk), .val (.ref a3), .val (.ref a52), .val (.int v146), .unset, .unset, .unset, .unset] [(.int (1 : Int32))])) (fun t k => ?_) ?_
          · show Steps p.tables e below (T68.setTop (mkF m 277 #[.val (.int p0), .val (.int p1), .val (.int p2), .val (.int p3), .val (.int p4), .val (.int p5), .val (.int kk), .val (.ref a3), .val (.ref a52), .val (.int v146), .unset, .unset, .unset, .unset] [])) t
            refine XS.iconst Y69.here hx rfl (hb hby at_277) ?_
            show Steps p.tables e below (T68.setTop (mkF m 278 #[.val (.int p0), .val (.int p1), .val (.int p2), .val (.int p3), .val (.int p4), .val (.int p5), .val (.int kk), .val (.ref a3), .val (.ref a52), .val (.int v146), .unset, .unset, .unset, .unset] [(.int (1 : Int32))])) t
            refine XS.goto Y69.here hx rfl (pc0 := 278) (pc' := 282) rfl (hb hby at_278) (by decide) (by decide) ?_
            show Steps p.tables e below (T68.setTop (mkF m 282 #[.val (.int p0), .val (.int p1), .val (.int p2), .val (.int p3), .val (.int p4), .val (.int p5), .val (.int kk), .val (.ref a3), .val (.ref a52), .val (.int v146), .unset, .unset, .unset, .unset] [(.int (1 : Int32))])) t
            exact k
          rw [← hF]; exact On.retn Y69 hx hret (by simp) hlk (z' := (1 : Int32)) (by decide) (hb hby at_282) (by decide) (by decide) rfl
        · refine Rn.go (T' := T4) (g' := (mkF m 151 #[.val (.int p0), .val (.int p1), .val (.int p2), .val (.int p3), .val (.int p4), .val (.int p5), .val (.int kk), .val (.ref a3), .unset, .unset, .unset, .unset, .unset, .unset] [])) (fun t k => XS.icmpYes Y5.here hx rfl (pc0 := 110) (pc' := 151) rfl (hb hby at_110) rfl (feq hc110).2 (by decide) (by decide) k) ?_
          refine Rn.go (T' := T4) (g' := (mkF m 153 #[.val (.int p0), .val (.int p1), .val (.int p2), .val (.int p3), .val (.int p4), .val (.int p5), .val (.int kk), .val (.ref a3), .unset, .unset, .unset, .unset, .unset, .unset] [(.int kk)])) (fun t k => ?_) ?_
          · show Steps p.tables e below (T4.setTop (mkF m 151 #[.val (.int p0), .val (.int p1), .val (.int p2), .val (.int p3), .val (.int p4), .val (.int p5), .val (.int kk), .val (.ref a3), .unset, .unset, .unset, .unset, .unset, .unset] [])) t
            refine XS.iload Y5.here hx rfl (hb hby at_151) rfl ?_
            show Steps p.tables e below (T4.setTop (mkF m 153 #[.val (.int p0), .val (.int p1), .val (.int p2), .val (.int p3), .val (.int p4), .val (.int p5), .val (.int kk), .val (.ref a3), .unset, .unset, .unset, .unset, .unset, .unset] [(.int kk)])) t
            exact k
          obtain ⟨v162, hv162⟩ : ∃ z : Int32, z = (if kk = (0 : Int32) then p4 else (0 : Int32)) := ⟨_, rfl⟩
          refine Rn.go (T' := T4) (g' := (mkF m 162 #[.val (.int p0), .val (.int p1), .val (.int p2), .val (.int p3), .val (.int p4), .val (.int p5), .val (.int kk), .val (.ref a3), .unset, .unset, .unset, .unset, .unset, .unset] [(.int v162)])) (fun t k => ?_) ?_
          · show Steps p.tables e below (T4.setTop (mkF m 153 #[.val (.int p0), .val (.int p1), .val (.int p2), .val (.int p3), .val (.int p4), .val (.int p5), .val (.int kk), .val (.ref a3), .unset, .unset, .unset, .unset, .unset, .unset] [(.int kk)])) t
            by_cases hc153 : kk = (0 : Int32)
            · refine XS.ifNo Y5.here hx rfl (hb hby at_153) rfl ((if0 _ _).trans (teq hc153).2) ?_
              show Steps p.tables e below (T4.setTop (mkF m 156 #[.val (.int p0), .val (.int p1), .val (.int p2), .val (.int p3), .val (.int p4), .val (.int p5), .val (.int kk), .val (.ref a3), .unset, .unset, .unset, .unset, .unset, .unset] [])) t
              refine XS.iload Y5.here hx rfl (hb hby at_156) rfl ?_
              show Steps p.tables e below (T4.setTop (mkF m 158 #[.val (.int p0), .val (.int p1), .val (.int p2), .val (.int p3), .val (.int p4), .val (.int p5), .val (.int kk), .val (.ref a3), .unset, .unset, .unset, .unset, .unset, .unset] [(.int p4)])) t
              refine XS.goto Y5.here hx rfl (pc0 := 158) (pc' := 162) rfl (hb hby at_158) (by decide) (by decide) ?_
              show Steps p.tables e below (T4.setTop (mkF m 162 #[.val (.int p0), .val (.int p1), .val (.int p2), .val (.int p3), .val (.int p4), .val (.int p5), .val (.int kk), .val (.ref a3), .unset, .unset, .unset, .unset, .unset, .unset] [(.int p4)])) t
              rw [hv162, if_pos hc153] at k
              exact k
            · refine XS.ifYes Y5.here hx rfl (pc0 := 153) (pc' := 161) rfl (hb hby at_153) rfl ((if0 _ _).trans (feq hc153).2) (by decide) (by decide) ?_
              show Steps p.tables e below (T4.setTop (mkF m 161 #[.val (.int p0), .val (.int p1), .val (.int p2), .val (.int p3), .val (.int p4), .val (.int p5), .val (.int kk), .val (.ref a3), .unset, .unset, .unset, .unset, .unset, .unset] [])) t
              refine XS.iconst Y5.here hx rfl (hb hby at_161) ?_
              show Steps p.tables e below (T4.setTop (mkF m 162 #[.val (.int p0), .val (.int p1), .val (.int p2), .val (.int p3), .val (.int p4), .val (.int p5), .val (.int kk), .val (.ref a3), .unset, .unset, .unset, .unset, .unset, .unset] [(.int (0 : Int32))])) t
              rw [hv162, if_neg hc153] at k
              exact k
          refine Rn.go (T' := T4) (g' := (mkF m 167 #[.val (.int p0), .val (.int p1), .val (.int p2), .val (.int p3), .val (.int p4), .val (.int p5), .val (.int kk), .val (.ref a3), .unset, .unset, .val (.int v162), .unset, .unset, .unset] [(.int (1 : Int32)), (.int kk)])) (fun t k => ?_) ?_
          · show Steps p.tables e below (T4.setTop (mkF m 162 #[.val (.int p0), .val (.int p1), .val (.int p2), .val (.int p3), .val (.int p4), .val (.int p5), .val (.int kk), .val (.ref a3), .unset, .unset, .unset, .unset, .unset, .unset] [(.int v162)])) t
            refine XS.istore Y5.here hx rfl (hb hby at_162) rfl (l' := #[.val (.int p0), .val (.int p1), .val (.int p2), .val (.int p3), .val (.int p4), .val (.int p5), .val (.int kk), .val (.ref a3), .unset, .unset, .val (.int v162), .unset, .unset, .unset]) rfl ?_
            show Steps p.tables e below (T4.setTop (mkF m 164 #[.val (.int p0), .val (.int p1), .val (.int p2), .val (.int p3), .val (.int p4), .val (.int p5), .val (.int kk), .val (.ref a3), .unset, .unset, .val (.int v162), .unset, .unset, .unset] [])) t
            refine XS.iload Y5.here hx rfl (hb hby at_164) rfl ?_
            show Steps p.tables e below (T4.setTop (mkF m 166 #[.val (.int p0), .val (.int p1), .val (.int p2), .val (.int p3), .val (.int p4), .val (.int p5), .val (.int kk), .val (.ref a3), .unset, .unset, .val (.int v162), .unset, .unset, .unset] [(.int kk)])) t
            refine XS.iconst Y5.here hx rfl (hb hby at_166) ?_
            show Steps p.tables e below (T4.setTop (mkF m 167 #[.val (.int p0), .val (.int p1), .val (.int p2), .val (.int p3), .val (.int p4), .val (.int p5), .val (.int kk), .val (.ref a3), .unset, .unset, .val (.int v162), .unset, .unset, .unset] [(.int (1 : Int32)), (.int kk)])) t
            exact k
          obtain ⟨v176, hv176⟩ : ∃ z : Int32, z = (if kk = (1 : Int32) then p4 else (0 : Int32)) := ⟨_, rfl⟩
          refine Rn.go (T' := T4) (g' := (mkF m 176 #[.val (.int p0), .val (.int p1), .val (.int p2), .val (.int p3), .val (.int p4), .val (.int p5), .val (.int kk), .val (.ref a3), .unset, .unset, .val (.int v162), .unset, .unset, .unset] [(.int v176)])) (fun t k => ?_) ?_
          · show Steps p.tables e below (T4.setTop (mkF m 167 #[.val (.int p0), .val (.int p1), .val (.int p2), .val (.int p3), .val (.int p4), .val (.int p5), .val (.int kk), .val (.ref a3), .unset, .unset, .val (.int v162), .unset, .unset, .unset] [(.int (1 : Int32)), (.int kk)])) t
            by_cases hc167 : kk = (1 : Int32)
            · refine XS.icmpNo Y5.here hx rfl (hb hby at_167) rfl (teq hc167).2 ?_
              show Steps p.tables e below (T4.setTop (mkF m 170 #[.val (.int p0), .val (.int p1), .val (.int p2), .val (.int p3), .val (.int p4), .val (.int p5), .val (.int kk), .val (.ref a3), .unset, .unset, .val (.int v162), .unset, .unset, .unset] [])) t
              refine XS.iload Y5.here hx rfl (hb hby at_170) rfl ?_
              show Steps p.tables e below (T4.setTop (mkF m 172 #[.val (.int p0), .val (.int p1), .val (.int p2), .val (.int p3), .val (.int p4), .val (.int p5), .val (.int kk), .val (.ref a3), .unset, .unset, .val (.int v162), .unset, .unset, .unset] [(.int p4)])) t
              refine XS.goto Y5.here hx rfl (pc0 := 172) (pc' := 176) rfl (hb hby at_172) (by decide) (by decide) ?_
              show Steps p.tables e below (T4.setTop (mkF m 176 #[.val (.int p0), .val (.int p1), .val (.int p2), .val (.int p3), .val (.int p4), .val (.int p5), .val (.int kk), .val (.ref a3), .unset, .unset, .val (.int v162), .unset, .unset, .unset] [(.int p4)])) t
              rw [hv176, if_pos hc167] at k
              exact k
            · refine XS.icmpYes Y5.here hx rfl (pc0 := 167) (pc' := 175) rfl (hb hby at_167) rfl (feq hc167).2 (by decide) (by decide) ?_
              show Steps p.tables e below (T4.setTop (mkF m 175 #[.val (.int p0), .val (.int p1), .val (.int p2), .val (.int p3), .val (.int p4), .val (.int p5), .val (.int kk), .val (.ref a3), .unset, .unset, .val (.int v162), .unset, .unset, .unset] [])) t
              refine XS.iconst Y5.here hx rfl (hb hby at_175) ?_
              show Steps p.tables e below (T4.setTop (mkF m 176 #[.val (.int p0), .val (.int p1), .val (.int p2), .val (.int p3), .val (.int p4), .val (.int p5), .val (.int kk), .val (.ref a3), .unset, .unset, .val (.int v162), .unset, .unset, .unset] [(.int (0 : Int32))])) t
              rw [hv176, if_neg hc167] at k
              exact k
          refine Rn.go (T' := T4) (g' := (mkF m 181 #[.val (.int p0), .val (.int p1), .val (.int p2), .val (.int p3), .val (.int p4), .val (.int p5), .val (.int kk), .val (.ref a3), .unset, .unset, .val (.int v162), .val (.int v176), .unset, .unset] [(.int (2 : Int32)), (.int kk)])) (fun t k => ?_) ?_
          · show Steps p.tables e below (T4.setTop (mkF m 176 #[.val (.int p0), .val (.int p1), .val (.int p2), .val (.int p3), .val (.int p4), .val (.int p5), .val (.int kk), .val (.ref a3), .unset, .unset, .val (.int v162), .unset, .unset, .unset] [(.int v176)])) t
            refine XS.istore Y5.here hx rfl (hb hby at_176) rfl (l' := #[.val (.int p0), .val (.int p1), .val (.int p2), .val (.int p3), .val (.int p4), .val (.int p5), .val (.int kk), .val (.ref a3), .unset, .unset, .val (.int v162), .val (.int v176), .unset, .unset]) rfl ?_
            show Steps p.tables e below (T4.setTop (mkF m 178 #[.val (.int p0), .val (.int p1), .val (.int p2), .val (.int p3), .val (.int p4), .val (.int p5), .val (.int kk), .val (.ref a3), .unset, .unset, .val (.int v162), .val (.int v176), .unset, .unset] [])) t
            refine XS.iload Y5.here hx rfl (hb hby at_178) rfl ?_
            show Steps p.tables e below (T4.setTop (mkF m 180 #[.val (.int p0), .val (.int p1), .val (.int p2), .val (.int p3), .val (.int p4), .val (.int p5), .val (.int kk), .val (.ref a3), .unset, .unset, .val (.int v162), .val (.int v176), .unset, .unset] [(.int kk)])) t
            refine XS.iconst Y5.here hx rfl (hb hby at_180) ?_
            show Steps p.tables e below (T4.setTop (mkF m 181 #[.val (.int p0), .val (.int p1), .val (.int p2), .val (.int p3), .val (.int p4), .val (.int p5), .val (.int kk), .val (.ref a3), .unset, .unset, .val (.int v162), .val (.int v176), .unset, .unset] [(.int (2 : Int32)), (.int kk)])) t
            exact k
          obtain ⟨v190, hv190⟩ : ∃ z : Int32, z = (if kk = (2 : Int32) then p4 else (0 : Int32)) := ⟨_, rfl⟩
          refine Rn.go (T' := T4) (g' := (mkF m 190 #[.val (.int p0), .val (.int p1), .val (.int p2), .val (.int p3), .val (.int p4), .val (.int p5), .val (.int kk), .val (.ref a3), .unset, .unset, .val (.int v162), .val (.int v176), .unset, .unset] [(.int v190)])) (fun t k => ?_) ?_
          · show Steps p.tables e below (T4.setTop (mkF m 181 #[.val (.int p0), .val (.int p1), .val (.int p2), .val (.int p3), .val (.int p4), .val (.int p5), .val (.int kk), .val (.ref a3), .unset, .unset, .val (.int v162), .val (.int v176), .unset, .unset] [(.int (2 : Int32)), (.int kk)])) t
            by_cases hc181 : kk = (2 : Int32)
            · refine XS.icmpNo Y5.here hx rfl (hb hby at_181) rfl (teq hc181).2 ?_
              show Steps p.tables e below (T4.setTop (mkF m 184 #[.val (.int p0), .val (.int p1), .val (.int p2), .val (.int p3), .val (.int p4), .val (.int p5), .val (.int kk), .val (.ref a3), .unset, .unset, .val (.int v162), .val (.int v176), .unset, .unset] [])) t
              refine XS.iload Y5.here hx rfl (hb hby at_184) rfl ?_
              show Steps p.tables e below (T4.setTop (mkF m 186 #[.val (.int p0), .val (.int p1), .val (.int p2), .val (.int p3), .val (.int p4), .val (.int p5), .val (.int kk), .val (.ref a3), .unset, .unset, .val (.int v162), .val (.int v176), .unset, .unset] [(.int p4)])) t
              refine XS.goto Y5.here hx rfl (pc0 := 186) (pc' := 190) rfl (hb hby at_186) (by decide) (by decide) ?_
              show Steps p.tables e below (T4.setTop (mkF m 190 #[.val (.int p0), .val (.int p1), .val (.int p2), .val (.int p3), .val (.int p4), .val (.int p5), .val (.int kk), .val (.ref a3), .unset, .unset, .val (.int v162), .val (.int v176), .unset, .unset] [(.int p4)])) t
              rw [hv190, if_pos hc181] at k
              exact k
            · refine XS.icmpYes Y5.here hx rfl (pc0 := 181) (pc' := 189) rfl (hb hby at_181) rfl (feq hc181).2 (by decide) (by decide) ?_
              show Steps p.tables e below (T4.setTop (mkF m 189 #[.val (.int p0), .val (.int p1), .val (.int p2), .val (.int p3), .val (.int p4), .val (.int p5), .val (.int kk), .val (.ref a3), .unset, .unset, .val (.int v162), .val (.int v176), .unset, .unset] [])) t
              refine XS.iconst Y5.here hx rfl (hb hby at_189) ?_
              show Steps p.tables e below (T4.setTop (mkF m 190 #[.val (.int p0), .val (.int p1), .val (.int p2), .val (.int p3), .val (.int p4), .val (.int p5), .val (.int kk), .val (.ref a3), .unset, .unset, .val (.int v162), .val (.int v176), .unset, .unset] [(.int (0 : Int32))])) t
              rw [hv190, if_neg hc181] at k
              exact k
          refine Rn.go (T' := T4) (g' := (mkF m 195 #[.val (.int p0), .val (.int p1), .val (.int p2), .val (.int p3), .val (.int p4), .val (.int p5), .val (.int kk), .val (.ref a3), .unset, .unset, .val (.int v162), .val (.int v176), .val (.int v190), .unset] [(.int (3 : Int32)), (.int kk)])) (fun t k => ?_) ?_
          · show Steps p.tables e below (T4.setTop (mkF m 190 #[.val (.int p0), .val (.int p1), .val (.int p2), .val (.int p3), .val (.int p4), .val (.int p5), .val (.int kk), .val (.ref a3), .unset, .unset, .val (.int v162), .val (.int v176), .unset, .unset] [(.int v190)])) t
            refine XS.istore Y5.here hx rfl (hb hby at_190) rfl (l' := #[.val (.int p0), .val (.int p1), .val (.int p2), .val (.int p3), .val (.int p4), .val (.int p5), .val (.int kk), .val (.ref a3), .unset, .unset, .val (.int v162), .val (.int v176), .val (.int v190), .unset]) rfl ?_
            show Steps p.tables e below (T4.setTop (mkF m 192 #[.val (.int p0), .val (.int p1), .val (.int p2), .val (.int p3), .val (.int p4), .val (.int p5), .val (.int kk), .val (.ref a3), .unset, .unset, .val (.int v162), .val (.int v176), .val (.int v190), .unset] [])) t
            refine XS.iload Y5.here hx rfl (hb hby at_192) rfl ?_
            show Steps p.tables e below (T4.setTop (mkF m 194 #[.val (.int p0), .val (.int p1), .val (.int p2), .val (.int p3), .val (.int p4), .val (.int p5), .val (.int kk), .val (.ref a3), .unset, .unset, .val (.int v162), .val (.int v176), .val (.int v190), .unset] [(.int kk)])) t
            refine XS.iconst Y5.here hx rfl (hb hby at_194) ?_
            show Steps p.tables e below (T4.setTop (mkF m 195 #[.val (.int p0), .val (.int p1), .val (.int p2), .val (.int p3), .val (.int p4), .val (.int p5), .val (.int kk), .val (.ref a3), .unset, .unset, .val (.int v162), .val (.int v176), .val (.int v190), .unset] [(.int (3 : Int32)), (.int kk)])) t
            exact k
          obtain ⟨v204, hv204⟩ : ∃ z : Int32, z = (if kk = (3 : Int32) then p4 else (0 : Int32)) := ⟨_, rfl⟩
          refine Rn.go (T' := T4) (g' := (mkF m 204 #[.val (.int p0), .val (.int p1), .val (.int p2), .val (.int p3), .val (.int p4), .val (.int p5), .val (.int kk), .val (.ref a3), .unset, .unset, .val (.int v162), .val (.int v176), .val (.int v190), .unset] [(.int v204)])) (fun t k => ?_) ?_
          · show Steps p.tables e below (T4.setTop (mkF m 195 #[.val (.int p0), .val (.int p1), .val (.int p2), .val (.int p3), .val (.int p4), .val (.int p5), .val (.int kk), .val (.ref a3), .unset, .unset, .val (.int v162), .val (.int v176), .val (.int v190), .unset] [(.int (3 : Int32)), (.int kk)])) t
            by_cases hc195 : kk = (3 : Int32)
            · refine XS.icmpNo Y5.here hx rfl (hb hby at_195) rfl (teq hc195).2 ?_
              show Steps p.tables e below (T4.setTop (mkF m 198 #[.val (.int p0), .val (.int p1), .val (.int p2), .val (.int p3), .val (.int p4), .val (.int p5), .val (.int kk), .val (.ref a3), .unset, .unset, .val (.int v162), .val (.int v176), .val (.int v190), .unset] [])) t
              refine XS.iload Y5.here hx rfl (hb hby at_198) rfl ?_
              show Steps p.tables e below (T4.setTop (mkF m 200 #[.val (.int p0), .val (.int p1), .val (.int p2), .val (.int p3), .val (.int p4), .val (.int p5), .val (.int kk), .val (.ref a3), .unset, .unset, .val (.int v162), .val (.int v176), .val (.int v190), .unset] [(.int p4)])) t
              refine XS.goto Y5.here hx rfl (pc0 := 200) (pc' := 204) rfl (hb hby at_200) (by decide) (by decide) ?_
              show Steps p.tables e below (T4.setTop (mkF m 204 #[.val (.int p0), .val (.int p1), .val (.int p2), .val (.int p3), .val (.int p4), .val (.int p5), .val (.int kk), .val (.ref a3), .unset, .unset, .val (.int v162), .val (.int v176), .val (.int v190), .unset] [(.int p4)])) t
              rw [hv204, if_pos hc195] at k
              exact k
            · refine XS.icmpYes Y5.here hx rfl (pc0 := 195) (pc' := 203) rfl (hb hby at_195) rfl (feq hc195).2 (by decide) (by decide) ?_
              show Steps p.tables e below (T4.setTop (mkF m 203 #[.val (.int p0), .val (.int p1), .val (.int p2), .val (.int p3), .val (.int p4), .val (.int p5), .val (.int kk), .val (.ref a3), .unset, .unset, .val (.int v162), .val (.int v176), .val (.int v190), .unset] [])) t
              refine XS.iconst Y5.here hx rfl (hb hby at_203) ?_
              show Steps p.tables e below (T4.setTop (mkF m 204 #[.val (.int p0), .val (.int p1), .val (.int p2), .val (.int p3), .val (.int p4), .val (.int p5), .val (.int kk), .val (.ref a3), .unset, .unset, .val (.int v162), .val (.int v176), .val (.int v190), .unset] [(.int (0 : Int32))])) t
              rw [hv204, if_neg hc195] at k
              exact k
          refine Rn.go (T' := T4) (g' := (mkF m 206 #[.val (.int p0), .val (.int p1), .val (.int p2), .val (.int p3), .val (.int p4), .val (.int p5), .val (.int kk), .val (.ref a3), .unset, .unset, .val (.int v162), .val (.int v176), .val (.int v190), .val (.int v204)] [])) (fun t k => ?_) ?_
          · show Steps p.tables e below (T4.setTop (mkF m 204 #[.val (.int p0), .val (.int p1), .val (.int p2), .val (.int p3), .val (.int p4), .val (.int p5), .val (.int kk), .val (.ref a3), .unset, .unset, .val (.int v162), .val (.int v176), .val (.int v190), .unset] [(.int v204)])) t
            refine XS.istore Y5.here hx rfl (hb hby at_204) rfl (l' := #[.val (.int p0), .val (.int p1), .val (.int p2), .val (.int p3), .val (.int p4), .val (.int p5), .val (.int kk), .val (.ref a3), .unset, .unset, .val (.int v162), .val (.int v176), .val (.int v190), .val (.int v204)]) rfl ?_
            show Steps p.tables e below (T4.setTop (mkF m 206 #[.val (.int p0), .val (.int p1), .val (.int p2), .val (.int p3), .val (.int p4), .val (.int p5), .val (.int kk), .val (.ref a3), .unset, .unset, .val (.int v162), .val (.int v176), .val (.int v190), .val (.int v204)] [])) t
            exact k
          refine On.newo Y5 hx hZ hown (w0 hw) (w1 hw) (w2 hw) _ (own_lay_0 hw) (by decide) (g := (mkF m 206 #[.val (.int p0), .val (.int p1), .val (.int p2), .val (.int p3), .val (.int p4), .val (.int p5), .val (.int kk), .val (.ref a3), .unset, .unset, .val (.int v162), .val (.int v176), .val (.int v190), .val (.int v204)] [])) rfl (hb hby at_206) (by decide) (by decide) fun T73 a75 Y74 => ?_
          replace Y74 : On p l e _ s m _ below meth c Z n0 T73 2 8 [ob a3 own_C0 (own_F0 (.int p0) (.int p1) (.int p2) (.int p3)), ob a75 own_C0 (own_F0 (.int (0 : Int32)) (.int (0 : Int32)) (.int (0 : Int32)) (.int (0 : Int32)))] := Y74
          show Rn p e below F T73 (mkF m 209 #[.val (.int p0), .val (.int p1), .val (.int p2), .val (.int p3), .val (.int p4), .val (.int p5), .val (.int kk), .val (.ref a3), .unset, .unset, .val (.int v162), .val (.int v176), .val (.int v190), .val (.int v204)] [(.ref a75)])
          refine Rn.go (T' := T73) (g' := (mkF m 226 #[.val (.int p0), .val (.int p1), .val (.int p2), .val (.int p3), .val (.int p4), .val (.int p5), .val (.int kk), .val (.ref a3), .unset, .unset, .val (.int v162), .val (.int v176), .val (.int v190), .val (.int v204)] [(.int (p3 + v204)), (.int (p2 + v190)), (.int (p1 + v176)), (.int (p0 + v162)), (.ref a75), (.ref a75)])) (fun t k => ?_) ?_
          · show Steps p.tables e below (T73.setTop (mkF m 209 #[.val (.int p0), .val (.int p1), .val (.int p2), .val (.int p3), .val (.int p4), .val (.int p5), .val (.int kk), .val (.ref a3), .unset, .unset, .val (.int v162), .val (.int v176), .val (.int v190), .val (.int v204)] [(.ref a75)])) t
            refine XS.dup Y74.here hx rfl (hb hby at_209) rfl rfl ?_
            show Steps p.tables e below (T73.setTop (mkF m 210 #[.val (.int p0), .val (.int p1), .val (.int p2), .val (.int p3), .val (.int p4), .val (.int p5), .val (.int kk), .val (.ref a3), .unset, .unset, .val (.int v162), .val (.int v176), .val (.int v190), .val (.int v204)] [(.ref a75), (.ref a75)])) t
            refine XS.iloadN Y74.here hx rfl (hb hby at_210) rfl ?_
            show Steps p.tables e below (T73.setTop (mkF m 211 #[.val (.int p0), .val (.int p1), .val (.int p2), .val (.int p3), .val (.int p4), .val (.int p5), .val (.int kk), .val (.ref a3), .unset, .unset, .val (.int v162), .val (.int v176), .val (.int v190), .val (.int v204)] [(.int p0), (.ref a75), (.ref a75)])) t
            refine XS.iload Y74.here hx rfl (hb hby at_211) rfl ?_
            show Steps p.tables e below (T73.setTop (mkF m 213 #[.val (.int p0), .val (.int p1), .val (.int p2), .val (.int p3), .val (.int p4), .val (.int p5), .val (.int kk), .val (.ref a3), .unset, .unset, .val (.int v162), .val (.int v176), .val (.int v190), .val (.int v204)] [(.int v162), (.int p0), (.ref a75), (.ref a75)])) t
            refine XS.iadd Y74.here hx rfl (hb hby at_213) rfl ?_
            show Steps p.tables e below (T73.setTop (mkF m 214 #[.val (.int p0), .val (.int p1), .val (.int p2), .val (.int p3), .val (.int p4), .val (.int p5), .val (.int kk), .val (.ref a3), .unset, .unset, .val (.int v162), .val (.int v176), .val (.int v190), .val (.int v204)] [(.int (p0 + v162)), (.ref a75), (.ref a75)])) t
            refine XS.iloadN Y74.here hx rfl (hb hby at_214) rfl ?_
            show Steps p.tables e below (T73.setTop (mkF m 215 #[.val (.int p0), .val (.int p1), .val (.int p2), .val (.int p3), .val (.int p4), .val (.int p5), .val (.int kk), .val (.ref a3), .unset, .unset, .val (.int v162), .val (.int v176), .val (.int v190), .val (.int v204)] [(.int p1), (.int (p0 + v162)), (.ref a75), (.ref a75)])) t
            refine XS.iload Y74.here hx rfl (hb hby at_215) rfl ?_
            show Steps p.tables e below (T73.setTop (mkF m 217 #[.val (.int p0), .val (.int p1), .val (.int p2), .val (.int p3), .val (.int p4), .val (.int p5), .val (.int kk), .val (.ref a3), .unset, .unset, .val (.int v162), .val (.int v176), .val (.int v190), .val (.int v204)] [(.int v176), (.int p1), (.int (p0 + v162)), (.ref a75), (.ref a75)])) t
            refine XS.iadd Y74.here hx rfl (hb hby at_217) rfl ?_
            show Steps p.tables e below (T73.setTop (mkF m 218 #[.val (.int p0), .val (.int p1), .val (.int p2), .val (.int p3), .val (.int p4), .val (.int p5), .val (.int kk), .val (.ref a3), .unset, .unset, .val (.int v162), .val (.int v176), .val (.int v190), .val (.int v204)] [(.int (p1 + v176)), (.int (p0 + v162)), (.ref a75), (.ref a75)])) t
            refine XS.iloadN Y74.here hx rfl (hb hby at_218) rfl ?_
            show Steps p.tables e below (T73.setTop (mkF m 219 #[.val (.int p0), .val (.int p1), .val (.int p2), .val (.int p3), .val (.int p4), .val (.int p5), .val (.int kk), .val (.ref a3), .unset, .unset, .val (.int v162), .val (.int v176), .val (.int v190), .val (.int v204)] [(.int p2), (.int (p1 + v176)), (.int (p0 + v162)), (.ref a75), (.ref a75)])) t
            refine XS.iload Y74.here hx rfl (hb hby at_219) rfl ?_
            show Steps p.tables e below (T73.setTop (mkF m 221 #[.val (.int p0), .val (.int p1), .val (.int p2), .val (.int p3), .val (.int p4), .val (.int p5), .val (.int kk), .val (.ref a3), .unset, .unset, .val (.int v162), .val (.int v176), .val (.int v190), .val (.int v204)] [(.int v190), (.int p2), (.int (p1 + v176)), (.int (p0 + v162)), (.ref a75), (.ref a75)])) t
            refine XS.iadd Y74.here hx rfl (hb hby at_221) rfl ?_
            show Steps p.tables e below (T73.setTop (mkF m 222 #[.val (.int p0), .val (.int p1), .val (.int p2), .val (.int p3), .val (.int p4), .val (.int p5), .val (.int kk), .val (.ref a3), .unset, .unset, .val (.int v162), .val (.int v176), .val (.int v190), .val (.int v204)] [(.int (p2 + v190)), (.int (p1 + v176)), (.int (p0 + v162)), (.ref a75), (.ref a75)])) t
            refine XS.iloadN Y74.here hx rfl (hb hby at_222) rfl ?_
            show Steps p.tables e below (T73.setTop (mkF m 223 #[.val (.int p0), .val (.int p1), .val (.int p2), .val (.int p3), .val (.int p4), .val (.int p5), .val (.int kk), .val (.ref a3), .unset, .unset, .val (.int v162), .val (.int v176), .val (.int v190), .val (.int v204)] [(.int p3), (.int (p2 + v190)), (.int (p1 + v176)), (.int (p0 + v162)), (.ref a75), (.ref a75)])) t
            refine XS.iload Y74.here hx rfl (hb hby at_223) rfl ?_
            show Steps p.tables e below (T73.setTop (mkF m 225 #[.val (.int p0), .val (.int p1), .val (.int p2), .val (.int p3), .val (.int p4), .val (.int p5), .val (.int kk), .val (.ref a3), .unset, .unset, .val (.int v162), .val (.int v176), .val (.int v190), .val (.int v204)] [(.int v204), (.int p3), (.int (p2 + v190)), (.int (p1 + v176)), (.int (p0 + v162)), (.ref a75), (.ref a75)])) t
            refine XS.iadd Y74.here hx rfl (hb hby at_225) rfl ?_
            show Steps p.tables e below (T73.setTop (mkF m 226 #[.val (.int p0), .val (.int p1), .val (.int p2), .val (.int p3), .val (.int p4), .val (.int p5), .val (.int kk), .val (.ref a3), .unset, .unset, .val (.int v162), .val (.int v176), .val (.int v190), .val (.int v204)] [(.int (p3 + v204)), (.int (p2 + v190)), (.int (p1 + v176)), (.int (p0 + v162)), (.ref a75), (.ref a75)])) t
            exact k
          refine On.special Y74 hx hZ (y := (⟨"com/example/oxalis/oxalis/Rect", "<init>", "(IIII)V"⟩ : MethodName)) rfl hown (w3 hw) (w4 hw) (w5 hw) (w2 hw) (by decide) (a := a75) (argsL := [(.int (p0 + v162)), (.int (p1 + v176)), (.int (p2 + v190)), (.int (p3 + v204))]) (rest := [(.ref a75)]) (rmI1 l Z a0 hw n0 a75 (p0 + v162) (p1 + v176) (p2 + v190) (p3 + v204) (ob a3 own_C0 (own_F0 (.int p0) (.int p1) (.int p2) (.int p3))) []) (W := 1) (by decide) (by decide) (by decide) (by decide) (g := (mkF m 226 #[.val (.int p0), .val (.int p1), .val (.int p2), .val (.int p3), .val (.int p4), .val (.int p5), .val (.int kk), .val (.ref a3), .unset, .unset, .val (.int v162), .val (.int v176), .val (.int v190), .val (.int v204)] [(.int (p3 + v204)), (.int (p2 + v190)), (.int (p1 + v176)), (.int (p0 + v162)), (.ref a75), (.ref a75)])) rfl (by rw [hml]; rfl) (lenOf pd0 rfl) rfl (by show 2 * 0 + _ ≤ _; exact Nat.le_of_eq rfl) (hb hby at_226) ?_
          intro T76 u78 D79 hp80 Y77
          obtain ⟨rfl, rfl⟩ := hp80
          replace Y77 : On p l e _ s m _ below meth c Z n0 T76 2 8 [ob a3 own_C0 (own_F0 (.int p0) (.int p1) (.int p2) (.int p3)), ob a75 own_C0 (own_F0 (.int (p0 + v162)) (.int (p1 + v176)) (.int (p2 + v190)) (.int (p3 + v204)))] := Y77
          show Rn p e below F T76 (mkF m 229 #[.val (.int p0), .val (.int p1), .val (.int p2), .val (.int p3), .val (.int p4), .val (.int p5), .val (.int kk), .val (.ref a3), .unset, .unset, .val (.int v162), .val (.int v176), .val (.int v190), .val (.int v204)] [(.ref a75)])
          refine Rn.go (T' := T76) (g' := (mkF m 233 #[.val (.int p0), .val (.int p1), .val (.int p2), .val (.int p3), .val (.int p4), .val (.int p5), .val (.int kk), .val (.ref a3), .val (.ref a75), .unset, .val (.int v162), .val (.int v176), .val (.int v190), .val (.int v204)] [(.int p4)])) (fun t k => ?_) ?_
          · show Steps p.tables e below (T76.setTop (mkF m 229 #[.val (.int p0), .val (.int p1), .val (.int p2), .val (.int p3), .val (.int p4), .val (.int p5), .val (.int kk), .val (.ref a3), .unset, .unset, .val (.int v162), .val (.int v176), .val (.int v190), .val (.int v204)] [(.ref a75)])) t
            refine XS.astore Y77.here hx rfl (hb hby at_229) rfl rfl (l' := #[.val (.int p0), .val (.int p1), .val (.int p2), .val (.int p3), .val (.int p4), .val (.int p5), .val (.int kk), .val (.ref a3), .val (.ref a75), .unset, .val (.int v162), .val (.int v176), .val (.int v190), .val (.int v204)]) rfl ?_
            show Steps p.tables e below (T76.setTop (mkF m 231 #[.val (.int p0), .val (.int p1), .val (.int p2), .val (.int p3), .val (.int p4), .val (.int p5), .val (.int kk), .val (.ref a3), .val (.ref a75), .unset, .val (.int v162), .val (.int v176), .val (.int v190), .val (.int v204)] [])) t
            refine XS.iload Y77.here hx rfl (hb hby at_231) rfl ?_
            show Steps p.tables e below (T76.setTop (mkF m 233 #[.val (.int p0), .val (.int p1), .val (.int p2), .val (.int p3), .val (.int p4), .val (.int p5), .val (.int kk), .val (.ref a3), .val (.ref a75), .unset, .val (.int v162), .val (.int v176), .val (.int v190), .val (.int v204)] [(.int p4)])) t
            exact k
          obtain ⟨v241, hv241⟩ : ∃ z : Int32, z = (if p4 = (0 : Int32) then (1 : Int32) else (0 : Int32)) := ⟨_, rfl⟩
          refine Rn.go (T' := T76) (g' := (mkF m 241 #[.val (.int p0), .val (.int p1), .val (.int p2), .val (.int p3), .val (.int p4), .val (.int p5), .val (.int kk), .val (.ref a3), .val (.ref a75), .unset, .val (.int v162), .val (.int v176), .val (.int v190), .val (.int v204)] [(.int v241)])) (fun t k => ?_) ?_
          · show Steps p.tables e below (T76.setTop (mkF m 233 #[.val (.int p0), .val (.int p1), .val (.int p2), .val (.int p3), .val (.int p4), .val (.int p5), .val (.int kk), .val (.ref a3), .val (.ref a75), .unset, .val (.int v162), .val (.int v176), .val (.int v190), .val (.int v204)] [(.int p4)])) t
            by_cases hc233 : p4 = (0 : Int32)
            · refine XS.ifNo Y77.here hx rfl (hb hby at_233) rfl ((if0 _ _).trans (teq hc233).2) ?_
              show Steps p.tables e below (T76.setTop (mkF m 236 #[.val (.int p0), .val (.int p1), .val (.int p2), .val (.int p3), .val (.int p4), .val (.int p5), .val (.int kk), .val (.ref a3), .val (.ref a75), .unset, .val (.int v162), .val (.int v176), .val (.int v190), .val (.int v204)] [])) t
              refine XS.iconst Y77.here hx rfl (hb hby at_236) ?_
              show Steps p.tables e below (T76.setTop (mkF m 237 #[.val (.int p0), .val (.int p1), .val (.int p2), .val (.int p3), .val (.int p4), .val (.int p5), .val (.int kk), .val (.ref a3), .val (.ref a75), .unset, .val (.int v162), .val (.int v176), .val (.int v190), .val (.int v204)] [(.int (1 : Int32))])) t
              refine XS.goto Y77.here hx rfl (pc0 := 237) (pc' := 241) rfl (hb hby at_237) (by decide) (by decide) ?_
              show Steps p.tables e below (T76.setTop (mkF m 241 #[.val (.int p0), .val (.int p1), .val (.int p2), .val (.int p3), .val (.int p4), .val (.int p5), .val (.int kk), .val (.ref a3), .val (.ref a75), .unset, .val (.int v162), .val (.int v176), .val (.int v190), .val (.int v204)] [(.int (1 : Int32))])) t
              rw [hv241, if_pos hc233] at k
              exact k
            · refine XS.ifYes Y77.here hx rfl (pc0 := 233) (pc' := 240) rfl (hb hby at_233) rfl ((if0 _ _).trans (feq hc233).2) (by decide) (by decide) ?_
              show Steps p.tables e below (T76.setTop (mkF m 240 #[.val (.int p0), .val (.int p1), .val (.int p2), .val (.int p3), .val (.int p4), .val (.int p5), .val (.int kk), .val (.ref a3), .val (.ref a75), .unset, .val (.int v162), .val (.int v176), .val (.int v190), .val (.int v204)] [])) t
              refine XS.iconst Y77.here hx rfl (hb hby at_240) ?_
              show Steps p.tables e below (T76.setTop (mkF m 241 #[.val (.int p0), .val (.int p1), .val (.int p2), .val (.int p3), .val (.int p4), .val (.int p5), .val (.int kk), .val (.ref a3), .val (.ref a75), .unset, .val (.int v162), .val (.int v176), .val (.int v190), .val (.int v204)] [(.int (0 : Int32))])) t
              rw [hv241, if_neg hc233] at k
              exact k
          refine Rn.go (T' := T76) (g' := (mkF m 247 #[.val (.int p0), .val (.int p1), .val (.int p2), .val (.int p3), .val (.int p4), .val (.int p5), .val (.int kk), .val (.ref a3), .val (.ref a75), .val (.int v241), .val (.int v162), .val (.int v176), .val (.int v190), .val (.int v204)] [(.ref a75), (.ref a3)])) (fun t k => ?_) ?_
          · show Steps p.tables e below (T76.setTop (mkF m 241 #[.val (.int p0), .val (.int p1), .val (.int p2), .val (.int p3), .val (.int p4), .val (.int p5), .val (.int kk), .val (.ref a3), .val (.ref a75), .unset, .val (.int v162), .val (.int v176), .val (.int v190), .val (.int v204)] [(.int v241)])) t
            refine XS.istore Y77.here hx rfl (hb hby at_241) rfl (l' := #[.val (.int p0), .val (.int p1), .val (.int p2), .val (.int p3), .val (.int p4), .val (.int p5), .val (.int kk), .val (.ref a3), .val (.ref a75), .val (.int v241), .val (.int v162), .val (.int v176), .val (.int v190), .val (.int v204)]) rfl ?_
            show Steps p.tables e below (T76.setTop (mkF m 243 #[.val (.int p0), .val (.int p1), .val (.int p2), .val (.int p3), .val (.int p4), .val (.int p5), .val (.int kk), .val (.ref a3), .val (.ref a75), .val (.int v241), .val (.int v162), .val (.int v176), .val (.int v190), .val (.int v204)] [])) t
            refine XS.aload Y77.here hx rfl (hb hby at_243) rfl rfl ?_
            show Steps p.tables e below (T76.setTop (mkF m 245 #[.val (.int p0), .val (.int p1), .val (.int p2), .val (.int p3), .val (.int p4), .val (.int p5), .val (.int kk), .val (.ref a3), .val (.ref a75), .val (.int v241), .val (.int v162), .val (.int v176), .val (.int v190), .val (.int v204)] [(.ref a3)])) t
            refine XS.aload Y77.here hx rfl (hb hby at_245) rfl rfl ?_
            show Steps p.tables e below (T76.setTop (mkF m 247 #[.val (.int p0), .val (.int p1), .val (.int p2), .val (.int p3), .val (.int p4), .val (.int p5), .val (.int kk), .val (.ref a3), .val (.ref a75), .val (.int v241), .val (.int v162), .val (.int v176), .val (.int v190), .val (.int v204)] [(.ref a75), (.ref a3)])) t
            exact k
          refine On.virtual Y77 hx hZ (y := (⟨"com/example/oxalis/oxalis/Rect", "equals", "(Ljava/lang/Object;)Z"⟩ : MethodName)) (C := "com/example/oxalis/oxalis/Rect") hown (w17 hw) (w18 hw) (w19 hw) (w20 hw) (w21 hw) (w2 hw) (by decide) (a := a3) (argsL := [(.ref a75)]) (rest := []) (i := 0) rfl (rmE01 l Z a0 hw n0 a3 a75 p0 p1 p2 p3 (p0 + v162) (p1 + v176) (p2 + v190) (p3 + v204) []) (W := 0) (by decide) (by decide) (by decide) (by decide) (g := (mkF m 247 #[.val (.int p0), .val (.int p1), .val (.int p2), .val (.int p3), .val (.int p4), .val (.int p5), .val (.int kk), .val (.ref a3), .val (.ref a75), .val (.int v241), .val (.int v162), .val (.int v176), .val (.int v190), .val (.int v204)] [(.ref a75), (.ref a3)])) rfl (by rw [hml]; rfl) (lenOf pd1 rfl) rfl (by show 2 * 0 + _ ≤ _; exact Nat.le_of_eq rfl) (hb hby at_247) ?_
          intro T81 u83 D84 hp85 Y82
          obtain ⟨r247, hr247, rfl, rfl⟩ : ∃ z : Int32, z = (own_eq4 p0 p1 p2 p3 (p0 + v162) (p1 + v176) (p2 + v190) (p3 + v204)) ∧ u83 = some (.int z) ∧ D84 = _ := ⟨_, rfl, hp85.1, hp85.2⟩
          replace Y82 : On p l e _ s m _ below meth c Z n0 T81 2 8 [ob a3 own_C0 (own_F0 (.int p0) (.int p1) (.int p2) (.int p3)), ob a75 own_C0 (own_F0 (.int (p0 + v162)) (.int (p1 + v176)) (.int (p2 + v190)) (.int (p3 + v204)))] := Y82
          show Rn p e below F T81 (mkF m 250 #[.val (.int p0), .val (.int p1), .val (.int p2), .val (.int p3), .val (.int p4), .val (.int p5), .val (.int kk), .val (.ref a3), .val (.ref a75), .val (.int v241), .val (.int v162), .val (.int v176), .val (.int v190), .val (.int v204)] [(.int r247)])
          refine Rn.go (T' := T81) (g' := (mkF m 252 #[.val (.int p0), .val (.int p1), .val (.int p2), .val (.int p3), .val (.int p4), .val (.int p5), .val (.int kk), .val (.ref a3), .val (.ref a75), .val (.int v241), .val (.int v162), .val (.int v176), .val (.int v190), .val (.int v204)] [(.int v241), (.int r247)])) (fun t k => ?_) ?_
          · show Steps p.tables e below (T81.setTop (mkF m 250 #[.val (.int p0), .val (.int p1), .val (.int p2), .val (.int p3), .val (.int p4), .val (.int p5), .val (.int kk), .val (.ref a3), .val (.ref a75), .val (.int v241), .val (.int v162), .val (.int v176), .val (.int v190), .val (.int v204)] [(.int r247)])) t
            refine XS.iload Y82.here hx rfl (hb hby at_250) rfl ?_
            show Steps p.tables e below (T81.setTop (mkF m 252 #[.val (.int p0), .val (.int p1), .val (.int p2), .val (.int p3), .val (.int p4), .val (.int p5), .val (.int kk), .val (.ref a3), .val (.ref a75), .val (.int v241), .val (.int v162), .val (.int v176), .val (.int v190), .val (.int v204)] [(.int v241), (.int r247)])) t
            exact k
          refine Rn.go (T' := T81) (g' := (mkF m 255 #[.val (.int p0), .val (.int p1), .val (.int p2), .val (.int p3), .val (.int p4), .val (.int p5), .val (.int kk), .val (.ref a3), .val (.ref a75), .val (.int v241), .val (.int v162), .val (.int v176), .val (.int v190), .val (.int v204)] [])) (fun t k => XS.icmpNo Y82.here hx rfl (hb hby at_252) rfl (teq (by rw [hr247]; exact own_0a _ _ _ _ _ _ _ _ _ _ _ (own_k _ _ hkk hc23 hc59 hc84 hc110) hv162 hv176 hv190 hv204 hv241)).2 k) ?_
          refine Rn.go (T' := T81) (g' := (mkF m 259 #[.val (.int p0), .val (.int p1), .val (.int p2), .val (.int p3), .val (.int p4), .val (.int p5), .val (.int kk), .val (.ref a3), .val (.ref a75), .val (.int v241), .val (.int v162), .val (.int v176), .val (.int v190), .val (.int v204)] [(.ref a3), (.ref a75)])) (fun t k => ?_) ?_
          · show Steps p.tables e below (T81.setTop (mkF m 255 #[.val (.int p0), .val (.int p1), .val (.int p2), .val (.int p3), .val (.int p4), .val (.int p5), .val (.int kk), .val (.ref a3), .val (.ref a75), .val (.int v241), .val (.int v162), .val (.int v176), .val (.int v190), .val (.int v204)] [])) t
            refine XS.aload Y82.here hx rfl (hb hby at_255) rfl rfl ?_
            show Steps p.tables e below (T81.setTop (mkF m 257 #[.val (.int p0), .val (.int p1), .val (.int p2), .val (.int p3), .val (.int p4), .val (.int p5), .val (.int kk), .val (.ref a3), .val (.ref a75), .val (.int v241), .val (.int v162), .val (.int v176), .val (.int v190), .val (.int v204)] [(.ref a75)])) t
            refine XS.aload Y82.here hx rfl (hb hby at_257) rfl rfl ?_
            show Steps p.tables e below (T81.setTop (mkF m 259 #[.val (.int p0), .val (.int p1), .val (.int p2), .val (.int p3), .val (.int p4), .val (.int p5), .val (.int kk), .val (.ref a3), .val (.ref a75), .val (.int v241), .val (.int v162), .val (.int v176), .val (.int v190), .val (.int v204)] [(.ref a3), (.ref a75)])) t
            exact k
          refine On.virtual Y82 hx hZ (y := (⟨"com/example/oxalis/oxalis/Rect", "equals", "(Ljava/lang/Object;)Z"⟩ : MethodName)) (C := "com/example/oxalis/oxalis/Rect") hown (w17 hw) (w18 hw) (w19 hw) (w20 hw) (w21 hw) (w2 hw) (by decide) (a := a75) (argsL := [(.ref a3)]) (rest := []) (i := 1) rfl (rmE10 l Z a0 hw n0 a75 a3 p0 p1 p2 p3 (p0 + v162) (p1 + v176) (p2 + v190) (p3 + v204) []) (W := 0) (by decide) (by decide) (by decide) (by decide) (g := (mkF m 259 #[.val (.int p0), .val (.int p1), .val (.int p2), .val (.int p3), .val (.int p4), .val (.int p5), .val (.int kk), .val (.ref a3), .val (.ref a75), .val (.int v241), .val (.int v162), .val (.int v176), .val (.int v190), .val (.int v204)] [(.ref a3), (.ref a75)])) rfl (by rw [hml]; rfl) (lenOf pd1 rfl) rfl (by show 2 * 0 + _ ≤ _; exact Nat.le_of_eq rfl) (hb hby at_259) ?_
          intro T86 u88 D89 hp90 Y87
          obtain ⟨r259, hr259, rfl, rfl⟩ : ∃ z : Int32, z = (own_eq4 (p0 + v162) (p1 + v176) (p2 + v190) (p3 + v204) p0 p1 p2 p3) ∧ u88 = some (.int z) ∧ D89 = _ := ⟨_, rfl, hp90.1, hp90.2⟩
          replace Y87 : On p l e _ s m _ below meth c Z n0 T86 2 8 [ob a3 own_C0 (own_F0 (.int p0) (.int p1) (.int p2) (.int p3)), ob a75 own_C0 (own_F0 (.int (p0 + v162)) (.int (p1 + v176)) (.int (p2 + v190)) (.int (p3 + v204)))] := Y87
          show Rn p e below F T86 (mkF m 262 #[.val (.int p0), .val (.int p1), .val (.int p2), .val (.int p3), .val (.int p4), .val (.int p5), .val (.int kk), .val (.ref a3), .val (.ref a75), .val (.int v241), .val (.int v162), .val (.int v176), .val (.int v190), .val (.int v204)] [(.int r259)])
          refine Rn.go (T' := T86) (g' := (mkF m 264 #[.val (.int p0), .val (.int p1), .val (.int p2), .val (.int p3), .val (.int p4), .val (.int p5), .val (.int kk), .val (.ref a3), .val (.ref a75), .val (.int v241), .val (.int v162), .val (.int v176), .val (.int v190), .val (.int v204)] [(.int v241), (.int r259)])) (fun t k => ?_) ?_
          · show Steps p.tables e below (T86.setTop (mkF m 262 #[.val (.int p0), .val (.int p1), .val (.int p2), .val (.int p3), .val (.int p4), .val (.int p5), .val (.int kk), .val (.ref a3), .val (.ref a75), .val (.int v241), .val (.int v162), .val (.int v176), .val (.int v190), .val (.int v204)] [(.int r259)])) t
            refine XS.iload Y87.here hx rfl (hb hby at_262) rfl ?_
            show Steps p.tables e below (T86.setTop (mkF m 264 #[.val (.int p0), .val (.int p1), .val (.int p2), .val (.int p3), .val (.int p4), .val (.int p5), .val (.int kk), .val (.ref a3), .val (.ref a75), .val (.int v241), .val (.int v162), .val (.int v176), .val (.int v190), .val (.int v204)] [(.int v241), (.int r259)])) t
            exact k
          refine Rn.go (T' := T86) (g' := (mkF m 267 #[.val (.int p0), .val (.int p1), .val (.int p2), .val (.int p3), .val (.int p4), .val (.int p5), .val (.int kk), .val (.ref a3), .val (.ref a75), .val (.int v241), .val (.int v162), .val (.int v176), .val (.int v190), .val (.int v204)] [])) (fun t k => XS.icmpNo Y87.here hx rfl (hb hby at_264) rfl (teq (by rw [hr259, own_sym]; exact own_0a _ _ _ _ _ _ _ _ _ _ _ (own_k _ _ hkk hc23 hc59 hc84 hc110) hv162 hv176 hv190 hv204 hv241)).2 k) ?_
          refine Rn.go (T' := T86) (g' := (mkF m 271 #[.val (.int p0), .val (.int p1), .val (.int p2), .val (.int p3), .val (.int p4), .val (.int p5), .val (.int kk), .val (.ref a3), .val (.ref a75), .val (.int v241), .val (.int v162), .val (.int v176), .val (.int v190), .val (.int v204)] [(.ref a3), (.ref a3)])) (fun t k => ?_) ?_
          · show Steps p.tables e below (T86.setTop (mkF m 267 #[.val (.int p0), .val (.int p1), .val (.int p2), .val (.int p3), .val (.int p4), .val (.int p5), .val (.int kk), .val (.ref a3), .val (.ref a75), .val (.int v241), .val (.int v162), .val (.int v176), .val (.int v190), .val (.int v204)] [])) t
            refine XS.aload Y87.here hx rfl (hb hby at_267) rfl rfl ?_
            show Steps p.tables e below (T86.setTop (mkF m 269 #[.val (.int p0), .val (.int p1), .val (.int p2), .val (.int p3), .val (.int p4), .val (.int p5), .val (.int kk), .val (.ref a3), .val (.ref a75), .val (.int v241), .val (.int v162), .val (.int v176), .val (.int v190), .val (.int v204)] [(.ref a3)])) t
            refine XS.aload Y87.here hx rfl (hb hby at_269) rfl rfl ?_
            show Steps p.tables e below (T86.setTop (mkF m 271 #[.val (.int p0), .val (.int p1), .val (.int p2), .val (.int p3), .val (.int p4), .val (.int p5), .val (.int kk), .val (.ref a3), .val (.ref a75), .val (.int v241), .val (.int v162), .val (.int v176), .val (.int v190), .val (.int v204)] [(.ref a3), (.ref a3)])) t
            exact k
          refine On.virtual Y87 hx hZ (y := (⟨"com/example/oxalis/oxalis/Rect", "equals", "(Ljava/lang/Object;)Z"⟩ : MethodName)) (C := "com/example/oxalis/oxalis/Rect") hown (w17 hw) (w18 hw) (w19 hw) (w20 hw) (w21 hw) (w2 hw) (by decide) (a := a3) (argsL := [(.ref a3)]) (rest := []) (i := 0) rfl (rmE00 l Z a0 hw n0 a3 p0 p1 p2 p3 [ob a75 own_C0 (own_F0 (.int (p0 + v162)) (.int (p1 + v176)) (.int (p2 + v190)) (.int (p3 + v204)))]) (W := 0) (by decide) (by decide) (by decide) (by decide) (g := (mkF m 271 #[.val (.int p0), .val (.int p1), .val (.int p2), .val (.int p3), .val (.int p4), .val (.int p5), .val (.int kk), .val (.ref a3), .val (.ref a75), .val (.int v241), .val (.int v162), .val (.int v176), .val (.int v190), .val (.int v204)] [(.ref a3), (.ref a3)])) rfl (by rw [hml]; rfl) (lenOf pd1 rfl) rfl (by show 2 * 0 + _ ≤ _; exact Nat.le_of_eq rfl) (hb hby at_271) ?_
          intro T91 u93 D94 hp95 Y92
          obtain ⟨rfl, rfl⟩ := hp95
          replace Y92 : On p l e _ s m _ below meth c Z n0 T91 2 8 [ob a3 own_C0 (own_F0 (.int p0) (.int p1) (.int p2) (.int p3)), ob a75 own_C0 (own_F0 (.int (p0 + v162)) (.int (p1 + v176)) (.int (p2 + v190)) (.int (p3 + v204)))] := Y92
          show Rn p e below F T91 (mkF m 274 #[.val (.int p0), .val (.int p1), .val (.int p2), .val (.int p3), .val (.int p4), .val (.int p5), .val (.int kk), .val (.ref a3), .val (.ref a75), .val (.int v241), .val (.int v162), .val (.int v176), .val (.int v190), .val (.int v204)] [(.int (1 : Int32))])
          refine Rn.go (T' := T91) (g' := (mkF m 277 #[.val (.int p0), .val (.int p1), .val (.int p2), .val (.int p3), .val (.int p4), .val (.int p5), .val (.int kk), .val (.ref a3), .val (.ref a75), .val (.int v241), .val (.int v162), .val (.int v176), .val (.int v190), .val (.int v204)] [])) (fun t k => XS.ifNo Y92.here hx rfl (hb hby at_274) rfl ((if0 _ _).trans (feq (by decide)).1) k) ?_
          refine Rn.go (T' := T91) (g' := (mkF m 282 #[.val (.int p0), .val (.int p1), .val (.int p2), .val (.int p3), .val (.int p4), .val (.int p5), .val (.int kk), .val (.ref a3), .val (.ref a75), .val (.int v241), .val (.int v162), .val (.int v176), .val (.int v190), .val (.int v204)] [(.int (1 : Int32))])) (fun t k => ?_) ?_
          · show Steps p.tables e below (T91.setTop (mkF m 277 #[.val (.int p0), .val (.int p1), .val (.int p2), .val (.int p3), .val (.int p4), .val (.int p5), .val (.int kk), .val (.ref a3), .val (.ref a75), .val (.int v241), .val (.int v162), .val (.int v176), .val (.int v190), .val (.int v204)] [])) t
            refine XS.iconst Y92.here hx rfl (hb hby at_277) ?_
            show Steps p.tables e below (T91.setTop (mkF m 278 #[.val (.int p0), .val (.int p1), .val (.int p2), .val (.int p3), .val (.int p4), .val (.int p5), .val (.int kk), .val (.ref a3), .val (.ref a75), .val (.int v241), .val (.int v162), .val (.int v176), .val (.int v190), .val (.int v204)] [(.int (1 : Int32))])) t
            refine XS.goto Y92.here hx rfl (pc0 := 278) (pc' := 282) rfl (hb hby at_278) (by decide) (by decide) ?_
            show Steps p.tables e below (T91.setTop (mkF m 282 #[.val (.int p0), .val (.int p1), .val (.int p2), .val (.int p3), .val (.int p4), .val (.int p5), .val (.int kk), .val (.ref a3), .val (.ref a75), .val (.int v241), .val (.int v162), .val (.int v176), .val (.int v190), .val (.int v204)] [(.int (1 : Int32))])) t
            exact k
          rw [← hF]; exact On.retn Y92 hx hret (by simp) hlk (z' := (1 : Int32)) (by decide) (hb hby at_282) (by decide) (by decide) rfl
set_option maxRecDepth 65536 in
set_option maxHeartbeats 40000000 in
theorem comes_1 {Post : Tables → Env → Array Value → State → Outcome → State → Prop} (hpost : ∀ tb e args s v u, (limb_1_1.after args s (.returned v) u = true ∧ limb_1_2.after args s (.returned v) u = true ∧ True) → FrameEnd s (.returned v) u (Jvm.fieldLocs frame_1_writes args s ++ Jvm.arrayLocs frame_1_arrays args s ++ Jvm.staticLocs frame_1_statics s) 16 128 → Post tb e args s (.returned v) u) :
    ArmFor flags0 classFile x code maxLocals ret World_1 tables_1 room_1 Calls_1 rest_1 Pre_1 Post := by
  intro l hfl _ _ p e ha hc hk s m args below hf hA hF happ hP
  obtain ⟨hcalls, hrest, hpre⟩ := hP
  obtain ⟨-, -, -, hnamed, -, -, -, hat⟩ := (Spec.applies_iff hf).mp happ
  obtain ⟨hg, hn⟩ := and_e (Cond.before_iff.mp (show (Jvm.Cond.and given_1 narrow_1).before args s = true from hpre))
  obtain ⟨g1, g2⟩ := and_e hg
  obtain ⟨g3, g4⟩ := and_e g2
  obtain ⟨g5, g6⟩ := and_e g4
  obtain ⟨g7, g8⟩ := and_e g6
  obtain ⟨g9, g10⟩ := and_e g8
  obtain ⟨g11, g12⟩ := and_e g10
  obtain ⟨w0, w1, w2, w3, w4, w5, rfl⟩ : ∃ w0 w1 w2 w3 w4 w5 : Value, args = #[w0, w1, w2, w3, w4, w5] := by
    have hs : args.size = 6 := by simpa [Cond.value, given_1] using g1
    obtain ⟨L⟩ := args
    match L, hs with
    | [w0, w1, w2, w3, w4, w5], _ => exact ⟨w0, w1, w2, w3, w4, w5, rfl⟩
  have hw := fun d (hd : d ∈ tables_1) => atoms_spec (ws := Jvm.Cond.code x code maxLocals ret :: tables_1) hat d (List.mem_cons_of_mem _ hd)
  obtain ⟨i0, ei0⟩ := is_v g3
  obtain rfl : w0 = (.int i0) := Option.some.inj ei0
  obtain ⟨i1, ei1⟩ := is_v g5
  obtain rfl : w1 = (.int i1) := Option.some.inj ei1
  obtain ⟨i2, ei2⟩ := is_v g7
  obtain rfl : w2 = (.int i2) := Option.some.inj ei2
  obtain ⟨i3, ei3⟩ := is_v g9
  obtain rfl : w3 = (.int i3) := Option.some.inj ei3
  obtain ⟨i4, ei4⟩ := is_v g11
  obtain rfl : w4 = (.int i4) := Option.some.inj ei4
  obtain ⟨i5, ei5⟩ := is_v g12
  obtain rfl : w5 = (.int i5) := Option.some.inj ei5
  obtain ⟨n, o, h1, h2, h3, _, L, rfl, ⟨D', rfl, N, -⟩, hq⟩ := rm0 l s _ hw s.heap.size i0 i1 i2 i3 i4 i5 tables_1 s.heap (Hp.nil s) p e ha hc hk s m _ below hf ((Spec.applies_iff_loose hf).mp happ).1 ⟨rfl, State.Warmed39.refl s, rfl⟩ trivial
  refine ⟨n, _, h1, h2, h3, hpost _ _ _ _ _ _ ⟨Cond.after_iff.mpr rfl, Cond.after_iff.mpr (eq_i res_at (Term.int_eval (1)) rfl), trivial⟩ ⟨hq.1, hq.2.1, (hq.2.2.sift fun y hy => Or.inr (N y hy)).mono (by decide) (by decide)⟩⟩
theorem main_1_1 : Claimed_1_1 := comes_1 fun _ _ _ _ _ _ h hF => ⟨h.1, hF⟩
theorem main_1_2 : Claimed_1_2 := comes_1 fun _ _ _ _ _ _ h hF => ⟨h.2.1, hF⟩
end Jvm.Pilot.@@N@@
namespace Jvm.Pilot.@@N@@
open Jvm Jvm.ClassFile Sem Op Lib Jvm.Free Jvm.Stand Jvm.Pilot.@@N@@.Jvm.D
/-! MADE BY PROGRAM (witnessworld.py) out of the Statement's table words and the real class files: 10 classes; the members and pool entries that the words name. The judged class is class 1, her method 1. -/
namespace start1
open Jvm.ClassFile
def u (s : String) : CpInfo := .utf8 (stringToUtf16 s)
/-- a pool by its gaps: so many unusable entries, then the entry; so many at the end -/
def gap : Nat → List CpInfo → List CpInfo
  | 0, r => r
  | n + 1, r => .unusable :: gap n r
def poolList (es : List (Nat × CpInfo)) (last : Nat) : List CpInfo := es.foldr (fun e r => gap e.1 (e.2 :: r)) (gap last [])
def pool (es : List (Nat × CpInfo)) (last : Nat) : Array CpInfo := ⟨poolList es last⟩
def fileOf (pool : Array CpInfo) (this : Nat) (attrs : Array Attribute := #[]) (ms : Array MethodInfo := #[]) (fl : Nat := 33) (sup : Nat := 0) (ifs : Array Nat := #[]) (fds : Array FieldInfo := #[]) : ClassFile where
  minorVersion := 0
  majorVersion := 65
  constantPool := pool
  accessFlags := fl
  thisClass := this
  superClass := sup
  interfaces := ifs
  fields := fds
  methods := ms
  attributes := attrs
def plain (name : String) (sup : Option ClassId) : Class where
  name := name
  kind := .ordinary
  loader := none
  accessFlags := 33
  super := sup
  interfaces := #[]
  cf := none
  fields := #[]
  methods := #[]
  instanceTypes := #[]
  staticTypes := #[]
  resolved := #[]
  callSites := []
  init := .initialized
  statics := none
  mirror := none

def pool0 : Array CpInfo := pool [(5, u "<init>"), (0, u "()V"), (1, .class_ 10), (1, u "java/lang/Object")] 113

def k0c0 : Code := { maxStack := 0, maxLocals := 1, code := object_method_1_code, exceptionTable := #[], attributes := #[] }
def k0m0 : Method := { name := "<init>", desc := "()V", sig := { parameters := [], returnType := none }, accessFlags := 1, code := some k0c0 }
/-- java/lang/Object -/
def k0 : Class := { plain "java/lang/Object" none with
  accessFlags := 33
  interfaces := #[]
  cf := some (fileOf pool0 8 #[] #[{ accessFlags := 1, nameIndex := 5, descriptorIndex := 6, attributes := #[] }] 33 0 #[] #[])
  fields := #[]
  methods := #[k0m0]
  instanceTypes := #[]
  staticTypes := #[]
  resolved := Array.replicate 124 none
  statics := none }

def pool1 : Array CpInfo := pool [(2, .class_ 4), (1, u "java/lang/Object"), (0, u "<init>"), (0, u "()V"), (0, .class_ 8), (0, u "com/example/oxalis/oxalis/Rect"), (0, .methodref 7 10), (0, .nameAndType 5 11), (0, u "(IIII)V"), (0, .class_ 13), (0, u "com/example/oxalis/oxalis/Insets"), (0, .methodref 12 10), (0, .methodref 7 16), (0, .nameAndType 17 18), (0, u "equals"), (0, u "(Ljava/lang/Object;)Z"), (0, .class_ 20), (0, u "com/example/oxalis/oxalis/RectEqualsPinLaw"), (2, u "law"), (0, u "(IIIIII)Z")] 3

def k1m0 : Method := { name := "<init>", desc := "()V", sig := { parameters := [], returnType := none }, accessFlags := 1, code := none }
def k1c1 : Code := { maxStack := 7, maxLocals := 14, code := code, exceptionTable := #[], attributes := #[] }
def k1m1 : Method := { name := "law", desc := "(IIIIII)Z", sig := { parameters := [.int, .int, .int, .int, .int, .int], returnType := some .boolean }, accessFlags := 9, code := some k1c1 }
/-- com/example/oxalis/oxalis/RectEqualsPinLaw -/
def k1 : Class := { plain "com/example/oxalis/oxalis/RectEqualsPinLaw" (some 0) with
  accessFlags := 49
  interfaces := #[]
  cf := some (fileOf pool1 19 #[] #[{ accessFlags := 1, nameIndex := 5, descriptorIndex := 6, attributes := #[] }, { accessFlags := 9, nameIndex := 23, descriptorIndex := 24, attributes := #[] }] 49 2 #[] #[])
  fields := #[]
  methods := #[k1m0, k1m1]
  instanceTypes := #[]
  staticTypes := #[]
  resolved := Array.replicate 28 none
  statics := none }

def pool2 : Array CpInfo := pool [(1, .methodref 2 3), (0, .class_ 4), (0, .nameAndType 5 6), (0, u "java/lang/Object"), (0, u "<init>"), (0, u "()V"), (0, .fieldref 8 9), (0, .class_ 10), (0, .nameAndType 11 12), (0, u "com/example/oxalis/oxalis/Rect"), (0, u "left"), (0, u "I"), (0, .fieldref 8 14), (0, .nameAndType 15 12), (0, u "top"), (0, .fieldref 8 17), (0, .nameAndType 18 12), (0, u "right"), (0, .fieldref 8 20), (0, .nameAndType 21 12), (0, u "bottom"), (11, u "(IIII)V"), (12, .class_ 48), (1, u "com/example/oxalis/oxalis/Rect$1"), (46, u "equals"), (0, u "(Ljava/lang/Object;)Z")] 21

def k2c0 : Code := { maxStack := 2, maxLocals := 5, code := prog_48_method_1_code, exceptionTable := #[], attributes := #[] }
def k2m0 : Method := { name := "<init>", desc := "(IIII)V", sig := { parameters := [.int, .int, .int, .int], returnType := none }, accessFlags := 1, code := some k2c0 }
def k2c1 : Code := { maxStack := 2, maxLocals := 3, code := prog_48_method_12_code, exceptionTable := #[], attributes := #[] }
def k2m1 : Method := { name := "equals", desc := "(Ljava/lang/Object;)Z", sig := { parameters := [(.object "java/lang/Object")], returnType := some .boolean }, accessFlags := 1, code := some k2c1 }
/-- com/example/oxalis/oxalis/Rect -/
def k2 : Class := { plain "com/example/oxalis/oxalis/Rect" (some 0) with
  accessFlags := 33
  interfaces := #[]
  cf := some (fileOf pool2 8 #[.nestMembers #[46]] #[{ accessFlags := 1, nameIndex := 5, descriptorIndex := 33, attributes := #[] }, { accessFlags := 1, nameIndex := 95, descriptorIndex := 96, attributes := #[] }] 33 2 #[] #[{ accessFlags := 18, nameIndex := 11, descriptorIndex := 12, attributes := #[] }, { accessFlags := 18, nameIndex := 15, descriptorIndex := 12, attributes := #[] }, { accessFlags := 18, nameIndex := 18, descriptorIndex := 12, attributes := #[] }, { accessFlags := 18, nameIndex := 21, descriptorIndex := 12, attributes := #[] }])
  fields := #[{ name := "left", type := .int, accessFlags := 18, slot := 0, constantValue := 0 }, { name := "top", type := .int, accessFlags := 18, slot := 1, constantValue := 0 }, { name := "right", type := .int, accessFlags := 18, slot := 2, constantValue := 0 }, { name := "bottom", type := .int, accessFlags := 18, slot := 3, constantValue := 0 }]
  methods := #[k2m0, k2m1]
  instanceTypes := #[.int, .int, .int, .int]
  staticTypes := #[]
  resolved := Array.replicate 118 none
  statics := none }

def pool3 : Array CpInfo := pool [(1, .methodref 2 3), (0, .class_ 4), (0, .nameAndType 5 6), (0, u "java/lang/Object"), (0, u "<init>"), (0, u "()V"), (0, .fieldref 8 9), (0, .class_ 10), (0, .nameAndType 11 12), (0, u "com/example/oxalis/oxalis/Insets"), (0, u "left"), (0, u "I"), (0, .fieldref 8 14), (0, .nameAndType 15 12), (0, u "top"), (0, .fieldref 8 17), (0, .nameAndType 18 12), (0, u "right"), (0, .fieldref 8 20), (0, .nameAndType 21 12), (0, u "bottom"), (1, .class_ 25), (1, u "com/example/oxalis/oxalis/Insets$1"), (15, u "(IIII)V"), (18, u "NONE"), (0, u "Lcom/example/oxalis/oxalis/Insets;")] 31

def k3c0 : Code := { maxStack := 2, maxLocals := 5, code := prog_26_method_1_code, exceptionTable := #[], attributes := #[] }
def k3m0 : Method := { name := "<init>", desc := "(IIII)V", sig := { parameters := [.int, .int, .int, .int], returnType := none }, accessFlags := 1, code := some k3c0 }
/-- com/example/oxalis/oxalis/Insets -/
def k3 : Class := { plain "com/example/oxalis/oxalis/Insets" (some 0) with
  accessFlags := 33
  interfaces := #[]
  cf := some (fileOf pool3 8 #[.nestMembers #[23]] #[{ accessFlags := 1, nameIndex := 5, descriptorIndex := 41, attributes := #[] }] 33 2 #[] #[{ accessFlags := 25, nameIndex := 60, descriptorIndex := 61, attributes := #[] }, { accessFlags := 18, nameIndex := 11, descriptorIndex := 12, attributes := #[] }, { accessFlags := 18, nameIndex := 15, descriptorIndex := 12, attributes := #[] }, { accessFlags := 18, nameIndex := 18, descriptorIndex := 12, attributes := #[] }, { accessFlags := 18, nameIndex := 21, descriptorIndex := 12, attributes := #[] }])
  fields := #[{ name := "NONE", type := (.object "com/example/oxalis/oxalis/Insets"), accessFlags := 25, slot := 0, constantValue := 0 }, { name := "left", type := .int, accessFlags := 18, slot := 0, constantValue := 0 }, { name := "top", type := .int, accessFlags := 18, slot := 1, constantValue := 0 }, { name := "right", type := .int, accessFlags := 18, slot := 2, constantValue := 0 }, { name := "bottom", type := .int, accessFlags := 18, slot := 3, constantValue := 0 }]
  methods := #[k3m0]
  instanceTypes := #[.int, .int, .int, .int]
  staticTypes := #[(.object "com/example/oxalis/oxalis/Insets")]
  resolved := Array.replicate 93 none
  statics := none }

def pool4 : Array CpInfo := pool [(1, u "java/lang/Cloneable"), (0, .class_ 1), (0, u "java/lang/Object"), (0, .class_ 3)] 3

/-- java/lang/Cloneable -/
def k4 : Class := { plain "java/lang/Cloneable" (some 0) with
  accessFlags := 1537
  interfaces := #[]
  cf := some (fileOf pool4 2 #[] #[] 1537 4 #[] #[])
  fields := #[]
  methods := #[]
  instanceTypes := #[]
  staticTypes := #[]
  resolved := Array.replicate 8 none
  statics := none }

def pool5 : Array CpInfo := pool [(1, u "java/io/Serializable"), (0, .class_ 1), (0, u "java/lang/Object"), (0, .class_ 3)] 3

/-- java/io/Serializable -/
def k5 : Class := { plain "java/io/Serializable" (some 0) with
  accessFlags := 1537
  interfaces := #[]
  cf := some (fileOf pool5 2 #[] #[] 1537 4 #[] #[])
  fields := #[]
  methods := #[]
  instanceTypes := #[]
  staticTypes := #[]
  resolved := Array.replicate 8 none
  statics := none }

/-- the primitive byte -/
def k6 : Class := { plain "byte" none with kind := .primitive 'B', accessFlags := 0x411 }
/-- [B -/
def k7 : Class := { plain "[B" (some 0) with kind := .array 6 .byte, interfaces := #[4, 5], accessFlags := 1041 }

/-- the primitive int -/
def k8 : Class := { plain "int" none with kind := .primitive 'I', accessFlags := 0x411 }
/-- [I -/
def k9 : Class := { plain "[I" (some 0) with kind := .array 8 .int, interfaces := #[4, 5], accessFlags := 1041 }

def heap : Heap := #[]
def classes : Array Class := #[k0, k1, k2, k3, k4, k5, k6, k7, k8, k9]
def interned : List (Array UInt16 × Addr) := []
def slotsUsed : Nat := 0
def theMethod : MethodId := ⟨1, 1⟩
def args0 : Array Value := #[.int 1, .int 2, .int 5, .int 7, .int 3, .int 0]
def aboutOver (below : List Frame) : State where
  vm := { classes := classes, interned := interned.toArray }
  heap := heap
  slotsUsed := slotsUsed
  threads := #[{ frames := .invoking theMethod args0 :: below }]
def below0 : List Frame := [.native { method := ⟨0, 0⟩, args := #[] }]
def about1 : State := aboutOver below0
def p0 : Program := .bare "" "" ""
def e0 : Env := launch0.env 0 0 0
theorem w_frames : about1.frames = Frame.invoking theMethod args0 :: below0 := rfl
set_option maxRecDepth 65536 in
theorem w_args : argsFit about1.vm theMethod args0 = true := by decide +kernel
set_option maxRecDepth 65536 in
theorem w_heap : heapFits about1 = true := by decide +kernel
set_option maxRecDepth 65536 in
theorem w_runnable : about1.curStatus? = some .runnable := by decide +kernel
set_option maxRecDepth 65536 in
theorem w_alone : about1.alone = true := by decide +kernel
set_option maxRecDepth 65536 in
theorem w_named : about1.methodNamed? x = some theMethod := by decide +kernel
set_option maxRecDepth 65536 in
theorem w_hears : about1.hears theMethod below0 = true := by decide +kernel
set_option maxRecDepth 65536 in
theorem w_ripe : about1.ripe theMethod args0 below0 = true := by decide +kernel
theorem w_running : about1.status = .running := rfl
set_option maxRecDepth 65536 in
theorem w_room : about1.hasRoom e0.platform room_1 = true :=
  launch0.hasRoom_least _ room_1 (by decide +kernel) (by decide +kernel) (by decide +kernel) (by decide +kernel) (by decide +kernel) (by decide +kernel)
theorem allAtoms_all (ts : List Jvm.Cond) (a : Array Jvm.Value) (st : Jvm.State) : (allAtoms ts).before a st = ts.all (fun c => c.before a st) := by
  induction ts with
  | nil => rfl
  | cons c t ih =>
    show (Jvm.Cond.and c (allAtoms t)).before a st = _
    rw [Jvm.Cond.before_and, ih, List.all_cons]
def words1 : List Jvm.Cond := Jvm.Cond.code x code maxLocals ret :: tables_1
/-- a 'code' word, met by the world's own term for the bytes: nothing is compared byte by byte -/
theorem code_word {y : MethodName} {bytes : ByteArray} {mx : Nat} {rt : Option FieldType} {a : Array Value} {s : State} {m : MethodId} {meth : Method} {c : Code} (h1 : s.methodNamed? y = some m) (h2 : s.vm.method? m = some meth) (h3 : meth.code = some c) (h4 : c.code = bytes)
    (h5 : (c.maxLocals == mx && c.exceptionTable.isEmpty && decide (c.maxStack ≤ mostOperands) && decide (meth.sig.returnType = rt) && !meth.locks && decide (parseMethodDescriptor y.desc = some meth.sig)) = true) : (Jvm.Cond.code y bytes mx rt).before a s = true := by
  simp only [Bool.and_eq_true, beq_iff_eq, Bool.not_eq_true', decide_eq_true_eq] at h5
  obtain ⟨⟨⟨⟨⟨g1, g2⟩, g3⟩, g4⟩, g5⟩, g6⟩ := h5
  simp [Cond.before, Cond.holds, Cond.value, h1, h2, h3, h4, g1, g2, g3, g4, g5, g6]
def isCode : Jvm.Cond → Bool
  | .code _ _ _ _ => true
  | _ => false
theorem all_split {L : List Jvm.Cond} {P : Jvm.Cond → Bool} (h1 : L.all (fun c => isCode c || P c) = true) (h2 : ∀ c ∈ L.filter isCode, P c = true) : L.all P = true := by
  refine List.all_eq_true.mpr fun c hc => ?_
  have h := List.all_eq_true.mp h1 c hc
  rcases Bool.eq_false_or_eq_true (isCode c) with hi | hi
  · exact h2 c (List.mem_filter.mpr ⟨hc, hi⟩)
  · simpa [hi] using h
set_option maxRecDepth 65536 in
theorem w_c0 : (Jvm.Cond.code x code maxLocals ret).before args0 about1 = true := code_word (m := ⟨1, 1⟩) (meth := k1m1) (c := k1c1) (by decide +kernel) rfl rfl rfl (by decide +kernel)
set_option maxRecDepth 65536 in
theorem w_c1 : (Jvm.Cond.code ({ cls := "com/example/oxalis/oxalis/Rect", name := "<init>", desc := "(IIII)V" } : Jvm.MethodName) prog_48_method_1_code (5 : Nat) (Option.none : Option Jvm.ClassFile.FieldType)).before args0 about1 = true := code_word (m := ⟨2, 0⟩) (meth := k2m0) (c := k2c0) (by decide +kernel) rfl rfl rfl (by decide +kernel)
set_option maxRecDepth 65536 in
theorem w_c2 : (Jvm.Cond.code ({ cls := "java/lang/Object", name := "<init>", desc := "()V" } : Jvm.MethodName) object_method_1_code (1 : Nat) (Option.none : Option Jvm.ClassFile.FieldType)).before args0 about1 = true := code_word (m := ⟨0, 0⟩) (meth := k0m0) (c := k0c0) (by decide +kernel) rfl rfl rfl (by decide +kernel)
set_option maxRecDepth 65536 in
theorem w_c3 : (Jvm.Cond.code ({ cls := "com/example/oxalis/oxalis/Rect", name := "equals", desc := "(Ljava/lang/Object;)Z" } : Jvm.MethodName) prog_48_method_12_code (3 : Nat) (Option.some Jvm.ClassFile.FieldType.boolean)).before args0 about1 = true := code_word (m := ⟨2, 1⟩) (meth := k2m1) (c := k2c1) (by decide +kernel) rfl rfl rfl (by decide +kernel)
set_option maxRecDepth 65536 in
theorem w_c4 : (Jvm.Cond.code ({ cls := "com/example/oxalis/oxalis/Insets", name := "<init>", desc := "(IIII)V" } : Jvm.MethodName) prog_26_method_1_code (5 : Nat) (Option.none : Option Jvm.ClassFile.FieldType)).before args0 about1 = true := code_word (m := ⟨3, 0⟩) (meth := k3m0) (c := k3c0) (by decide +kernel) rfl rfl rfl (by decide +kernel)
def codes1 : List Jvm.Cond := [Jvm.Cond.code x code maxLocals ret, Jvm.Cond.code ({ cls := "com/example/oxalis/oxalis/Rect", name := "<init>", desc := "(IIII)V" } : Jvm.MethodName) prog_48_method_1_code (5 : Nat) (Option.none : Option Jvm.ClassFile.FieldType), Jvm.Cond.code ({ cls := "java/lang/Object", name := "<init>", desc := "()V" } : Jvm.MethodName) object_method_1_code (1 : Nat) (Option.none : Option Jvm.ClassFile.FieldType), Jvm.Cond.code ({ cls := "com/example/oxalis/oxalis/Rect", name := "equals", desc := "(Ljava/lang/Object;)Z" } : Jvm.MethodName) prog_48_method_12_code (3 : Nat) (Option.some Jvm.ClassFile.FieldType.boolean), Jvm.Cond.code ({ cls := "com/example/oxalis/oxalis/Insets", name := "<init>", desc := "(IIII)V" } : Jvm.MethodName) prog_26_method_1_code (5 : Nat) (Option.none : Option Jvm.ClassFile.FieldType)]
set_option maxRecDepth 65536 in
theorem codes_eq : words1.filter isCode = codes1 := rfl
theorem w_codes : ∀ c ∈ words1.filter isCode, c.before args0 about1 = true := by
  rw [codes_eq]
  intro c hc
  simp only [codes1, List.mem_cons, List.not_mem_nil, or_false] at hc
  rcases hc with rfl | rfl | rfl | rfl | rfl
  · exact w_c0
  · exact w_c1
  · exact w_c2
  · exact w_c3
  · exact w_c4
set_option maxRecDepth 65536 in
theorem w_t1 : (words1.take 24).all (fun c => isCode c || c.before args0 about1) = true := by decide +kernel
set_option maxRecDepth 65536 in
theorem w_t2 : (words1.drop 24).all (fun c => isCode c || c.before args0 about1) = true := by decide +kernel
theorem w_tables : (allAtoms (Jvm.Cond.code x code maxLocals ret :: tables_1)).before args0 about1 = true := by
  rw [allAtoms_all]
  show words1.all (fun c => c.before args0 about1) = true
  refine all_split ?_ w_codes
  rw [← List.take_append_drop 24 words1, List.all_append, w_t1, w_t2]
  rfl
set_option maxRecDepth 65536 in
theorem w_case : (Jvm.Cond.and given_1 narrow_1).before args0 about1 = true := by decide +kernel
theorem w_applies : (headSpec (Jvm.Cond.code x code maxLocals ret :: tables_1) room_1).applies x e0.platform about1 = true :=
  (Spec.applies_iff w_frames).mpr ⟨w_running, w_runnable, w_alone, w_named, w_hears, w_ripe, w_room, w_tables⟩
theorem atStart : AtStart classFile x code maxLocals ret World_1 tables_1 room_1 Calls_1 rest_1 Pre_1 launch0 p0 e0 about1 theMethod args0 below0 :=
  ⟨lists_1, trivial, launch0.admits_env _ _ _, launch0.least_env, fairChoices_fair.cas, fairChoices_fair.clock, w_frames, w_args, w_heap, w_applies, trivial, trivial, w_case⟩
end start1
theorem witness_1 : WitnessClaimed_1 := ⟨start1.p0, start1.e0, start1.about1, start1.theMethod, start1.args0, start1.below0, start1.atStart⟩
end Jvm.Pilot.@@N@@
