import JvmDerived
import JvmDerived.Pilot.@@N@@Statement
import JvmDerived.Pilot.@@N@@Code
set_option linter.unusedVariables false
set_option linter.unusedSimpArgs false
namespace Jvm.Pilot.@@N@@
open Jvm Jvm.ClassFile Sem Op Lib Jvm.Free Jvm.Stand Jvm.LawKit Jvm.RoadKit Bundle Jvm.Pilot.@@N@@.Jvm.D
section Own
variable {p : Program} {l : Launch} {e : Env} {R : Room} {s : State} {m : MethodId} {args : Array Value} {below : List Frame} {meth : Method} {c : Code} {T : State} {locs : List Loc} {cells slots n0 : Nat} {Z : State} {a0 : Array Value} {h h' : Heap} {its : List (Cell → Prop)} {Q : Option Value → List (Cell → Prop) → Prop} {pc : Nat} {Ls : Array Slot} {stk rest : List Value} {own : String}
/-- the new part of the heap: the cells from n0 on, one word on each -/
def own_hp (n0 : Nat) (h : Heap) (its : List (Cell → Prop)) : Prop := h.size = n0 + its.length ∧ ∀ (i : Nat) (P : Cell → Prop), its[i]? = some P → ∃ cl : Cell, h[n0 + i]? = some cl ∧ P cl
/-- where the walk stands -/
def own_at (p : Program) (l : Launch) (e : Env) (R : Room) (s : State) (m : MethodId) (args : Array Value) (below : List Frame) (meth : Method) (c : Code) (n0 : Nat) (T : State) (cells slots : Nat) (its : List (Cell → Prop)) : Prop :=
  ∃ locs, Stand p l e R s m args below meth c T locs cells slots ∧ Fr n0 locs ∧ own_hp n0 T.heap its
/-- from u the method comes to its end, and Q holds there -/
def own_go (p : Program) (e : Env) (R : Room) (s : State) (below : List Frame) (n0 : Nat) (Q : Option Value → List (Cell → Prop) → Prop) (u : State) : Prop :=
  ∃ (t : State) (v : Option Value) (L : List Loc) (its : List (Cell → Prop)), Steps p.tables e below u t ∧ t.status = .running ∧ Ended t below (.returned v) ∧ Q v its ∧ Fr n0 L ∧ own_hp n0 t.heap its ∧ s.WarmedH t.vm ∧ s.sameButNew ({ t with vm := s.vm } : State) L R.cells R.slots
theorem own_at.here (A : own_at p l e R s m args below meth c n0 T cells slots its) : At T m c below := by
  obtain ⟨_, X, _⟩ := A; exact X.here
theorem own_at.more (A : own_at p l e R s m args below meth c n0 T cells slots its) {cells' slots' : Nat} (hc : cells ≤ cells') (hs : slots ≤ slots') : own_at p l e R s m args below meth c n0 T cells' slots' its := by
  obtain ⟨L, X, r⟩ := A; exact ⟨L, X.more hc hs, r⟩
theorem own_by {u u' : State} (q : ∀ target, Steps p.tables e below u' target → Steps p.tables e below u target) (k : own_go p e R s below n0 Q u') : own_go p e R s below n0 Q u := by
  obtain ⟨t, v, L, i, h1, r⟩ := k
  exact ⟨t, v, L, i, q t h1, r⟩
theorem own_nil {α : Type} {P : α → Prop} : ∀ x ∈ ([] : List α), P x := fun _ q => nomatch q
theorem own_cons {α : Type} {P : α → Prop} {y : α} {L : List α} (q : P y) (r : ∀ x ∈ L, P x) : ∀ x ∈ y :: L, P x := fun x z => (List.mem_cons.mp z).elim (fun u => u ▸ q) (r x)
theorem own_hp.push (H : own_hp n0 h its) {cl : Cell} {P : Cell → Prop} (hP : P cl) : own_hp n0 (h.push cl) (its ++ [P]) := by
  refine ⟨by rw [Array.size_push, H.1, List.length_append]; rfl, fun i P' hi => ?_⟩
  by_cases q : i < its.length
  · rw [List.getElem?_append_left q] at hi
    obtain ⟨c, h1, h2⟩ := H.2 i P' hi
    refine ⟨c, ?_, h2⟩
    rw [Array.getElem?_push_lt (Array.getElem?_eq_some_iff.mp h1).1]
    exact (Array.getElem?_eq_getElem _).symm.trans h1
  · have q2 : i = its.length := by
      have := (List.getElem?_eq_some_iff.mp hi).1
      simp only [List.length_append, List.length_cons, List.length_nil] at this
      omega
    subst q2
    simp only [List.getElem?_concat_length, Option.some.injEq] at hi
    subst hi
    refine ⟨cl, ?_, hP⟩
    rw [← H.1]; simp
theorem own_hp.wr (H : own_hp n0 h its) {i sl : Nat} {v : Value} {P P' : Cell → Prop} (hi : its[i]? = some P) (W : Wr h h' (n0 + i) sl v) (hP : ∀ cl, h[n0 + i]? = some cl → P cl → P' (cl.setSlot sl v)) : own_hp n0 h' (its.set i P') := by
  obtain ⟨cell, w1, w2, w3, rfl⟩ := W
  refine ⟨by rw [Array.size_setIfInBounds, List.length_set]; exact H.1, fun j P2 hj => ?_⟩
  by_cases q : i = j
  · subst q
    have hl := (List.getElem?_eq_some_iff.mp hi).1
    rw [List.getElem?_set_self hl] at hj
    cases hj
    obtain ⟨cl, g1, g2⟩ := H.2 i P hi
    cases w1.symm.trans g1
    exact ⟨cell.setSlot sl v, by simp [(Array.getElem?_eq_some_iff.mp w1).1], hP _ w1 g2⟩
  · rw [List.getElem?_set_ne q] at hj
    obtain ⟨cl, g1, g2⟩ := H.2 j P2 hj
    exact ⟨cl, by rw [Array.getElem?_setIfInBounds_ne (by omega)]; exact g1, g2⟩
theorem own_geti {i : Nat} {P P' : Cell → Prop} (hi : its[i]? = some P) : (its.set i P')[i]? = some P' := List.getElem?_set_self (List.getElem?_eq_some_iff.mp hi).1
/-- an object of just that class, its fields ns holding vs -/
def own_obj (Z : State) (C : String) (ns : List (String × String)) (vs : List Value) : Cell → Prop := fun cl => ∀ (h : Heap) (a : Addr), h[a]? = some cl → Exa Z h a C ∧ ∀ (i : Nat) (f : String × String) (v : Value), ns[i]? = some f → vs[i]? = some v → Fld Z h a C f.1 f.2 v
/-- an array of ints (shorts, chars, bytes) -/
def own_ia (Z : State) (ty : FieldType) (xs : List Int32) : Cell → Prop := fun cl => xs.length < 2 ^ 31 ∧ cl.slots = (xs.map Value.int).toArray ∧ Z.isArrayOf cl ty ∧ cl.vm ≠ .unknown ∧ (∀ x ∈ xs, fits ty (.int x) = true) ∧ Z.vm.findClass ("[" ++ ty.toString) = some cl.cls
/-- an array of longs -/
def own_la (Z : State) (xs : List Int64) : Cell → Prop := fun cl => xs.length < 2 ^ 31 ∧ cl.slots = (xs.map Value.long).toArray ∧ Z.isArrayOf cl .long ∧ cl.vm ≠ .unknown
/-- the fields' places are unlike -/
def own_apart (Z : State) (C : String) (ns : List (String × String)) : Prop := ∀ (i j : Nat) (f g : String × String), ns[i]? = some f → ns[j]? = some g → i ≠ j → Jvm.RoadKit.slotOf Z C f.1 f.2 ≠ Jvm.RoadKit.slotOf Z C g.1 g.2
theorem own_apart_of {C : String} {ns : List (String × String)} (hL : ∀ f ∈ ns, Laid Z a0 C C f.1 f.2 ∧ ∃ t, parseFieldDescriptor f.2 = some t) (hn : (ns.map (·.1)).Nodup) : own_apart Z C ns := by
  intro i j f g hi hj hij
  obtain ⟨l1, t1, d1⟩ := hL f (List.mem_of_getElem? hi)
  obtain ⟨l2, t2, d2⟩ := hL g (List.mem_of_getElem? hj)
  refine slot_ne l1 l2 (fun q => ?_) d1 d2
  have e1 : (ns.map (·.1))[i]? = some f.1 := by rw [List.getElem?_map, hi]; rfl
  have e2 : (ns.map (·.1))[j]? = some g.1 := by rw [List.getElem?_map, hj]; rfl
  obtain ⟨b1, c1⟩ := List.getElem?_eq_some_iff.mp e1
  obtain ⟨b2, c2⟩ := List.getElem?_eq_some_iff.mp e2
  have pw := List.pairwise_iff_getElem.mp hn
  rcases Nat.lt_or_gt_of_ne hij with z | z
  · exact pw i j b1 b2 z (by rw [c1, c2, q])
  · exact pw j i b2 b1 z (by rw [c1, c2, q])
theorem own_obj.set {C : String} {ns : List (String × String)} {vs : List Value} {j : Nat} {n d : String} {v old : Value} {cl : Cell} (O : own_obj Z C ns vs cl) (ap : own_apart Z C ns) (hj : ns[j]? = some (n, d)) (hv : vs[j]? = some old) (hlt : Jvm.RoadKit.slotOf Z C n d < cl.slots.size) (hst : cl.vm.isStatics = false) : own_obj Z C ns (vs.set j v) (cl.setSlot (Jvm.RoadKit.slotOf Z C n d) v) := by
  intro h2 a2 ha2
  have hb : (#[cl] : Heap)[0]? = some cl := rfl
  have W : Wr (#[cl] : Heap) (#[cl.setSlot (Jvm.RoadKit.slotOf Z C n d) v] : Heap) 0 (Jvm.RoadKit.slotOf Z C n d) v := ⟨cl, hb, hst, hlt, rfl⟩
  obtain ⟨E, F⟩ := O _ _ hb
  have E' : Exa Z (#[cl.setSlot (Jvm.RoadKit.slotOf Z C n d) v] : Heap) 0 C := E.wr W
  refine ⟨?_, fun i f w hi hw => ?_⟩
  · obtain ⟨c1, k, q1, r⟩ := E'
    cases (show (#[cl.setSlot (Jvm.RoadKit.slotOf Z C n d) v] : Heap)[0]? = some _ from rfl).symm.trans q1
    exact ⟨_, k, ha2, r⟩
  · have F' : Fld Z (#[cl.setSlot (Jvm.RoadKit.slotOf Z C n d) v] : Heap) 0 C f.1 f.2 w := by
      by_cases q : j = i
      · subst q
        cases hj.symm.trans hi
        rw [List.getElem?_set_self (List.getElem?_eq_some_iff.mp hv).1] at hw
        cases hw
        exact (F j (n, d) old hj hv).same W
      · rw [List.getElem?_set_ne q] at hw
        exact (F i f w hi hw).other W (Or.inr (ap i j f (n, d) hi hj (Ne.symm q)))
    obtain ⟨c1, cf, k, i1, f1, q1, r⟩ := F'
    cases (show (#[cl.setSlot (Jvm.RoadKit.slotOf Z C n d) v] : Heap)[0]? = some _ from rfl).symm.trans q1
    exact ⟨_, cf, k, i1, f1, ha2, r⟩
theorem own_db {bs : ByteArray} (h1 : c.code = bs) {r : Except DecodeError (Instr × Nat)} (h2 : decode bs pc = r) : decode c.code pc = r := h1 ▸ h2
/-! steps -/
theorem own_new (A : own_at p l e R s m args below meth c n0 T cells slots its) (hx : p.tables.exec = Jvm.exec) (hZ : Z.Warmed39 s.vm) {C : String} {index n : Nat} (hown : s.vm.findClass own = some m.cls) (w : (Cond.classLink own index C).before a0 Z = true) (wi : (Cond.instantiable C n).before a0 Z = true) (wz : (Cond.initialized C).before a0 Z = true)
    {ns : List (String × String)} {vs : List Value} (hns : ∀ f ∈ ns.zip vs, Laid Z a0 C C f.1.1 f.1.2 ∧ ∃ ty, parseFieldDescriptor f.1.2 = some ty ∧ f.2 = defaultValue ty)
    (hd : decode c.code pc = .ok (.new index, 3)) (hc : cells + 1 ≤ R.cells) (hl : slots + n ≤ R.slots)
    (k : ∀ T', own_at p l e R s m args below meth c n0 T' (cells + 1) (slots + n) (its ++ [own_obj Z C ns vs]) → own_go p e R s below n0 Q (T'.setTop (mkF m (pc + 3) Ls (.ref (n0 + its.length) :: stk)))) :
    own_go p e R s below n0 Q (T.setTop (mkF m pc Ls stk)) := by
  obtain ⟨L, X, N, H⟩ := A
  obtain ⟨vm', cC, kC, h1, h2, h3, h4, X', st⟩ := X.newCold hx hown (mv hZ w) (mv hZ wi) (mv hZ wz) (g := mkF m pc Ls stk) rfl hd hc hl
  rw [H.1] at st
  rw [hZ.alike.findClass] at h1
  obtain ⟨kZ, z1, -⟩ := Vm.findClass_spec h1
  obtain ⟨k', z2, z3⟩ := hZ.alike.2.2 _ _ z1
  cases h2.symm.trans z2
  have ei : kC.instanceTypes = kZ.instanceTypes := by rw [z3]
  refine own_by st (k _ ⟨L, X', N, H.push fun h2 a2 ha2 => ⟨⟨_, kZ, ha2, h1, z1, rfl, fun _ => by simp [ei]⟩, fun i f v hi hv => ?_⟩⟩)
  have hz : (ns.zip vs)[i]? = some (f, v) := List.getElem?_zip_eq_some.mpr ⟨hi, hv⟩
  obtain ⟨La, ty, ht, hdv⟩ := hns _ (List.mem_of_getElem? hz)
  obtain ⟨c1, k1, cf, kf, i1, f1, a1, a2', a3, a4, a5, a6, -⟩ := La.spec
  cases h1.symm.trans a1
  cases z1.symm.trans a2'
  dsimp only at hdv ht a3
  subst hdv
  exact ⟨_, cf, kf, i1, f1, ha2, a3, a4, by simp, rfl, a5, by simp [ei, a6, (State.fieldFound?_type a3 ht).2]⟩
theorem own_fit0 {ty : FieldType} (h0 : defaultValue ty = .int 0) : fits ty (.int 0) = true := by
  cases ty <;> first | rfl | (simp [defaultValue] at h0)
theorem own_newP (A : own_at p l e R s m args below meth c n0 T cells slots its) (hx : p.tables.exec = Jvm.exec) (hZ : Z.Warmed39 s.vm) {aty : ArrayType} (w : (Cond.arrayClass (newarray.typeOf aty)).before a0 Z = true)
    (hd : decode c.code pc = .ok (.newarray aty, 2)) {n : Int32} (q : Nat) (hn : ¬ n < 0 ∧ n.toNatClampNeg = q) {cap : Nat} (hcap : q ≤ cap) (hb : cap * 8 ≤ 536870912) (h0 : defaultValue (newarray.typeOf aty) = .int 0) (hc : cells + 1 ≤ R.cells) (hl : slots + cap ≤ R.slots)
    (k : ∀ T', own_at p l e R s m args below meth c n0 T' (cells + 1) (slots + cap) (its ++ [own_ia Z (newarray.typeOf aty) (List.replicate q 0)]) → own_go p e R s below n0 Q (T'.setTop (mkF m (pc + 2) Ls (.ref (n0 + its.length) :: stk)))) :
    own_go p e R s below n0 Q (T.setTop (mkF m pc Ls (.int n :: stk))) := by
  obtain ⟨L, X, N, H⟩ := A
  obtain ⟨hn, rfl⟩ := hn
  have hcb : componentBytes (newarray.typeOf aty) ≤ 8 := by cases aty <;> decide
  obtain ⟨cA, kA, comp, h1, h2, h3, X', st⟩ := X.newarrayPrim hx (mvA hZ w) (g := mkF m pc Ls (.int n :: stk)) rfl hd rfl hn (Nat.le_trans (Nat.mul_le_mul hcap hcb) hb) hc (by omega)
  rw [H.1] at st
  rw [hZ.alike.findClass] at h1
  obtain ⟨kZ, z1, -⟩ := Vm.findClass_spec h1
  obtain ⟨k', z2, z3⟩ := hZ.alike.2.2 _ _ z1
  cases h2.symm.trans z2
  refine own_by st (k _ ⟨L, X'.more (Nat.le_refl _) (by omega), N, H.push ⟨by rw [List.length_replicate]; exact n.toNatClampNeg_lt, by rw [h0]; simp [List.map_replicate], ⟨by simp, kZ, z1, comp, by rw [← h3, z3]⟩, by simp, fun x hx => ?_, h1⟩⟩)
  rw [List.eq_of_mem_replicate hx]
  exact own_fit0 h0
theorem own_newL (A : own_at p l e R s m args below meth c n0 T cells slots its) (hx : p.tables.exec = Jvm.exec) (hZ : Z.Warmed39 s.vm) (w : (Cond.arrayClass .long).before a0 Z = true)
    (hd : decode c.code pc = .ok (.newarray .long, 2)) {n : Int32} (q : Nat) (hn : ¬ n < 0 ∧ n.toNatClampNeg = q) {cap : Nat} (hcap : q ≤ cap) (hb : cap * 8 ≤ 536870912) (hc : cells + 1 ≤ R.cells) (hl : slots + cap ≤ R.slots)
    (k : ∀ T', own_at p l e R s m args below meth c n0 T' (cells + 1) (slots + cap) (its ++ [own_la Z (List.replicate q 0)]) → own_go p e R s below n0 Q (T'.setTop (mkF m (pc + 2) Ls (.ref (n0 + its.length) :: stk)))) :
    own_go p e R s below n0 Q (T.setTop (mkF m pc Ls (.int n :: stk))) := by
  obtain ⟨L, X, N, H⟩ := A
  obtain ⟨hn, rfl⟩ := hn
  obtain ⟨cA, kA, comp, h1, h2, h3, X', st⟩ := X.newarrayPrim hx (atype := .long) (mvA hZ w) (g := mkF m pc Ls (.int n :: stk)) rfl hd rfl hn (Nat.le_trans (Nat.mul_le_mul hcap (by decide)) hb) hc (by omega)
  rw [H.1] at st
  rw [hZ.alike.findClass] at h1
  obtain ⟨kZ, z1, -⟩ := Vm.findClass_spec h1
  obtain ⟨k', z2, z3⟩ := hZ.alike.2.2 _ _ z1
  cases h2.symm.trans z2
  exact own_by st (k _ ⟨L, X'.more (Nat.le_refl _) (by omega), N, H.push ⟨by rw [List.length_replicate]; exact n.toNatClampNeg_lt, by simp [List.map_replicate, newarray.typeOf, defaultValue], ⟨by simp, kZ, z1, comp, by rw [z3] at h3; exact h3⟩, by simp⟩⟩)
theorem own_getF (A : own_at p l e R s m args below meth c n0 T cells slots its) (hx : p.tables.exec = Jvm.exec) (hZ : Z.Warmed39 s.vm) {C n d : String} {index i : Nat} (hown : s.vm.findClass own = some m.cls) (w : (Cond.fieldLink own index C n d).before a0 Z = true)
    {ns : List (String × String)} {vs : List Value} (hi : its[i]? = some (own_obj Z C ns vs)) (j : Nat) (hj : ns[j]? = some (n, d)) {v : Value} (hv : vs[j]? = some v) (hd : decode c.code pc = .ok (.getfield index, 3))
    (k : ∀ T', own_at p l e R s m args below meth c n0 T' cells slots its → own_go p e R s below n0 Q (T'.setTop (mkF m (pc + 3) Ls (v :: stk)))) :
    own_go p e R s below n0 Q (T.setTop (mkF m pc Ls (.ref (n0 + i) :: stk))) := by
  obtain ⟨L, X, N, H⟩ := A
  obtain ⟨cl, g1, g2⟩ := H.2 i _ hi
  obtain ⟨T', X', e', st⟩ := getF X hx hZ hown (host := "") (Or.inl w) Via.refl rfl ((g2 _ _ g1).2 j _ v hj hv) (g := mkF m pc Ls (.ref (n0 + i) :: stk)) rfl rfl hd
  exact own_by st (k T' ⟨L, X', N, by rw [e']; exact H⟩)
theorem own_putF (A : own_at p l e R s m args below meth c n0 T cells slots its) (hx : p.tables.exec = Jvm.exec) (hZ : Z.Warmed39 s.vm) {C n d : String} {index i kk : Nat} {ty : FieldType} (hown : s.vm.findClass own = some m.cls) (w : (Cond.fieldLink own index C n d).before a0 Z = true)
    {ns : List (String × String)} {vs : List Value} (hi : its[i]? = some (own_obj Z C ns vs)) (j : Nat) (hj : ns[j]? = some (n, d)) {v v' old : Value} (hv : vs[j]? = some old) (ap : own_apart Z C ns)
    (La : (Cond.lays C C n d).before a0 Z = true ∨ ((Cond.laysFinal C C n d).before a0 Z = true ∧ own = C ∧ meth.name = "<init>")) (wi : (Cond.instantiable C kk).before a0 Z = true) (hty : parseFieldDescriptor d = some ty) (hn : narrow ty v = v') (hf : fits ty v' = true)
    (hd : decode c.code pc = .ok (.putfield index, 3)) {its2 : List (Cell → Prop)} (h2 : its.set i (own_obj Z C ns (vs.set j v')) = its2)
    (k : ∀ T', own_at p l e R s m args below meth c n0 T' cells slots its2 → own_go p e R s below n0 Q (T'.setTop (mkF m (pc + 3) Ls stk))) :
    own_go p e R s below n0 Q (T.setTop (mkF m pc Ls (v :: .ref (n0 + i) :: stk))) := by
  obtain ⟨L, X, N, H⟩ := A
  obtain ⟨cl, g1, g2⟩ := H.2 i _ hi
  obtain ⟨T', h', X', e', W, st⟩ := putFN X hx hZ hown w Via.refl rfl ((g2 _ _ g1).2 j _ old hj hv) (g2 _ _ g1).1 La wi hty hn hf (g := mkF m pc Ls (v :: .ref (n0 + i) :: stk)) rfl rfl hd
  have N' := Fr.snoc X' N (Nat.le_add_right n0 i)
  have W2 := W
  obtain ⟨cl2, w1, w2, w3, -⟩ := W2
  refine own_by st (k T' ⟨_, X', N', ?_⟩)
  rw [e', ← h2]
  exact H.wr hi W fun cl3 q1 q2 => by
    cases w1.symm.trans q1
    exact q2.set ap hj hv w3 w2
theorem own_ia.arr {ty : FieldType} {xs : List Int32} {cl : Cell} (O : own_ia Z ty xs cl) {a : Addr} (hc : h[a]? = some cl) : Arr Z h a cl ty := ⟨hc, O.2.2.1, O.2.2.2.1⟩
theorem own_ia.inb {ty : FieldType} {xs : List Int32} {cl : Cell} (O : own_ia Z ty xs cl) {j : Int32} {x : Int32} (hj : ¬ j < 0 ∧ xs[j.toNatClampNeg]? = some x) : ¬ (j < 0 ∨ cl.slots.size ≤ j.toNatClampNeg) ∧ cl.slots[j.toNatClampNeg]? = some (.int x) := by
  have hl := (List.getElem?_eq_some_iff.mp hj.2).1
  refine ⟨fun q => q.elim hj.1 fun q2 => ?_, ?_⟩
  · rw [O.2.1] at q2; simp at q2; omega
  · rw [O.2.1]; simp [hj.2]
theorem own_la.inb {xs : List Int64} {cl : Cell} (O : own_la Z xs cl) {j : Int32} {x : Int64} (hj : ¬ j < 0 ∧ xs[j.toNatClampNeg]? = some x) : ¬ (j < 0 ∨ cl.slots.size ≤ j.toNatClampNeg) ∧ cl.slots[j.toNatClampNeg]? = some (.long x) := by
  have hl := (List.getElem?_eq_some_iff.mp hj.2).1
  refine ⟨fun q => q.elim hj.1 fun q2 => ?_, ?_⟩
  · rw [O.2.1] at q2; simp at q2; omega
  · rw [O.2.1]; simp [hj.2]
theorem own_ia.set {ty : FieldType} {xs : List Int32} {cl : Cell} (O : own_ia Z ty xs cl) (q : Nat) {x : Int32} (hf : fits ty (.int x) = true) : own_ia Z ty (xs.set q x) (cl.setSlot q (.int x)) := by
  refine ⟨by rw [List.length_set]; exact O.1, ?_, O.2.2.1, O.2.2.2.1, fun y hy => ?_, O.2.2.2.2.2⟩
  · rw [Cell.setSlot]; show cl.slots.setIfInBounds q _ = _
    rw [O.2.1, List.setIfInBounds_toArray, List.map_set]
  · rcases List.mem_or_eq_of_mem_set hy with q | rfl
    · exact O.2.2.2.2.1 y q
    · exact hf
theorem own_la.set {xs : List Int64} {cl : Cell} (O : own_la Z xs cl) (q : Nat) {x : Int64} : own_la Z (xs.set q x) (cl.setSlot q (.long x)) := by
  refine ⟨by rw [List.length_set]; exact O.1, ?_, O.2.2.1, O.2.2.2⟩
  rw [Cell.setSlot]; show cl.slots.setIfInBounds q _ = _
  rw [O.2.1, List.setIfInBounds_toArray, List.map_set]
theorem own_iaload (A : own_at p l e R s m args below meth c n0 T cells slots its) (hx : p.tables.exec = Jvm.exec) (hZ : Z.Warmed39 s.vm) {i : Nat} {xs : List Int32} (hi : its[i]? = some (own_ia Z .int xs)) {j x : Int32} (hj : ¬ j < 0 ∧ xs[j.toNatClampNeg]? = some x) (hd : decode c.code pc = .ok (.iaload, 1))
    (k : own_go p e R s below n0 Q (T.setTop (mkF m (pc + 1) Ls (.int x :: stk)))) : own_go p e R s below n0 Q (T.setTop (mkF m pc Ls (.int j :: .ref (n0 + i) :: stk))) := by
  obtain ⟨L, X, N, H⟩ := A
  obtain ⟨cl, g1, g2⟩ := H.2 i _ hi
  exact own_by (fun t k => X.iaload hx g1 (State.isArrayOf_alike hZ.alike g2.2.2.1) g2.2.2.2.1 (g2.inb hj).1 (g2.inb hj).2 (g := mkF m pc Ls (.int j :: .ref (n0 + i) :: stk)) rfl rfl hd t k) k
theorem own_caload (A : own_at p l e R s m args below meth c n0 T cells slots its) (hx : p.tables.exec = Jvm.exec) (hZ : Z.Warmed39 s.vm) {i : Nat} {xs : List Int32} (hi : its[i]? = some (own_ia Z .char xs)) {j x : Int32} (hj : ¬ j < 0 ∧ xs[j.toNatClampNeg]? = some x) (hd : decode c.code pc = .ok (.caload, 1))
    (k : own_go p e R s below n0 Q (T.setTop (mkF m (pc + 1) Ls (.int x :: stk)))) : own_go p e R s below n0 Q (T.setTop (mkF m pc Ls (.int j :: .ref (n0 + i) :: stk))) := by
  obtain ⟨L, X, N, H⟩ := A
  obtain ⟨cl, g1, g2⟩ := H.2 i _ hi
  exact own_by (fun t k => X.caload hx g1 (State.isArrayOf_alike hZ.alike g2.2.2.1) g2.2.2.2.1 (g2.inb hj).1 (g2.inb hj).2 (g := mkF m pc Ls (.int j :: .ref (n0 + i) :: stk)) rfl rfl hd t k) k
theorem own_baload (A : own_at p l e R s m args below meth c n0 T cells slots its) (hx : p.tables.exec = Jvm.exec) (hZ : Z.Warmed39 s.vm) {i : Nat} {xs : List Int32} (hi : its[i]? = some (own_ia Z .byte xs)) {j x : Int32} (hj : ¬ j < 0 ∧ xs[j.toNatClampNeg]? = some x) (hd : decode c.code pc = .ok (.baload, 1))
    (k : own_go p e R s below n0 Q (T.setTop (mkF m (pc + 1) Ls (.int x :: stk)))) : own_go p e R s below n0 Q (T.setTop (mkF m pc Ls (.int j :: .ref (n0 + i) :: stk))) := by
  obtain ⟨L, X, N, H⟩ := A
  obtain ⟨cl, g1, g2⟩ := H.2 i _ hi
  exact own_by (fun t k => X.baloadBytes hx g1 (State.isArrayOf_alike hZ.alike g2.2.2.1) g2.2.2.2.1 (g2.inb hj).1 (g2.inb hj).2 (g := mkF m pc Ls (.int j :: .ref (n0 + i) :: stk)) rfl rfl hd t k) k
theorem own_laload (A : own_at p l e R s m args below meth c n0 T cells slots its) (hx : p.tables.exec = Jvm.exec) (hZ : Z.Warmed39 s.vm) {i : Nat} {xs : List Int64} (hi : its[i]? = some (own_la Z xs)) {j : Int32} {x : Int64} (hj : ¬ j < 0 ∧ xs[j.toNatClampNeg]? = some x) (hd : decode c.code pc = .ok (.laload, 1))
    (k : own_go p e R s below n0 Q (T.setTop (mkF m (pc + 1) Ls (.long x :: stk)))) : own_go p e R s below n0 Q (T.setTop (mkF m pc Ls (.int j :: .ref (n0 + i) :: stk))) := by
  obtain ⟨L, X, N, H⟩ := A
  obtain ⟨cl, g1, g2⟩ := H.2 i _ hi
  exact own_by (fun t k => X.laload hx g1 (State.isArrayOf_alike hZ.alike g2.2.2.1) g2.2.2.2 (g2.inb hj).1 (g2.inb hj).2 (g := mkF m pc Ls (.int j :: .ref (n0 + i) :: stk)) rfl rfl hd t k) k
theorem own_at.wrote (N : Fr n0 locs) (H : own_hp n0 h its) {T' : State} {i sl : Nat} {v : Value} {P P' : Cell → Prop} (X' : Stand p l e R s m args below meth c T' (locs ++ [⟨n0 + i, sl⟩]) cells slots) (e' : T'.heap = h') (hi : its[i]? = some P) (W : Wr h h' (n0 + i) sl v) (hP : ∀ cl, h[n0 + i]? = some cl → P cl → P' (cl.setSlot sl v)) : own_at p l e R s m args below meth c n0 T' cells slots (its.set i P') :=
  ⟨_, X', Fr.snoc X' N (Nat.le_add_right n0 i), by rw [e']; exact H.wr hi W hP⟩
theorem own_ib {xs : List Int32} {ty : FieldType} {cl : Cell} (O : own_ia Z ty xs cl) {j : Int32} {q : Nat} (hj : ¬ j < 0 ∧ j.toNatClampNeg = q ∧ q < xs.length) : ¬ (j < 0 ∨ cl.slots.size ≤ j.toNatClampNeg) := by
  obtain ⟨h1, rfl, h3⟩ := hj
  refine fun z => z.elim h1 fun z => ?_
  rw [O.2.1] at z; simp at z; omega
theorem own_iastore (A : own_at p l e R s m args below meth c n0 T cells slots its) (hx : p.tables.exec = Jvm.exec) (hZ : Z.Warmed39 s.vm) {i : Nat} {xs : List Int32} (hi : its[i]? = some (own_ia Z .int xs)) {j x : Int32} (q : Nat) (hj : ¬ j < 0 ∧ j.toNatClampNeg = q ∧ q < xs.length) (hd : decode c.code pc = .ok (.iastore, 1)) {its2 : List (Cell → Prop)} (h2 : its.set i (own_ia Z .int (xs.set q x)) = its2)
    (k : ∀ T', own_at p l e R s m args below meth c n0 T' cells slots its2 → own_go p e R s below n0 Q (T'.setTop (mkF m (pc + 1) Ls stk))) : own_go p e R s below n0 Q (T.setTop (mkF m pc Ls (.int x :: .int j :: .ref (n0 + i) :: stk))) := by
  obtain ⟨L, X, N, H⟩ := A
  obtain ⟨cl, g1, g2⟩ := H.2 i _ hi
  obtain ⟨T', h', X', e', W, st⟩ := stI X hx hZ rfl (g2.arr g1) (own_ib g2 hj) (g := mkF m pc Ls (.int x :: .int j :: .ref (n0 + i) :: stk)) rfl rfl hd
  obtain ⟨j1, rfl, j3⟩ := hj
  exact own_by st (k T' (h2 ▸ own_at.wrote N H X' e' hi W fun cl _ O => O.set _ rfl))
theorem own_castore (A : own_at p l e R s m args below meth c n0 T cells slots its) (hx : p.tables.exec = Jvm.exec) (hZ : Z.Warmed39 s.vm) {i : Nat} {xs : List Int32} (hi : its[i]? = some (own_ia Z .char xs)) {j x : Int32} (q : Nat) (hj : ¬ j < 0 ∧ j.toNatClampNeg = q ∧ q < xs.length) (hd : decode c.code pc = .ok (.castore, 1)) {its2 : List (Cell → Prop)} (h2 : its.set i (own_ia Z .char (xs.set q (nar .char x))) = its2)
    (k : ∀ T', own_at p l e R s m args below meth c n0 T' cells slots its2 → own_go p e R s below n0 Q (T'.setTop (mkF m (pc + 1) Ls stk))) : own_go p e R s below n0 Q (T.setTop (mkF m pc Ls (.int x :: .int j :: .ref (n0 + i) :: stk))) := by
  obtain ⟨L, X, N, H⟩ := A
  obtain ⟨cl, g1, g2⟩ := H.2 i _ hi
  obtain ⟨T', h', X', e', W, st⟩ := stC X hx hZ rfl (g2.arr g1) (own_ib g2 hj) (g := mkF m pc Ls (.int x :: .int j :: .ref (n0 + i) :: stk)) rfl rfl hd
  obtain ⟨j1, rfl, j3⟩ := hj
  exact own_by st (k T' (h2 ▸ own_at.wrote N H X' e' hi W fun cl _ O => O.set _ (fits_nar_char x)))
theorem own_bastore (A : own_at p l e R s m args below meth c n0 T cells slots its) (hx : p.tables.exec = Jvm.exec) (hZ : Z.Warmed39 s.vm) {i : Nat} {xs : List Int32} (hi : its[i]? = some (own_ia Z .byte xs)) {j x : Int32} (q : Nat) (hj : ¬ j < 0 ∧ j.toNatClampNeg = q ∧ q < xs.length) (hd : decode c.code pc = .ok (.bastore, 1)) {its2 : List (Cell → Prop)} (h2 : its.set i (own_ia Z .byte (xs.set q (nar .byte x))) = its2)
    (k : ∀ T', own_at p l e R s m args below meth c n0 T' cells slots its2 → own_go p e R s below n0 Q (T'.setTop (mkF m (pc + 1) Ls stk))) : own_go p e R s below n0 Q (T.setTop (mkF m pc Ls (.int x :: .int j :: .ref (n0 + i) :: stk))) := by
  obtain ⟨L, X, N, H⟩ := A
  obtain ⟨cl, g1, g2⟩ := H.2 i _ hi
  obtain ⟨T', h', X', e', W, st⟩ := stB X hx hZ rfl (g2.arr g1) (own_ib g2 hj) (g := mkF m pc Ls (.int x :: .int j :: .ref (n0 + i) :: stk)) rfl rfl hd
  obtain ⟨j1, rfl, j3⟩ := hj
  exact own_by st (k T' (h2 ▸ own_at.wrote N H X' e' hi W fun cl _ O => O.set _ (fits_nar_byte x)))
theorem own_lastore (A : own_at p l e R s m args below meth c n0 T cells slots its) (hx : p.tables.exec = Jvm.exec) (hZ : Z.Warmed39 s.vm) {i : Nat} {xs : List Int64} (hi : its[i]? = some (own_la Z xs)) {j : Int32} {x : Int64} (q : Nat) (hj : ¬ j < 0 ∧ j.toNatClampNeg = q ∧ q < xs.length) (hd : decode c.code pc = .ok (.lastore, 1)) {its2 : List (Cell → Prop)} (h2 : its.set i (own_la Z (xs.set q x)) = its2)
    (k : ∀ T', own_at p l e R s m args below meth c n0 T' cells slots its2 → own_go p e R s below n0 Q (T'.setTop (mkF m (pc + 1) Ls stk))) : own_go p e R s below n0 Q (T.setTop (mkF m pc Ls (.long x :: .int j :: .ref (n0 + i) :: stk))) := by
  obtain ⟨L, X, N, H⟩ := A
  obtain ⟨cl, g1, g2⟩ := H.2 i _ hi
  obtain ⟨j1, rfl, j3⟩ := hj
  have hb : ¬ (j < 0 ∨ cl.slots.size ≤ j.toNatClampNeg) := fun z => z.elim j1 fun z => by rw [g2.2.1] at z; simp at z; omega
  obtain ⟨T', h', X', e', W, st⟩ := stJ X hx hZ rfl (⟨g1, g2.2.2.1, g2.2.2.2⟩ : Arr Z T.heap (n0 + i) cl .long) hb (g := mkF m pc Ls (.long x :: .int j :: .ref (n0 + i) :: stk)) rfl rfl hd
  exact own_by st (k T' (h2 ▸ own_at.wrote N H X' e' hi W fun cl _ O => O.set _))
theorem own_len (A : own_at p l e R s m args below meth c n0 T cells slots its) (hx : p.tables.exec = Jvm.exec) (hZ : Z.Warmed39 s.vm) {i : Nat} {ty : FieldType} {xs : List Int32} (hi : its[i]? = some (own_ia Z ty xs)) {z : Int32} (hz : xs.length.toInt32 = z) (hd : decode c.code pc = .ok (.arraylength, 1))
    (k : own_go p e R s below n0 Q (T.setTop (mkF m (pc + 1) Ls (.int z :: stk)))) : own_go p e R s below n0 Q (T.setTop (mkF m pc Ls (.ref (n0 + i) :: stk))) := by
  obtain ⟨L, X, N, H⟩ := A
  obtain ⟨cl, g1, g2⟩ := H.2 i _ hi
  have q : cl.slots.size.toInt32 = z := by rw [g2.2.1]; simpa using hz
  subst q
  exact own_by (fun t k => X.arraylength hx g1 (State.isArrayOf_alike hZ.alike g2.2.2.1) (g := mkF m pc Ls (.ref (n0 + i) :: stk)) rfl rfl hd t k) k
theorem own_lenL (A : own_at p l e R s m args below meth c n0 T cells slots its) (hx : p.tables.exec = Jvm.exec) (hZ : Z.Warmed39 s.vm) {i : Nat} {xs : List Int64} (hi : its[i]? = some (own_la Z xs)) {z : Int32} (hz : xs.length.toInt32 = z) (hd : decode c.code pc = .ok (.arraylength, 1))
    (k : own_go p e R s below n0 Q (T.setTop (mkF m (pc + 1) Ls (.int z :: stk)))) : own_go p e R s below n0 Q (T.setTop (mkF m pc Ls (.ref (n0 + i) :: stk))) := by
  obtain ⟨L, X, N, H⟩ := A
  obtain ⟨cl, g1, g2⟩ := H.2 i _ hi
  have q : cl.slots.size.toInt32 = z := by rw [g2.2.1]; simpa using hz
  subst q
  exact own_by (fun t k => X.arraylength hx g1 (State.isArrayOf_alike hZ.alike g2.2.2.1) (g := mkF m pc Ls (.ref (n0 + i) :: stk)) rfl rfl hd t k) k
theorem own_ldcI (A : own_at p l e R s m args below meth c n0 T cells slots its) (hx : p.tables.exec = Jvm.exec) (hZ : Z.Warmed39 s.vm) (hown : s.vm.findClass own = some m.cls) {index : Nat} {v : Int32} (w : (Cond.constant own index v).before a0 Z = true) (hd : decode c.code pc = .ok (.ldc index, 2))
    (k : own_go p e R s below n0 Q (T.setTop (mkF m (pc + 2) Ls (.int v :: stk)))) : own_go p e R s below n0 Q (T.setTop (mkF m pc Ls stk)) := by
  obtain ⟨L, X, N, H⟩ := A
  exact own_by (X.ldcInt hx hown (mvT hZ w) (g := mkF m pc Ls stk) rfl hd) k
theorem own_ldcJ (A : own_at p l e R s m args below meth c n0 T cells slots its) (hx : p.tables.exec = Jvm.exec) (hZ : Z.Warmed39 s.vm) (hown : s.vm.findClass own = some m.cls) {index : Nat} {v : Int64} (w : (Cond.constantLong own index v).before a0 Z = true) (hd : decode c.code pc = .ok (.ldc2_w index, 3))
    (k : own_go p e R s below n0 Q (T.setTop (mkF m (pc + 3) Ls (.long v :: stk)))) : own_go p e R s below n0 Q (T.setTop (mkF m pc Ls stk)) := by
  obtain ⟨L, X, N, H⟩ := A
  exact own_by (X.ldc2Long hx hown (mvT hZ w) (g := mkF m pc Ls stk) rfl hd) k
theorem own_irem (A : own_at p l e R s m args below meth c n0 T cells slots its) (hx : p.tables.exec = Jvm.exec) {x y : Int32} (hy : y ≠ 0) (hd : decode c.code pc = .ok (.irem, 1))
    (k : own_go p e R s below n0 Q (T.setTop (mkF m (pc + 1) Ls (.int (x % y) :: stk)))) : own_go p e R s below n0 Q (T.setTop (mkF m pc Ls (.int y :: .int x :: stk))) := by
  obtain ⟨L, X, N, H⟩ := A
  exact own_by (fun t k => iremM X hx (g := mkF m pc Ls (.int y :: .int x :: stk)) rfl hd rfl hy k) k
theorem own_lrem (A : own_at p l e R s m args below meth c n0 T cells slots its) (hx : p.tables.exec = Jvm.exec) {x y : Int64} (hy : y ≠ 0) (hd : decode c.code pc = .ok (.lrem, 1))
    (k : own_go p e R s below n0 Q (T.setTop (mkF m (pc + 1) Ls (.long (x % y) :: stk)))) : own_go p e R s below n0 Q (T.setTop (mkF m pc Ls (.long y :: .long x :: stk))) := by
  rw [← lrem_mod] at k
  exact own_by (fun t k => XS.lrem A.here hx (g := mkF m pc Ls (.long y :: .long x :: stk)) rfl hd rfl hy k) k
theorem own_initO (A : own_at p l e R s m args below meth c n0 T cells slots its) (hx : p.tables.exec = Jvm.exec) (hZ : Z.Warmed39 s.vm) (hown : s.vm.findClass own = some m.cls) {idx : Nat} (w1 : (Cond.methodLink own idx Lib.objectInit).before a0 Z = true) (w2 : (Cond.instanceMethod Lib.objectInit).before a0 Z = true) (w3 : (Cond.code Lib.objectInit object_method_1_code 1 none).before a0 Z = true)
    (hml : Ls.size = c.maxLocals) {a : Addr} (hd : decode c.code pc = .ok (.invokespecial idx, 3)) (hf : 1 ≤ R.frames) {W : Nat} (hW : 2 * 0 + (stk.map fun v => v.category).sum ≤ W) (hl : W + 12 ≤ R.locals)
    (k : ∀ T', own_at p l e R s m args below meth c n0 T' cells slots its → own_go p e R s below n0 Q (T'.setTop (mkF m (pc + 3) Ls stk))) : own_go p e R s below n0 Q (T.setTop (mkF m pc Ls (.ref a :: stk))) := by
  obtain ⟨L, X, N, H⟩ := A
  obtain ⟨T', X', e', st⟩ := initO X hx hZ hown w1 w2 w3 rfl (g := mkF m pc Ls (.ref a :: stk)) rfl hml rfl hd hf hW hl
  exact own_by st (k T' ⟨L, X', N, by rw [e']; exact H⟩)
/-! the end -/
theorem own_ret (A : own_at p l e R s m args below meth c n0 T cells slots its) (hx : p.tables.exec = Jvm.exec) (hlk : meth.locks = false) {w : Value} {t : FieldType} {i : Instr} (hret : meth.sig.returnType = some t) (hn : narrow t w = w)
    (hi : (i = .ireturn ∧ (t = .int ∨ t = .boolean ∨ t = .byte ∨ t = .char ∨ t = .short) ∧ ∃ z, w = .int z) ∨ (i = .lreturn ∧ t = .long ∧ ∃ z, w = .long z) ∨ (i = .dreturn ∧ t = .double ∧ ∃ z, w = .double z) ∨ (i = .freturn ∧ t = .float ∧ ∃ z, w = .float z) ∨ (i = .areturn ∧ t.isReference = true ∧ w.isRef = true))
    (hd : decode c.code pc = .ok (i, 1)) (hc : cells ≤ R.cells) (hs : slots ≤ R.slots) (hQ : Q (some w) its) : own_go p e R s below n0 Q (T.setTop (mkF m pc Ls (w :: stk))) := by
  obtain ⟨L, X, N, H⟩ := A
  obtain ⟨fs, hr, hrun, hended, hW, hsame⟩ := X.leave (v := some w) (fun h => by rw [hret] at h; cases h) hlk
  exact ⟨_, _, _, _, retOut X hx hret hn hi hd hr, hrun, hended, hQ, N, H, hW, hsame.mono hc hs⟩
theorem own_retI (A : own_at p l e R s m args below meth c n0 T cells slots its) (hx : p.tables.exec = Jvm.exec) (hlk : meth.locks = false) {w : Int32} (hret : meth.sig.returnType = some .int) (hd : decode c.code pc = .ok (.ireturn, 1)) (hc : cells ≤ R.cells) (hs : slots ≤ R.slots) (hQ : Q (some (.int w)) its) : own_go p e R s below n0 Q (T.setTop (mkF m pc Ls (.int w :: stk))) :=
  own_ret A hx hlk hret rfl (Or.inl ⟨rfl, Or.inl rfl, w, rfl⟩) hd hc hs hQ
theorem own_retJ (A : own_at p l e R s m args below meth c n0 T cells slots its) (hx : p.tables.exec = Jvm.exec) (hlk : meth.locks = false) {w : Int64} (hret : meth.sig.returnType = some .long) (hd : decode c.code pc = .ok (.lreturn, 1)) (hc : cells ≤ R.cells) (hs : slots ≤ R.slots) (hQ : Q (some (.long w)) its) : own_go p e R s below n0 Q (T.setTop (mkF m pc Ls (.long w :: stk))) :=
  own_ret A hx hlk hret rfl (Or.inr (Or.inl ⟨rfl, rfl, w, rfl⟩)) hd hc hs hQ
theorem own_retA (A : own_at p l e R s m args below meth c n0 T cells slots its) (hx : p.tables.exec = Jvm.exec) (hlk : meth.locks = false) {a : Addr} {t : FieldType} (hret : meth.sig.returnType = some t) (hn : narrow t (.ref a) = .ref a) (ht : t.isReference = true) (hd : decode c.code pc = .ok (.areturn, 1)) (hc : cells ≤ R.cells) (hs : slots ≤ R.slots) (hQ : Q (some (.ref a)) its) : own_go p e R s below n0 Q (T.setTop (mkF m pc Ls (.ref a :: stk))) :=
  own_ret A hx hlk hret hn (Or.inr (Or.inr (Or.inr (Or.inr ⟨rfl, ht, rfl⟩)))) hd hc hs hQ
theorem own_retN (A : own_at p l e R s m args below meth c n0 T cells slots its) (hx : p.tables.exec = Jvm.exec) (hlk : meth.locks = false) {w : Int32} {t : FieldType} (ht : t = .boolean ∨ t = .byte ∨ t = .char ∨ t = .short) (hret : meth.sig.returnType = some t) (hd : decode c.code pc = .ok (.ireturn, 1)) (hc : cells ≤ R.cells) (hs : slots ≤ R.slots) (hQ : Q (some (.int (nar t w))) its) : own_go p e R s below n0 Q (T.setTop (mkF m pc Ls (.int w :: stk))) := by
  obtain ⟨L, X, N, H⟩ := A
  obtain ⟨fs, hr, hrun, hended, hW, hsame⟩ := X.leave (v := some (.int (nar t w))) (fun h => by rw [hret] at h; cases h) hlk
  exact ⟨_, _, _, _, retN X hx hret ht hd hr, hrun, hended, hQ, N, H, hW, hsame.mono hc hs⟩
theorem own_retV (A : own_at p l e R s m args below meth c n0 T cells slots its) (hx : p.tables.exec = Jvm.exec) (hlk : meth.locks = false) (hret : meth.sig.returnType = none) (hd : decode c.code pc = .ok (.return_, 1)) (hc : cells ≤ R.cells) (hs : slots ≤ R.slots) (hQ : Q none its) : own_go p e R s below n0 Q (T.setTop (mkF m pc Ls [])) := by
  obtain ⟨L, X, N, H⟩ := A
  obtain ⟨fs, hr, hrun, hended, hW, hsame⟩ := X.leave (v := none) (fun _ => rfl) hlk
  exact ⟨_, _, _, _, X.returnOut hx hret hd hr, hrun, hended, hQ, N, H, hW, hsame.mono hc hs⟩
/-! contracts -/
/-- a method's contract: with these arguments, over a heap whose new part is its, it returns as Q says -/
def own_met (l : Launch) (Z : State) (n0 : Nat) (y : MethodName) (bytes : ByteArray) (maxL : Nat) (ret : Option FieldType) (rm : Room) (as : Array Value) (its : List (Cell → Prop)) (Q : Option Value → List (Cell → Prop) → Prop) : Prop :=
  ∀ (h0 : Heap) (ws : List Jvm.Cond), own_hp n0 h0 its → MetFree l y (head1 (Jvm.Cond.code y bytes maxL ret :: ws) rm) (fun a U => a = as ∧ Z.Warmed39 U.vm ∧ U.heap = h0) (fun _ _ _ _ _ => True) (fun _ U o U' => ∃ v L, o = .returned v ∧ (Fr n0 L ∧ ∃ its', Q v its' ∧ own_hp n0 U'.heap its') ∧ FrameEnd U o U' L rm.cells rm.slots)
variable {y z : MethodName} {bytes : ByteArray} {maxL : Nat} {ret : Option FieldType} {rm : Room} {as : Array Value} {Q' : Option Value → List (Cell → Prop) → Prop}
theorem own_met.of (hpn : plainFor y = true)
    (body : ∀ (p : Program) (e : Env) (s : State) (m : MethodId) (below : List Frame) (meth : Method) (c : Code) (T : State), p.tables.exec = Jvm.exec → c.code = bytes → c.maxLocals = maxL → meth.sig.returnType = ret → meth.locks = false → Z.Warmed39 s.vm → s.vm.findClass y.cls = some m.cls → meth.name = y.name → own_at p l e rm s m as below meth c n0 T 0 0 its → own_go p e rm s below n0 Q (T.setTop (entryFrame m as maxL))) :
    own_met l Z n0 y bytes maxL ret rm as its Q := by
  intro h0 ws H
  refine MetFree.of_bodySF hpn hisR ?_
  intro p e s m args below meth c s₁ Bd hml0 hP hK
  obtain ⟨rfl, hZ, hh⟩ := hP
  have X0 : Stand p l e rm s m args below meth c s₁ [] 0 0 := Stand.of_body Bd
  have e0 : s₁.heap = h0 := by rw [← hh, Bd.state]; rfl
  obtain ⟨t, v, L, its', h1, h2, h3, h4, h5, h6, h7, h8⟩ := body p e s m below meth c s₁ Bd.exec Bd.bytes hml0 Bd.returns (BodyLoose.notSynchronized Bd) hZ (findClass_of_methodNamed Bd.named) (name_of_methodNamed Bd.named Bd.method).1 ⟨[], X0, Fr.nil n0, by rw [e0]; exact H⟩
  exact ⟨t, _, h1, h2, h3, v, L, rfl, ⟨h5, its', h4, h6⟩, ⟨_, rfl⟩, h7, h8⟩
theorem own_post {A B : Pt} {rm : Room} {v : Option Value} (hP : ∃ L, (Fr n0 L ∧ ∃ its', Q' v its' ∧ own_hp n0 B.U.heap its') ∧ B.locs = A.locs ++ L ∧ B.cells = A.cells + rm.cells ∧ B.slots = A.slots + rm.slots) (X : Stand p l e R s m args below meth c B.U B.locs B.cells B.slots) (N : Fr n0 A.locs) :
    ∃ its', Q' v its' ∧ own_at p l e R s m args below meth c n0 B.U (A.cells + rm.cells) (A.slots + rm.slots) its' := by
  obtain ⟨L, ⟨h1, its', h2, h3⟩, h4, h5, h6⟩ := hP
  rw [h4, h5, h6] at X
  exact ⟨its', h2, _, X, N.app h1, h3⟩
theorem own_callS (A : own_at p l e R s m args below meth c n0 T cells slots its) (hx : p.tables.exec = Jvm.exec) (hZ : Z.Warmed39 s.vm) (hown : s.vm.findClass own = some m.cls) {index : Nat} (w1 : (Cond.methodLink own index y).before a0 Z = true) (w2 : (Cond.static y).before a0 Z = true) (w3 : (Cond.initialized y.cls).before a0 Z = true) (w4 : (Cond.code y bytes maxL ret).before a0 Z = true)
    (hy : y.cls ≠ "java/lang/invoke/MethodHandle" ∧ y.cls ≠ "java/lang/invoke/VarHandle") (M : own_met l Z n0 y bytes maxL ret rm as its Q') (hml : Ls.size = c.maxLocals) (argsL : List Value) (has : argsL.toArray = as) (hstk : stk = argsL.reverse ++ rest) {ps : List FieldType} {r : Option FieldType} (pd : parseMethodDescriptor y.desc = some ⟨ps, r⟩) (hlen : argsL.length = ps.length)
    {W : Nat} (hW : 2 * 0 + (rest.map fun v => v.category).sum ≤ W) (hd : decode c.code pc = .ok (.invokestatic index, 3)) (hf : rm.frames + 1 ≤ R.frames) (hl : W + (maxL + 11) + rm.locals ≤ R.locals) (hc : cells + rm.cells ≤ R.cells) (hs : slots + rm.slots ≤ R.slots)
    (k : ∀ (v : Option Value) (its' : List (Cell → Prop)) (T' : State), Q' v its' → own_at p l e R s m args below meth c n0 T' (cells + rm.cells) (slots + rm.slots) its' → own_go p e R s below n0 Q (T'.setTop (mkF m (pc + 3) Ls (v.toList ++ rest)))) :
    own_go p e R s below n0 Q (T.setTop (mkF m pc Ls stk)) := by
  obtain ⟨L, X, N, H⟩ := A
  subst hstk has
  obtain ⟨v, vm1, B, -, XB, hP, st⟩ := Jvm.LawKit.callS X hx (y := y) hown (mvT hZ w1) (mvT hZ w2) (mvT hZ w3) (mvT hZ w4) hy (backOf (W := W) (Q := fun v h L => Fr n0 L ∧ ∃ its', Q' v its' ∧ own_hp n0 h its') (M T.heap [] H) hZ w4 w3 hf hl) (g := mkF m pc Ls (argsL.reverse ++ rest)) rfl hml (argsL := argsL) (rest := rest) (lenOf pd hlen) rfl hW hd (fun _ _ => ⟨rfl, rfl, hc, hs⟩)
  obtain ⟨its', q1, q2⟩ := own_post hP XB N
  exact own_by st (k v its' B.U q1 q2)
theorem own_tr {u u' : State} (st : Steps p.tables e below u u') (k : own_go p e R s below n0 Q u') : own_go p e R s below n0 Q u := own_by (fun _ q => st.trans q) k
theorem own_callC (A : own_at p l e R s m args below meth c n0 T cells slots its) (hx : p.tables.exec = Jvm.exec) (hZ : Z.Warmed39 s.vm) (hown : s.vm.findClass own = some m.cls) {index : Nat} (hy1 : y.name = "<init>") (w1 : (Cond.methodLink own index y).before a0 Z = true) (w2 : (Cond.instanceMethod y).before a0 Z = true) (w3 : (Cond.initialized y.cls).before a0 Z = true) (w4 : (Cond.code y bytes maxL none).before a0 Z = true)
    (hy : y.cls ≠ "java/lang/invoke/MethodHandle" ∧ y.cls ≠ "java/lang/invoke/VarHandle") (M : own_met l Z n0 y bytes maxL none rm as its Q') (hml : Ls.size = c.maxLocals) (a : Addr) (argsL : List Value) (has : (Value.ref a :: argsL).toArray = as) (hstk : stk = argsL.reverse ++ .ref a :: rest) {ps : List FieldType} {r : Option FieldType} (pd : parseMethodDescriptor y.desc = some ⟨ps, r⟩) (hlen : argsL.length = ps.length)
    {W : Nat} (hW : 2 * 0 + (rest.map fun v => v.category).sum ≤ W) (hd : decode c.code pc = .ok (.invokespecial index, 3)) (hf : rm.frames + 1 ≤ R.frames) (hl : W + (maxL + 11) + rm.locals ≤ R.locals) (hc : cells + rm.cells ≤ R.cells) (hs : slots + rm.slots ≤ R.slots)
    (k : ∀ (v : Option Value) (its' : List (Cell → Prop)) (T' : State), Q' v its' → own_at p l e R s m args below meth c n0 T' (cells + rm.cells) (slots + rm.slots) its' → own_go p e R s below n0 Q (T'.setTop (mkF m (pc + 3) Ls (v.toList ++ rest)))) :
    own_go p e R s below n0 Q (T.setTop (mkF m pc Ls stk)) := by
  obtain ⟨L, X, N, H⟩ := A
  subst hstk has
  obtain ⟨v, vm1, B, -, XB, hP, st⟩ := X.specialBack hx (y := y) hy1 hown (mvT hZ w1) (mvT hZ w2) (mvT hZ w4) hy (backOf (W := W) (Q := fun v h L => Fr n0 L ∧ ∃ its', Q' v its' ∧ own_hp n0 h its') (M T.heap [] H) hZ w4 w3 hf hl) (g := mkF m pc Ls (argsL.reverse ++ .ref a :: rest)) rfl hml (Steps.refl _) (a := a) (argsL := argsL) (rest := rest) (lenOf pd hlen) rfl hW hd (fun _ _ => ⟨rfl, rfl, hc, hs⟩)
  obtain ⟨its', q1, q2⟩ := own_post hP XB N
  exact own_tr st (k v its' B.U q1 q2)
theorem own_callV (A : own_at p l e R s m args below meth c n0 T cells slots its) (hx : p.tables.exec = Jvm.exec) (hZ : Z.Warmed39 s.vm) (hown : s.vm.findClass own = some m.cls) {index i : Nat} (w1 : (Cond.methodLink own index y).before a0 Z = true) (w2 : (Cond.declares y).before a0 Z = true) (w3 : (Cond.selects y.cls y y).before a0 Z = true) (w4 : (Cond.instanceMethod y).before a0 Z = true) (w5 : (Cond.initialized y.cls).before a0 Z = true) (w6 : (Cond.code y bytes maxL ret).before a0 Z = true)
    (hy : y.cls ≠ "java/lang/invoke/MethodHandle" ∧ y.cls ≠ "java/lang/invoke/VarHandle") {ns : List (String × String)} {vs : List Value} (hi : its[i]? = some (own_obj Z y.cls ns vs)) (M : own_met l Z n0 y bytes maxL ret rm as its Q') (hml : Ls.size = c.maxLocals) (argsL : List Value) (has : (Value.ref (n0 + i) :: argsL).toArray = as) (hstk : stk = argsL.reverse ++ .ref (n0 + i) :: rest) {ps : List FieldType} {r : Option FieldType} (pd : parseMethodDescriptor y.desc = some ⟨ps, r⟩) (hlen : argsL.length = ps.length)
    {W : Nat} (hW : 2 * 0 + (rest.map fun v => v.category).sum ≤ W) (hd : decode c.code pc = .ok (.invokevirtual index, 3)) (hf : rm.frames + 1 ≤ R.frames) (hl : W + (maxL + 11) + rm.locals ≤ R.locals) (hc : cells + rm.cells ≤ R.cells) (hs : slots + rm.slots ≤ R.slots)
    (k : ∀ (v : Option Value) (its' : List (Cell → Prop)) (T' : State), Q' v its' → own_at p l e R s m args below meth c n0 T' (cells + rm.cells) (slots + rm.slots) its' → own_go p e R s below n0 Q (T'.setTop (mkF m (pc + 3) Ls (v.toList ++ rest)))) :
    own_go p e R s below n0 Q (T.setTop (mkF m pc Ls stk)) := by
  obtain ⟨L, X, N, H⟩ := A
  subst hstk has
  obtain ⟨cl, g1, g2⟩ := H.2 i _ hi
  obtain ⟨cq, kq, q3a, q3b, q3c⟩ := isOf (T := T) hZ rfl (g2 _ _ g1).1
  obtain ⟨v, vm1, B, -, XB, hP, st⟩ := X.virtualBack hx (y := y) (z := y) hown (mvT hZ w1) (mvT hZ w2) (notFace_of_selects (args := #[]) (mvT hZ w3)) (mvT hZ w3) (mvT hZ w4) hy (backOf (W := W) (Q := fun v h L => Fr n0 L ∧ ∃ its', Q' v its' ∧ own_hp n0 h its') (M T.heap [] H) hZ w6 w5 hf hl) q3a q3c (g := mkF m pc Ls (argsL.reverse ++ .ref (n0 + i) :: rest)) rfl hml (Steps.refl _) (argsL := argsL) (rest := rest) (lenOf pd hlen) rfl hW hd (fun _ _ => ⟨rfl, rfl, hc, hs⟩)
  obtain ⟨its', q1, q2⟩ := own_post hP XB N
  exact own_tr st (k v its' B.U q1 q2)
theorem own_callP (A : own_at p l e R s m args below meth c n0 T cells slots its) (hx : p.tables.exec = Jvm.exec) (hZ : Z.Warmed39 s.vm) (hown : s.vm.findClass own = some m.cls) {index i : Nat} (w1 : (Cond.methodLink own index y).before a0 Z = true) (w2 : (Cond.privateMethod y).before a0 Z = true) {kk : Nat} (w3 : (Cond.instantiable y.cls kk).before a0 Z = true) (w4 : (Cond.instanceMethod y).before a0 Z = true) (w5 : (Cond.initialized y.cls).before a0 Z = true) (w6 : (Cond.code y bytes maxL ret).before a0 Z = true)
    (hy : y.cls ≠ "java/lang/invoke/MethodHandle" ∧ y.cls ≠ "java/lang/invoke/VarHandle") {ns : List (String × String)} {vs : List Value} (hi : its[i]? = some (own_obj Z y.cls ns vs)) (M : own_met l Z n0 y bytes maxL ret rm as its Q') (hml : Ls.size = c.maxLocals) (argsL : List Value) (has : (Value.ref (n0 + i) :: argsL).toArray = as) (hstk : stk = argsL.reverse ++ .ref (n0 + i) :: rest) {ps : List FieldType} {r : Option FieldType} (pd : parseMethodDescriptor y.desc = some ⟨ps, r⟩) (hlen : argsL.length = ps.length)
    {W : Nat} (hW : 2 * 0 + (rest.map fun v => v.category).sum ≤ W) (hd : decode c.code pc = .ok (.invokevirtual index, 3)) (hf : rm.frames + 1 ≤ R.frames) (hl : W + (maxL + 11) + rm.locals ≤ R.locals) (hc : cells + rm.cells ≤ R.cells) (hs : slots + rm.slots ≤ R.slots)
    (k : ∀ (v : Option Value) (its' : List (Cell → Prop)) (T' : State), Q' v its' → own_at p l e R s m args below meth c n0 T' (cells + rm.cells) (slots + rm.slots) its' → own_go p e R s below n0 Q (T'.setTop (mkF m (pc + 3) Ls (v.toList ++ rest)))) :
    own_go p e R s below n0 Q (T.setTop (mkF m pc Ls stk)) := by
  obtain ⟨L, X, N, H⟩ := A
  subst hstk has
  obtain ⟨cl, g1, g2⟩ := H.2 i _ hi
  obtain ⟨cq, q3a, q3b⟩ := (g2 _ _ g1).1.cell
  obtain ⟨c1, k1, i1, i2, -, i4, -⟩ := Cond.instantiable_spec (mvT (s := s) (args := args) hZ w3)
  have hpr : s.PrivateAt y := Cond.privateMethod_at (mvP hZ w2 (args := #[]))
  have hsel : (Cond.selects y.cls y y).before args s = true := selects_self_of_private i1 i2 (Bool.or_eq_false_iff.mp i4).1 hpr (mvT hZ w4) hy
  obtain ⟨v, vm1, B, -, XB, hP, st⟩ := X.privateBack hx (y := y) hown (mvT hZ w1) (mvT hZ w4) hsel hpr (mvT hZ w6) hy (backOf (W := W) (Q := fun v h L => Fr n0 L ∧ ∃ its', Q' v its' ∧ own_hp n0 h its') (M T.heap [] H) hZ w6 w5 hf hl) (g := mkF m pc Ls (argsL.reverse ++ .ref (n0 + i) :: rest)) rfl hml (Steps.refl _) (a := n0 + i) q3a q3b (argsL := argsL) (rest := rest) (lenOf pd hlen) rfl hW hd (fun _ _ => ⟨rfl, rfl, hc, hs⟩)
  obtain ⟨its', q1, q2⟩ := own_post hP XB N
  exact own_tr st (k v its' B.U q1 q2)
/-! comparisons of longs -/
theorem own_lc_lt {x y : Int64} (h : x < y) : lcmpW x y < 0 := by rw [lcW]; exact (lc_lt x y).mpr h
theorem own_lc_nlt {x y : Int64} (h : ¬ x < y) : ¬ lcmpW x y < 0 := by rw [lcW]; exact fun q => h ((lc_lt x y).mp q)
theorem own_lc_gt {x y : Int64} (h : y < x) : 0 < lcmpW x y := by rw [lcW]; exact (lc_gt x y).mpr h
theorem own_lc_ngt {x y : Int64} (h : ¬ y < x) : ¬ 0 < lcmpW x y := by rw [lcW]; exact fun q => h ((lc_gt x y).mp q)
theorem own_lc_eq {x y : Int64} (h : x = y) : lcmpW x y = 0 := by subst h; unfold lcmpW; simp
theorem own_lc_ne {x y : Int64} (h : ¬ x = y) : ¬ lcmpW x y = 0 := by
  unfold lcmpW
  (repeat' split) <;> first | decide | (exfalso; exact h (by assumption))
end Own
def own_g (xs : List Int32) (j : Int32) : Int32 := xs.getD j.toNatClampNeg 0
theorem own_rd {xs : List Int32} {j : Int32} {n : Nat} (hn : xs.length = n) (h0 : 0 ≤ j.toInt) (h1 : j.toInt < n) : ¬ j < 0 ∧ xs[j.toNatClampNeg]? = some (own_g xs j) := by
  have e0 : (0 : Int32).toInt = 0 := rfl
  have q : j.toNatClampNeg < xs.length := by rw [Int32.toNatClampNeg]; omega
  refine ⟨by rw [Int32.lt_iff_toInt_lt, e0]; omega, ?_⟩
  unfold own_g
  rw [List.getD_eq_getElem?_getD, List.getElem?_eq_getElem q]; rfl
theorem own_inc {j : Int32} (d : Int32) (n : Nat) (hd : d.toInt = n) (hn : n ≤ 100) (h0 : 0 ≤ j.toInt) (h1 : j.toInt < 1000) : (j + d).toInt = j.toInt + n := by
  have b := rng32 j
  have q := c_iadd j d
  have b2 := rng32 (j + d)
  rw [hd] at q; omega
theorem own_dec {j : Int32} (d : Int32) (n : Nat) (hd : d.toInt = n) (hn : n ≤ 100) (h0 : 0 ≤ j.toInt) (h1 : j.toInt < 1000) : (j - d).toInt = j.toInt - n := by
  have b := rng32 j
  have q := c_isub j d
  have b2 := rng32 (j - d)
  rw [hd] at q; omega
theorem own_lt {a b : Int32} : a < b ↔ a.toInt < b.toInt := Int32.lt_iff_toInt_lt
theorem own_pos (x : Int32) : 0 ≤ (x &&& (2147483647 : Int32)).toInt := (c_and x 2147483647 (by decide)).1
theorem own_rem (x : Int32) (d : Int32) (n : Nat) (hd : d.toInt = n) (hn : 0 < n) : 0 ≤ ((x &&& (2147483647 : Int32)) % d).toInt ∧ ((x &&& (2147483647 : Int32)) % d).toInt < n := by
  have q := (c_irem (x &&& (2147483647 : Int32)) d n hd).1 (own_pos x)
  have m1 := Int.emod_nonneg (x &&& (2147483647 : Int32)).toInt (b := (n : Int)) (by omega)
  have m2 := Int.emod_lt_of_pos (x &&& (2147483647 : Int32)).toInt (b := (n : Int)) (by omega)
  omega

def ns_UseOrder : List (String × String) := [("lastUse", "[I"), ("freeSlots", "[I"), ("log", "[I"), ("freeCount", "I"), ("taken", "I"), ("used", "I"), ("end", "I"), ("first", "I")]
theorem ap_ns_UseOrder {Z : State} {a0 : Array Value} (hw : ∀ d ∈ tables_1, d.before a0 Z = true) : own_apart Z "com/example/cairn/cairn/cache/UseOrder" ns_UseOrder := own_apart_of (a0 := a0) (own_cons ⟨(Or.inl (hw _ (List.mem_of_getElem? (i := 11) rfl))), (.array .int), by decide⟩ (own_cons ⟨(Or.inl (hw _ (List.mem_of_getElem? (i := 13) rfl))), (.array .int), by decide⟩ (own_cons ⟨(Or.inl (hw _ (List.mem_of_getElem? (i := 15) rfl))), (.array .int), by decide⟩ (own_cons ⟨(Or.inl (hw _ (List.mem_of_getElem? (i := 22) rfl))), .int, by decide⟩ (own_cons ⟨(Or.inl (hw _ (List.mem_of_getElem? (i := 24) rfl))), .int, by decide⟩ (own_cons ⟨(Or.inl (hw _ (List.mem_of_getElem? (i := 26) rfl))), .int, by decide⟩ (own_cons ⟨(Or.inl (hw _ (List.mem_of_getElem? (i := 33) rfl))), .int, by decide⟩ (own_cons ⟨(Or.inl (hw _ (List.mem_of_getElem? (i := 45) rfl))), .int, by decide⟩ own_nil)))))))) (by decide +kernel)
theorem own_ne {en : Int32} {q : Nat} (h : ¬ en < 0 ∧ en.toNatClampNeg = q ∧ q < 32) : ¬ en = (32 : Int32) := fun z => by
  obtain ⟨h1, h2, h3⟩ := h; subst z; revert h2 h3; rw [show (32 : Int32).toNatClampNeg = 32 from rfl]; omega
theorem own_ne16 {en : Int32} {q : Nat} (h : ¬ en < 0 ∧ en.toNatClampNeg = q ∧ q < 16) : ¬ en = (16 : Int32) := fun z => by
  obtain ⟨h1, h2, h3⟩ := h; subst z; revert h2 h3; rw [show (16 : Int32).toNatClampNeg = 16 from rfl]; omega
theorem d_prog_15_method_1_0 : decode prog_15_method_1_code 0 = .ok (.aload_n 0, 1) := by decide +kernel
theorem d_prog_15_method_1_1 : decode prog_15_method_1_code 1 = .ok (.invokespecial 1, 3) := by decide +kernel
theorem d_prog_15_method_1_4 : decode prog_15_method_1_code 4 = .ok (.aload_n 0, 1) := by decide +kernel
theorem d_prog_15_method_1_5 : decode prog_15_method_1_code 5 = .ok (.bipush 16, 2) := by decide +kernel
theorem d_prog_15_method_1_7 : decode prog_15_method_1_code 7 = .ok (.newarray .int, 2) := by decide +kernel
theorem d_prog_15_method_1_9 : decode prog_15_method_1_code 9 = .ok (.putfield 9, 3) := by decide +kernel
theorem d_prog_15_method_1_12 : decode prog_15_method_1_code 12 = .ok (.aload_n 0, 1) := by decide +kernel
theorem d_prog_15_method_1_13 : decode prog_15_method_1_code 13 = .ok (.bipush 16, 2) := by decide +kernel
theorem d_prog_15_method_1_15 : decode prog_15_method_1_code 15 = .ok (.newarray .int, 2) := by decide +kernel
theorem d_prog_15_method_1_17 : decode prog_15_method_1_code 17 = .ok (.putfield 13, 3) := by decide +kernel
theorem d_prog_15_method_1_20 : decode prog_15_method_1_code 20 = .ok (.aload_n 0, 1) := by decide +kernel
theorem d_prog_15_method_1_21 : decode prog_15_method_1_code 21 = .ok (.bipush 32, 2) := by decide +kernel
theorem d_prog_15_method_1_23 : decode prog_15_method_1_code 23 = .ok (.newarray .int, 2) := by decide +kernel
theorem d_prog_15_method_1_25 : decode prog_15_method_1_code 25 = .ok (.putfield 16, 3) := by decide +kernel
theorem d_prog_15_method_1_28 : decode prog_15_method_1_code 28 = .ok (.return_, 1) := by decide +kernel
theorem pf_gC : plainFor (⟨"com/example/cairn/cairn/cache/UseOrder", "<init>", "()V"⟩ : MethodName) = true := by first | exact plainFor_of_name (by first | (simp [plainName, overriddenIn]; done) | decide +kernel) | decide +kernel
theorem ef_gC (m : MethodId) (n0 : Nat) : entryFrame m #[(.ref (n0 + 0))] 1 = (mkF m 0 #[.val (.ref (n0 + 0))] []) := by first | (simp [entryFrame, mkF, argsToLocals, Value.category]; done) | rfl
set_option maxRecDepth 65536 in
set_option maxHeartbeats 40000000 in
theorem gC (l : Launch) (Z : State) (a0 : Array Value) (hw : ∀ d ∈ tables_1, d.before a0 Z = true) (n0 : Nat)   :
    own_met l Z n0 (⟨"com/example/cairn/cairn/cache/UseOrder", "<init>", "()V"⟩ : MethodName) prog_15_method_1_code 1 none ({ frames := 1, cells := 3, slots := 64, locals := 12 } : Room) #[(.ref (n0 + 0))] [(own_obj Z "com/example/cairn/cairn/cache/UseOrder" ns_UseOrder [.null, .null, .null, (.int (0 : Int32)), (.int (0 : Int32)), (.int (0 : Int32)), (.int (0 : Int32)), (.int (0 : Int32))])] (fun v its' => v = none ∧ its' = [(own_obj Z "com/example/cairn/cairn/cache/UseOrder" ns_UseOrder [(.ref (n0 + 1)), (.ref (n0 + 2)), (.ref (n0 + 3)), (.int (0 : Int32)), (.int (0 : Int32)), (.int (0 : Int32)), (.int (0 : Int32)), (.int (0 : Int32))]), (own_ia Z .int (List.replicate 16 (0 : Int32))), (own_ia Z .int (List.replicate 16 (0 : Int32))), (own_ia Z .int (List.replicate 32 (0 : Int32)))]) := by
  refine own_met.of pf_gC ?_
  intro p e s m below meth c T0 hx hby hml hret hlk hZ hown hnm A0
  replace hown : s.vm.findClass "com/example/cairn/cairn/cache/UseOrder" = some m.cls := hown
  replace hml : c.maxLocals = 1 := hml
  rw [ef_gC m n0]
  show own_go _ _ _ _ _ _ _ (T0.setTop (mkF m 0 #[.val (.ref (n0 + 0))] []))
  refine own_by (u' := T0.setTop (mkF m 1 #[.val (.ref (n0 + 0))] [(.ref (n0 + 0))])) (fun _ k => XS.aloadN A0.here hx rfl (own_db hby d_prog_15_method_1_0) rfl rfl k) ?_
  refine own_initO A0 hx hZ hown (hw _ (List.mem_of_getElem? (i := 6) rfl)) (hw _ (List.mem_of_getElem? (i := 7) rfl)) (hw _ (List.mem_of_getElem? (i := 8) rfl)) (by rw [hml]; rfl) (own_db hby d_prog_15_method_1_1) (by decide) (W := 0) (by show 2 * 0 + _ ≤ _; exact Nat.le_of_eq rfl) (by decide) ?_
  intro T1 A2
  show own_go _ _ _ _ _ _ _ (T1.setTop (mkF m 4 #[.val (.ref (n0 + 0))] []))
  refine own_by (u' := T1.setTop (mkF m 5 #[.val (.ref (n0 + 0))] [(.ref (n0 + 0))])) (fun _ k => XS.aloadN A2.here hx rfl (own_db hby d_prog_15_method_1_4) rfl rfl k) ?_
  refine own_by (u' := T1.setTop (mkF m 7 #[.val (.ref (n0 + 0))] [(.int (16 : Int32)), (.ref (n0 + 0))])) (fun _ k => XS.bipush A2.here hx rfl (own_db hby d_prog_15_method_1_5) k) ?_
  refine own_newP (aty := .int) A2 hx hZ (hw _ (List.mem_of_getElem? (i := 9) rfl)) (own_db hby d_prog_15_method_1_7) (16) ⟨by decide, by decide⟩ (cap := 16) (by decide) (by decide) rfl (by decide) (by decide) ?_
  intro T3 A4
  replace A4 : own_at p l e _ s m _ below meth c n0 T3 1 16 [(own_obj Z "com/example/cairn/cairn/cache/UseOrder" ns_UseOrder [.null, .null, .null, (.int (0 : Int32)), (.int (0 : Int32)), (.int (0 : Int32)), (.int (0 : Int32)), (.int (0 : Int32))]), (own_ia Z .int (List.replicate 16 (0 : Int32)))] := A4
  show own_go _ _ _ _ _ _ _ (T3.setTop (mkF m 9 #[.val (.ref (n0 + 0))] [(.ref (n0 + 1)), (.ref (n0 + 0))]))
  refine own_putF A4 hx hZ hown (hw _ (List.mem_of_getElem? (i := 10) rfl)) (i := 0) rfl 0 rfl (v' := (.ref (n0 + 1))) rfl (ap_ns_UseOrder hw) (Or.inl (hw _ (List.mem_of_getElem? (i := 11) rfl))) (hw _ (List.mem_of_getElem? (i := 1) rfl)) (ty := (.array .int)) (by decide) rfl rfl (own_db hby d_prog_15_method_1_9) (its2 := [(own_obj Z "com/example/cairn/cairn/cache/UseOrder" ns_UseOrder [(.ref (n0 + 1)), .null, .null, (.int (0 : Int32)), (.int (0 : Int32)), (.int (0 : Int32)), (.int (0 : Int32)), (.int (0 : Int32))]), (own_ia Z .int (List.replicate 16 (0 : Int32)))]) rfl ?_
  intro T5 A6
  show own_go _ _ _ _ _ _ _ (T5.setTop (mkF m 12 #[.val (.ref (n0 + 0))] []))
  refine own_by (u' := T5.setTop (mkF m 13 #[.val (.ref (n0 + 0))] [(.ref (n0 + 0))])) (fun _ k => XS.aloadN A6.here hx rfl (own_db hby d_prog_15_method_1_12) rfl rfl k) ?_
  refine own_by (u' := T5.setTop (mkF m 15 #[.val (.ref (n0 + 0))] [(.int (16 : Int32)), (.ref (n0 + 0))])) (fun _ k => XS.bipush A6.here hx rfl (own_db hby d_prog_15_method_1_13) k) ?_
  refine own_newP (aty := .int) A6 hx hZ (hw _ (List.mem_of_getElem? (i := 9) rfl)) (own_db hby d_prog_15_method_1_15) (16) ⟨by decide, by decide⟩ (cap := 16) (by decide) (by decide) rfl (by decide) (by decide) ?_
  intro T7 A8
  replace A8 : own_at p l e _ s m _ below meth c n0 T7 2 32 [(own_obj Z "com/example/cairn/cairn/cache/UseOrder" ns_UseOrder [(.ref (n0 + 1)), .null, .null, (.int (0 : Int32)), (.int (0 : Int32)), (.int (0 : Int32)), (.int (0 : Int32)), (.int (0 : Int32))]), (own_ia Z .int (List.replicate 16 (0 : Int32))), (own_ia Z .int (List.replicate 16 (0 : Int32)))] := A8
  show own_go _ _ _ _ _ _ _ (T7.setTop (mkF m 17 #[.val (.ref (n0 + 0))] [(.ref (n0 + 2)), (.ref (n0 + 0))]))
  refine own_putF A8 hx hZ hown (hw _ (List.mem_of_getElem? (i := 12) rfl)) (i := 0) rfl 1 rfl (v' := (.ref (n0 + 2))) rfl (ap_ns_UseOrder hw) (Or.inl (hw _ (List.mem_of_getElem? (i := 13) rfl))) (hw _ (List.mem_of_getElem? (i := 1) rfl)) (ty := (.array .int)) (by decide) rfl rfl (own_db hby d_prog_15_method_1_17) (its2 := [(own_obj Z "com/example/cairn/cairn/cache/UseOrder" ns_UseOrder [(.ref (n0 + 1)), (.ref (n0 + 2)), .null, (.int (0 : Int32)), (.int (0 : Int32)), (.int (0 : Int32)), (.int (0 : Int32)), (.int (0 : Int32))]), (own_ia Z .int (List.replicate 16 (0 : Int32))), (own_ia Z .int (List.replicate 16 (0 : Int32)))]) rfl ?_
  intro T9 A10
  show own_go _ _ _ _ _ _ _ (T9.setTop (mkF m 20 #[.val (.ref (n0 + 0))] []))
  refine own_by (u' := T9.setTop (mkF m 21 #[.val (.ref (n0 + 0))] [(.ref (n0 + 0))])) (fun _ k => XS.aloadN A10.here hx rfl (own_db hby d_prog_15_method_1_20) rfl rfl k) ?_
  refine own_by (u' := T9.setTop (mkF m 23 #[.val (.ref (n0 + 0))] [(.int (32 : Int32)), (.ref (n0 + 0))])) (fun _ k => XS.bipush A10.here hx rfl (own_db hby d_prog_15_method_1_21) k) ?_
  refine own_newP (aty := .int) A10 hx hZ (hw _ (List.mem_of_getElem? (i := 9) rfl)) (own_db hby d_prog_15_method_1_23) (32) ⟨by decide, by decide⟩ (cap := 32) (by decide) (by decide) rfl (by decide) (by decide) ?_
  intro T11 A12
  replace A12 : own_at p l e _ s m _ below meth c n0 T11 3 64 [(own_obj Z "com/example/cairn/cairn/cache/UseOrder" ns_UseOrder [(.ref (n0 + 1)), (.ref (n0 + 2)), .null, (.int (0 : Int32)), (.int (0 : Int32)), (.int (0 : Int32)), (.int (0 : Int32)), (.int (0 : Int32))]), (own_ia Z .int (List.replicate 16 (0 : Int32))), (own_ia Z .int (List.replicate 16 (0 : Int32))), (own_ia Z .int (List.replicate 32 (0 : Int32)))] := A12
  show own_go _ _ _ _ _ _ _ (T11.setTop (mkF m 25 #[.val (.ref (n0 + 0))] [(.ref (n0 + 3)), (.ref (n0 + 0))]))
  refine own_putF A12 hx hZ hown (hw _ (List.mem_of_getElem? (i := 14) rfl)) (i := 0) rfl 2 rfl (v' := (.ref (n0 + 3))) rfl (ap_ns_UseOrder hw) (Or.inl (hw _ (List.mem_of_getElem? (i := 15) rfl))) (hw _ (List.mem_of_getElem? (i := 1) rfl)) (ty := (.array .int)) (by decide) rfl rfl (own_db hby d_prog_15_method_1_25) (its2 := [(own_obj Z "com/example/cairn/cairn/cache/UseOrder" ns_UseOrder [(.ref (n0 + 1)), (.ref (n0 + 2)), (.ref (n0 + 3)), (.int (0 : Int32)), (.int (0 : Int32)), (.int (0 : Int32)), (.int (0 : Int32)), (.int (0 : Int32))]), (own_ia Z .int (List.replicate 16 (0 : Int32))), (own_ia Z .int (List.replicate 16 (0 : Int32))), (own_ia Z .int (List.replicate 32 (0 : Int32)))]) rfl ?_
  intro T13 A14
  show own_go _ _ _ _ _ _ _ (T13.setTop (mkF m 28 #[.val (.ref (n0 + 0))] []))
  exact own_retV A14 hx hlk hret (own_db hby d_prog_15_method_1_28) (by decide) (by decide) ⟨rfl, rfl⟩
theorem d_prog_15_method_3_0 : decode prog_15_method_3_code 0 = .ok (.aload_n 0, 1) := by decide +kernel
theorem d_prog_15_method_3_1 : decode prog_15_method_3_code 1 = .ok (.getfield 39, 3) := by decide +kernel
theorem d_prog_15_method_3_4 : decode prog_15_method_3_code 4 = .ok (.aload_n 0, 1) := by decide +kernel
theorem d_prog_15_method_3_5 : decode prog_15_method_3_code 5 = .ok (.getfield 16, 3) := by decide +kernel
theorem d_prog_15_method_3_8 : decode prog_15_method_3_code 8 = .ok (.arraylength, 1) := by decide +kernel
theorem d_prog_15_method_3_9 : decode prog_15_method_3_code 9 = .ok (.if_icmp .ne 7, 3) := by decide +kernel
theorem d_prog_15_method_3_16 : decode prog_15_method_3_code 16 = .ok (.aload_n 0, 1) := by decide +kernel
theorem d_prog_15_method_3_17 : decode prog_15_method_3_code 17 = .ok (.getfield 16, 3) := by decide +kernel
theorem d_prog_15_method_3_20 : decode prog_15_method_3_code 20 = .ok (.aload_n 0, 1) := by decide +kernel
theorem d_prog_15_method_3_21 : decode prog_15_method_3_code 21 = .ok (.getfield 39, 3) := by decide +kernel
theorem d_prog_15_method_3_24 : decode prog_15_method_3_code 24 = .ok (.iload_n 1, 1) := by decide +kernel
theorem d_prog_15_method_3_25 : decode prog_15_method_3_code 25 = .ok (.iastore, 1) := by decide +kernel
theorem d_prog_15_method_3_26 : decode prog_15_method_3_code 26 = .ok (.aload_n 0, 1) := by decide +kernel
theorem d_prog_15_method_3_27 : decode prog_15_method_3_code 27 = .ok (.getfield 9, 3) := by decide +kernel
theorem d_prog_15_method_3_30 : decode prog_15_method_3_code 30 = .ok (.iload_n 1, 1) := by decide +kernel
theorem d_prog_15_method_3_31 : decode prog_15_method_3_code 31 = .ok (.aload_n 0, 1) := by decide +kernel
theorem d_prog_15_method_3_32 : decode prog_15_method_3_code 32 = .ok (.getfield 39, 3) := by decide +kernel
theorem d_prog_15_method_3_35 : decode prog_15_method_3_code 35 = .ok (.iastore, 1) := by decide +kernel
theorem d_prog_15_method_3_36 : decode prog_15_method_3_code 36 = .ok (.aload_n 0, 1) := by decide +kernel
theorem d_prog_15_method_3_37 : decode prog_15_method_3_code 37 = .ok (.dup, 1) := by decide +kernel
theorem d_prog_15_method_3_38 : decode prog_15_method_3_code 38 = .ok (.getfield 39, 3) := by decide +kernel
theorem d_prog_15_method_3_41 : decode prog_15_method_3_code 41 = .ok (.iconst 1, 1) := by decide +kernel
theorem d_prog_15_method_3_42 : decode prog_15_method_3_code 42 = .ok (.iadd, 1) := by decide +kernel
theorem d_prog_15_method_3_43 : decode prog_15_method_3_code 43 = .ok (.putfield 39, 3) := by decide +kernel
theorem d_prog_15_method_3_46 : decode prog_15_method_3_code 46 = .ok (.return_, 1) := by decide +kernel
theorem pf_gU : plainFor (⟨"com/example/cairn/cairn/cache/UseOrder", "use", "(I)V"⟩ : MethodName) = true := by first | exact plainFor_of_name (by first | (simp [plainName, overriddenIn]; done) | decide +kernel) | decide +kernel
theorem ef_gU (m : MethodId) (n0 : Nat) (sl : Int32) : entryFrame m #[(.ref (n0 + 0)), (.int sl)] 2 = (mkF m 0 #[.val (.ref (n0 + 0)), .val (.int sl)] []) := by first | (simp [entryFrame, mkF, argsToLocals, Value.category]; done) | rfl
set_option maxRecDepth 65536 in
set_option maxHeartbeats 40000000 in
theorem gU (l : Launch) (Z : State) (a0 : Array Value) (hw : ∀ d ∈ tables_1, d.before a0 Z = true) (n0 : Nat) (lu : List Int32) (fs : List Int32) (lg : List Int32) (fc : Int32) (tk : Int32) (us : Int32) (en : Int32) (fi : Int32) (sl : Int32) (q : Nat) (r : Nat) (hu : lu.length = 16) (hs : fs.length = 16) (hl : lg.length = 32) (hen : ¬ en < 0 ∧ en.toNatClampNeg = q ∧ q < 32) (hsl : ¬ sl < 0 ∧ sl.toNatClampNeg = r ∧ r < 16) :
    own_met l Z n0 (⟨"com/example/cairn/cairn/cache/UseOrder", "use", "(I)V"⟩ : MethodName) prog_15_method_3_code 2 none ({ frames := 0, cells := 0, slots := 0, locals := 0 } : Room) #[(.ref (n0 + 0)), (.int sl)] [(own_obj Z "com/example/cairn/cairn/cache/UseOrder" ns_UseOrder [(.ref (n0 + 1)), (.ref (n0 + 2)), (.ref (n0 + 3)), (.int fc), (.int tk), (.int us), (.int en), (.int fi)]), (own_ia Z .int lu), (own_ia Z .int fs), (own_ia Z .int lg)] (fun v its' => v = none ∧ its' = [(own_obj Z "com/example/cairn/cairn/cache/UseOrder" ns_UseOrder [(.ref (n0 + 1)), (.ref (n0 + 2)), (.ref (n0 + 3)), (.int fc), (.int tk), (.int us), (.int (en + (1 : Int32))), (.int fi)]), (own_ia Z .int (lu.set r en)), (own_ia Z .int fs), (own_ia Z .int (lg.set q sl))]) := by
  refine own_met.of pf_gU ?_
  intro p e s m below meth c T0 hx hby hml hret hlk hZ hown hnm A0
  replace hown : s.vm.findClass "com/example/cairn/cairn/cache/UseOrder" = some m.cls := hown
  replace hml : c.maxLocals = 2 := hml
  rw [ef_gU m n0 sl]
  show own_go _ _ _ _ _ _ _ (T0.setTop (mkF m 0 #[.val (.ref (n0 + 0)), .val (.int sl)] []))
  refine own_by (u' := T0.setTop (mkF m 1 #[.val (.ref (n0 + 0)), .val (.int sl)] [(.ref (n0 + 0))])) (fun _ k => XS.aloadN A0.here hx rfl (own_db hby d_prog_15_method_3_0) rfl rfl k) ?_
  refine own_getF A0 hx hZ hown (hw _ (List.mem_of_getElem? (i := 32) rfl)) (i := 0) rfl 6 rfl rfl (own_db hby d_prog_15_method_3_1) ?_
  intro T1 A2
  show own_go _ _ _ _ _ _ _ (T1.setTop (mkF m 4 #[.val (.ref (n0 + 0)), .val (.int sl)] [(.int en)]))
  refine own_by (u' := T1.setTop (mkF m 5 #[.val (.ref (n0 + 0)), .val (.int sl)] [(.ref (n0 + 0)), (.int en)])) (fun _ k => XS.aloadN A2.here hx rfl (own_db hby d_prog_15_method_3_4) rfl rfl k) ?_
  refine own_getF A2 hx hZ hown (hw _ (List.mem_of_getElem? (i := 14) rfl)) (i := 0) rfl 2 rfl rfl (own_db hby d_prog_15_method_3_5) ?_
  intro T3 A4
  show own_go _ _ _ _ _ _ _ (T3.setTop (mkF m 8 #[.val (.ref (n0 + 0)), .val (.int sl)] [(.ref (n0 + 3)), (.int en)]))
  refine own_len A4 hx hZ (i := 3) rfl (z := (32 : Int32)) (by rw [hl]; rfl) (own_db hby d_prog_15_method_3_8) ?_
  show own_go _ _ _ _ _ _ _ (T3.setTop (mkF m 9 #[.val (.ref (n0 + 0)), .val (.int sl)] [(.int (32 : Int32)), (.int en)]))
  refine own_by (u' := T3.setTop (mkF m 16 #[.val (.ref (n0 + 0)), .val (.int sl)] [])) (fun _ k => XS.icmpYes A4.here hx rfl (pc0 := 9) (pc' := 16) rfl (own_db hby d_prog_15_method_3_9) rfl (feq (own_ne hen)).2 (by decide) (by decide) k) ?_
  refine own_by (u' := T3.setTop (mkF m 17 #[.val (.ref (n0 + 0)), .val (.int sl)] [(.ref (n0 + 0))])) (fun _ k => XS.aloadN A4.here hx rfl (own_db hby d_prog_15_method_3_16) rfl rfl k) ?_
  refine own_getF A4 hx hZ hown (hw _ (List.mem_of_getElem? (i := 14) rfl)) (i := 0) rfl 2 rfl rfl (own_db hby d_prog_15_method_3_17) ?_
  intro T5 A6
  show own_go _ _ _ _ _ _ _ (T5.setTop (mkF m 20 #[.val (.ref (n0 + 0)), .val (.int sl)] [(.ref (n0 + 3))]))
  refine own_by (u' := T5.setTop (mkF m 21 #[.val (.ref (n0 + 0)), .val (.int sl)] [(.ref (n0 + 0)), (.ref (n0 + 3))])) (fun _ k => XS.aloadN A6.here hx rfl (own_db hby d_prog_15_method_3_20) rfl rfl k) ?_
  refine own_getF A6 hx hZ hown (hw _ (List.mem_of_getElem? (i := 32) rfl)) (i := 0) rfl 6 rfl rfl (own_db hby d_prog_15_method_3_21) ?_
  intro T7 A8
  show own_go _ _ _ _ _ _ _ (T7.setTop (mkF m 24 #[.val (.ref (n0 + 0)), .val (.int sl)] [(.int en), (.ref (n0 + 3))]))
  refine own_by (u' := T7.setTop (mkF m 25 #[.val (.ref (n0 + 0)), .val (.int sl)] [(.int sl), (.int en), (.ref (n0 + 3))])) (fun _ k => XS.iloadN A8.here hx rfl (own_db hby d_prog_15_method_3_24) rfl k) ?_
  refine own_iastore A8 hx hZ (i := 3) rfl (q) ⟨hen.1, hen.2.1, by rw [hl]; exact hen.2.2⟩ (own_db hby d_prog_15_method_3_25) (its2 := [(own_obj Z "com/example/cairn/cairn/cache/UseOrder" ns_UseOrder [(.ref (n0 + 1)), (.ref (n0 + 2)), (.ref (n0 + 3)), (.int fc), (.int tk), (.int us), (.int en), (.int fi)]), (own_ia Z .int lu), (own_ia Z .int fs), (own_ia Z .int (lg.set q sl))]) rfl ?_
  intro T9 A10
  show own_go _ _ _ _ _ _ _ (T9.setTop (mkF m 26 #[.val (.ref (n0 + 0)), .val (.int sl)] []))
  refine own_by (u' := T9.setTop (mkF m 27 #[.val (.ref (n0 + 0)), .val (.int sl)] [(.ref (n0 + 0))])) (fun _ k => XS.aloadN A10.here hx rfl (own_db hby d_prog_15_method_3_26) rfl rfl k) ?_
  refine own_getF A10 hx hZ hown (hw _ (List.mem_of_getElem? (i := 10) rfl)) (i := 0) rfl 0 rfl rfl (own_db hby d_prog_15_method_3_27) ?_
  intro T11 A12
  show own_go _ _ _ _ _ _ _ (T11.setTop (mkF m 30 #[.val (.ref (n0 + 0)), .val (.int sl)] [(.ref (n0 + 1))]))
  refine own_by (u' := T11.setTop (mkF m 31 #[.val (.ref (n0 + 0)), .val (.int sl)] [(.int sl), (.ref (n0 + 1))])) (fun _ k => XS.iloadN A12.here hx rfl (own_db hby d_prog_15_method_3_30) rfl k) ?_
  refine own_by (u' := T11.setTop (mkF m 32 #[.val (.ref (n0 + 0)), .val (.int sl)] [(.ref (n0 + 0)), (.int sl), (.ref (n0 + 1))])) (fun _ k => XS.aloadN A12.here hx rfl (own_db hby d_prog_15_method_3_31) rfl rfl k) ?_
  refine own_getF A12 hx hZ hown (hw _ (List.mem_of_getElem? (i := 32) rfl)) (i := 0) rfl 6 rfl rfl (own_db hby d_prog_15_method_3_32) ?_
  intro T13 A14
  show own_go _ _ _ _ _ _ _ (T13.setTop (mkF m 35 #[.val (.ref (n0 + 0)), .val (.int sl)] [(.int en), (.int sl), (.ref (n0 + 1))]))
  refine own_iastore A14 hx hZ (i := 1) rfl (r) ⟨hsl.1, hsl.2.1, by rw [hu]; exact hsl.2.2⟩ (own_db hby d_prog_15_method_3_35) (its2 := [(own_obj Z "com/example/cairn/cairn/cache/UseOrder" ns_UseOrder [(.ref (n0 + 1)), (.ref (n0 + 2)), (.ref (n0 + 3)), (.int fc), (.int tk), (.int us), (.int en), (.int fi)]), (own_ia Z .int (lu.set r en)), (own_ia Z .int fs), (own_ia Z .int (lg.set q sl))]) rfl ?_
  intro T15 A16
  show own_go _ _ _ _ _ _ _ (T15.setTop (mkF m 36 #[.val (.ref (n0 + 0)), .val (.int sl)] []))
  refine own_by (u' := T15.setTop (mkF m 37 #[.val (.ref (n0 + 0)), .val (.int sl)] [(.ref (n0 + 0))])) (fun _ k => XS.aloadN A16.here hx rfl (own_db hby d_prog_15_method_3_36) rfl rfl k) ?_
  refine own_by (u' := T15.setTop (mkF m 38 #[.val (.ref (n0 + 0)), .val (.int sl)] [(.ref (n0 + 0)), (.ref (n0 + 0))])) (fun _ k => XS.dup A16.here hx rfl (own_db hby d_prog_15_method_3_37) rfl rfl k) ?_
  refine own_getF A16 hx hZ hown (hw _ (List.mem_of_getElem? (i := 32) rfl)) (i := 0) rfl 6 rfl rfl (own_db hby d_prog_15_method_3_38) ?_
  intro T17 A18
  show own_go _ _ _ _ _ _ _ (T17.setTop (mkF m 41 #[.val (.ref (n0 + 0)), .val (.int sl)] [(.int en), (.ref (n0 + 0))]))
  refine own_by (u' := T17.setTop (mkF m 42 #[.val (.ref (n0 + 0)), .val (.int sl)] [(.int (1 : Int32)), (.int en), (.ref (n0 + 0))])) (fun _ k => XS.iconst A18.here hx rfl (own_db hby d_prog_15_method_3_41) k) ?_
  refine own_by (u' := T17.setTop (mkF m 43 #[.val (.ref (n0 + 0)), .val (.int sl)] [(.int (en + (1 : Int32))), (.ref (n0 + 0))])) (fun _ k => XS.iadd A18.here hx rfl (own_db hby d_prog_15_method_3_42) rfl k) ?_
  refine own_putF A18 hx hZ hown (hw _ (List.mem_of_getElem? (i := 32) rfl)) (i := 0) rfl 6 rfl (v' := (.int (en + (1 : Int32)))) rfl (ap_ns_UseOrder hw) (Or.inl (hw _ (List.mem_of_getElem? (i := 33) rfl))) (hw _ (List.mem_of_getElem? (i := 1) rfl)) (ty := .int) (by decide) rfl rfl (own_db hby d_prog_15_method_3_43) (its2 := [(own_obj Z "com/example/cairn/cairn/cache/UseOrder" ns_UseOrder [(.ref (n0 + 1)), (.ref (n0 + 2)), (.ref (n0 + 3)), (.int fc), (.int tk), (.int us), (.int (en + (1 : Int32))), (.int fi)]), (own_ia Z .int (lu.set r en)), (own_ia Z .int fs), (own_ia Z .int (lg.set q sl))]) rfl ?_
  intro T19 A20
  show own_go _ _ _ _ _ _ _ (T19.setTop (mkF m 46 #[.val (.ref (n0 + 0)), .val (.int sl)] []))
  exact own_retV A20 hx hlk hret (own_db hby d_prog_15_method_3_46) (by decide) (by decide) ⟨rfl, rfl⟩
theorem d_prog_15_method_2_0 : decode prog_15_method_2_code 0 = .ok (.aload_n 0, 1) := by decide +kernel
theorem d_prog_15_method_2_1 : decode prog_15_method_2_code 1 = .ok (.getfield 19, 3) := by decide +kernel
theorem d_prog_15_method_2_4 : decode prog_15_method_2_code 4 = .ok (.ifCond .le 23, 3) := by decide +kernel
theorem d_prog_15_method_2_27 : decode prog_15_method_2_code 27 = .ok (.aload_n 0, 1) := by decide +kernel
theorem d_prog_15_method_2_28 : decode prog_15_method_2_code 28 = .ok (.getfield 23, 3) := by decide +kernel
theorem d_prog_15_method_2_31 : decode prog_15_method_2_code 31 = .ok (.aload_n 0, 1) := by decide +kernel
theorem d_prog_15_method_2_32 : decode prog_15_method_2_code 32 = .ok (.getfield 9, 3) := by decide +kernel
theorem d_prog_15_method_2_35 : decode prog_15_method_2_code 35 = .ok (.arraylength, 1) := by decide +kernel
theorem d_prog_15_method_2_36 : decode prog_15_method_2_code 36 = .ok (.if_icmp .ne 37, 3) := by decide +kernel
theorem d_prog_15_method_2_73 : decode prog_15_method_2_code 73 = .ok (.aload_n 0, 1) := by decide +kernel
theorem d_prog_15_method_2_74 : decode prog_15_method_2_code 74 = .ok (.dup, 1) := by decide +kernel
theorem d_prog_15_method_2_75 : decode prog_15_method_2_code 75 = .ok (.getfield 23, 3) := by decide +kernel
theorem d_prog_15_method_2_78 : decode prog_15_method_2_code 78 = .ok (.dup_x1, 1) := by decide +kernel
theorem d_prog_15_method_2_79 : decode prog_15_method_2_code 79 = .ok (.iconst 1, 1) := by decide +kernel
theorem d_prog_15_method_2_80 : decode prog_15_method_2_code 80 = .ok (.iadd, 1) := by decide +kernel
theorem d_prog_15_method_2_81 : decode prog_15_method_2_code 81 = .ok (.putfield 23, 3) := by decide +kernel
theorem d_prog_15_method_2_84 : decode prog_15_method_2_code 84 = .ok (.istore_n 1, 1) := by decide +kernel
theorem d_prog_15_method_2_85 : decode prog_15_method_2_code 85 = .ok (.aload_n 0, 1) := by decide +kernel
theorem d_prog_15_method_2_86 : decode prog_15_method_2_code 86 = .ok (.dup, 1) := by decide +kernel
theorem d_prog_15_method_2_87 : decode prog_15_method_2_code 87 = .ok (.getfield 32, 3) := by decide +kernel
theorem d_prog_15_method_2_90 : decode prog_15_method_2_code 90 = .ok (.iconst 1, 1) := by decide +kernel
theorem d_prog_15_method_2_91 : decode prog_15_method_2_code 91 = .ok (.iadd, 1) := by decide +kernel
theorem d_prog_15_method_2_92 : decode prog_15_method_2_code 92 = .ok (.putfield 32, 3) := by decide +kernel
theorem d_prog_15_method_2_95 : decode prog_15_method_2_code 95 = .ok (.aload_n 0, 1) := by decide +kernel
theorem d_prog_15_method_2_96 : decode prog_15_method_2_code 96 = .ok (.iload_n 1, 1) := by decide +kernel
theorem d_prog_15_method_2_97 : decode prog_15_method_2_code 97 = .ok (.invokevirtual 35, 3) := by decide +kernel
theorem pd__I_V : parseMethodDescriptor "(I)V" = some ⟨[.int], none⟩ := by decide +kernel
theorem d_prog_15_method_2_100 : decode prog_15_method_2_code 100 = .ok (.iload_n 1, 1) := by decide +kernel
theorem d_prog_15_method_2_101 : decode prog_15_method_2_code 101 = .ok (.ireturn, 1) := by decide +kernel
theorem pf_gN : plainFor (⟨"com/example/cairn/cairn/cache/UseOrder", "take", "()I"⟩ : MethodName) = true := by first | exact plainFor_of_name (by first | (simp [plainName, overriddenIn]; done) | decide +kernel) | decide +kernel
theorem ef_gN (m : MethodId) (n0 : Nat) : entryFrame m #[(.ref (n0 + 0))] 2 = (mkF m 0 #[.val (.ref (n0 + 0)), .unset] []) := by first | (simp [entryFrame, mkF, argsToLocals, Value.category]; done) | rfl
set_option maxRecDepth 65536 in
set_option maxHeartbeats 40000000 in
theorem gN (l : Launch) (Z : State) (a0 : Array Value) (hw : ∀ d ∈ tables_1, d.before a0 Z = true) (n0 : Nat) (lu : List Int32) (fs : List Int32) (lg : List Int32) (tk : Int32) (us : Int32) (en : Int32) (fi : Int32) (q : Nat) (r : Nat) (hu : lu.length = 16) (hs : fs.length = 16) (hl : lg.length = 32) (hen : ¬ en < 0 ∧ en.toNatClampNeg = q ∧ q < 32) (htk : ¬ tk < 0 ∧ tk.toNatClampNeg = r ∧ r < 16) :
    own_met l Z n0 (⟨"com/example/cairn/cairn/cache/UseOrder", "take", "()I"⟩ : MethodName) prog_15_method_2_code 2 (some .int) ({ frames := 1, cells := 0, slots := 0, locals := 13 } : Room) #[(.ref (n0 + 0))] [(own_obj Z "com/example/cairn/cairn/cache/UseOrder" ns_UseOrder [(.ref (n0 + 1)), (.ref (n0 + 2)), (.ref (n0 + 3)), (.int (0 : Int32)), (.int tk), (.int us), (.int en), (.int fi)]), (own_ia Z .int lu), (own_ia Z .int fs), (own_ia Z .int lg)] (fun v its' => v = some (.int tk) ∧ its' = [(own_obj Z "com/example/cairn/cairn/cache/UseOrder" ns_UseOrder [(.ref (n0 + 1)), (.ref (n0 + 2)), (.ref (n0 + 3)), (.int (0 : Int32)), (.int (tk + (1 : Int32))), (.int (us + (1 : Int32))), (.int (en + (1 : Int32))), (.int fi)]), (own_ia Z .int (lu.set r en)), (own_ia Z .int fs), (own_ia Z .int (lg.set q tk))]) := by
  refine own_met.of pf_gN ?_
  intro p e s m below meth c T0 hx hby hml hret hlk hZ hown hnm A0
  replace hown : s.vm.findClass "com/example/cairn/cairn/cache/UseOrder" = some m.cls := hown
  replace hml : c.maxLocals = 2 := hml
  rw [ef_gN m n0]
  show own_go _ _ _ _ _ _ _ (T0.setTop (mkF m 0 #[.val (.ref (n0 + 0)), .unset] []))
  refine own_by (u' := T0.setTop (mkF m 1 #[.val (.ref (n0 + 0)), .unset] [(.ref (n0 + 0))])) (fun _ k => XS.aloadN A0.here hx rfl (own_db hby d_prog_15_method_2_0) rfl rfl k) ?_
  refine own_getF A0 hx hZ hown (hw _ (List.mem_of_getElem? (i := 21) rfl)) (i := 0) rfl 3 rfl rfl (own_db hby d_prog_15_method_2_1) ?_
  intro T1 A2
  show own_go _ _ _ _ _ _ _ (T1.setTop (mkF m 4 #[.val (.ref (n0 + 0)), .unset] [(.int (0 : Int32))]))
  refine own_by (u' := T1.setTop (mkF m 27 #[.val (.ref (n0 + 0)), .unset] [])) (fun _ k => XS.ifYes A2.here hx rfl (pc0 := 4) (pc' := 27) rfl (own_db hby d_prog_15_method_2_4) rfl ((if0 _ _).trans (flt (by decide)).2.2.2) (by decide) (by decide) k) ?_
  refine own_by (u' := T1.setTop (mkF m 28 #[.val (.ref (n0 + 0)), .unset] [(.ref (n0 + 0))])) (fun _ k => XS.aloadN A2.here hx rfl (own_db hby d_prog_15_method_2_27) rfl rfl k) ?_
  refine own_getF A2 hx hZ hown (hw _ (List.mem_of_getElem? (i := 23) rfl)) (i := 0) rfl 4 rfl rfl (own_db hby d_prog_15_method_2_28) ?_
  intro T3 A4
  show own_go _ _ _ _ _ _ _ (T3.setTop (mkF m 31 #[.val (.ref (n0 + 0)), .unset] [(.int tk)]))
  refine own_by (u' := T3.setTop (mkF m 32 #[.val (.ref (n0 + 0)), .unset] [(.ref (n0 + 0)), (.int tk)])) (fun _ k => XS.aloadN A4.here hx rfl (own_db hby d_prog_15_method_2_31) rfl rfl k) ?_
  refine own_getF A4 hx hZ hown (hw _ (List.mem_of_getElem? (i := 10) rfl)) (i := 0) rfl 0 rfl rfl (own_db hby d_prog_15_method_2_32) ?_
  intro T5 A6
  show own_go _ _ _ _ _ _ _ (T5.setTop (mkF m 35 #[.val (.ref (n0 + 0)), .unset] [(.ref (n0 + 1)), (.int tk)]))
  refine own_len A6 hx hZ (i := 1) rfl (z := (16 : Int32)) (by rw [hu]; rfl) (own_db hby d_prog_15_method_2_35) ?_
  show own_go _ _ _ _ _ _ _ (T5.setTop (mkF m 36 #[.val (.ref (n0 + 0)), .unset] [(.int (16 : Int32)), (.int tk)]))
  refine own_by (u' := T5.setTop (mkF m 73 #[.val (.ref (n0 + 0)), .unset] [])) (fun _ k => XS.icmpYes A6.here hx rfl (pc0 := 36) (pc' := 73) rfl (own_db hby d_prog_15_method_2_36) rfl (feq (own_ne16 htk)).2 (by decide) (by decide) k) ?_
  refine own_by (u' := T5.setTop (mkF m 74 #[.val (.ref (n0 + 0)), .unset] [(.ref (n0 + 0))])) (fun _ k => XS.aloadN A6.here hx rfl (own_db hby d_prog_15_method_2_73) rfl rfl k) ?_
  refine own_by (u' := T5.setTop (mkF m 75 #[.val (.ref (n0 + 0)), .unset] [(.ref (n0 + 0)), (.ref (n0 + 0))])) (fun _ k => XS.dup A6.here hx rfl (own_db hby d_prog_15_method_2_74) rfl rfl k) ?_
  refine own_getF A6 hx hZ hown (hw _ (List.mem_of_getElem? (i := 23) rfl)) (i := 0) rfl 4 rfl rfl (own_db hby d_prog_15_method_2_75) ?_
  intro T7 A8
  show own_go _ _ _ _ _ _ _ (T7.setTop (mkF m 78 #[.val (.ref (n0 + 0)), .unset] [(.int tk), (.ref (n0 + 0))]))
  refine own_by (u' := T7.setTop (mkF m 79 #[.val (.ref (n0 + 0)), .unset] [(.int tk), (.ref (n0 + 0)), (.int tk)])) (fun _ k => XS.dupX1 A8.here hx rfl (own_db hby d_prog_15_method_2_78) rfl rfl rfl k) ?_
  refine own_by (u' := T7.setTop (mkF m 80 #[.val (.ref (n0 + 0)), .unset] [(.int (1 : Int32)), (.int tk), (.ref (n0 + 0)), (.int tk)])) (fun _ k => XS.iconst A8.here hx rfl (own_db hby d_prog_15_method_2_79) k) ?_
  refine own_by (u' := T7.setTop (mkF m 81 #[.val (.ref (n0 + 0)), .unset] [(.int (tk + (1 : Int32))), (.ref (n0 + 0)), (.int tk)])) (fun _ k => XS.iadd A8.here hx rfl (own_db hby d_prog_15_method_2_80) rfl k) ?_
  refine own_putF A8 hx hZ hown (hw _ (List.mem_of_getElem? (i := 23) rfl)) (i := 0) rfl 4 rfl (v' := (.int (tk + (1 : Int32)))) rfl (ap_ns_UseOrder hw) (Or.inl (hw _ (List.mem_of_getElem? (i := 24) rfl))) (hw _ (List.mem_of_getElem? (i := 1) rfl)) (ty := .int) (by decide) rfl rfl (own_db hby d_prog_15_method_2_81) (its2 := [(own_obj Z "com/example/cairn/cairn/cache/UseOrder" ns_UseOrder [(.ref (n0 + 1)), (.ref (n0 + 2)), (.ref (n0 + 3)), (.int (0 : Int32)), (.int (tk + (1 : Int32))), (.int us), (.int en), (.int fi)]), (own_ia Z .int lu), (own_ia Z .int fs), (own_ia Z .int lg)]) rfl ?_
  intro T9 A10
  show own_go _ _ _ _ _ _ _ (T9.setTop (mkF m 84 #[.val (.ref (n0 + 0)), .unset] [(.int tk)]))
  refine own_by (u' := T9.setTop (mkF m 85 #[.val (.ref (n0 + 0)), .val (.int tk)] [])) (fun _ k => XS.istoreN A10.here hx rfl (own_db hby d_prog_15_method_2_84) rfl (l' := #[.val (.ref (n0 + 0)), .val (.int tk)]) rfl k) ?_
  refine own_by (u' := T9.setTop (mkF m 86 #[.val (.ref (n0 + 0)), .val (.int tk)] [(.ref (n0 + 0))])) (fun _ k => XS.aloadN A10.here hx rfl (own_db hby d_prog_15_method_2_85) rfl rfl k) ?_
  refine own_by (u' := T9.setTop (mkF m 87 #[.val (.ref (n0 + 0)), .val (.int tk)] [(.ref (n0 + 0)), (.ref (n0 + 0))])) (fun _ k => XS.dup A10.here hx rfl (own_db hby d_prog_15_method_2_86) rfl rfl k) ?_
  refine own_getF A10 hx hZ hown (hw _ (List.mem_of_getElem? (i := 25) rfl)) (i := 0) rfl 5 rfl rfl (own_db hby d_prog_15_method_2_87) ?_
  intro T11 A12
  show own_go _ _ _ _ _ _ _ (T11.setTop (mkF m 90 #[.val (.ref (n0 + 0)), .val (.int tk)] [(.int us), (.ref (n0 + 0))]))
  refine own_by (u' := T11.setTop (mkF m 91 #[.val (.ref (n0 + 0)), .val (.int tk)] [(.int (1 : Int32)), (.int us), (.ref (n0 + 0))])) (fun _ k => XS.iconst A12.here hx rfl (own_db hby d_prog_15_method_2_90) k) ?_
  refine own_by (u' := T11.setTop (mkF m 92 #[.val (.ref (n0 + 0)), .val (.int tk)] [(.int (us + (1 : Int32))), (.ref (n0 + 0))])) (fun _ k => XS.iadd A12.here hx rfl (own_db hby d_prog_15_method_2_91) rfl k) ?_
  refine own_putF A12 hx hZ hown (hw _ (List.mem_of_getElem? (i := 25) rfl)) (i := 0) rfl 5 rfl (v' := (.int (us + (1 : Int32)))) rfl (ap_ns_UseOrder hw) (Or.inl (hw _ (List.mem_of_getElem? (i := 26) rfl))) (hw _ (List.mem_of_getElem? (i := 1) rfl)) (ty := .int) (by decide) rfl rfl (own_db hby d_prog_15_method_2_92) (its2 := [(own_obj Z "com/example/cairn/cairn/cache/UseOrder" ns_UseOrder [(.ref (n0 + 1)), (.ref (n0 + 2)), (.ref (n0 + 3)), (.int (0 : Int32)), (.int (tk + (1 : Int32))), (.int (us + (1 : Int32))), (.int en), (.int fi)]), (own_ia Z .int lu), (own_ia Z .int fs), (own_ia Z .int lg)]) rfl ?_
  intro T13 A14
  show own_go _ _ _ _ _ _ _ (T13.setTop (mkF m 95 #[.val (.ref (n0 + 0)), .val (.int tk)] []))
  refine own_by (u' := T13.setTop (mkF m 96 #[.val (.ref (n0 + 0)), .val (.int tk)] [(.ref (n0 + 0))])) (fun _ k => XS.aloadN A14.here hx rfl (own_db hby d_prog_15_method_2_95) rfl rfl k) ?_
  refine own_by (u' := T13.setTop (mkF m 97 #[.val (.ref (n0 + 0)), .val (.int tk)] [(.int tk), (.ref (n0 + 0))])) (fun _ k => XS.iloadN A14.here hx rfl (own_db hby d_prog_15_method_2_96) rfl k) ?_
  refine own_callV (y := (⟨"com/example/cairn/cairn/cache/UseOrder", "use", "(I)V"⟩ : MethodName)) (rest := []) A14 hx hZ hown (hw _ (List.mem_of_getElem? (i := 27) rfl)) (hw _ (List.mem_of_getElem? (i := 28) rfl)) (hw _ (List.mem_of_getElem? (i := 30) rfl)) (hw _ (List.mem_of_getElem? (i := 29) rfl)) (hw _ (List.mem_of_getElem? (i := 2) rfl)) (hw _ (List.mem_of_getElem? (i := 31) rfl)) (by decide) (i := 0) rfl (gU l Z a0 hw n0 lu fs lg (0 : Int32) (tk + (1 : Int32)) (us + (1 : Int32)) en fi tk q r hu hs hl hen htk) (by rw [hml]; rfl) [(.int tk)] rfl rfl pd__I_V rfl (W := 0) (by show 2 * 0 + _ ≤ _; exact Nat.le_of_eq rfl) (own_db hby d_prog_15_method_2_97) (by decide) (by decide) (by decide) (by decide) ?_
  intro v15 i16 T18 hq17 A19
  obtain ⟨rfl, he20⟩ := hq17
  rw [he20] at A19
  replace A19 : own_at p l e _ s m _ below meth c n0 T18 0 0 [(own_obj Z "com/example/cairn/cairn/cache/UseOrder" ns_UseOrder [(.ref (n0 + 1)), (.ref (n0 + 2)), (.ref (n0 + 3)), (.int (0 : Int32)), (.int (tk + (1 : Int32))), (.int (us + (1 : Int32))), (.int (en + (1 : Int32))), (.int fi)]), (own_ia Z .int (lu.set r en)), (own_ia Z .int fs), (own_ia Z .int (lg.set q tk))] := A19
  show own_go _ _ _ _ _ _ _ (T18.setTop (mkF m 100 #[.val (.ref (n0 + 0)), .val (.int tk)] []))
  refine own_by (u' := T18.setTop (mkF m 101 #[.val (.ref (n0 + 0)), .val (.int tk)] [(.int tk)])) (fun _ k => XS.iloadN A19.here hx rfl (own_db hby d_prog_15_method_2_100) rfl k) ?_
  exact own_retI A19 hx hlk hret (own_db hby d_prog_15_method_2_101) (by decide) (by decide) ⟨rfl, rfl⟩
theorem d_prog_15_method_2_7 : decode prog_15_method_2_code 7 = .ok (.aload_n 0, 1) := by decide +kernel
theorem d_prog_15_method_2_8 : decode prog_15_method_2_code 8 = .ok (.getfield 13, 3) := by decide +kernel
theorem d_prog_15_method_2_11 : decode prog_15_method_2_code 11 = .ok (.aload_n 0, 1) := by decide +kernel
theorem d_prog_15_method_2_12 : decode prog_15_method_2_code 12 = .ok (.dup, 1) := by decide +kernel
theorem d_prog_15_method_2_13 : decode prog_15_method_2_code 13 = .ok (.getfield 19, 3) := by decide +kernel
theorem d_prog_15_method_2_16 : decode prog_15_method_2_code 16 = .ok (.iconst 1, 1) := by decide +kernel
theorem d_prog_15_method_2_17 : decode prog_15_method_2_code 17 = .ok (.isub, 1) := by decide +kernel
theorem d_prog_15_method_2_18 : decode prog_15_method_2_code 18 = .ok (.dup_x1, 1) := by decide +kernel
theorem d_prog_15_method_2_19 : decode prog_15_method_2_code 19 = .ok (.putfield 19, 3) := by decide +kernel
theorem d_prog_15_method_2_22 : decode prog_15_method_2_code 22 = .ok (.iaload, 1) := by decide +kernel
theorem d_prog_15_method_2_23 : decode prog_15_method_2_code 23 = .ok (.istore_n 1, 1) := by decide +kernel
theorem d_prog_15_method_2_24 : decode prog_15_method_2_code 24 = .ok (.goto 61, 3) := by decide +kernel
theorem pf_gF : plainFor (⟨"com/example/cairn/cairn/cache/UseOrder", "take", "()I"⟩ : MethodName) = true := by first | exact plainFor_of_name (by first | (simp [plainName, overriddenIn]; done) | decide +kernel) | decide +kernel
theorem ef_gF (m : MethodId) (n0 : Nat) : entryFrame m #[(.ref (n0 + 0))] 2 = (mkF m 0 #[.val (.ref (n0 + 0)), .unset] []) := by first | (simp [entryFrame, mkF, argsToLocals, Value.category]; done) | rfl
set_option maxRecDepth 65536 in
set_option maxHeartbeats 40000000 in
theorem gF (l : Launch) (Z : State) (a0 : Array Value) (hw : ∀ d ∈ tables_1, d.before a0 Z = true) (n0 : Nat) (lu : List Int32) (fs : List Int32) (lg : List Int32) (tk : Int32) (us : Int32) (en : Int32) (fi : Int32) (sv : Int32) (q : Nat) (r : Nat) (hu : lu.length = 16) (hs : fs.length = 16) (hl : lg.length = 32) (hen : ¬ en < 0 ∧ en.toNatClampNeg = q ∧ q < 32) (hfs : fs[0]? = some sv) (hsv : ¬ sv < 0 ∧ sv.toNatClampNeg = r ∧ r < 16) :
    own_met l Z n0 (⟨"com/example/cairn/cairn/cache/UseOrder", "take", "()I"⟩ : MethodName) prog_15_method_2_code 2 (some .int) ({ frames := 1, cells := 0, slots := 0, locals := 13 } : Room) #[(.ref (n0 + 0))] [(own_obj Z "com/example/cairn/cairn/cache/UseOrder" ns_UseOrder [(.ref (n0 + 1)), (.ref (n0 + 2)), (.ref (n0 + 3)), (.int (1 : Int32)), (.int tk), (.int us), (.int en), (.int fi)]), (own_ia Z .int lu), (own_ia Z .int fs), (own_ia Z .int lg)] (fun v its' => v = some (.int sv) ∧ its' = [(own_obj Z "com/example/cairn/cairn/cache/UseOrder" ns_UseOrder [(.ref (n0 + 1)), (.ref (n0 + 2)), (.ref (n0 + 3)), (.int (0 : Int32)), (.int tk), (.int (us + (1 : Int32))), (.int (en + (1 : Int32))), (.int fi)]), (own_ia Z .int (lu.set r en)), (own_ia Z .int fs), (own_ia Z .int (lg.set q sv))]) := by
  refine own_met.of pf_gF ?_
  intro p e s m below meth c T0 hx hby hml hret hlk hZ hown hnm A0
  replace hown : s.vm.findClass "com/example/cairn/cairn/cache/UseOrder" = some m.cls := hown
  replace hml : c.maxLocals = 2 := hml
  rw [ef_gF m n0]
  show own_go _ _ _ _ _ _ _ (T0.setTop (mkF m 0 #[.val (.ref (n0 + 0)), .unset] []))
  refine own_by (u' := T0.setTop (mkF m 1 #[.val (.ref (n0 + 0)), .unset] [(.ref (n0 + 0))])) (fun _ k => XS.aloadN A0.here hx rfl (own_db hby d_prog_15_method_2_0) rfl rfl k) ?_
  refine own_getF A0 hx hZ hown (hw _ (List.mem_of_getElem? (i := 21) rfl)) (i := 0) rfl 3 rfl rfl (own_db hby d_prog_15_method_2_1) ?_
  intro T1 A2
  show own_go _ _ _ _ _ _ _ (T1.setTop (mkF m 4 #[.val (.ref (n0 + 0)), .unset] [(.int (1 : Int32))]))
  refine own_by (u' := T1.setTop (mkF m 7 #[.val (.ref (n0 + 0)), .unset] [])) (fun _ k => XS.ifNo A2.here hx rfl (own_db hby d_prog_15_method_2_4) rfl ((if0 _ _).trans (tlt (by decide)).2.2.2) k) ?_
  refine own_by (u' := T1.setTop (mkF m 8 #[.val (.ref (n0 + 0)), .unset] [(.ref (n0 + 0))])) (fun _ k => XS.aloadN A2.here hx rfl (own_db hby d_prog_15_method_2_7) rfl rfl k) ?_
  refine own_getF A2 hx hZ hown (hw _ (List.mem_of_getElem? (i := 12) rfl)) (i := 0) rfl 1 rfl rfl (own_db hby d_prog_15_method_2_8) ?_
  intro T3 A4
  show own_go _ _ _ _ _ _ _ (T3.setTop (mkF m 11 #[.val (.ref (n0 + 0)), .unset] [(.ref (n0 + 2))]))
  refine own_by (u' := T3.setTop (mkF m 12 #[.val (.ref (n0 + 0)), .unset] [(.ref (n0 + 0)), (.ref (n0 + 2))])) (fun _ k => XS.aloadN A4.here hx rfl (own_db hby d_prog_15_method_2_11) rfl rfl k) ?_
  refine own_by (u' := T3.setTop (mkF m 13 #[.val (.ref (n0 + 0)), .unset] [(.ref (n0 + 0)), (.ref (n0 + 0)), (.ref (n0 + 2))])) (fun _ k => XS.dup A4.here hx rfl (own_db hby d_prog_15_method_2_12) rfl rfl k) ?_
  refine own_getF A4 hx hZ hown (hw _ (List.mem_of_getElem? (i := 21) rfl)) (i := 0) rfl 3 rfl rfl (own_db hby d_prog_15_method_2_13) ?_
  intro T5 A6
  show own_go _ _ _ _ _ _ _ (T5.setTop (mkF m 16 #[.val (.ref (n0 + 0)), .unset] [(.int (1 : Int32)), (.ref (n0 + 0)), (.ref (n0 + 2))]))
  refine own_by (u' := T5.setTop (mkF m 17 #[.val (.ref (n0 + 0)), .unset] [(.int (1 : Int32)), (.int (1 : Int32)), (.ref (n0 + 0)), (.ref (n0 + 2))])) (fun _ k => XS.iconst A6.here hx rfl (own_db hby d_prog_15_method_2_16) k) ?_
  refine own_by (u' := T5.setTop (mkF m 18 #[.val (.ref (n0 + 0)), .unset] [(.int (0 : Int32)), (.ref (n0 + 0)), (.ref (n0 + 2))])) (fun _ k => XS.isub A6.here hx rfl (own_db hby d_prog_15_method_2_17) rfl k) ?_
  refine own_by (u' := T5.setTop (mkF m 19 #[.val (.ref (n0 + 0)), .unset] [(.int (0 : Int32)), (.ref (n0 + 0)), (.int (0 : Int32)), (.ref (n0 + 2))])) (fun _ k => XS.dupX1 A6.here hx rfl (own_db hby d_prog_15_method_2_18) rfl rfl rfl k) ?_
  refine own_putF A6 hx hZ hown (hw _ (List.mem_of_getElem? (i := 21) rfl)) (i := 0) rfl 3 rfl (v' := (.int (0 : Int32))) rfl (ap_ns_UseOrder hw) (Or.inl (hw _ (List.mem_of_getElem? (i := 22) rfl))) (hw _ (List.mem_of_getElem? (i := 1) rfl)) (ty := .int) (by decide) rfl rfl (own_db hby d_prog_15_method_2_19) (its2 := [(own_obj Z "com/example/cairn/cairn/cache/UseOrder" ns_UseOrder [(.ref (n0 + 1)), (.ref (n0 + 2)), (.ref (n0 + 3)), (.int (0 : Int32)), (.int tk), (.int us), (.int en), (.int fi)]), (own_ia Z .int lu), (own_ia Z .int fs), (own_ia Z .int lg)]) rfl ?_
  intro T7 A8
  show own_go _ _ _ _ _ _ _ (T7.setTop (mkF m 22 #[.val (.ref (n0 + 0)), .unset] [(.int (0 : Int32)), (.ref (n0 + 2))]))
  refine own_iaload A8 hx hZ (i := 2) rfl (x := sv) ⟨by decide, hfs⟩ (own_db hby d_prog_15_method_2_22) ?_
  show own_go _ _ _ _ _ _ _ (T7.setTop (mkF m 23 #[.val (.ref (n0 + 0)), .unset] [(.int sv)]))
  refine own_by (u' := T7.setTop (mkF m 24 #[.val (.ref (n0 + 0)), .val (.int sv)] [])) (fun _ k => XS.istoreN A8.here hx rfl (own_db hby d_prog_15_method_2_23) rfl (l' := #[.val (.ref (n0 + 0)), .val (.int sv)]) rfl k) ?_
  refine own_by (u' := T7.setTop (mkF m 85 #[.val (.ref (n0 + 0)), .val (.int sv)] [])) (fun _ k => XS.goto A8.here hx rfl (pc0 := 24) (pc' := 85) rfl (own_db hby d_prog_15_method_2_24) (by decide) (by decide) k) ?_
  refine own_by (u' := T7.setTop (mkF m 86 #[.val (.ref (n0 + 0)), .val (.int sv)] [(.ref (n0 + 0))])) (fun _ k => XS.aloadN A8.here hx rfl (own_db hby d_prog_15_method_2_85) rfl rfl k) ?_
  refine own_by (u' := T7.setTop (mkF m 87 #[.val (.ref (n0 + 0)), .val (.int sv)] [(.ref (n0 + 0)), (.ref (n0 + 0))])) (fun _ k => XS.dup A8.here hx rfl (own_db hby d_prog_15_method_2_86) rfl rfl k) ?_
  refine own_getF A8 hx hZ hown (hw _ (List.mem_of_getElem? (i := 25) rfl)) (i := 0) rfl 5 rfl rfl (own_db hby d_prog_15_method_2_87) ?_
  intro T9 A10
  show own_go _ _ _ _ _ _ _ (T9.setTop (mkF m 90 #[.val (.ref (n0 + 0)), .val (.int sv)] [(.int us), (.ref (n0 + 0))]))
  refine own_by (u' := T9.setTop (mkF m 91 #[.val (.ref (n0 + 0)), .val (.int sv)] [(.int (1 : Int32)), (.int us), (.ref (n0 + 0))])) (fun _ k => XS.iconst A10.here hx rfl (own_db hby d_prog_15_method_2_90) k) ?_
  refine own_by (u' := T9.setTop (mkF m 92 #[.val (.ref (n0 + 0)), .val (.int sv)] [(.int (us + (1 : Int32))), (.ref (n0 + 0))])) (fun _ k => XS.iadd A10.here hx rfl (own_db hby d_prog_15_method_2_91) rfl k) ?_
  refine own_putF A10 hx hZ hown (hw _ (List.mem_of_getElem? (i := 25) rfl)) (i := 0) rfl 5 rfl (v' := (.int (us + (1 : Int32)))) rfl (ap_ns_UseOrder hw) (Or.inl (hw _ (List.mem_of_getElem? (i := 26) rfl))) (hw _ (List.mem_of_getElem? (i := 1) rfl)) (ty := .int) (by decide) rfl rfl (own_db hby d_prog_15_method_2_92) (its2 := [(own_obj Z "com/example/cairn/cairn/cache/UseOrder" ns_UseOrder [(.ref (n0 + 1)), (.ref (n0 + 2)), (.ref (n0 + 3)), (.int (0 : Int32)), (.int tk), (.int (us + (1 : Int32))), (.int en), (.int fi)]), (own_ia Z .int lu), (own_ia Z .int fs), (own_ia Z .int lg)]) rfl ?_
  intro T11 A12
  show own_go _ _ _ _ _ _ _ (T11.setTop (mkF m 95 #[.val (.ref (n0 + 0)), .val (.int sv)] []))
  refine own_by (u' := T11.setTop (mkF m 96 #[.val (.ref (n0 + 0)), .val (.int sv)] [(.ref (n0 + 0))])) (fun _ k => XS.aloadN A12.here hx rfl (own_db hby d_prog_15_method_2_95) rfl rfl k) ?_
  refine own_by (u' := T11.setTop (mkF m 97 #[.val (.ref (n0 + 0)), .val (.int sv)] [(.int sv), (.ref (n0 + 0))])) (fun _ k => XS.iloadN A12.here hx rfl (own_db hby d_prog_15_method_2_96) rfl k) ?_
  refine own_callV (y := (⟨"com/example/cairn/cairn/cache/UseOrder", "use", "(I)V"⟩ : MethodName)) (rest := []) A12 hx hZ hown (hw _ (List.mem_of_getElem? (i := 27) rfl)) (hw _ (List.mem_of_getElem? (i := 28) rfl)) (hw _ (List.mem_of_getElem? (i := 30) rfl)) (hw _ (List.mem_of_getElem? (i := 29) rfl)) (hw _ (List.mem_of_getElem? (i := 2) rfl)) (hw _ (List.mem_of_getElem? (i := 31) rfl)) (by decide) (i := 0) rfl (gU l Z a0 hw n0 lu fs lg (0 : Int32) tk (us + (1 : Int32)) en fi sv q r hu hs hl hen hsv) (by rw [hml]; rfl) [(.int sv)] rfl rfl pd__I_V rfl (W := 0) (by show 2 * 0 + _ ≤ _; exact Nat.le_of_eq rfl) (own_db hby d_prog_15_method_2_97) (by decide) (by decide) (by decide) (by decide) ?_
  intro v13 i14 T16 hq15 A17
  obtain ⟨rfl, he18⟩ := hq15
  rw [he18] at A17
  replace A17 : own_at p l e _ s m _ below meth c n0 T16 0 0 [(own_obj Z "com/example/cairn/cairn/cache/UseOrder" ns_UseOrder [(.ref (n0 + 1)), (.ref (n0 + 2)), (.ref (n0 + 3)), (.int (0 : Int32)), (.int tk), (.int (us + (1 : Int32))), (.int (en + (1 : Int32))), (.int fi)]), (own_ia Z .int (lu.set r en)), (own_ia Z .int fs), (own_ia Z .int (lg.set q sv))] := A17
  show own_go _ _ _ _ _ _ _ (T16.setTop (mkF m 100 #[.val (.ref (n0 + 0)), .val (.int sv)] []))
  refine own_by (u' := T16.setTop (mkF m 101 #[.val (.ref (n0 + 0)), .val (.int sv)] [(.int sv)])) (fun _ k => XS.iloadN A17.here hx rfl (own_db hby d_prog_15_method_2_100) rfl k) ?_
  exact own_retI A17 hx hlk hret (own_db hby d_prog_15_method_2_101) (by decide) (by decide) ⟨rfl, rfl⟩
theorem d_prog_15_method_4_0 : decode prog_15_method_4_code 0 = .ok (.aload_n 0, 1) := by decide +kernel
theorem d_prog_15_method_4_1 : decode prog_15_method_4_code 1 = .ok (.getfield 9, 3) := by decide +kernel
theorem d_prog_15_method_4_4 : decode prog_15_method_4_code 4 = .ok (.iload_n 1, 1) := by decide +kernel
theorem d_prog_15_method_4_5 : decode prog_15_method_4_code 5 = .ok (.iconst (-1), 1) := by decide +kernel
theorem d_prog_15_method_4_6 : decode prog_15_method_4_code 6 = .ok (.iastore, 1) := by decide +kernel
theorem d_prog_15_method_4_7 : decode prog_15_method_4_code 7 = .ok (.aload_n 0, 1) := by decide +kernel
theorem d_prog_15_method_4_8 : decode prog_15_method_4_code 8 = .ok (.getfield 13, 3) := by decide +kernel
theorem d_prog_15_method_4_11 : decode prog_15_method_4_code 11 = .ok (.aload_n 0, 1) := by decide +kernel
theorem d_prog_15_method_4_12 : decode prog_15_method_4_code 12 = .ok (.dup, 1) := by decide +kernel
theorem d_prog_15_method_4_13 : decode prog_15_method_4_code 13 = .ok (.getfield 19, 3) := by decide +kernel
theorem d_prog_15_method_4_16 : decode prog_15_method_4_code 16 = .ok (.dup_x1, 1) := by decide +kernel
theorem d_prog_15_method_4_17 : decode prog_15_method_4_code 17 = .ok (.iconst 1, 1) := by decide +kernel
theorem d_prog_15_method_4_18 : decode prog_15_method_4_code 18 = .ok (.iadd, 1) := by decide +kernel
theorem d_prog_15_method_4_19 : decode prog_15_method_4_code 19 = .ok (.putfield 19, 3) := by decide +kernel
theorem d_prog_15_method_4_22 : decode prog_15_method_4_code 22 = .ok (.iload_n 1, 1) := by decide +kernel
theorem d_prog_15_method_4_23 : decode prog_15_method_4_code 23 = .ok (.iastore, 1) := by decide +kernel
theorem d_prog_15_method_4_24 : decode prog_15_method_4_code 24 = .ok (.aload_n 0, 1) := by decide +kernel
theorem d_prog_15_method_4_25 : decode prog_15_method_4_code 25 = .ok (.dup, 1) := by decide +kernel
theorem d_prog_15_method_4_26 : decode prog_15_method_4_code 26 = .ok (.getfield 32, 3) := by decide +kernel
theorem d_prog_15_method_4_29 : decode prog_15_method_4_code 29 = .ok (.iconst 1, 1) := by decide +kernel
theorem d_prog_15_method_4_30 : decode prog_15_method_4_code 30 = .ok (.isub, 1) := by decide +kernel
theorem d_prog_15_method_4_31 : decode prog_15_method_4_code 31 = .ok (.putfield 32, 3) := by decide +kernel
theorem d_prog_15_method_4_34 : decode prog_15_method_4_code 34 = .ok (.return_, 1) := by decide +kernel
theorem pf_gX : plainFor (⟨"com/example/cairn/cairn/cache/UseOrder", "free", "(I)V"⟩ : MethodName) = true := by first | exact plainFor_of_name (by first | (simp [plainName, overriddenIn]; done) | decide +kernel) | decide +kernel
theorem ef_gX (m : MethodId) (n0 : Nat) (sl : Int32) : entryFrame m #[(.ref (n0 + 0)), (.int sl)] 2 = (mkF m 0 #[.val (.ref (n0 + 0)), .val (.int sl)] []) := by first | (simp [entryFrame, mkF, argsToLocals, Value.category]; done) | rfl
set_option maxRecDepth 65536 in
set_option maxHeartbeats 40000000 in
theorem gX (l : Launch) (Z : State) (a0 : Array Value) (hw : ∀ d ∈ tables_1, d.before a0 Z = true) (n0 : Nat) (lu : List Int32) (fs : List Int32) (lg : List Int32) (fc : Int32) (tk : Int32) (us : Int32) (en : Int32) (fi : Int32) (sl : Int32) (q : Nat) (r : Nat) (hu : lu.length = 16) (hs : fs.length = 16) (hl : lg.length = 32) (hfc : ¬ fc < 0 ∧ fc.toNatClampNeg = q ∧ q < 16) (hsl : ¬ sl < 0 ∧ sl.toNatClampNeg = r ∧ r < 16) :
    own_met l Z n0 (⟨"com/example/cairn/cairn/cache/UseOrder", "free", "(I)V"⟩ : MethodName) prog_15_method_4_code 2 none ({ frames := 0, cells := 0, slots := 0, locals := 0 } : Room) #[(.ref (n0 + 0)), (.int sl)] [(own_obj Z "com/example/cairn/cairn/cache/UseOrder" ns_UseOrder [(.ref (n0 + 1)), (.ref (n0 + 2)), (.ref (n0 + 3)), (.int fc), (.int tk), (.int us), (.int en), (.int fi)]), (own_ia Z .int lu), (own_ia Z .int fs), (own_ia Z .int lg)] (fun v its' => v = none ∧ its' = [(own_obj Z "com/example/cairn/cairn/cache/UseOrder" ns_UseOrder [(.ref (n0 + 1)), (.ref (n0 + 2)), (.ref (n0 + 3)), (.int (fc + (1 : Int32))), (.int tk), (.int (us - (1 : Int32))), (.int en), (.int fi)]), (own_ia Z .int (lu.set r (-1 : Int32))), (own_ia Z .int (fs.set q sl)), (own_ia Z .int lg)]) := by
  refine own_met.of pf_gX ?_
  intro p e s m below meth c T0 hx hby hml hret hlk hZ hown hnm A0
  replace hown : s.vm.findClass "com/example/cairn/cairn/cache/UseOrder" = some m.cls := hown
  replace hml : c.maxLocals = 2 := hml
  rw [ef_gX m n0 sl]
  show own_go _ _ _ _ _ _ _ (T0.setTop (mkF m 0 #[.val (.ref (n0 + 0)), .val (.int sl)] []))
  refine own_by (u' := T0.setTop (mkF m 1 #[.val (.ref (n0 + 0)), .val (.int sl)] [(.ref (n0 + 0))])) (fun _ k => XS.aloadN A0.here hx rfl (own_db hby d_prog_15_method_4_0) rfl rfl k) ?_
  refine own_getF A0 hx hZ hown (hw _ (List.mem_of_getElem? (i := 10) rfl)) (i := 0) rfl 0 rfl rfl (own_db hby d_prog_15_method_4_1) ?_
  intro T1 A2
  show own_go _ _ _ _ _ _ _ (T1.setTop (mkF m 4 #[.val (.ref (n0 + 0)), .val (.int sl)] [(.ref (n0 + 1))]))
  refine own_by (u' := T1.setTop (mkF m 5 #[.val (.ref (n0 + 0)), .val (.int sl)] [(.int sl), (.ref (n0 + 1))])) (fun _ k => XS.iloadN A2.here hx rfl (own_db hby d_prog_15_method_4_4) rfl k) ?_
  refine own_by (u' := T1.setTop (mkF m 6 #[.val (.ref (n0 + 0)), .val (.int sl)] [(.int (-1 : Int32)), (.int sl), (.ref (n0 + 1))])) (fun _ k => XS.iconst A2.here hx rfl (own_db hby d_prog_15_method_4_5) k) ?_
  refine own_iastore A2 hx hZ (i := 1) rfl (r) ⟨hsl.1, hsl.2.1, by rw [hu]; exact hsl.2.2⟩ (own_db hby d_prog_15_method_4_6) (its2 := [(own_obj Z "com/example/cairn/cairn/cache/UseOrder" ns_UseOrder [(.ref (n0 + 1)), (.ref (n0 + 2)), (.ref (n0 + 3)), (.int fc), (.int tk), (.int us), (.int en), (.int fi)]), (own_ia Z .int (lu.set r (-1 : Int32))), (own_ia Z .int fs), (own_ia Z .int lg)]) rfl ?_
  intro T3 A4
  show own_go _ _ _ _ _ _ _ (T3.setTop (mkF m 7 #[.val (.ref (n0 + 0)), .val (.int sl)] []))
  refine own_by (u' := T3.setTop (mkF m 8 #[.val (.ref (n0 + 0)), .val (.int sl)] [(.ref (n0 + 0))])) (fun _ k => XS.aloadN A4.here hx rfl (own_db hby d_prog_15_method_4_7) rfl rfl k) ?_
  refine own_getF A4 hx hZ hown (hw _ (List.mem_of_getElem? (i := 12) rfl)) (i := 0) rfl 1 rfl rfl (own_db hby d_prog_15_method_4_8) ?_
  intro T5 A6
  show own_go _ _ _ _ _ _ _ (T5.setTop (mkF m 11 #[.val (.ref (n0 + 0)), .val (.int sl)] [(.ref (n0 + 2))]))
  refine own_by (u' := T5.setTop (mkF m 12 #[.val (.ref (n0 + 0)), .val (.int sl)] [(.ref (n0 + 0)), (.ref (n0 + 2))])) (fun _ k => XS.aloadN A6.here hx rfl (own_db hby d_prog_15_method_4_11) rfl rfl k) ?_
  refine own_by (u' := T5.setTop (mkF m 13 #[.val (.ref (n0 + 0)), .val (.int sl)] [(.ref (n0 + 0)), (.ref (n0 + 0)), (.ref (n0 + 2))])) (fun _ k => XS.dup A6.here hx rfl (own_db hby d_prog_15_method_4_12) rfl rfl k) ?_
  refine own_getF A6 hx hZ hown (hw _ (List.mem_of_getElem? (i := 21) rfl)) (i := 0) rfl 3 rfl rfl (own_db hby d_prog_15_method_4_13) ?_
  intro T7 A8
  show own_go _ _ _ _ _ _ _ (T7.setTop (mkF m 16 #[.val (.ref (n0 + 0)), .val (.int sl)] [(.int fc), (.ref (n0 + 0)), (.ref (n0 + 2))]))
  refine own_by (u' := T7.setTop (mkF m 17 #[.val (.ref (n0 + 0)), .val (.int sl)] [(.int fc), (.ref (n0 + 0)), (.int fc), (.ref (n0 + 2))])) (fun _ k => XS.dupX1 A8.here hx rfl (own_db hby d_prog_15_method_4_16) rfl rfl rfl k) ?_
  refine own_by (u' := T7.setTop (mkF m 18 #[.val (.ref (n0 + 0)), .val (.int sl)] [(.int (1 : Int32)), (.int fc), (.ref (n0 + 0)), (.int fc), (.ref (n0 + 2))])) (fun _ k => XS.iconst A8.here hx rfl (own_db hby d_prog_15_method_4_17) k) ?_
  refine own_by (u' := T7.setTop (mkF m 19 #[.val (.ref (n0 + 0)), .val (.int sl)] [(.int (fc + (1 : Int32))), (.ref (n0 + 0)), (.int fc), (.ref (n0 + 2))])) (fun _ k => XS.iadd A8.here hx rfl (own_db hby d_prog_15_method_4_18) rfl k) ?_
  refine own_putF A8 hx hZ hown (hw _ (List.mem_of_getElem? (i := 21) rfl)) (i := 0) rfl 3 rfl (v' := (.int (fc + (1 : Int32)))) rfl (ap_ns_UseOrder hw) (Or.inl (hw _ (List.mem_of_getElem? (i := 22) rfl))) (hw _ (List.mem_of_getElem? (i := 1) rfl)) (ty := .int) (by decide) rfl rfl (own_db hby d_prog_15_method_4_19) (its2 := [(own_obj Z "com/example/cairn/cairn/cache/UseOrder" ns_UseOrder [(.ref (n0 + 1)), (.ref (n0 + 2)), (.ref (n0 + 3)), (.int (fc + (1 : Int32))), (.int tk), (.int us), (.int en), (.int fi)]), (own_ia Z .int (lu.set r (-1 : Int32))), (own_ia Z .int fs), (own_ia Z .int lg)]) rfl ?_
  intro T9 A10
  show own_go _ _ _ _ _ _ _ (T9.setTop (mkF m 22 #[.val (.ref (n0 + 0)), .val (.int sl)] [(.int fc), (.ref (n0 + 2))]))
  refine own_by (u' := T9.setTop (mkF m 23 #[.val (.ref (n0 + 0)), .val (.int sl)] [(.int sl), (.int fc), (.ref (n0 + 2))])) (fun _ k => XS.iloadN A10.here hx rfl (own_db hby d_prog_15_method_4_22) rfl k) ?_
  refine own_iastore A10 hx hZ (i := 2) rfl (q) ⟨hfc.1, hfc.2.1, by rw [hs]; exact hfc.2.2⟩ (own_db hby d_prog_15_method_4_23) (its2 := [(own_obj Z "com/example/cairn/cairn/cache/UseOrder" ns_UseOrder [(.ref (n0 + 1)), (.ref (n0 + 2)), (.ref (n0 + 3)), (.int (fc + (1 : Int32))), (.int tk), (.int us), (.int en), (.int fi)]), (own_ia Z .int (lu.set r (-1 : Int32))), (own_ia Z .int (fs.set q sl)), (own_ia Z .int lg)]) rfl ?_
  intro T11 A12
  show own_go _ _ _ _ _ _ _ (T11.setTop (mkF m 24 #[.val (.ref (n0 + 0)), .val (.int sl)] []))
  refine own_by (u' := T11.setTop (mkF m 25 #[.val (.ref (n0 + 0)), .val (.int sl)] [(.ref (n0 + 0))])) (fun _ k => XS.aloadN A12.here hx rfl (own_db hby d_prog_15_method_4_24) rfl rfl k) ?_
  refine own_by (u' := T11.setTop (mkF m 26 #[.val (.ref (n0 + 0)), .val (.int sl)] [(.ref (n0 + 0)), (.ref (n0 + 0))])) (fun _ k => XS.dup A12.here hx rfl (own_db hby d_prog_15_method_4_25) rfl rfl k) ?_
  refine own_getF A12 hx hZ hown (hw _ (List.mem_of_getElem? (i := 25) rfl)) (i := 0) rfl 5 rfl rfl (own_db hby d_prog_15_method_4_26) ?_
  intro T13 A14
  show own_go _ _ _ _ _ _ _ (T13.setTop (mkF m 29 #[.val (.ref (n0 + 0)), .val (.int sl)] [(.int us), (.ref (n0 + 0))]))
  refine own_by (u' := T13.setTop (mkF m 30 #[.val (.ref (n0 + 0)), .val (.int sl)] [(.int (1 : Int32)), (.int us), (.ref (n0 + 0))])) (fun _ k => XS.iconst A14.here hx rfl (own_db hby d_prog_15_method_4_29) k) ?_
  refine own_by (u' := T13.setTop (mkF m 31 #[.val (.ref (n0 + 0)), .val (.int sl)] [(.int (us - (1 : Int32))), (.ref (n0 + 0))])) (fun _ k => XS.isub A14.here hx rfl (own_db hby d_prog_15_method_4_30) rfl k) ?_
  refine own_putF A14 hx hZ hown (hw _ (List.mem_of_getElem? (i := 25) rfl)) (i := 0) rfl 5 rfl (v' := (.int (us - (1 : Int32)))) rfl (ap_ns_UseOrder hw) (Or.inl (hw _ (List.mem_of_getElem? (i := 26) rfl))) (hw _ (List.mem_of_getElem? (i := 1) rfl)) (ty := .int) (by decide) rfl rfl (own_db hby d_prog_15_method_4_31) (its2 := [(own_obj Z "com/example/cairn/cairn/cache/UseOrder" ns_UseOrder [(.ref (n0 + 1)), (.ref (n0 + 2)), (.ref (n0 + 3)), (.int (fc + (1 : Int32))), (.int tk), (.int (us - (1 : Int32))), (.int en), (.int fi)]), (own_ia Z .int (lu.set r (-1 : Int32))), (own_ia Z .int (fs.set q sl)), (own_ia Z .int lg)]) rfl ?_
  intro T15 A16
  show own_go _ _ _ _ _ _ _ (T15.setTop (mkF m 34 #[.val (.ref (n0 + 0)), .val (.int sl)] []))
  exact own_retV A16 hx hlk hret (own_db hby d_prog_15_method_4_34) (by decide) (by decide) ⟨rfl, rfl⟩
def own_cur (lu lg : List Int32) (en : Int32) : Nat → Int32 → Int32
  | 0, a => a
  | k + 1, a => if own_g lu (own_g lg a) = a then a else own_cur lu lg en k (a + (1 : Int32))
theorem own_z {ii en : Int32} (hi : 0 ≤ ii.toInt ∧ (ii.toInt + ((0 : Nat) : Int) = en.toInt ∨ (0 = 0 ∧ en.toInt ≤ ii.toInt))) : ¬ ii < en := by rw [own_lt]; omega
theorem own_s {k : Nat} {ii en : Int32} (hi : 0 ≤ ii.toInt ∧ (ii.toInt + ((k + 1 : Nat) : Int) = en.toInt ∨ (k + 1 = 0 ∧ en.toInt ≤ ii.toInt))) : ii < en := by rw [own_lt]; omega
theorem own_ub {k : Nat} {ii en : Int32} (he : en.toInt ≤ 32) (hi : 0 ≤ ii.toInt ∧ (ii.toInt + ((k + 1 : Nat) : Int) = en.toInt ∨ (k + 1 = 0 ∧ en.toInt ≤ ii.toInt))) : ii.toInt < (32 : Nat) := by omega
theorem own_nx {k : Nat} {ii en : Int32} (he : en.toInt ≤ 32) (hi : 0 ≤ ii.toInt ∧ (ii.toInt + ((k + 1 : Nat) : Int) = en.toInt ∨ (k + 1 = 0 ∧ en.toInt ≤ ii.toInt))) : 0 ≤ (ii + (1 : Int32)).toInt ∧ ((ii + (1 : Int32)).toInt + (k : Int) = en.toInt ∨ (k = 0 ∧ en.toInt ≤ (ii + (1 : Int32)).toInt)) := by
  have q := own_inc (j := ii) 1 1 rfl (by omega) (by omega) (by omega)
  omega
theorem own_in {lg : List Int32} (hl : lg.length = 32) (hb : ∀ x ∈ lg, 0 ≤ x.toInt ∧ x.toInt < 16) {j : Int32} (h0 : 0 ≤ j.toInt) (h1 : j.toInt < (32 : Nat)) : 0 ≤ (own_g lg j).toInt ∧ (own_g lg j).toInt < (16 : Nat) :=
  hb _ (List.mem_of_getElem? (own_rd hl h0 h1).2)
theorem d_prog_15_method_10_0 : decode prog_15_method_10_code 0 = .ok (.iload_n 1, 1) := by decide +kernel
theorem d_prog_15_method_10_1 : decode prog_15_method_10_code 1 = .ok (.istore_n 2, 1) := by decide +kernel
theorem d_prog_15_method_10_2 : decode prog_15_method_10_code 2 = .ok (.iload_n 2, 1) := by decide +kernel
theorem d_prog_15_method_10_3 : decode prog_15_method_10_code 3 = .ok (.aload_n 0, 1) := by decide +kernel
theorem d_prog_15_method_10_4 : decode prog_15_method_10_code 4 = .ok (.getfield 39, 3) := by decide +kernel
theorem d_prog_15_method_10_7 : decode prog_15_method_10_code 7 = .ok (.if_icmp .ge 24, 3) := by decide +kernel
theorem d_prog_15_method_10_31 : decode prog_15_method_10_code 31 = .ok (.iload_n 2, 1) := by decide +kernel
theorem d_prog_15_method_10_32 : decode prog_15_method_10_code 32 = .ok (.ireturn, 1) := by decide +kernel
theorem d_prog_15_method_10_10 : decode prog_15_method_10_code 10 = .ok (.aload_n 0, 1) := by decide +kernel
theorem d_prog_15_method_10_11 : decode prog_15_method_10_code 11 = .ok (.getfield 9, 3) := by decide +kernel
theorem d_prog_15_method_10_14 : decode prog_15_method_10_code 14 = .ok (.aload_n 0, 1) := by decide +kernel
theorem d_prog_15_method_10_15 : decode prog_15_method_10_code 15 = .ok (.getfield 16, 3) := by decide +kernel
theorem d_prog_15_method_10_18 : decode prog_15_method_10_code 18 = .ok (.iload_n 2, 1) := by decide +kernel
theorem d_prog_15_method_10_19 : decode prog_15_method_10_code 19 = .ok (.iaload, 1) := by decide +kernel
theorem d_prog_15_method_10_20 : decode prog_15_method_10_code 20 = .ok (.iaload, 1) := by decide +kernel
theorem d_prog_15_method_10_21 : decode prog_15_method_10_code 21 = .ok (.iload_n 2, 1) := by decide +kernel
theorem d_prog_15_method_10_22 : decode prog_15_method_10_code 22 = .ok (.if_icmp .eq 9, 3) := by decide +kernel
theorem d_prog_15_method_10_25 : decode prog_15_method_10_code 25 = .ok (.iinc 2 1, 3) := by decide +kernel
theorem d_prog_15_method_10_28 : decode prog_15_method_10_code 28 = .ok (.goto (-26), 3) := by decide +kernel
theorem pf_gP : plainFor (⟨"com/example/cairn/cairn/cache/UseOrder", "current", "(I)I"⟩ : MethodName) = true := by first | exact plainFor_of_name (by first | (simp [plainName, overriddenIn]; done) | decide +kernel) | decide +kernel
theorem ef_gP (m : MethodId) (n0 : Nat) (pl : Int32) : entryFrame m #[(.ref (n0 + 0)), (.int pl)] 3 = (mkF m 0 #[.val (.ref (n0 + 0)), .val (.int pl), .unset] []) := by first | (simp [entryFrame, mkF, argsToLocals, Value.category]; done) | rfl
set_option maxRecDepth 65536 in
set_option maxHeartbeats 40000000 in
theorem gP (l : Launch) (Z : State) (a0 : Array Value) (hw : ∀ d ∈ tables_1, d.before a0 Z = true) (n0 : Nat) (lu : List Int32) (fs : List Int32) (lg : List Int32) (fc : Int32) (tk : Int32) (us : Int32) (en : Int32) (fi : Int32) (pl : Int32) (hu : lu.length = 16) (hs : fs.length = 16) (hl : lg.length = 32) (hb : ∀ x ∈ lg, 0 ≤ x.toInt ∧ x.toInt < 16) (hn : en.toInt ≤ 32) (hp : 0 ≤ pl.toInt) :
    own_met l Z n0 (⟨"com/example/cairn/cairn/cache/UseOrder", "current", "(I)I"⟩ : MethodName) prog_15_method_10_code 3 (some .int) ({ frames := 0, cells := 0, slots := 0, locals := 0 } : Room) #[(.ref (n0 + 0)), (.int pl)] [(own_obj Z "com/example/cairn/cairn/cache/UseOrder" ns_UseOrder [(.ref (n0 + 1)), (.ref (n0 + 2)), (.ref (n0 + 3)), (.int fc), (.int tk), (.int us), (.int en), (.int fi)]), (own_ia Z .int lu), (own_ia Z .int fs), (own_ia Z .int lg)] (fun v its' => v = some (.int (own_cur lu lg en (en.toInt - pl.toInt).toNat pl)) ∧ its' = [(own_obj Z "com/example/cairn/cairn/cache/UseOrder" ns_UseOrder [(.ref (n0 + 1)), (.ref (n0 + 2)), (.ref (n0 + 3)), (.int fc), (.int tk), (.int us), (.int en), (.int fi)]), (own_ia Z .int lu), (own_ia Z .int fs), (own_ia Z .int lg)]) := by
  refine own_met.of pf_gP ?_
  intro p e s m below meth c T0 hx hby hml hret hlk hZ hown hnm A0
  replace hown : s.vm.findClass "com/example/cairn/cairn/cache/UseOrder" = some m.cls := hown
  replace hml : c.maxLocals = 3 := hml
  rw [ef_gP m n0 pl]
  show own_go _ _ _ _ _ _ _ (T0.setTop (mkF m 0 #[.val (.ref (n0 + 0)), .val (.int pl), .unset] []))
  refine own_by (u' := T0.setTop (mkF m 1 #[.val (.ref (n0 + 0)), .val (.int pl), .unset] [(.int pl)])) (fun _ k => XS.iloadN A0.here hx rfl (own_db hby d_prog_15_method_10_0) rfl k) ?_
  refine own_by (u' := T0.setTop (mkF m 2 #[.val (.ref (n0 + 0)), .val (.int pl), .val (.int pl)] [])) (fun _ k => XS.istoreN A0.here hx rfl (own_db hby d_prog_15_method_10_1) rfl (l' := #[.val (.ref (n0 + 0)), .val (.int pl), .val (.int pl)]) rfl k) ?_
  have lp1 : ∀ (k : Nat) (T2 : State) (ii : Int32), own_at p l e ({ frames := 0, cells := 0, slots := 0, locals := 0 } : Room) s m #[(.ref (n0 + 0)), (.int pl)] below meth c n0 T2 0 0 [(own_obj Z "com/example/cairn/cairn/cache/UseOrder" ns_UseOrder [(.ref (n0 + 1)), (.ref (n0 + 2)), (.ref (n0 + 3)), (.int fc), (.int tk), (.int us), (.int en), (.int fi)]), (own_ia Z .int lu), (own_ia Z .int fs), (own_ia Z .int lg)] → (0 ≤ ii.toInt ∧ (ii.toInt + ((k : Nat) : Int) = en.toInt ∨ (k = 0 ∧ en.toInt ≤ ii.toInt))) → (own_cur lu lg en k ii = own_cur lu lg en (en.toInt - pl.toInt).toNat pl) → own_go p e ({ frames := 0, cells := 0, slots := 0, locals := 0 } : Room) s below n0 (fun v its' => v = some (.int (own_cur lu lg en (en.toInt - pl.toInt).toNat pl)) ∧ its' = [(own_obj Z "com/example/cairn/cairn/cache/UseOrder" ns_UseOrder [(.ref (n0 + 1)), (.ref (n0 + 2)), (.ref (n0 + 3)), (.int fc), (.int tk), (.int us), (.int en), (.int fi)]), (own_ia Z .int lu), (own_ia Z .int fs), (own_ia Z .int lg)]) (T2.setTop (mkF m 2 #[.val (.ref (n0 + 0)), .val (.int pl), .val (.int ii)] [])) := by
    intro k
    induction k with
    | zero =>
      intro T2 ii A3 hi hv
      refine own_by (u' := T2.setTop (mkF m 3 #[.val (.ref (n0 + 0)), .val (.int pl), .val (.int ii)] [(.int ii)])) (fun _ k => XS.iloadN A3.here hx rfl (own_db hby d_prog_15_method_10_2) rfl k) ?_
      refine own_by (u' := T2.setTop (mkF m 4 #[.val (.ref (n0 + 0)), .val (.int pl), .val (.int ii)] [(.ref (n0 + 0)), (.int ii)])) (fun _ k => XS.aloadN A3.here hx rfl (own_db hby d_prog_15_method_10_3) rfl rfl k) ?_
      refine own_getF A3 hx hZ hown (hw _ (List.mem_of_getElem? (i := 32) rfl)) (i := 0) rfl 6 rfl rfl (own_db hby d_prog_15_method_10_4) ?_
      intro T5 A6
      show own_go _ _ _ _ _ _ _ (T5.setTop (mkF m 7 #[.val (.ref (n0 + 0)), .val (.int pl), .val (.int ii)] [(.int en), (.int ii)]))
      refine own_by (u' := T5.setTop (mkF m 31 #[.val (.ref (n0 + 0)), .val (.int pl), .val (.int ii)] [])) (fun _ k => XS.icmpYes A6.here hx rfl (pc0 := 7) (pc' := 31) rfl (own_db hby d_prog_15_method_10_7) rfl (flt (own_z hi)).2.1 (by decide) (by decide) k) ?_
      refine own_by (u' := T5.setTop (mkF m 32 #[.val (.ref (n0 + 0)), .val (.int pl), .val (.int ii)] [(.int ii)])) (fun _ k => XS.iloadN A6.here hx rfl (own_db hby d_prog_15_method_10_31) rfl k) ?_
      exact own_retI A6 hx hlk hret (own_db hby d_prog_15_method_10_32) (by decide) (by decide) ⟨congrArg (fun z => some (Value.int z)) hv, rfl⟩
    | succ k ih4 =>
      intro T2 ii A3 hi hv
      refine own_by (u' := T2.setTop (mkF m 3 #[.val (.ref (n0 + 0)), .val (.int pl), .val (.int ii)] [(.int ii)])) (fun _ k => XS.iloadN A3.here hx rfl (own_db hby d_prog_15_method_10_2) rfl k) ?_
      refine own_by (u' := T2.setTop (mkF m 4 #[.val (.ref (n0 + 0)), .val (.int pl), .val (.int ii)] [(.ref (n0 + 0)), (.int ii)])) (fun _ k => XS.aloadN A3.here hx rfl (own_db hby d_prog_15_method_10_3) rfl rfl k) ?_
      refine own_getF A3 hx hZ hown (hw _ (List.mem_of_getElem? (i := 32) rfl)) (i := 0) rfl 6 rfl rfl (own_db hby d_prog_15_method_10_4) ?_
      intro T7 A8
      show own_go _ _ _ _ _ _ _ (T7.setTop (mkF m 7 #[.val (.ref (n0 + 0)), .val (.int pl), .val (.int ii)] [(.int en), (.int ii)]))
      refine own_by (u' := T7.setTop (mkF m 10 #[.val (.ref (n0 + 0)), .val (.int pl), .val (.int ii)] [])) (fun _ k => XS.icmpNo A8.here hx rfl (own_db hby d_prog_15_method_10_7) rfl (tlt (own_s hi)).2.1 k) ?_
      refine own_by (u' := T7.setTop (mkF m 11 #[.val (.ref (n0 + 0)), .val (.int pl), .val (.int ii)] [(.ref (n0 + 0))])) (fun _ k => XS.aloadN A8.here hx rfl (own_db hby d_prog_15_method_10_10) rfl rfl k) ?_
      refine own_getF A8 hx hZ hown (hw _ (List.mem_of_getElem? (i := 10) rfl)) (i := 0) rfl 0 rfl rfl (own_db hby d_prog_15_method_10_11) ?_
      intro T9 A10
      show own_go _ _ _ _ _ _ _ (T9.setTop (mkF m 14 #[.val (.ref (n0 + 0)), .val (.int pl), .val (.int ii)] [(.ref (n0 + 1))]))
      refine own_by (u' := T9.setTop (mkF m 15 #[.val (.ref (n0 + 0)), .val (.int pl), .val (.int ii)] [(.ref (n0 + 0)), (.ref (n0 + 1))])) (fun _ k => XS.aloadN A10.here hx rfl (own_db hby d_prog_15_method_10_14) rfl rfl k) ?_
      refine own_getF A10 hx hZ hown (hw _ (List.mem_of_getElem? (i := 14) rfl)) (i := 0) rfl 2 rfl rfl (own_db hby d_prog_15_method_10_15) ?_
      intro T11 A12
      show own_go _ _ _ _ _ _ _ (T11.setTop (mkF m 18 #[.val (.ref (n0 + 0)), .val (.int pl), .val (.int ii)] [(.ref (n0 + 3)), (.ref (n0 + 1))]))
      refine own_by (u' := T11.setTop (mkF m 19 #[.val (.ref (n0 + 0)), .val (.int pl), .val (.int ii)] [(.int ii), (.ref (n0 + 3)), (.ref (n0 + 1))])) (fun _ k => XS.iloadN A12.here hx rfl (own_db hby d_prog_15_method_10_18) rfl k) ?_
      refine own_iaload A12 hx hZ (i := 3) rfl (x := (own_g lg ii)) (own_rd hl hi.1 (own_ub hn hi)) (own_db hby d_prog_15_method_10_19) ?_
      show own_go _ _ _ _ _ _ _ (T11.setTop (mkF m 20 #[.val (.ref (n0 + 0)), .val (.int pl), .val (.int ii)] [(.int (own_g lg ii)), (.ref (n0 + 1))]))
      refine own_iaload A12 hx hZ (i := 1) rfl (x := (own_g lu (own_g lg ii))) (own_rd hu (own_in hl hb hi.1 (own_ub hn hi)).1 (own_in hl hb hi.1 (own_ub hn hi)).2) (own_db hby d_prog_15_method_10_20) ?_
      show own_go _ _ _ _ _ _ _ (T11.setTop (mkF m 21 #[.val (.ref (n0 + 0)), .val (.int pl), .val (.int ii)] [(.int (own_g lu (own_g lg ii)))]))
      refine own_by (u' := T11.setTop (mkF m 22 #[.val (.ref (n0 + 0)), .val (.int pl), .val (.int ii)] [(.int ii), (.int (own_g lu (own_g lg ii)))])) (fun _ k => XS.iloadN A12.here hx rfl (own_db hby d_prog_15_method_10_21) rfl k) ?_
      by_cases hc13 : (own_g lu (own_g lg ii)) = ii
      · refine own_by (u' := T11.setTop (mkF m 31 #[.val (.ref (n0 + 0)), .val (.int pl), .val (.int ii)] [])) (fun _ k => XS.icmpYes A12.here hx rfl (pc0 := 22) (pc' := 31) rfl (own_db hby d_prog_15_method_10_22) rfl (teq hc13).1 (by decide) (by decide) k) ?_
        refine own_by (u' := T11.setTop (mkF m 32 #[.val (.ref (n0 + 0)), .val (.int pl), .val (.int ii)] [(.int ii)])) (fun _ k => XS.iloadN A12.here hx rfl (own_db hby d_prog_15_method_10_31) rfl k) ?_
        exact own_retI A12 hx hlk hret (own_db hby d_prog_15_method_10_32) (by decide) (by decide) ⟨by rw [← hv]; show _ = some (Value.int (if own_g lu (own_g lg ii) = ii then ii else own_cur lu lg en k (ii + (1 : Int32)))); rw [if_pos hc13], rfl⟩
      · refine own_by (u' := T11.setTop (mkF m 25 #[.val (.ref (n0 + 0)), .val (.int pl), .val (.int ii)] [])) (fun _ k => XS.icmpNo A12.here hx rfl (own_db hby d_prog_15_method_10_22) rfl (feq hc13).1 k) ?_
        refine own_by (u' := T11.setTop (mkF m 28 #[.val (.ref (n0 + 0)), .val (.int pl), .val (.int (ii + (1 : Int32)))] [])) (fun _ k => XS.iinc A12.here hx rfl (own_db hby d_prog_15_method_10_25) rfl (l' := #[.val (.ref (n0 + 0)), .val (.int pl), .val (.int (ii + (1 : Int32)))]) rfl k) ?_
        refine own_by (u' := T11.setTop (mkF m 2 #[.val (.ref (n0 + 0)), .val (.int pl), .val (.int (ii + (1 : Int32)))] [])) (fun _ k => XS.goto A12.here hx rfl (pc0 := 28) (pc' := 2) rfl (own_db hby d_prog_15_method_10_28) (by decide) (by decide) k) ?_
        exact ih4 _ (ii + (1 : Int32)) A12 (own_nx hn hi) (by rw [← hv]; show _ = (if own_g lu (own_g lg ii) = ii then ii else own_cur lu lg en k (ii + (1 : Int32))); rw [if_neg hc13])
  exact lp1 ((en.toInt - pl.toInt).toNat) _ pl A0 ⟨hp, by omega⟩ rfl
theorem d_prog_15_method_6_0 : decode prog_15_method_6_code 0 = .ok (.aload_n 0, 1) := by decide +kernel
theorem d_prog_15_method_6_1 : decode prog_15_method_6_code 1 = .ok (.aload_n 0, 1) := by decide +kernel
theorem d_prog_15_method_6_2 : decode prog_15_method_6_code 2 = .ok (.getfield 45, 3) := by decide +kernel
theorem d_prog_15_method_6_5 : decode prog_15_method_6_code 5 = .ok (.invokevirtual 48, 3) := by decide +kernel
theorem pd__I_I : parseMethodDescriptor "(I)I" = some ⟨[.int], some .int⟩ := by decide +kernel
theorem d_prog_15_method_6_8 : decode prog_15_method_6_code 8 = .ok (.ireturn, 1) := by decide +kernel
theorem pf_gS : plainFor (⟨"com/example/cairn/cairn/cache/UseOrder", "start", "()I"⟩ : MethodName) = true := by first | exact plainFor_of_name (by first | (simp [plainName, overriddenIn]; done) | decide +kernel) | decide +kernel
theorem ef_gS (m : MethodId) (n0 : Nat) : entryFrame m #[(.ref (n0 + 0))] 1 = (mkF m 0 #[.val (.ref (n0 + 0))] []) := by first | (simp [entryFrame, mkF, argsToLocals, Value.category]; done) | rfl
set_option maxRecDepth 65536 in
set_option maxHeartbeats 40000000 in
theorem gS (l : Launch) (Z : State) (a0 : Array Value) (hw : ∀ d ∈ tables_1, d.before a0 Z = true) (n0 : Nat) (lu : List Int32) (fs : List Int32) (lg : List Int32) (fc : Int32) (tk : Int32) (us : Int32) (en : Int32) (fi : Int32) (hu : lu.length = 16) (hs : fs.length = 16) (hl : lg.length = 32) (hb : ∀ x ∈ lg, 0 ≤ x.toInt ∧ x.toInt < 16) (hn : en.toInt ≤ 32) (hp : 0 ≤ fi.toInt) :
    own_met l Z n0 (⟨"com/example/cairn/cairn/cache/UseOrder", "start", "()I"⟩ : MethodName) prog_15_method_6_code 1 (some .int) ({ frames := 1, cells := 0, slots := 0, locals := 14 } : Room) #[(.ref (n0 + 0))] [(own_obj Z "com/example/cairn/cairn/cache/UseOrder" ns_UseOrder [(.ref (n0 + 1)), (.ref (n0 + 2)), (.ref (n0 + 3)), (.int fc), (.int tk), (.int us), (.int en), (.int fi)]), (own_ia Z .int lu), (own_ia Z .int fs), (own_ia Z .int lg)] (fun v its' => v = some (.int (own_cur lu lg en (en.toInt - fi.toInt).toNat fi)) ∧ its' = [(own_obj Z "com/example/cairn/cairn/cache/UseOrder" ns_UseOrder [(.ref (n0 + 1)), (.ref (n0 + 2)), (.ref (n0 + 3)), (.int fc), (.int tk), (.int us), (.int en), (.int fi)]), (own_ia Z .int lu), (own_ia Z .int fs), (own_ia Z .int lg)]) := by
  refine own_met.of pf_gS ?_
  intro p e s m below meth c T0 hx hby hml hret hlk hZ hown hnm A0
  replace hown : s.vm.findClass "com/example/cairn/cairn/cache/UseOrder" = some m.cls := hown
  replace hml : c.maxLocals = 1 := hml
  rw [ef_gS m n0]
  show own_go _ _ _ _ _ _ _ (T0.setTop (mkF m 0 #[.val (.ref (n0 + 0))] []))
  refine own_by (u' := T0.setTop (mkF m 1 #[.val (.ref (n0 + 0))] [(.ref (n0 + 0))])) (fun _ k => XS.aloadN A0.here hx rfl (own_db hby d_prog_15_method_6_0) rfl rfl k) ?_
  refine own_by (u' := T0.setTop (mkF m 2 #[.val (.ref (n0 + 0))] [(.ref (n0 + 0)), (.ref (n0 + 0))])) (fun _ k => XS.aloadN A0.here hx rfl (own_db hby d_prog_15_method_6_1) rfl rfl k) ?_
  refine own_getF A0 hx hZ hown (hw _ (List.mem_of_getElem? (i := 44) rfl)) (i := 0) rfl 7 rfl rfl (own_db hby d_prog_15_method_6_2) ?_
  intro T1 A2
  show own_go _ _ _ _ _ _ _ (T1.setTop (mkF m 5 #[.val (.ref (n0 + 0))] [(.int fi), (.ref (n0 + 0))]))
  refine own_callP (y := (⟨"com/example/cairn/cairn/cache/UseOrder", "current", "(I)I"⟩ : MethodName)) (rest := []) A2 hx hZ hown (hw _ (List.mem_of_getElem? (i := 46) rfl)) (hw _ (List.mem_of_getElem? (i := 48) rfl)) (hw _ (List.mem_of_getElem? (i := 1) rfl)) (hw _ (List.mem_of_getElem? (i := 47) rfl)) (hw _ (List.mem_of_getElem? (i := 2) rfl)) (hw _ (List.mem_of_getElem? (i := 49) rfl)) (by decide) (i := 0) rfl (gP l Z a0 hw n0 lu fs lg fc tk us en fi fi hu hs hl hb hn hp) (by rw [hml]; rfl) [(.int fi)] rfl rfl pd__I_I rfl (W := 0) (by show 2 * 0 + _ ≤ _; exact Nat.le_of_eq rfl) (own_db hby d_prog_15_method_6_5) (by decide) (by decide) (by decide) (by decide) ?_
  intro v3 i4 T6 hq5 A7
  obtain ⟨rfl, he8⟩ := hq5
  rw [he8] at A7
  replace A7 : own_at p l e _ s m _ below meth c n0 T6 0 0 [(own_obj Z "com/example/cairn/cairn/cache/UseOrder" ns_UseOrder [(.ref (n0 + 1)), (.ref (n0 + 2)), (.ref (n0 + 3)), (.int fc), (.int tk), (.int us), (.int en), (.int fi)]), (own_ia Z .int lu), (own_ia Z .int fs), (own_ia Z .int lg)] := A7
  show own_go _ _ _ _ _ _ _ (T6.setTop (mkF m 8 #[.val (.ref (n0 + 0))] [(.int (own_cur lu lg en (en.toInt - fi.toInt).toNat fi))]))
  exact own_retI A7 hx hlk hret (own_db hby d_prog_15_method_6_8) (by decide) (by decide) ⟨rfl, rfl⟩
theorem d_prog_15_method_7_0 : decode prog_15_method_7_code 0 = .ok (.aload_n 0, 1) := by decide +kernel
theorem d_prog_15_method_7_1 : decode prog_15_method_7_code 1 = .ok (.iload_n 1, 1) := by decide +kernel
theorem d_prog_15_method_7_2 : decode prog_15_method_7_code 2 = .ok (.iconst 1, 1) := by decide +kernel
theorem d_prog_15_method_7_3 : decode prog_15_method_7_code 3 = .ok (.iadd, 1) := by decide +kernel
theorem d_prog_15_method_7_4 : decode prog_15_method_7_code 4 = .ok (.invokevirtual 48, 3) := by decide +kernel
theorem d_prog_15_method_7_7 : decode prog_15_method_7_code 7 = .ok (.ireturn, 1) := by decide +kernel
theorem pf_gM : plainFor (⟨"com/example/cairn/cairn/cache/UseOrder", "next", "(I)I"⟩ : MethodName) = true := by first | exact plainFor_of_name (by first | (simp [plainName, overriddenIn]; done) | decide +kernel) | decide +kernel
theorem ef_gM (m : MethodId) (n0 : Nat) (pl : Int32) : entryFrame m #[(.ref (n0 + 0)), (.int pl)] 2 = (mkF m 0 #[.val (.ref (n0 + 0)), .val (.int pl)] []) := by first | (simp [entryFrame, mkF, argsToLocals, Value.category]; done) | rfl
set_option maxRecDepth 65536 in
set_option maxHeartbeats 40000000 in
theorem gM (l : Launch) (Z : State) (a0 : Array Value) (hw : ∀ d ∈ tables_1, d.before a0 Z = true) (n0 : Nat) (lu : List Int32) (fs : List Int32) (lg : List Int32) (fc : Int32) (tk : Int32) (us : Int32) (en : Int32) (fi : Int32) (pl : Int32) (hu : lu.length = 16) (hs : fs.length = 16) (hl : lg.length = 32) (hb : ∀ x ∈ lg, 0 ≤ x.toInt ∧ x.toInt < 16) (hn : en.toInt ≤ 32) (hp : 0 ≤ (pl + (1 : Int32)).toInt) :
    own_met l Z n0 (⟨"com/example/cairn/cairn/cache/UseOrder", "next", "(I)I"⟩ : MethodName) prog_15_method_7_code 2 (some .int) ({ frames := 1, cells := 0, slots := 0, locals := 14 } : Room) #[(.ref (n0 + 0)), (.int pl)] [(own_obj Z "com/example/cairn/cairn/cache/UseOrder" ns_UseOrder [(.ref (n0 + 1)), (.ref (n0 + 2)), (.ref (n0 + 3)), (.int fc), (.int tk), (.int us), (.int en), (.int fi)]), (own_ia Z .int lu), (own_ia Z .int fs), (own_ia Z .int lg)] (fun v its' => v = some (.int (own_cur lu lg en (en.toInt - (pl + (1 : Int32)).toInt).toNat (pl + (1 : Int32)))) ∧ its' = [(own_obj Z "com/example/cairn/cairn/cache/UseOrder" ns_UseOrder [(.ref (n0 + 1)), (.ref (n0 + 2)), (.ref (n0 + 3)), (.int fc), (.int tk), (.int us), (.int en), (.int fi)]), (own_ia Z .int lu), (own_ia Z .int fs), (own_ia Z .int lg)]) := by
  refine own_met.of pf_gM ?_
  intro p e s m below meth c T0 hx hby hml hret hlk hZ hown hnm A0
  replace hown : s.vm.findClass "com/example/cairn/cairn/cache/UseOrder" = some m.cls := hown
  replace hml : c.maxLocals = 2 := hml
  rw [ef_gM m n0 pl]
  show own_go _ _ _ _ _ _ _ (T0.setTop (mkF m 0 #[.val (.ref (n0 + 0)), .val (.int pl)] []))
  refine own_by (u' := T0.setTop (mkF m 1 #[.val (.ref (n0 + 0)), .val (.int pl)] [(.ref (n0 + 0))])) (fun _ k => XS.aloadN A0.here hx rfl (own_db hby d_prog_15_method_7_0) rfl rfl k) ?_
  refine own_by (u' := T0.setTop (mkF m 2 #[.val (.ref (n0 + 0)), .val (.int pl)] [(.int pl), (.ref (n0 + 0))])) (fun _ k => XS.iloadN A0.here hx rfl (own_db hby d_prog_15_method_7_1) rfl k) ?_
  refine own_by (u' := T0.setTop (mkF m 3 #[.val (.ref (n0 + 0)), .val (.int pl)] [(.int (1 : Int32)), (.int pl), (.ref (n0 + 0))])) (fun _ k => XS.iconst A0.here hx rfl (own_db hby d_prog_15_method_7_2) k) ?_
  refine own_by (u' := T0.setTop (mkF m 4 #[.val (.ref (n0 + 0)), .val (.int pl)] [(.int (pl + (1 : Int32))), (.ref (n0 + 0))])) (fun _ k => XS.iadd A0.here hx rfl (own_db hby d_prog_15_method_7_3) rfl k) ?_
  refine own_callP (y := (⟨"com/example/cairn/cairn/cache/UseOrder", "current", "(I)I"⟩ : MethodName)) (rest := []) A0 hx hZ hown (hw _ (List.mem_of_getElem? (i := 46) rfl)) (hw _ (List.mem_of_getElem? (i := 48) rfl)) (hw _ (List.mem_of_getElem? (i := 1) rfl)) (hw _ (List.mem_of_getElem? (i := 47) rfl)) (hw _ (List.mem_of_getElem? (i := 2) rfl)) (hw _ (List.mem_of_getElem? (i := 49) rfl)) (by decide) (i := 0) rfl (gP l Z a0 hw n0 lu fs lg fc tk us en fi (pl + (1 : Int32)) hu hs hl hb hn hp) (by rw [hml]; rfl) [(.int (pl + (1 : Int32)))] rfl rfl pd__I_I rfl (W := 0) (by show 2 * 0 + _ ≤ _; exact Nat.le_of_eq rfl) (own_db hby d_prog_15_method_7_4) (by decide) (by decide) (by decide) (by decide) ?_
  intro v1 i2 T4 hq3 A5
  obtain ⟨rfl, he6⟩ := hq3
  rw [he6] at A5
  replace A5 : own_at p l e _ s m _ below meth c n0 T4 0 0 [(own_obj Z "com/example/cairn/cairn/cache/UseOrder" ns_UseOrder [(.ref (n0 + 1)), (.ref (n0 + 2)), (.ref (n0 + 3)), (.int fc), (.int tk), (.int us), (.int en), (.int fi)]), (own_ia Z .int lu), (own_ia Z .int fs), (own_ia Z .int lg)] := A5
  show own_go _ _ _ _ _ _ _ (T4.setTop (mkF m 7 #[.val (.ref (n0 + 0)), .val (.int pl)] [(.int (own_cur lu lg en (en.toInt - (pl + (1 : Int32)).toInt).toNat (pl + (1 : Int32))))]))
  exact own_retI A5 hx hlk hret (own_db hby d_prog_15_method_7_7) (by decide) (by decide) ⟨rfl, rfl⟩
theorem d_prog_15_method_8_0 : decode prog_15_method_8_code 0 = .ok (.iload_n 1, 1) := by decide +kernel
theorem d_prog_15_method_8_1 : decode prog_15_method_8_code 1 = .ok (.aload_n 0, 1) := by decide +kernel
theorem d_prog_15_method_8_2 : decode prog_15_method_8_code 2 = .ok (.getfield 39, 3) := by decide +kernel
theorem d_prog_15_method_8_5 : decode prog_15_method_8_code 5 = .ok (.if_icmp .ne 7, 3) := by decide +kernel
theorem d_prog_15_method_8_8 : decode prog_15_method_8_code 8 = .ok (.iconst (-1), 1) := by decide +kernel
theorem d_prog_15_method_8_9 : decode prog_15_method_8_code 9 = .ok (.goto 9, 3) := by decide +kernel
theorem d_prog_15_method_8_18 : decode prog_15_method_8_code 18 = .ok (.ireturn, 1) := by decide +kernel
theorem d_prog_15_method_8_12 : decode prog_15_method_8_code 12 = .ok (.aload_n 0, 1) := by decide +kernel
theorem d_prog_15_method_8_13 : decode prog_15_method_8_code 13 = .ok (.getfield 16, 3) := by decide +kernel
theorem d_prog_15_method_8_16 : decode prog_15_method_8_code 16 = .ok (.iload_n 1, 1) := by decide +kernel
theorem d_prog_15_method_8_17 : decode prog_15_method_8_code 17 = .ok (.iaload, 1) := by decide +kernel
def fA (lg : List Int32) (en : Int32) (pl : Int32) : Int32 := if pl = en then (-1 : Int32)
  else (own_g lg pl)
theorem pf_gA : plainFor (⟨"com/example/cairn/cairn/cache/UseOrder", "slotAt", "(I)I"⟩ : MethodName) = true := by first | exact plainFor_of_name (by first | (simp [plainName, overriddenIn]; done) | decide +kernel) | decide +kernel
theorem ef_gA (m : MethodId) (n0 : Nat) (pl : Int32) : entryFrame m #[(.ref (n0 + 0)), (.int pl)] 2 = (mkF m 0 #[.val (.ref (n0 + 0)), .val (.int pl)] []) := by first | (simp [entryFrame, mkF, argsToLocals, Value.category]; done) | rfl
set_option maxRecDepth 65536 in
set_option maxHeartbeats 40000000 in
theorem gA (l : Launch) (Z : State) (a0 : Array Value) (hw : ∀ d ∈ tables_1, d.before a0 Z = true) (n0 : Nat) (lu : List Int32) (fs : List Int32) (lg : List Int32) (fc : Int32) (tk : Int32) (us : Int32) (en : Int32) (fi : Int32) (pl : Int32) (hu : lu.length = 16) (hs : fs.length = 16) (hl : lg.length = 32) (hp : 0 ≤ pl.toInt ∧ pl.toInt < (32 : Nat)) :
    own_met l Z n0 (⟨"com/example/cairn/cairn/cache/UseOrder", "slotAt", "(I)I"⟩ : MethodName) prog_15_method_8_code 2 (some .int) ({ frames := 0, cells := 0, slots := 0, locals := 0 } : Room) #[(.ref (n0 + 0)), (.int pl)] [(own_obj Z "com/example/cairn/cairn/cache/UseOrder" ns_UseOrder [(.ref (n0 + 1)), (.ref (n0 + 2)), (.ref (n0 + 3)), (.int fc), (.int tk), (.int us), (.int en), (.int fi)]), (own_ia Z .int lu), (own_ia Z .int fs), (own_ia Z .int lg)] (fun v its' => v = some (.int (fA lg en pl)) ∧ its' = [(own_obj Z "com/example/cairn/cairn/cache/UseOrder" ns_UseOrder [(.ref (n0 + 1)), (.ref (n0 + 2)), (.ref (n0 + 3)), (.int fc), (.int tk), (.int us), (.int en), (.int fi)]), (own_ia Z .int lu), (own_ia Z .int fs), (own_ia Z .int lg)]) := by
  refine own_met.of pf_gA ?_
  intro p e s m below meth c T0 hx hby hml hret hlk hZ hown hnm A0
  replace hown : s.vm.findClass "com/example/cairn/cairn/cache/UseOrder" = some m.cls := hown
  replace hml : c.maxLocals = 2 := hml
  rw [ef_gA m n0 pl]
  show own_go _ _ _ _ _ _ _ (T0.setTop (mkF m 0 #[.val (.ref (n0 + 0)), .val (.int pl)] []))
  refine own_by (u' := T0.setTop (mkF m 1 #[.val (.ref (n0 + 0)), .val (.int pl)] [(.int pl)])) (fun _ k => XS.iloadN A0.here hx rfl (own_db hby d_prog_15_method_8_0) rfl k) ?_
  refine own_by (u' := T0.setTop (mkF m 2 #[.val (.ref (n0 + 0)), .val (.int pl)] [(.ref (n0 + 0)), (.int pl)])) (fun _ k => XS.aloadN A0.here hx rfl (own_db hby d_prog_15_method_8_1) rfl rfl k) ?_
  refine own_getF A0 hx hZ hown (hw _ (List.mem_of_getElem? (i := 32) rfl)) (i := 0) rfl 6 rfl rfl (own_db hby d_prog_15_method_8_2) ?_
  intro T1 A2
  show own_go _ _ _ _ _ _ _ (T1.setTop (mkF m 5 #[.val (.ref (n0 + 0)), .val (.int pl)] [(.int en), (.int pl)]))
  by_cases hc3 : pl = en
  · refine own_by (u' := T1.setTop (mkF m 8 #[.val (.ref (n0 + 0)), .val (.int pl)] [])) (fun _ k => XS.icmpNo A2.here hx rfl (own_db hby d_prog_15_method_8_5) rfl (teq hc3).2 k) ?_
    refine own_by (u' := T1.setTop (mkF m 9 #[.val (.ref (n0 + 0)), .val (.int pl)] [(.int (-1 : Int32))])) (fun _ k => XS.iconst A2.here hx rfl (own_db hby d_prog_15_method_8_8) k) ?_
    refine own_by (u' := T1.setTop (mkF m 18 #[.val (.ref (n0 + 0)), .val (.int pl)] [(.int (-1 : Int32))])) (fun _ k => XS.goto A2.here hx rfl (pc0 := 9) (pc' := 18) rfl (own_db hby d_prog_15_method_8_9) (by decide) (by decide) k) ?_
    exact own_retI A2 hx hlk hret (own_db hby d_prog_15_method_8_18) (by decide) (by decide) ⟨by rw [show fA lg en pl = (-1 : Int32) from by unfold fA; simp only [if_pos hc3]] <;> rfl, rfl⟩
  · refine own_by (u' := T1.setTop (mkF m 12 #[.val (.ref (n0 + 0)), .val (.int pl)] [])) (fun _ k => XS.icmpYes A2.here hx rfl (pc0 := 5) (pc' := 12) rfl (own_db hby d_prog_15_method_8_5) rfl (feq hc3).2 (by decide) (by decide) k) ?_
    refine own_by (u' := T1.setTop (mkF m 13 #[.val (.ref (n0 + 0)), .val (.int pl)] [(.ref (n0 + 0))])) (fun _ k => XS.aloadN A2.here hx rfl (own_db hby d_prog_15_method_8_12) rfl rfl k) ?_
    refine own_getF A2 hx hZ hown (hw _ (List.mem_of_getElem? (i := 14) rfl)) (i := 0) rfl 2 rfl rfl (own_db hby d_prog_15_method_8_13) ?_
    intro T4 A5
    show own_go _ _ _ _ _ _ _ (T4.setTop (mkF m 16 #[.val (.ref (n0 + 0)), .val (.int pl)] [(.ref (n0 + 3))]))
    refine own_by (u' := T4.setTop (mkF m 17 #[.val (.ref (n0 + 0)), .val (.int pl)] [(.int pl), (.ref (n0 + 3))])) (fun _ k => XS.iloadN A5.here hx rfl (own_db hby d_prog_15_method_8_16) rfl k) ?_
    refine own_iaload A5 hx hZ (i := 3) rfl (x := (own_g lg pl)) (own_rd hl hp.1 hp.2) (own_db hby d_prog_15_method_8_17) ?_
    show own_go _ _ _ _ _ _ _ (T4.setTop (mkF m 18 #[.val (.ref (n0 + 0)), .val (.int pl)] [(.int (own_g lg pl))]))
    exact own_retI A5 hx hlk hret (own_db hby d_prog_15_method_8_18) (by decide) (by decide) ⟨by rw [show fA lg en pl = (own_g lg pl) from by unfold fA; simp only [if_neg hc3]] <;> rfl, rfl⟩
theorem pd___V : parseMethodDescriptor "()V" = some ⟨[], none⟩ := by decide +kernel
theorem pd___I : parseMethodDescriptor "()I" = some ⟨[], some .int⟩ := by decide +kernel
theorem pf_g0 : plainFor x = true := by first | exact plainFor_of_name (by first | (simp [plainName, overriddenIn]; done) | decide +kernel) | decide +kernel
theorem ef_g0 (m : MethodId) (x1 : Int32) (x2 : Int32) : entryFrame m #[(.int x1), (.int x2)] maxLocals = (mkF m 0 #[.val (.int x1), .val (.int x2), .unset, .unset, .unset, .unset, .unset, .unset, .unset, .unset] []) := by first | (simp [entryFrame, mkF, argsToLocals, Value.category, maxLocals]; done) | rfl
set_option maxRecDepth 65536 in
set_option maxHeartbeats 40000000 in
theorem g0 (l : Launch) (Z : State) (a0 : Array Value) (hw : ∀ d ∈ tables_1, d.before a0 Z = true) (n0 : Nat) (x1 : Int32) (x2 : Int32)  :
    own_met l Z n0 x code maxLocals ret room_1 #[(.int x1), (.int x2)] [] (fun v _ => v = some (.int 1) ∧ True) := by
  refine own_met.of pf_g0 ?_
  intro p e s m below meth c T0 hx hby hml hret hlk hZ hown hnm A0
  replace hown : s.vm.findClass "com/example/cairn/cairn/cache/UseOrderFreePinLaw" = some m.cls := hown
  replace hml : c.maxLocals = 10 := hml
  rw [ef_g0 m x1 x2]
  show own_go _ _ _ _ _ _ _ (T0.setTop (mkF m 0 #[.val (.int x1), .val (.int x2), .unset, .unset, .unset, .unset, .unset, .unset, .unset, .unset] []))
  refine own_new (ns := ns_UseOrder) (vs := [.null, .null, .null, (.int (0 : Int32)), (.int (0 : Int32)), (.int (0 : Int32)), (.int (0 : Int32)), (.int (0 : Int32))]) A0 hx hZ hown (hw _ (List.mem_of_getElem? (i := 0) rfl)) (hw _ (List.mem_of_getElem? (i := 1) rfl)) (hw _ (List.mem_of_getElem? (i := 2) rfl)) (own_cons ⟨(Or.inl (hw _ (List.mem_of_getElem? (i := 11) rfl))), (.array .int), by decide, rfl⟩ (own_cons ⟨(Or.inl (hw _ (List.mem_of_getElem? (i := 13) rfl))), (.array .int), by decide, rfl⟩ (own_cons ⟨(Or.inl (hw _ (List.mem_of_getElem? (i := 15) rfl))), (.array .int), by decide, rfl⟩ (own_cons ⟨(Or.inl (hw _ (List.mem_of_getElem? (i := 22) rfl))), .int, by decide, rfl⟩ (own_cons ⟨(Or.inl (hw _ (List.mem_of_getElem? (i := 24) rfl))), .int, by decide, rfl⟩ (own_cons ⟨(Or.inl (hw _ (List.mem_of_getElem? (i := 26) rfl))), .int, by decide, rfl⟩ (own_cons ⟨(Or.inl (hw _ (List.mem_of_getElem? (i := 33) rfl))), .int, by decide, rfl⟩ (own_cons ⟨(Or.inl (hw _ (List.mem_of_getElem? (i := 45) rfl))), .int, by decide, rfl⟩ own_nil)))))))) (own_db hby at_0) (by decide) (by decide) ?_
  intro T1 A2
  replace A2 : own_at p l e _ s m _ below meth c n0 T1 1 16 [(own_obj Z "com/example/cairn/cairn/cache/UseOrder" ns_UseOrder [.null, .null, .null, (.int (0 : Int32)), (.int (0 : Int32)), (.int (0 : Int32)), (.int (0 : Int32)), (.int (0 : Int32))])] := A2
  show own_go _ _ _ _ _ _ _ (T1.setTop (mkF m 3 #[.val (.int x1), .val (.int x2), .unset, .unset, .unset, .unset, .unset, .unset, .unset, .unset] [(.ref (n0 + 0))]))
  refine own_by (u' := T1.setTop (mkF m 4 #[.val (.int x1), .val (.int x2), .unset, .unset, .unset, .unset, .unset, .unset, .unset, .unset] [(.ref (n0 + 0)), (.ref (n0 + 0))])) (fun _ k => XS.dup A2.here hx rfl (own_db hby at_3) rfl rfl k) ?_
  refine own_callC (y := (⟨"com/example/cairn/cairn/cache/UseOrder", "<init>", "()V"⟩ : MethodName)) (rest := [(.ref (n0 + 0))]) A2 hx hZ hown rfl (hw _ (List.mem_of_getElem? (i := 3) rfl)) (hw _ (List.mem_of_getElem? (i := 4) rfl)) (hw _ (List.mem_of_getElem? (i := 2) rfl)) (hw _ (List.mem_of_getElem? (i := 5) rfl)) (by decide) (gC l Z a0 hw n0) (by rw [hml]; rfl) (n0 + 0) [] rfl rfl pd___V rfl (W := 1) (by show 2 * 0 + _ ≤ _; exact Nat.le_of_eq rfl) (own_db hby at_4) (by decide) (by decide) (by decide) (by decide) ?_
  intro v3 i4 T6 hq5 A7
  obtain ⟨rfl, he8⟩ := hq5
  rw [he8] at A7
  replace A7 : own_at p l e _ s m _ below meth c n0 T6 4 80 [(own_obj Z "com/example/cairn/cairn/cache/UseOrder" ns_UseOrder [(.ref (n0 + 1)), (.ref (n0 + 2)), (.ref (n0 + 3)), (.int (0 : Int32)), (.int (0 : Int32)), (.int (0 : Int32)), (.int (0 : Int32)), (.int (0 : Int32))]), (own_ia Z .int (List.replicate 16 (0 : Int32))), (own_ia Z .int (List.replicate 16 (0 : Int32))), (own_ia Z .int (List.replicate 32 (0 : Int32)))] := A7
  show own_go _ _ _ _ _ _ _ (T6.setTop (mkF m 7 #[.val (.int x1), .val (.int x2), .unset, .unset, .unset, .unset, .unset, .unset, .unset, .unset] [(.ref (n0 + 0))]))
  refine own_by (u' := T6.setTop (mkF m 8 #[.val (.int x1), .val (.int x2), .val (.ref (n0 + 0)), .unset, .unset, .unset, .unset, .unset, .unset, .unset] [])) (fun _ k => XS.astoreN A7.here hx rfl (own_db hby at_7) rfl rfl (l' := #[.val (.int x1), .val (.int x2), .val (.ref (n0 + 0)), .unset, .unset, .unset, .unset, .unset, .unset, .unset]) rfl k) ?_
  refine own_by (u' := T6.setTop (mkF m 9 #[.val (.int x1), .val (.int x2), .val (.ref (n0 + 0)), .unset, .unset, .unset, .unset, .unset, .unset, .unset] [(.ref (n0 + 0))])) (fun _ k => XS.aloadN A7.here hx rfl (own_db hby at_8) rfl rfl k) ?_
  refine own_callV (y := (⟨"com/example/cairn/cairn/cache/UseOrder", "take", "()I"⟩ : MethodName)) (rest := []) A7 hx hZ hown (hw _ (List.mem_of_getElem? (i := 16) rfl)) (hw _ (List.mem_of_getElem? (i := 17) rfl)) (hw _ (List.mem_of_getElem? (i := 19) rfl)) (hw _ (List.mem_of_getElem? (i := 18) rfl)) (hw _ (List.mem_of_getElem? (i := 2) rfl)) (hw _ (List.mem_of_getElem? (i := 20) rfl)) (by decide) (i := 0) rfl (gN l Z a0 hw n0 (List.replicate 16 (0 : Int32)) (List.replicate 16 (0 : Int32)) (List.replicate 32 (0 : Int32)) (0 : Int32) (0 : Int32) (0 : Int32) (0 : Int32) 0 0 rfl rfl rfl ⟨by decide, by decide, by decide⟩ ⟨by decide, by decide, by decide⟩) (by rw [hml]; rfl) [] rfl rfl pd___I rfl (W := 0) (by show 2 * 0 + _ ≤ _; exact Nat.le_of_eq rfl) (own_db hby at_9) (by decide) (by decide) (by decide) (by decide) ?_
  intro v9 i10 T12 hq11 A13
  obtain ⟨rfl, he14⟩ := hq11
  rw [he14] at A13
  replace A13 : own_at p l e _ s m _ below meth c n0 T12 4 80 [(own_obj Z "com/example/cairn/cairn/cache/UseOrder" ns_UseOrder [(.ref (n0 + 1)), (.ref (n0 + 2)), (.ref (n0 + 3)), (.int (0 : Int32)), (.int (1 : Int32)), (.int (1 : Int32)), (.int (1 : Int32)), (.int (0 : Int32))]), (own_ia Z .int (List.replicate 16 (0 : Int32))), (own_ia Z .int (List.replicate 16 (0 : Int32))), (own_ia Z .int (List.replicate 32 (0 : Int32)))] := A13
  show own_go _ _ _ _ _ _ _ (T12.setTop (mkF m 12 #[.val (.int x1), .val (.int x2), .val (.ref (n0 + 0)), .unset, .unset, .unset, .unset, .unset, .unset, .unset] [(.int (0 : Int32))]))
  refine own_by (u' := T12.setTop (mkF m 13 #[.val (.int x1), .val (.int x2), .val (.ref (n0 + 0)), .val (.int (0 : Int32)), .unset, .unset, .unset, .unset, .unset, .unset] [])) (fun _ k => XS.istoreN A13.here hx rfl (own_db hby at_12) rfl (l' := #[.val (.int x1), .val (.int x2), .val (.ref (n0 + 0)), .val (.int (0 : Int32)), .unset, .unset, .unset, .unset, .unset, .unset]) rfl k) ?_
  refine own_by (u' := T12.setTop (mkF m 14 #[.val (.int x1), .val (.int x2), .val (.ref (n0 + 0)), .val (.int (0 : Int32)), .unset, .unset, .unset, .unset, .unset, .unset] [(.ref (n0 + 0))])) (fun _ k => XS.aloadN A13.here hx rfl (own_db hby at_13) rfl rfl k) ?_
  refine own_callV (y := (⟨"com/example/cairn/cairn/cache/UseOrder", "take", "()I"⟩ : MethodName)) (rest := []) A13 hx hZ hown (hw _ (List.mem_of_getElem? (i := 16) rfl)) (hw _ (List.mem_of_getElem? (i := 17) rfl)) (hw _ (List.mem_of_getElem? (i := 19) rfl)) (hw _ (List.mem_of_getElem? (i := 18) rfl)) (hw _ (List.mem_of_getElem? (i := 2) rfl)) (hw _ (List.mem_of_getElem? (i := 20) rfl)) (by decide) (i := 0) rfl (gN l Z a0 hw n0 (List.replicate 16 (0 : Int32)) (List.replicate 16 (0 : Int32)) (List.replicate 32 (0 : Int32)) (1 : Int32) (1 : Int32) (1 : Int32) (0 : Int32) 1 1 rfl rfl rfl ⟨by decide, by decide, by decide⟩ ⟨by decide, by decide, by decide⟩) (by rw [hml]; rfl) [] rfl rfl pd___I rfl (W := 0) (by show 2 * 0 + _ ≤ _; exact Nat.le_of_eq rfl) (own_db hby at_14) (by decide) (by decide) (by decide) (by decide) ?_
  intro v15 i16 T18 hq17 A19
  obtain ⟨rfl, he20⟩ := hq17
  rw [he20] at A19
  replace A19 : own_at p l e _ s m _ below meth c n0 T18 4 80 [(own_obj Z "com/example/cairn/cairn/cache/UseOrder" ns_UseOrder [(.ref (n0 + 1)), (.ref (n0 + 2)), (.ref (n0 + 3)), (.int (0 : Int32)), (.int (2 : Int32)), (.int (2 : Int32)), (.int (2 : Int32)), (.int (0 : Int32))]), (own_ia Z .int ((0 : Int32) :: (1 : Int32) :: List.replicate 14 (0 : Int32))), (own_ia Z .int (List.replicate 16 (0 : Int32))), (own_ia Z .int ((0 : Int32) :: (1 : Int32) :: List.replicate 30 (0 : Int32)))] := A19
  show own_go _ _ _ _ _ _ _ (T18.setTop (mkF m 17 #[.val (.int x1), .val (.int x2), .val (.ref (n0 + 0)), .val (.int (0 : Int32)), .unset, .unset, .unset, .unset, .unset, .unset] [(.int (1 : Int32))]))
  refine own_by (u' := T18.setTop (mkF m 19 #[.val (.int x1), .val (.int x2), .val (.ref (n0 + 0)), .val (.int (0 : Int32)), .val (.int (1 : Int32)), .unset, .unset, .unset, .unset, .unset] [])) (fun _ k => XS.istore A19.here hx rfl (own_db hby at_17) rfl (l' := #[.val (.int x1), .val (.int x2), .val (.ref (n0 + 0)), .val (.int (0 : Int32)), .val (.int (1 : Int32)), .unset, .unset, .unset, .unset, .unset]) rfl k) ?_
  refine own_by (u' := T18.setTop (mkF m 20 #[.val (.int x1), .val (.int x2), .val (.ref (n0 + 0)), .val (.int (0 : Int32)), .val (.int (1 : Int32)), .unset, .unset, .unset, .unset, .unset] [(.int (0 : Int32))])) (fun _ k => XS.iloadN A19.here hx rfl (own_db hby at_19) rfl k) ?_
  refine own_by (u' := T18.setTop (mkF m 23 #[.val (.int x1), .val (.int x2), .val (.ref (n0 + 0)), .val (.int (0 : Int32)), .val (.int (1 : Int32)), .unset, .unset, .unset, .unset, .unset] [])) (fun _ k => XS.ifNo A19.here hx rfl (own_db hby at_20) rfl ((if0 _ _).trans (teq (by decide)).2) k) ?_
  refine own_by (u' := T18.setTop (mkF m 25 #[.val (.int x1), .val (.int x2), .val (.ref (n0 + 0)), .val (.int (0 : Int32)), .val (.int (1 : Int32)), .unset, .unset, .unset, .unset, .unset] [(.int (1 : Int32))])) (fun _ k => XS.iload A19.here hx rfl (own_db hby at_23) rfl k) ?_
  refine own_by (u' := T18.setTop (mkF m 26 #[.val (.int x1), .val (.int x2), .val (.ref (n0 + 0)), .val (.int (0 : Int32)), .val (.int (1 : Int32)), .unset, .unset, .unset, .unset, .unset] [(.int (1 : Int32)), (.int (1 : Int32))])) (fun _ k => XS.iconst A19.here hx rfl (own_db hby at_25) k) ?_
  refine own_by (u' := T18.setTop (mkF m 31 #[.val (.int x1), .val (.int x2), .val (.ref (n0 + 0)), .val (.int (0 : Int32)), .val (.int (1 : Int32)), .unset, .unset, .unset, .unset, .unset] [])) (fun _ k => XS.icmpYes A19.here hx rfl (pc0 := 26) (pc' := 31) rfl (own_db hby at_26) rfl (teq (by decide)).1 (by decide) (by decide) k) ?_
  refine own_by (u' := T18.setTop (mkF m 32 #[.val (.int x1), .val (.int x2), .val (.ref (n0 + 0)), .val (.int (0 : Int32)), .val (.int (1 : Int32)), .unset, .unset, .unset, .unset, .unset] [(.int x1)])) (fun _ k => XS.iloadN A19.here hx rfl (own_db hby at_31) rfl k) ?_
  refine own_by (u' := T18.setTop (mkF m 33 #[.val (.int x1), .val (.int x2), .val (.ref (n0 + 0)), .val (.int (0 : Int32)), .val (.int (1 : Int32)), .unset, .unset, .unset, .unset, .unset] [(.int (1 : Int32)), (.int x1)])) (fun _ k => XS.iconst A19.here hx rfl (own_db hby at_32) k) ?_
  refine own_by (u' := T18.setTop (mkF m 34 #[.val (.int x1), .val (.int x2), .val (.ref (n0 + 0)), .val (.int (0 : Int32)), .val (.int (1 : Int32)), .unset, .unset, .unset, .unset, .unset] [(.int (x1 &&& (1 : Int32)))])) (fun _ k => XS.iand A19.here hx rfl (own_db hby at_33) rfl k) ?_
  by_cases hc21 : (x1 &&& (1 : Int32)) = (0 : Int32)
  · refine own_by (u' := T18.setTop (mkF m 42 #[.val (.int x1), .val (.int x2), .val (.ref (n0 + 0)), .val (.int (0 : Int32)), .val (.int (1 : Int32)), .unset, .unset, .unset, .unset, .unset] [])) (fun _ k => XS.ifYes A19.here hx rfl (pc0 := 34) (pc' := 42) rfl (own_db hby at_34) rfl ((if0 _ _).trans (teq hc21).1) (by decide) (by decide) k) ?_
    refine own_by (u' := T18.setTop (mkF m 43 #[.val (.int x1), .val (.int x2), .val (.ref (n0 + 0)), .val (.int (0 : Int32)), .val (.int (1 : Int32)), .unset, .unset, .unset, .unset, .unset] [(.int x2)])) (fun _ k => XS.iloadN A19.here hx rfl (own_db hby at_42) rfl k) ?_
    refine own_by (u' := T18.setTop (mkF m 44 #[.val (.int x1), .val (.int x2), .val (.ref (n0 + 0)), .val (.int (0 : Int32)), .val (.int (1 : Int32)), .unset, .unset, .unset, .unset, .unset] [(.int (1 : Int32)), (.int x2)])) (fun _ k => XS.iconst A19.here hx rfl (own_db hby at_43) k) ?_
    refine own_by (u' := T18.setTop (mkF m 45 #[.val (.int x1), .val (.int x2), .val (.ref (n0 + 0)), .val (.int (0 : Int32)), .val (.int (1 : Int32)), .unset, .unset, .unset, .unset, .unset] [(.int (x2 &&& (1 : Int32)))])) (fun _ k => XS.iand A19.here hx rfl (own_db hby at_44) rfl k) ?_
    by_cases hc22 : (x2 &&& (1 : Int32)) = (0 : Int32)
    · refine own_by (u' := T18.setTop (mkF m 53 #[.val (.int x1), .val (.int x2), .val (.ref (n0 + 0)), .val (.int (0 : Int32)), .val (.int (1 : Int32)), .unset, .unset, .unset, .unset, .unset] [])) (fun _ k => XS.ifYes A19.here hx rfl (pc0 := 45) (pc' := 53) rfl (own_db hby at_45) rfl ((if0 _ _).trans (teq hc22).1) (by decide) (by decide) k) ?_
      refine own_by (u' := T18.setTop (mkF m 54 #[.val (.int x1), .val (.int x2), .val (.ref (n0 + 0)), .val (.int (0 : Int32)), .val (.int (1 : Int32)), .unset, .unset, .unset, .unset, .unset] [(.int (0 : Int32))])) (fun _ k => XS.iloadN A19.here hx rfl (own_db hby at_53) rfl k) ?_
      refine own_by (u' := T18.setTop (mkF m 56 #[.val (.int x1), .val (.int x2), .val (.ref (n0 + 0)), .val (.int (0 : Int32)), .val (.int (1 : Int32)), .val (.int (0 : Int32)), .unset, .unset, .unset, .unset] [])) (fun _ k => XS.istore A19.here hx rfl (own_db hby at_54) rfl (l' := #[.val (.int x1), .val (.int x2), .val (.ref (n0 + 0)), .val (.int (0 : Int32)), .val (.int (1 : Int32)), .val (.int (0 : Int32)), .unset, .unset, .unset, .unset]) rfl k) ?_
      refine own_by (u' := T18.setTop (mkF m 58 #[.val (.int x1), .val (.int x2), .val (.ref (n0 + 0)), .val (.int (0 : Int32)), .val (.int (1 : Int32)), .val (.int (0 : Int32)), .unset, .unset, .unset, .unset] [(.int (0 : Int32))])) (fun _ k => XS.iload A19.here hx rfl (own_db hby at_56) rfl k) ?_
      refine own_by (u' := T18.setTop (mkF m 59 #[.val (.int x1), .val (.int x2), .val (.ref (n0 + 0)), .val (.int (0 : Int32)), .val (.int (1 : Int32)), .val (.int (0 : Int32)), .unset, .unset, .unset, .unset] [(.int (0 : Int32)), (.int (0 : Int32))])) (fun _ k => XS.iloadN A19.here hx rfl (own_db hby at_58) rfl k) ?_
      refine own_by (u' := T18.setTop (mkF m 62 #[.val (.int x1), .val (.int x2), .val (.ref (n0 + 0)), .val (.int (0 : Int32)), .val (.int (1 : Int32)), .val (.int (0 : Int32)), .unset, .unset, .unset, .unset] [])) (fun _ k => XS.icmpNo A19.here hx rfl (own_db hby at_59) rfl (teq (by decide)).2 k) ?_
      refine own_by (u' := T18.setTop (mkF m 64 #[.val (.int x1), .val (.int x2), .val (.ref (n0 + 0)), .val (.int (0 : Int32)), .val (.int (1 : Int32)), .val (.int (0 : Int32)), .unset, .unset, .unset, .unset] [(.int (1 : Int32))])) (fun _ k => XS.iload A19.here hx rfl (own_db hby at_62) rfl k) ?_
      refine own_by (u' := T18.setTop (mkF m 68 #[.val (.int x1), .val (.int x2), .val (.ref (n0 + 0)), .val (.int (0 : Int32)), .val (.int (1 : Int32)), .val (.int (0 : Int32)), .unset, .unset, .unset, .unset] [(.int (1 : Int32))])) (fun _ k => XS.goto A19.here hx rfl (pc0 := 64) (pc' := 68) rfl (own_db hby at_64) (by decide) (by decide) k) ?_
      refine own_by (u' := T18.setTop (mkF m 70 #[.val (.int x1), .val (.int x2), .val (.ref (n0 + 0)), .val (.int (0 : Int32)), .val (.int (1 : Int32)), .val (.int (0 : Int32)), .val (.int (1 : Int32)), .unset, .unset, .unset] [])) (fun _ k => XS.istore A19.here hx rfl (own_db hby at_68) rfl (l' := #[.val (.int x1), .val (.int x2), .val (.ref (n0 + 0)), .val (.int (0 : Int32)), .val (.int (1 : Int32)), .val (.int (0 : Int32)), .val (.int (1 : Int32)), .unset, .unset, .unset]) rfl k) ?_
      refine own_by (u' := T18.setTop (mkF m 71 #[.val (.int x1), .val (.int x2), .val (.ref (n0 + 0)), .val (.int (0 : Int32)), .val (.int (1 : Int32)), .val (.int (0 : Int32)), .val (.int (1 : Int32)), .unset, .unset, .unset] [(.ref (n0 + 0))])) (fun _ k => XS.aloadN A19.here hx rfl (own_db hby at_70) rfl rfl k) ?_
      refine own_by (u' := T18.setTop (mkF m 73 #[.val (.int x1), .val (.int x2), .val (.ref (n0 + 0)), .val (.int (0 : Int32)), .val (.int (1 : Int32)), .val (.int (0 : Int32)), .val (.int (1 : Int32)), .unset, .unset, .unset] [(.int (0 : Int32)), (.ref (n0 + 0))])) (fun _ k => XS.iload A19.here hx rfl (own_db hby at_71) rfl k) ?_
      refine own_callV (y := (⟨"com/example/cairn/cairn/cache/UseOrder", "free", "(I)V"⟩ : MethodName)) (rest := []) A19 hx hZ hown (hw _ (List.mem_of_getElem? (i := 34) rfl)) (hw _ (List.mem_of_getElem? (i := 35) rfl)) (hw _ (List.mem_of_getElem? (i := 37) rfl)) (hw _ (List.mem_of_getElem? (i := 36) rfl)) (hw _ (List.mem_of_getElem? (i := 2) rfl)) (hw _ (List.mem_of_getElem? (i := 38) rfl)) (by decide) (i := 0) rfl (gX l Z a0 hw n0 ((0 : Int32) :: (1 : Int32) :: List.replicate 14 (0 : Int32)) (List.replicate 16 (0 : Int32)) ((0 : Int32) :: (1 : Int32) :: List.replicate 30 (0 : Int32)) (0 : Int32) (2 : Int32) (2 : Int32) (2 : Int32) (0 : Int32) (0 : Int32) 0 0 rfl rfl rfl ⟨by decide, by decide, by decide⟩ ⟨by decide, by decide, by decide⟩) (by rw [hml]; rfl) [(.int (0 : Int32))] rfl rfl pd__I_V rfl (W := 0) (by show 2 * 0 + _ ≤ _; exact Nat.le_of_eq rfl) (own_db hby at_73) (by decide) (by decide) (by decide) (by decide) ?_
      intro v23 i24 T26 hq25 A27
      obtain ⟨rfl, he28⟩ := hq25
      rw [he28] at A27
      replace A27 : own_at p l e _ s m _ below meth c n0 T26 4 80 [(own_obj Z "com/example/cairn/cairn/cache/UseOrder" ns_UseOrder [(.ref (n0 + 1)), (.ref (n0 + 2)), (.ref (n0 + 3)), (.int (1 : Int32)), (.int (2 : Int32)), (.int (1 : Int32)), (.int (2 : Int32)), (.int (0 : Int32))]), (own_ia Z .int ((-1 : Int32) :: (1 : Int32) :: List.replicate 14 (0 : Int32))), (own_ia Z .int (List.replicate 16 (0 : Int32))), (own_ia Z .int ((0 : Int32) :: (1 : Int32) :: List.replicate 30 (0 : Int32)))] := A27
      show own_go _ _ _ _ _ _ _ (T26.setTop (mkF m 76 #[.val (.int x1), .val (.int x2), .val (.ref (n0 + 0)), .val (.int (0 : Int32)), .val (.int (1 : Int32)), .val (.int (0 : Int32)), .val (.int (1 : Int32)), .unset, .unset, .unset] []))
      refine own_by (u' := T26.setTop (mkF m 77 #[.val (.int x1), .val (.int x2), .val (.ref (n0 + 0)), .val (.int (0 : Int32)), .val (.int (1 : Int32)), .val (.int (0 : Int32)), .val (.int (1 : Int32)), .unset, .unset, .unset] [(.ref (n0 + 0))])) (fun _ k => XS.aloadN A27.here hx rfl (own_db hby at_76) rfl rfl k) ?_
      refine own_callV (y := (⟨"com/example/cairn/cairn/cache/UseOrder", "start", "()I"⟩ : MethodName)) (rest := []) A27 hx hZ hown (hw _ (List.mem_of_getElem? (i := 39) rfl)) (hw _ (List.mem_of_getElem? (i := 40) rfl)) (hw _ (List.mem_of_getElem? (i := 42) rfl)) (hw _ (List.mem_of_getElem? (i := 41) rfl)) (hw _ (List.mem_of_getElem? (i := 2) rfl)) (hw _ (List.mem_of_getElem? (i := 43) rfl)) (by decide) (i := 0) rfl (gS l Z a0 hw n0 ((-1 : Int32) :: (1 : Int32) :: List.replicate 14 (0 : Int32)) (List.replicate 16 (0 : Int32)) ((0 : Int32) :: (1 : Int32) :: List.replicate 30 (0 : Int32)) (1 : Int32) (2 : Int32) (1 : Int32) (2 : Int32) (0 : Int32) rfl rfl rfl (by decide) (by decide) (by decide)) (by rw [hml]; rfl) [] rfl rfl pd___I rfl (W := 0) (by show 2 * 0 + _ ≤ _; exact Nat.le_of_eq rfl) (own_db hby at_77) (by decide) (by decide) (by decide) (by decide) ?_
      intro v29 i30 T32 hq31 A33
      obtain ⟨he34, rfl⟩ := hq31
      rw [show own_cur ((-1 : Int32) :: (1 : Int32) :: List.replicate 14 (0 : Int32)) ((0 : Int32) :: (1 : Int32) :: List.replicate 30 (0 : Int32)) (2 : Int32) ((2 : Int32).toInt - (0 : Int32).toInt).toNat (0 : Int32) = (1 : Int32) from by decide +kernel] at he34
      subst he34
      replace A33 : own_at p l e _ s m _ below meth c n0 T32 4 80 [(own_obj Z "com/example/cairn/cairn/cache/UseOrder" ns_UseOrder [(.ref (n0 + 1)), (.ref (n0 + 2)), (.ref (n0 + 3)), (.int (1 : Int32)), (.int (2 : Int32)), (.int (1 : Int32)), (.int (2 : Int32)), (.int (0 : Int32))]), (own_ia Z .int ((-1 : Int32) :: (1 : Int32) :: List.replicate 14 (0 : Int32))), (own_ia Z .int (List.replicate 16 (0 : Int32))), (own_ia Z .int ((0 : Int32) :: (1 : Int32) :: List.replicate 30 (0 : Int32)))] := A33
      show own_go _ _ _ _ _ _ _ (T32.setTop (mkF m 80 #[.val (.int x1), .val (.int x2), .val (.ref (n0 + 0)), .val (.int (0 : Int32)), .val (.int (1 : Int32)), .val (.int (0 : Int32)), .val (.int (1 : Int32)), .unset, .unset, .unset] [(.int (1 : Int32))]))
      refine own_by (u' := T32.setTop (mkF m 82 #[.val (.int x1), .val (.int x2), .val (.ref (n0 + 0)), .val (.int (0 : Int32)), .val (.int (1 : Int32)), .val (.int (0 : Int32)), .val (.int (1 : Int32)), .val (.int (1 : Int32)), .unset, .unset] [])) (fun _ k => XS.istore A33.here hx rfl (own_db hby at_80) rfl (l' := #[.val (.int x1), .val (.int x2), .val (.ref (n0 + 0)), .val (.int (0 : Int32)), .val (.int (1 : Int32)), .val (.int (0 : Int32)), .val (.int (1 : Int32)), .val (.int (1 : Int32)), .unset, .unset]) rfl k) ?_
      refine own_by (u' := T32.setTop (mkF m 83 #[.val (.int x1), .val (.int x2), .val (.ref (n0 + 0)), .val (.int (0 : Int32)), .val (.int (1 : Int32)), .val (.int (0 : Int32)), .val (.int (1 : Int32)), .val (.int (1 : Int32)), .unset, .unset] [(.ref (n0 + 0))])) (fun _ k => XS.aloadN A33.here hx rfl (own_db hby at_82) rfl rfl k) ?_
      refine own_by (u' := T32.setTop (mkF m 85 #[.val (.int x1), .val (.int x2), .val (.ref (n0 + 0)), .val (.int (0 : Int32)), .val (.int (1 : Int32)), .val (.int (0 : Int32)), .val (.int (1 : Int32)), .val (.int (1 : Int32)), .unset, .unset] [(.int (1 : Int32)), (.ref (n0 + 0))])) (fun _ k => XS.iload A33.here hx rfl (own_db hby at_83) rfl k) ?_
      refine own_callV (y := (⟨"com/example/cairn/cairn/cache/UseOrder", "slotAt", "(I)I"⟩ : MethodName)) (rest := []) A33 hx hZ hown (hw _ (List.mem_of_getElem? (i := 50) rfl)) (hw _ (List.mem_of_getElem? (i := 51) rfl)) (hw _ (List.mem_of_getElem? (i := 53) rfl)) (hw _ (List.mem_of_getElem? (i := 52) rfl)) (hw _ (List.mem_of_getElem? (i := 2) rfl)) (hw _ (List.mem_of_getElem? (i := 54) rfl)) (by decide) (i := 0) rfl (gA l Z a0 hw n0 ((-1 : Int32) :: (1 : Int32) :: List.replicate 14 (0 : Int32)) (List.replicate 16 (0 : Int32)) ((0 : Int32) :: (1 : Int32) :: List.replicate 30 (0 : Int32)) (1 : Int32) (2 : Int32) (1 : Int32) (2 : Int32) (0 : Int32) (1 : Int32) rfl rfl rfl (by decide)) (by rw [hml]; rfl) [(.int (1 : Int32))] rfl rfl pd__I_I rfl (W := 0) (by show 2 * 0 + _ ≤ _; exact Nat.le_of_eq rfl) (own_db hby at_85) (by decide) (by decide) (by decide) (by decide) ?_
      intro v35 i36 T38 hq37 A39
      obtain ⟨he40, rfl⟩ := hq37
      rw [show fA ((0 : Int32) :: (1 : Int32) :: List.replicate 30 (0 : Int32)) (2 : Int32) (1 : Int32) = (1 : Int32) from by decide +kernel] at he40
      subst he40
      replace A39 : own_at p l e _ s m _ below meth c n0 T38 4 80 [(own_obj Z "com/example/cairn/cairn/cache/UseOrder" ns_UseOrder [(.ref (n0 + 1)), (.ref (n0 + 2)), (.ref (n0 + 3)), (.int (1 : Int32)), (.int (2 : Int32)), (.int (1 : Int32)), (.int (2 : Int32)), (.int (0 : Int32))]), (own_ia Z .int ((-1 : Int32) :: (1 : Int32) :: List.replicate 14 (0 : Int32))), (own_ia Z .int (List.replicate 16 (0 : Int32))), (own_ia Z .int ((0 : Int32) :: (1 : Int32) :: List.replicate 30 (0 : Int32)))] := A39
      show own_go _ _ _ _ _ _ _ (T38.setTop (mkF m 88 #[.val (.int x1), .val (.int x2), .val (.ref (n0 + 0)), .val (.int (0 : Int32)), .val (.int (1 : Int32)), .val (.int (0 : Int32)), .val (.int (1 : Int32)), .val (.int (1 : Int32)), .unset, .unset] [(.int (1 : Int32))]))
      refine own_by (u' := T38.setTop (mkF m 90 #[.val (.int x1), .val (.int x2), .val (.ref (n0 + 0)), .val (.int (0 : Int32)), .val (.int (1 : Int32)), .val (.int (0 : Int32)), .val (.int (1 : Int32)), .val (.int (1 : Int32)), .unset, .unset] [(.int (1 : Int32)), (.int (1 : Int32))])) (fun _ k => XS.iload A39.here hx rfl (own_db hby at_88) rfl k) ?_
      refine own_by (u' := T38.setTop (mkF m 95 #[.val (.int x1), .val (.int x2), .val (.ref (n0 + 0)), .val (.int (0 : Int32)), .val (.int (1 : Int32)), .val (.int (0 : Int32)), .val (.int (1 : Int32)), .val (.int (1 : Int32)), .unset, .unset] [])) (fun _ k => XS.icmpYes A39.here hx rfl (pc0 := 90) (pc' := 95) rfl (own_db hby at_90) rfl (teq (by decide)).1 (by decide) (by decide) k) ?_
      refine own_by (u' := T38.setTop (mkF m 96 #[.val (.int x1), .val (.int x2), .val (.ref (n0 + 0)), .val (.int (0 : Int32)), .val (.int (1 : Int32)), .val (.int (0 : Int32)), .val (.int (1 : Int32)), .val (.int (1 : Int32)), .unset, .unset] [(.ref (n0 + 0))])) (fun _ k => XS.aloadN A39.here hx rfl (own_db hby at_95) rfl rfl k) ?_
      refine own_by (u' := T38.setTop (mkF m 98 #[.val (.int x1), .val (.int x2), .val (.ref (n0 + 0)), .val (.int (0 : Int32)), .val (.int (1 : Int32)), .val (.int (0 : Int32)), .val (.int (1 : Int32)), .val (.int (1 : Int32)), .unset, .unset] [(.int (1 : Int32)), (.ref (n0 + 0))])) (fun _ k => XS.iload A39.here hx rfl (own_db hby at_96) rfl k) ?_
      refine own_callV (y := (⟨"com/example/cairn/cairn/cache/UseOrder", "next", "(I)I"⟩ : MethodName)) (rest := []) A39 hx hZ hown (hw _ (List.mem_of_getElem? (i := 55) rfl)) (hw _ (List.mem_of_getElem? (i := 56) rfl)) (hw _ (List.mem_of_getElem? (i := 58) rfl)) (hw _ (List.mem_of_getElem? (i := 57) rfl)) (hw _ (List.mem_of_getElem? (i := 2) rfl)) (hw _ (List.mem_of_getElem? (i := 59) rfl)) (by decide) (i := 0) rfl (gM l Z a0 hw n0 ((-1 : Int32) :: (1 : Int32) :: List.replicate 14 (0 : Int32)) (List.replicate 16 (0 : Int32)) ((0 : Int32) :: (1 : Int32) :: List.replicate 30 (0 : Int32)) (1 : Int32) (2 : Int32) (1 : Int32) (2 : Int32) (0 : Int32) (1 : Int32) rfl rfl rfl (by decide) (by decide) (by decide)) (by rw [hml]; rfl) [(.int (1 : Int32))] rfl rfl pd__I_I rfl (W := 0) (by show 2 * 0 + _ ≤ _; exact Nat.le_of_eq rfl) (own_db hby at_98) (by decide) (by decide) (by decide) (by decide) ?_
      intro v41 i42 T44 hq43 A45
      obtain ⟨he46, rfl⟩ := hq43
      rw [show own_cur ((-1 : Int32) :: (1 : Int32) :: List.replicate 14 (0 : Int32)) ((0 : Int32) :: (1 : Int32) :: List.replicate 30 (0 : Int32)) (2 : Int32) ((2 : Int32).toInt - ((1 : Int32) + (1 : Int32)).toInt).toNat ((1 : Int32) + (1 : Int32)) = (2 : Int32) from by decide +kernel] at he46
      subst he46
      replace A45 : own_at p l e _ s m _ below meth c n0 T44 4 80 [(own_obj Z "com/example/cairn/cairn/cache/UseOrder" ns_UseOrder [(.ref (n0 + 1)), (.ref (n0 + 2)), (.ref (n0 + 3)), (.int (1 : Int32)), (.int (2 : Int32)), (.int (1 : Int32)), (.int (2 : Int32)), (.int (0 : Int32))]), (own_ia Z .int ((-1 : Int32) :: (1 : Int32) :: List.replicate 14 (0 : Int32))), (own_ia Z .int (List.replicate 16 (0 : Int32))), (own_ia Z .int ((0 : Int32) :: (1 : Int32) :: List.replicate 30 (0 : Int32)))] := A45
      show own_go _ _ _ _ _ _ _ (T44.setTop (mkF m 101 #[.val (.int x1), .val (.int x2), .val (.ref (n0 + 0)), .val (.int (0 : Int32)), .val (.int (1 : Int32)), .val (.int (0 : Int32)), .val (.int (1 : Int32)), .val (.int (1 : Int32)), .unset, .unset] [(.int (2 : Int32))]))
      refine own_by (u' := T44.setTop (mkF m 103 #[.val (.int x1), .val (.int x2), .val (.ref (n0 + 0)), .val (.int (0 : Int32)), .val (.int (1 : Int32)), .val (.int (0 : Int32)), .val (.int (1 : Int32)), .val (.int (1 : Int32)), .val (.int (2 : Int32)), .unset] [])) (fun _ k => XS.istore A45.here hx rfl (own_db hby at_101) rfl (l' := #[.val (.int x1), .val (.int x2), .val (.ref (n0 + 0)), .val (.int (0 : Int32)), .val (.int (1 : Int32)), .val (.int (0 : Int32)), .val (.int (1 : Int32)), .val (.int (1 : Int32)), .val (.int (2 : Int32)), .unset]) rfl k) ?_
      refine own_by (u' := T44.setTop (mkF m 104 #[.val (.int x1), .val (.int x2), .val (.ref (n0 + 0)), .val (.int (0 : Int32)), .val (.int (1 : Int32)), .val (.int (0 : Int32)), .val (.int (1 : Int32)), .val (.int (1 : Int32)), .val (.int (2 : Int32)), .unset] [(.ref (n0 + 0))])) (fun _ k => XS.aloadN A45.here hx rfl (own_db hby at_103) rfl rfl k) ?_
      refine own_by (u' := T44.setTop (mkF m 106 #[.val (.int x1), .val (.int x2), .val (.ref (n0 + 0)), .val (.int (0 : Int32)), .val (.int (1 : Int32)), .val (.int (0 : Int32)), .val (.int (1 : Int32)), .val (.int (1 : Int32)), .val (.int (2 : Int32)), .unset] [(.int (2 : Int32)), (.ref (n0 + 0))])) (fun _ k => XS.iload A45.here hx rfl (own_db hby at_104) rfl k) ?_
      refine own_callV (y := (⟨"com/example/cairn/cairn/cache/UseOrder", "slotAt", "(I)I"⟩ : MethodName)) (rest := []) A45 hx hZ hown (hw _ (List.mem_of_getElem? (i := 50) rfl)) (hw _ (List.mem_of_getElem? (i := 51) rfl)) (hw _ (List.mem_of_getElem? (i := 53) rfl)) (hw _ (List.mem_of_getElem? (i := 52) rfl)) (hw _ (List.mem_of_getElem? (i := 2) rfl)) (hw _ (List.mem_of_getElem? (i := 54) rfl)) (by decide) (i := 0) rfl (gA l Z a0 hw n0 ((-1 : Int32) :: (1 : Int32) :: List.replicate 14 (0 : Int32)) (List.replicate 16 (0 : Int32)) ((0 : Int32) :: (1 : Int32) :: List.replicate 30 (0 : Int32)) (1 : Int32) (2 : Int32) (1 : Int32) (2 : Int32) (0 : Int32) (2 : Int32) rfl rfl rfl (by decide)) (by rw [hml]; rfl) [(.int (2 : Int32))] rfl rfl pd__I_I rfl (W := 0) (by show 2 * 0 + _ ≤ _; exact Nat.le_of_eq rfl) (own_db hby at_106) (by decide) (by decide) (by decide) (by decide) ?_
      intro v47 i48 T50 hq49 A51
      obtain ⟨he52, rfl⟩ := hq49
      rw [show fA ((0 : Int32) :: (1 : Int32) :: List.replicate 30 (0 : Int32)) (2 : Int32) (2 : Int32) = (-1 : Int32) from by decide +kernel] at he52
      subst he52
      replace A51 : own_at p l e _ s m _ below meth c n0 T50 4 80 [(own_obj Z "com/example/cairn/cairn/cache/UseOrder" ns_UseOrder [(.ref (n0 + 1)), (.ref (n0 + 2)), (.ref (n0 + 3)), (.int (1 : Int32)), (.int (2 : Int32)), (.int (1 : Int32)), (.int (2 : Int32)), (.int (0 : Int32))]), (own_ia Z .int ((-1 : Int32) :: (1 : Int32) :: List.replicate 14 (0 : Int32))), (own_ia Z .int (List.replicate 16 (0 : Int32))), (own_ia Z .int ((0 : Int32) :: (1 : Int32) :: List.replicate 30 (0 : Int32)))] := A51
      show own_go _ _ _ _ _ _ _ (T50.setTop (mkF m 109 #[.val (.int x1), .val (.int x2), .val (.ref (n0 + 0)), .val (.int (0 : Int32)), .val (.int (1 : Int32)), .val (.int (0 : Int32)), .val (.int (1 : Int32)), .val (.int (1 : Int32)), .val (.int (2 : Int32)), .unset] [(.int (-1 : Int32))]))
      refine own_by (u' := T50.setTop (mkF m 110 #[.val (.int x1), .val (.int x2), .val (.ref (n0 + 0)), .val (.int (0 : Int32)), .val (.int (1 : Int32)), .val (.int (0 : Int32)), .val (.int (1 : Int32)), .val (.int (1 : Int32)), .val (.int (2 : Int32)), .unset] [(.int (-1 : Int32)), (.int (-1 : Int32))])) (fun _ k => XS.iconst A51.here hx rfl (own_db hby at_109) k) ?_
      refine own_by (u' := T50.setTop (mkF m 115 #[.val (.int x1), .val (.int x2), .val (.ref (n0 + 0)), .val (.int (0 : Int32)), .val (.int (1 : Int32)), .val (.int (0 : Int32)), .val (.int (1 : Int32)), .val (.int (1 : Int32)), .val (.int (2 : Int32)), .unset] [])) (fun _ k => XS.icmpYes A51.here hx rfl (pc0 := 110) (pc' := 115) rfl (own_db hby at_110) rfl (teq (by decide)).1 (by decide) (by decide) k) ?_
      refine own_by (u' := T50.setTop (mkF m 116 #[.val (.int x1), .val (.int x2), .val (.ref (n0 + 0)), .val (.int (0 : Int32)), .val (.int (1 : Int32)), .val (.int (0 : Int32)), .val (.int (1 : Int32)), .val (.int (1 : Int32)), .val (.int (2 : Int32)), .unset] [(.ref (n0 + 0))])) (fun _ k => XS.aloadN A51.here hx rfl (own_db hby at_115) rfl rfl k) ?_
      refine own_callV (y := (⟨"com/example/cairn/cairn/cache/UseOrder", "take", "()I"⟩ : MethodName)) (rest := []) A51 hx hZ hown (hw _ (List.mem_of_getElem? (i := 16) rfl)) (hw _ (List.mem_of_getElem? (i := 17) rfl)) (hw _ (List.mem_of_getElem? (i := 19) rfl)) (hw _ (List.mem_of_getElem? (i := 18) rfl)) (hw _ (List.mem_of_getElem? (i := 2) rfl)) (hw _ (List.mem_of_getElem? (i := 20) rfl)) (by decide) (i := 0) rfl (gF l Z a0 hw n0 ((-1 : Int32) :: (1 : Int32) :: List.replicate 14 (0 : Int32)) (List.replicate 16 (0 : Int32)) ((0 : Int32) :: (1 : Int32) :: List.replicate 30 (0 : Int32)) (2 : Int32) (1 : Int32) (2 : Int32) (0 : Int32) (0 : Int32) 2 0 rfl rfl rfl ⟨by decide, by decide, by decide⟩ rfl ⟨by decide, by decide, by decide⟩) (by rw [hml]; rfl) [] rfl rfl pd___I rfl (W := 0) (by show 2 * 0 + _ ≤ _; exact Nat.le_of_eq rfl) (own_db hby at_116) (by decide) (by decide) (by decide) (by decide) ?_
      intro v53 i54 T56 hq55 A57
      obtain ⟨rfl, he58⟩ := hq55
      rw [he58] at A57
      replace A57 : own_at p l e _ s m _ below meth c n0 T56 4 80 [(own_obj Z "com/example/cairn/cairn/cache/UseOrder" ns_UseOrder [(.ref (n0 + 1)), (.ref (n0 + 2)), (.ref (n0 + 3)), (.int (0 : Int32)), (.int (2 : Int32)), (.int (2 : Int32)), (.int (3 : Int32)), (.int (0 : Int32))]), (own_ia Z .int ((2 : Int32) :: (1 : Int32) :: List.replicate 14 (0 : Int32))), (own_ia Z .int (List.replicate 16 (0 : Int32))), (own_ia Z .int ((0 : Int32) :: (1 : Int32) :: List.replicate 30 (0 : Int32)))] := A57
      show own_go _ _ _ _ _ _ _ (T56.setTop (mkF m 119 #[.val (.int x1), .val (.int x2), .val (.ref (n0 + 0)), .val (.int (0 : Int32)), .val (.int (1 : Int32)), .val (.int (0 : Int32)), .val (.int (1 : Int32)), .val (.int (1 : Int32)), .val (.int (2 : Int32)), .unset] [(.int (0 : Int32))]))
      refine own_by (u' := T56.setTop (mkF m 121 #[.val (.int x1), .val (.int x2), .val (.ref (n0 + 0)), .val (.int (0 : Int32)), .val (.int (1 : Int32)), .val (.int (0 : Int32)), .val (.int (1 : Int32)), .val (.int (1 : Int32)), .val (.int (2 : Int32)), .val (.int (0 : Int32))] [])) (fun _ k => XS.istore A57.here hx rfl (own_db hby at_119) rfl (l' := #[.val (.int x1), .val (.int x2), .val (.ref (n0 + 0)), .val (.int (0 : Int32)), .val (.int (1 : Int32)), .val (.int (0 : Int32)), .val (.int (1 : Int32)), .val (.int (1 : Int32)), .val (.int (2 : Int32)), .val (.int (0 : Int32))]) rfl k) ?_
      refine own_by (u' := T56.setTop (mkF m 123 #[.val (.int x1), .val (.int x2), .val (.ref (n0 + 0)), .val (.int (0 : Int32)), .val (.int (1 : Int32)), .val (.int (0 : Int32)), .val (.int (1 : Int32)), .val (.int (1 : Int32)), .val (.int (2 : Int32)), .val (.int (0 : Int32))] [(.int (0 : Int32))])) (fun _ k => XS.iload A57.here hx rfl (own_db hby at_121) rfl k) ?_
      refine own_by (u' := T56.setTop (mkF m 125 #[.val (.int x1), .val (.int x2), .val (.ref (n0 + 0)), .val (.int (0 : Int32)), .val (.int (1 : Int32)), .val (.int (0 : Int32)), .val (.int (1 : Int32)), .val (.int (1 : Int32)), .val (.int (2 : Int32)), .val (.int (0 : Int32))] [(.int (0 : Int32)), (.int (0 : Int32))])) (fun _ k => XS.iload A57.here hx rfl (own_db hby at_123) rfl k) ?_
      refine own_by (u' := T56.setTop (mkF m 128 #[.val (.int x1), .val (.int x2), .val (.ref (n0 + 0)), .val (.int (0 : Int32)), .val (.int (1 : Int32)), .val (.int (0 : Int32)), .val (.int (1 : Int32)), .val (.int (1 : Int32)), .val (.int (2 : Int32)), .val (.int (0 : Int32))] [])) (fun _ k => XS.icmpNo A57.here hx rfl (own_db hby at_125) rfl (teq (by decide)).2 k) ?_
      refine own_by (u' := T56.setTop (mkF m 129 #[.val (.int x1), .val (.int x2), .val (.ref (n0 + 0)), .val (.int (0 : Int32)), .val (.int (1 : Int32)), .val (.int (0 : Int32)), .val (.int (1 : Int32)), .val (.int (1 : Int32)), .val (.int (2 : Int32)), .val (.int (0 : Int32))] [(.int (1 : Int32))])) (fun _ k => XS.iconst A57.here hx rfl (own_db hby at_128) k) ?_
      refine own_by (u' := T56.setTop (mkF m 133 #[.val (.int x1), .val (.int x2), .val (.ref (n0 + 0)), .val (.int (0 : Int32)), .val (.int (1 : Int32)), .val (.int (0 : Int32)), .val (.int (1 : Int32)), .val (.int (1 : Int32)), .val (.int (2 : Int32)), .val (.int (0 : Int32))] [(.int (1 : Int32))])) (fun _ k => XS.goto A57.here hx rfl (pc0 := 129) (pc' := 133) rfl (own_db hby at_129) (by decide) (by decide) k) ?_
      exact own_retN A57 hx hlk (t := .boolean) (by simp) hret (own_db hby at_133) (by decide) (by decide) ⟨rfl, trivial⟩
    · refine own_by (u' := T18.setTop (mkF m 48 #[.val (.int x1), .val (.int x2), .val (.ref (n0 + 0)), .val (.int (0 : Int32)), .val (.int (1 : Int32)), .unset, .unset, .unset, .unset, .unset] [])) (fun _ k => XS.ifNo A19.here hx rfl (own_db hby at_45) rfl ((if0 _ _).trans (feq hc22).1) k) ?_
      refine own_by (u' := T18.setTop (mkF m 50 #[.val (.int x1), .val (.int x2), .val (.ref (n0 + 0)), .val (.int (0 : Int32)), .val (.int (1 : Int32)), .unset, .unset, .unset, .unset, .unset] [(.int (1 : Int32))])) (fun _ k => XS.iload A19.here hx rfl (own_db hby at_48) rfl k) ?_
      refine own_by (u' := T18.setTop (mkF m 54 #[.val (.int x1), .val (.int x2), .val (.ref (n0 + 0)), .val (.int (0 : Int32)), .val (.int (1 : Int32)), .unset, .unset, .unset, .unset, .unset] [(.int (1 : Int32))])) (fun _ k => XS.goto A19.here hx rfl (pc0 := 50) (pc' := 54) rfl (own_db hby at_50) (by decide) (by decide) k) ?_
      refine own_by (u' := T18.setTop (mkF m 56 #[.val (.int x1), .val (.int x2), .val (.ref (n0 + 0)), .val (.int (0 : Int32)), .val (.int (1 : Int32)), .val (.int (1 : Int32)), .unset, .unset, .unset, .unset] [])) (fun _ k => XS.istore A19.here hx rfl (own_db hby at_54) rfl (l' := #[.val (.int x1), .val (.int x2), .val (.ref (n0 + 0)), .val (.int (0 : Int32)), .val (.int (1 : Int32)), .val (.int (1 : Int32)), .unset, .unset, .unset, .unset]) rfl k) ?_
      refine own_by (u' := T18.setTop (mkF m 58 #[.val (.int x1), .val (.int x2), .val (.ref (n0 + 0)), .val (.int (0 : Int32)), .val (.int (1 : Int32)), .val (.int (1 : Int32)), .unset, .unset, .unset, .unset] [(.int (1 : Int32))])) (fun _ k => XS.iload A19.here hx rfl (own_db hby at_56) rfl k) ?_
      refine own_by (u' := T18.setTop (mkF m 59 #[.val (.int x1), .val (.int x2), .val (.ref (n0 + 0)), .val (.int (0 : Int32)), .val (.int (1 : Int32)), .val (.int (1 : Int32)), .unset, .unset, .unset, .unset] [(.int (0 : Int32)), (.int (1 : Int32))])) (fun _ k => XS.iloadN A19.here hx rfl (own_db hby at_58) rfl k) ?_
      refine own_by (u' := T18.setTop (mkF m 67 #[.val (.int x1), .val (.int x2), .val (.ref (n0 + 0)), .val (.int (0 : Int32)), .val (.int (1 : Int32)), .val (.int (1 : Int32)), .unset, .unset, .unset, .unset] [])) (fun _ k => XS.icmpYes A19.here hx rfl (pc0 := 59) (pc' := 67) rfl (own_db hby at_59) rfl (feq (by decide)).2 (by decide) (by decide) k) ?_
      refine own_by (u' := T18.setTop (mkF m 68 #[.val (.int x1), .val (.int x2), .val (.ref (n0 + 0)), .val (.int (0 : Int32)), .val (.int (1 : Int32)), .val (.int (1 : Int32)), .unset, .unset, .unset, .unset] [(.int (0 : Int32))])) (fun _ k => XS.iloadN A19.here hx rfl (own_db hby at_67) rfl k) ?_
      refine own_by (u' := T18.setTop (mkF m 70 #[.val (.int x1), .val (.int x2), .val (.ref (n0 + 0)), .val (.int (0 : Int32)), .val (.int (1 : Int32)), .val (.int (1 : Int32)), .val (.int (0 : Int32)), .unset, .unset, .unset] [])) (fun _ k => XS.istore A19.here hx rfl (own_db hby at_68) rfl (l' := #[.val (.int x1), .val (.int x2), .val (.ref (n0 + 0)), .val (.int (0 : Int32)), .val (.int (1 : Int32)), .val (.int (1 : Int32)), .val (.int (0 : Int32)), .unset, .unset, .unset]) rfl k) ?_
      refine own_by (u' := T18.setTop (mkF m 71 #[.val (.int x1), .val (.int x2), .val (.ref (n0 + 0)), .val (.int (0 : Int32)), .val (.int (1 : Int32)), .val (.int (1 : Int32)), .val (.int (0 : Int32)), .unset, .unset, .unset] [(.ref (n0 + 0))])) (fun _ k => XS.aloadN A19.here hx rfl (own_db hby at_70) rfl rfl k) ?_
      refine own_by (u' := T18.setTop (mkF m 73 #[.val (.int x1), .val (.int x2), .val (.ref (n0 + 0)), .val (.int (0 : Int32)), .val (.int (1 : Int32)), .val (.int (1 : Int32)), .val (.int (0 : Int32)), .unset, .unset, .unset] [(.int (1 : Int32)), (.ref (n0 + 0))])) (fun _ k => XS.iload A19.here hx rfl (own_db hby at_71) rfl k) ?_
      refine own_callV (y := (⟨"com/example/cairn/cairn/cache/UseOrder", "free", "(I)V"⟩ : MethodName)) (rest := []) A19 hx hZ hown (hw _ (List.mem_of_getElem? (i := 34) rfl)) (hw _ (List.mem_of_getElem? (i := 35) rfl)) (hw _ (List.mem_of_getElem? (i := 37) rfl)) (hw _ (List.mem_of_getElem? (i := 36) rfl)) (hw _ (List.mem_of_getElem? (i := 2) rfl)) (hw _ (List.mem_of_getElem? (i := 38) rfl)) (by decide) (i := 0) rfl (gX l Z a0 hw n0 ((0 : Int32) :: (1 : Int32) :: List.replicate 14 (0 : Int32)) (List.replicate 16 (0 : Int32)) ((0 : Int32) :: (1 : Int32) :: List.replicate 30 (0 : Int32)) (0 : Int32) (2 : Int32) (2 : Int32) (2 : Int32) (0 : Int32) (1 : Int32) 0 1 rfl rfl rfl ⟨by decide, by decide, by decide⟩ ⟨by decide, by decide, by decide⟩) (by rw [hml]; rfl) [(.int (1 : Int32))] rfl rfl pd__I_V rfl (W := 0) (by show 2 * 0 + _ ≤ _; exact Nat.le_of_eq rfl) (own_db hby at_73) (by decide) (by decide) (by decide) (by decide) ?_
      intro v59 i60 T62 hq61 A63
      obtain ⟨rfl, he64⟩ := hq61
      rw [he64] at A63
      replace A63 : own_at p l e _ s m _ below meth c n0 T62 4 80 [(own_obj Z "com/example/cairn/cairn/cache/UseOrder" ns_UseOrder [(.ref (n0 + 1)), (.ref (n0 + 2)), (.ref (n0 + 3)), (.int (1 : Int32)), (.int (2 : Int32)), (.int (1 : Int32)), (.int (2 : Int32)), (.int (0 : Int32))]), (own_ia Z .int ((0 : Int32) :: (-1 : Int32) :: List.replicate 14 (0 : Int32))), (own_ia Z .int ((1 : Int32) :: List.replicate 15 (0 : Int32))), (own_ia Z .int ((0 : Int32) :: (1 : Int32) :: List.replicate 30 (0 : Int32)))] := A63
      show own_go _ _ _ _ _ _ _ (T62.setTop (mkF m 76 #[.val (.int x1), .val (.int x2), .val (.ref (n0 + 0)), .val (.int (0 : Int32)), .val (.int (1 : Int32)), .val (.int (1 : Int32)), .val (.int (0 : Int32)), .unset, .unset, .unset] []))
      refine own_by (u' := T62.setTop (mkF m 77 #[.val (.int x1), .val (.int x2), .val (.ref (n0 + 0)), .val (.int (0 : Int32)), .val (.int (1 : Int32)), .val (.int (1 : Int32)), .val (.int (0 : Int32)), .unset, .unset, .unset] [(.ref (n0 + 0))])) (fun _ k => XS.aloadN A63.here hx rfl (own_db hby at_76) rfl rfl k) ?_
      refine own_callV (y := (⟨"com/example/cairn/cairn/cache/UseOrder", "start", "()I"⟩ : MethodName)) (rest := []) A63 hx hZ hown (hw _ (List.mem_of_getElem? (i := 39) rfl)) (hw _ (List.mem_of_getElem? (i := 40) rfl)) (hw _ (List.mem_of_getElem? (i := 42) rfl)) (hw _ (List.mem_of_getElem? (i := 41) rfl)) (hw _ (List.mem_of_getElem? (i := 2) rfl)) (hw _ (List.mem_of_getElem? (i := 43) rfl)) (by decide) (i := 0) rfl (gS l Z a0 hw n0 ((0 : Int32) :: (-1 : Int32) :: List.replicate 14 (0 : Int32)) ((1 : Int32) :: List.replicate 15 (0 : Int32)) ((0 : Int32) :: (1 : Int32) :: List.replicate 30 (0 : Int32)) (1 : Int32) (2 : Int32) (1 : Int32) (2 : Int32) (0 : Int32) rfl rfl rfl (by decide) (by decide) (by decide)) (by rw [hml]; rfl) [] rfl rfl pd___I rfl (W := 0) (by show 2 * 0 + _ ≤ _; exact Nat.le_of_eq rfl) (own_db hby at_77) (by decide) (by decide) (by decide) (by decide) ?_
      intro v65 i66 T68 hq67 A69
      obtain ⟨he70, rfl⟩ := hq67
      rw [show own_cur ((0 : Int32) :: (-1 : Int32) :: List.replicate 14 (0 : Int32)) ((0 : Int32) :: (1 : Int32) :: List.replicate 30 (0 : Int32)) (2 : Int32) ((2 : Int32).toInt - (0 : Int32).toInt).toNat (0 : Int32) = (0 : Int32) from by decide +kernel] at he70
      subst he70
      replace A69 : own_at p l e _ s m _ below meth c n0 T68 4 80 [(own_obj Z "com/example/cairn/cairn/cache/UseOrder" ns_UseOrder [(.ref (n0 + 1)), (.ref (n0 + 2)), (.ref (n0 + 3)), (.int (1 : Int32)), (.int (2 : Int32)), (.int (1 : Int32)), (.int (2 : Int32)), (.int (0 : Int32))]), (own_ia Z .int ((0 : Int32) :: (-1 : Int32) :: List.replicate 14 (0 : Int32))), (own_ia Z .int ((1 : Int32) :: List.replicate 15 (0 : Int32))), (own_ia Z .int ((0 : Int32) :: (1 : Int32) :: List.replicate 30 (0 : Int32)))] := A69
      show own_go _ _ _ _ _ _ _ (T68.setTop (mkF m 80 #[.val (.int x1), .val (.int x2), .val (.ref (n0 + 0)), .val (.int (0 : Int32)), .val (.int (1 : Int32)), .val (.int (1 : Int32)), .val (.int (0 : Int32)), .unset, .unset, .unset] [(.int (0 : Int32))]))
      refine own_by (u' := T68.setTop (mkF m 82 #[.val (.int x1), .val (.int x2), .val (.ref (n0 + 0)), .val (.int (0 : Int32)), .val (.int (1 : Int32)), .val (.int (1 : Int32)), .val (.int (0 : Int32)), .val (.int (0 : Int32)), .unset, .unset] [])) (fun _ k => XS.istore A69.here hx rfl (own_db hby at_80) rfl (l' := #[.val (.int x1), .val (.int x2), .val (.ref (n0 + 0)), .val (.int (0 : Int32)), .val (.int (1 : Int32)), .val (.int (1 : Int32)), .val (.int (0 : Int32)), .val (.int (0 : Int32)), .unset, .unset]) rfl k) ?_
      refine own_by (u' := T68.setTop (mkF m 83 #[.val (.int x1), .val (.int x2), .val (.ref (n0 + 0)), .val (.int (0 : Int32)), .val (.int (1 : Int32)), .val (.int (1 : Int32)), .val (.int (0 : Int32)), .val (.int (0 : Int32)), .unset, .unset] [(.ref (n0 + 0))])) (fun _ k => XS.aloadN A69.here hx rfl (own_db hby at_82) rfl rfl k) ?_
      refine own_by (u' := T68.setTop (mkF m 85 #[.val (.int x1), .val (.int x2), .val (.ref (n0 + 0)), .val (.int (0 : Int32)), .val (.int (1 : Int32)), .val (.int (1 : Int32)), .val (.int (0 : Int32)), .val (.int (0 : Int32)), .unset, .unset] [(.int (0 : Int32)), (.ref (n0 + 0))])) (fun _ k => XS.iload A69.here hx rfl (own_db hby at_83) rfl k) ?_
      refine own_callV (y := (⟨"com/example/cairn/cairn/cache/UseOrder", "slotAt", "(I)I"⟩ : MethodName)) (rest := []) A69 hx hZ hown (hw _ (List.mem_of_getElem? (i := 50) rfl)) (hw _ (List.mem_of_getElem? (i := 51) rfl)) (hw _ (List.mem_of_getElem? (i := 53) rfl)) (hw _ (List.mem_of_getElem? (i := 52) rfl)) (hw _ (List.mem_of_getElem? (i := 2) rfl)) (hw _ (List.mem_of_getElem? (i := 54) rfl)) (by decide) (i := 0) rfl (gA l Z a0 hw n0 ((0 : Int32) :: (-1 : Int32) :: List.replicate 14 (0 : Int32)) ((1 : Int32) :: List.replicate 15 (0 : Int32)) ((0 : Int32) :: (1 : Int32) :: List.replicate 30 (0 : Int32)) (1 : Int32) (2 : Int32) (1 : Int32) (2 : Int32) (0 : Int32) (0 : Int32) rfl rfl rfl (by decide)) (by rw [hml]; rfl) [(.int (0 : Int32))] rfl rfl pd__I_I rfl (W := 0) (by show 2 * 0 + _ ≤ _; exact Nat.le_of_eq rfl) (own_db hby at_85) (by decide) (by decide) (by decide) (by decide) ?_
      intro v71 i72 T74 hq73 A75
      obtain ⟨he76, rfl⟩ := hq73
      rw [show fA ((0 : Int32) :: (1 : Int32) :: List.replicate 30 (0 : Int32)) (2 : Int32) (0 : Int32) = (0 : Int32) from by decide +kernel] at he76
      subst he76
      replace A75 : own_at p l e _ s m _ below meth c n0 T74 4 80 [(own_obj Z "com/example/cairn/cairn/cache/UseOrder" ns_UseOrder [(.ref (n0 + 1)), (.ref (n0 + 2)), (.ref (n0 + 3)), (.int (1 : Int32)), (.int (2 : Int32)), (.int (1 : Int32)), (.int (2 : Int32)), (.int (0 : Int32))]), (own_ia Z .int ((0 : Int32) :: (-1 : Int32) :: List.replicate 14 (0 : Int32))), (own_ia Z .int ((1 : Int32) :: List.replicate 15 (0 : Int32))), (own_ia Z .int ((0 : Int32) :: (1 : Int32) :: List.replicate 30 (0 : Int32)))] := A75
      show own_go _ _ _ _ _ _ _ (T74.setTop (mkF m 88 #[.val (.int x1), .val (.int x2), .val (.ref (n0 + 0)), .val (.int (0 : Int32)), .val (.int (1 : Int32)), .val (.int (1 : Int32)), .val (.int (0 : Int32)), .val (.int (0 : Int32)), .unset, .unset] [(.int (0 : Int32))]))
      refine own_by (u' := T74.setTop (mkF m 90 #[.val (.int x1), .val (.int x2), .val (.ref (n0 + 0)), .val (.int (0 : Int32)), .val (.int (1 : Int32)), .val (.int (1 : Int32)), .val (.int (0 : Int32)), .val (.int (0 : Int32)), .unset, .unset] [(.int (0 : Int32)), (.int (0 : Int32))])) (fun _ k => XS.iload A75.here hx rfl (own_db hby at_88) rfl k) ?_
      refine own_by (u' := T74.setTop (mkF m 95 #[.val (.int x1), .val (.int x2), .val (.ref (n0 + 0)), .val (.int (0 : Int32)), .val (.int (1 : Int32)), .val (.int (1 : Int32)), .val (.int (0 : Int32)), .val (.int (0 : Int32)), .unset, .unset] [])) (fun _ k => XS.icmpYes A75.here hx rfl (pc0 := 90) (pc' := 95) rfl (own_db hby at_90) rfl (teq (by decide)).1 (by decide) (by decide) k) ?_
      refine own_by (u' := T74.setTop (mkF m 96 #[.val (.int x1), .val (.int x2), .val (.ref (n0 + 0)), .val (.int (0 : Int32)), .val (.int (1 : Int32)), .val (.int (1 : Int32)), .val (.int (0 : Int32)), .val (.int (0 : Int32)), .unset, .unset] [(.ref (n0 + 0))])) (fun _ k => XS.aloadN A75.here hx rfl (own_db hby at_95) rfl rfl k) ?_
      refine own_by (u' := T74.setTop (mkF m 98 #[.val (.int x1), .val (.int x2), .val (.ref (n0 + 0)), .val (.int (0 : Int32)), .val (.int (1 : Int32)), .val (.int (1 : Int32)), .val (.int (0 : Int32)), .val (.int (0 : Int32)), .unset, .unset] [(.int (0 : Int32)), (.ref (n0 + 0))])) (fun _ k => XS.iload A75.here hx rfl (own_db hby at_96) rfl k) ?_
      refine own_callV (y := (⟨"com/example/cairn/cairn/cache/UseOrder", "next", "(I)I"⟩ : MethodName)) (rest := []) A75 hx hZ hown (hw _ (List.mem_of_getElem? (i := 55) rfl)) (hw _ (List.mem_of_getElem? (i := 56) rfl)) (hw _ (List.mem_of_getElem? (i := 58) rfl)) (hw _ (List.mem_of_getElem? (i := 57) rfl)) (hw _ (List.mem_of_getElem? (i := 2) rfl)) (hw _ (List.mem_of_getElem? (i := 59) rfl)) (by decide) (i := 0) rfl (gM l Z a0 hw n0 ((0 : Int32) :: (-1 : Int32) :: List.replicate 14 (0 : Int32)) ((1 : Int32) :: List.replicate 15 (0 : Int32)) ((0 : Int32) :: (1 : Int32) :: List.replicate 30 (0 : Int32)) (1 : Int32) (2 : Int32) (1 : Int32) (2 : Int32) (0 : Int32) (0 : Int32) rfl rfl rfl (by decide) (by decide) (by decide)) (by rw [hml]; rfl) [(.int (0 : Int32))] rfl rfl pd__I_I rfl (W := 0) (by show 2 * 0 + _ ≤ _; exact Nat.le_of_eq rfl) (own_db hby at_98) (by decide) (by decide) (by decide) (by decide) ?_
      intro v77 i78 T80 hq79 A81
      obtain ⟨he82, rfl⟩ := hq79
      rw [show own_cur ((0 : Int32) :: (-1 : Int32) :: List.replicate 14 (0 : Int32)) ((0 : Int32) :: (1 : Int32) :: List.replicate 30 (0 : Int32)) (2 : Int32) ((2 : Int32).toInt - ((0 : Int32) + (1 : Int32)).toInt).toNat ((0 : Int32) + (1 : Int32)) = (2 : Int32) from by decide +kernel] at he82
      subst he82
      replace A81 : own_at p l e _ s m _ below meth c n0 T80 4 80 [(own_obj Z "com/example/cairn/cairn/cache/UseOrder" ns_UseOrder [(.ref (n0 + 1)), (.ref (n0 + 2)), (.ref (n0 + 3)), (.int (1 : Int32)), (.int (2 : Int32)), (.int (1 : Int32)), (.int (2 : Int32)), (.int (0 : Int32))]), (own_ia Z .int ((0 : Int32) :: (-1 : Int32) :: List.replicate 14 (0 : Int32))), (own_ia Z .int ((1 : Int32) :: List.replicate 15 (0 : Int32))), (own_ia Z .int ((0 : Int32) :: (1 : Int32) :: List.replicate 30 (0 : Int32)))] := A81
      show own_go _ _ _ _ _ _ _ (T80.setTop (mkF m 101 #[.val (.int x1), .val (.int x2), .val (.ref (n0 + 0)), .val (.int (0 : Int32)), .val (.int (1 : Int32)), .val (.int (1 : Int32)), .val (.int (0 : Int32)), .val (.int (0 : Int32)), .unset, .unset] [(.int (2 : Int32))]))
      refine own_by (u' := T80.setTop (mkF m 103 #[.val (.int x1), .val (.int x2), .val (.ref (n0 + 0)), .val (.int (0 : Int32)), .val (.int (1 : Int32)), .val (.int (1 : Int32)), .val (.int (0 : Int32)), .val (.int (0 : Int32)), .val (.int (2 : Int32)), .unset] [])) (fun _ k => XS.istore A81.here hx rfl (own_db hby at_101) rfl (l' := #[.val (.int x1), .val (.int x2), .val (.ref (n0 + 0)), .val (.int (0 : Int32)), .val (.int (1 : Int32)), .val (.int (1 : Int32)), .val (.int (0 : Int32)), .val (.int (0 : Int32)), .val (.int (2 : Int32)), .unset]) rfl k) ?_
      refine own_by (u' := T80.setTop (mkF m 104 #[.val (.int x1), .val (.int x2), .val (.ref (n0 + 0)), .val (.int (0 : Int32)), .val (.int (1 : Int32)), .val (.int (1 : Int32)), .val (.int (0 : Int32)), .val (.int (0 : Int32)), .val (.int (2 : Int32)), .unset] [(.ref (n0 + 0))])) (fun _ k => XS.aloadN A81.here hx rfl (own_db hby at_103) rfl rfl k) ?_
      refine own_by (u' := T80.setTop (mkF m 106 #[.val (.int x1), .val (.int x2), .val (.ref (n0 + 0)), .val (.int (0 : Int32)), .val (.int (1 : Int32)), .val (.int (1 : Int32)), .val (.int (0 : Int32)), .val (.int (0 : Int32)), .val (.int (2 : Int32)), .unset] [(.int (2 : Int32)), (.ref (n0 + 0))])) (fun _ k => XS.iload A81.here hx rfl (own_db hby at_104) rfl k) ?_
      refine own_callV (y := (⟨"com/example/cairn/cairn/cache/UseOrder", "slotAt", "(I)I"⟩ : MethodName)) (rest := []) A81 hx hZ hown (hw _ (List.mem_of_getElem? (i := 50) rfl)) (hw _ (List.mem_of_getElem? (i := 51) rfl)) (hw _ (List.mem_of_getElem? (i := 53) rfl)) (hw _ (List.mem_of_getElem? (i := 52) rfl)) (hw _ (List.mem_of_getElem? (i := 2) rfl)) (hw _ (List.mem_of_getElem? (i := 54) rfl)) (by decide) (i := 0) rfl (gA l Z a0 hw n0 ((0 : Int32) :: (-1 : Int32) :: List.replicate 14 (0 : Int32)) ((1 : Int32) :: List.replicate 15 (0 : Int32)) ((0 : Int32) :: (1 : Int32) :: List.replicate 30 (0 : Int32)) (1 : Int32) (2 : Int32) (1 : Int32) (2 : Int32) (0 : Int32) (2 : Int32) rfl rfl rfl (by decide)) (by rw [hml]; rfl) [(.int (2 : Int32))] rfl rfl pd__I_I rfl (W := 0) (by show 2 * 0 + _ ≤ _; exact Nat.le_of_eq rfl) (own_db hby at_106) (by decide) (by decide) (by decide) (by decide) ?_
      intro v83 i84 T86 hq85 A87
      obtain ⟨he88, rfl⟩ := hq85
      rw [show fA ((0 : Int32) :: (1 : Int32) :: List.replicate 30 (0 : Int32)) (2 : Int32) (2 : Int32) = (-1 : Int32) from by decide +kernel] at he88
      subst he88
      replace A87 : own_at p l e _ s m _ below meth c n0 T86 4 80 [(own_obj Z "com/example/cairn/cairn/cache/UseOrder" ns_UseOrder [(.ref (n0 + 1)), (.ref (n0 + 2)), (.ref (n0 + 3)), (.int (1 : Int32)), (.int (2 : Int32)), (.int (1 : Int32)), (.int (2 : Int32)), (.int (0 : Int32))]), (own_ia Z .int ((0 : Int32) :: (-1 : Int32) :: List.replicate 14 (0 : Int32))), (own_ia Z .int ((1 : Int32) :: List.replicate 15 (0 : Int32))), (own_ia Z .int ((0 : Int32) :: (1 : Int32) :: List.replicate 30 (0 : Int32)))] := A87
      show own_go _ _ _ _ _ _ _ (T86.setTop (mkF m 109 #[.val (.int x1), .val (.int x2), .val (.ref (n0 + 0)), .val (.int (0 : Int32)), .val (.int (1 : Int32)), .val (.int (1 : Int32)), .val (.int (0 : Int32)), .val (.int (0 : Int32)), .val (.int (2 : Int32)), .unset] [(.int (-1 : Int32))]))
      refine own_by (u' := T86.setTop (mkF m 110 #[.val (.int x1), .val (.int x2), .val (.ref (n0 + 0)), .val (.int (0 : Int32)), .val (.int (1 : Int32)), .val (.int (1 : Int32)), .val (.int (0 : Int32)), .val (.int (0 : Int32)), .val (.int (2 : Int32)), .unset] [(.int (-1 : Int32)), (.int (-1 : Int32))])) (fun _ k => XS.iconst A87.here hx rfl (own_db hby at_109) k) ?_
      refine own_by (u' := T86.setTop (mkF m 115 #[.val (.int x1), .val (.int x2), .val (.ref (n0 + 0)), .val (.int (0 : Int32)), .val (.int (1 : Int32)), .val (.int (1 : Int32)), .val (.int (0 : Int32)), .val (.int (0 : Int32)), .val (.int (2 : Int32)), .unset] [])) (fun _ k => XS.icmpYes A87.here hx rfl (pc0 := 110) (pc' := 115) rfl (own_db hby at_110) rfl (teq (by decide)).1 (by decide) (by decide) k) ?_
      refine own_by (u' := T86.setTop (mkF m 116 #[.val (.int x1), .val (.int x2), .val (.ref (n0 + 0)), .val (.int (0 : Int32)), .val (.int (1 : Int32)), .val (.int (1 : Int32)), .val (.int (0 : Int32)), .val (.int (0 : Int32)), .val (.int (2 : Int32)), .unset] [(.ref (n0 + 0))])) (fun _ k => XS.aloadN A87.here hx rfl (own_db hby at_115) rfl rfl k) ?_
      refine own_callV (y := (⟨"com/example/cairn/cairn/cache/UseOrder", "take", "()I"⟩ : MethodName)) (rest := []) A87 hx hZ hown (hw _ (List.mem_of_getElem? (i := 16) rfl)) (hw _ (List.mem_of_getElem? (i := 17) rfl)) (hw _ (List.mem_of_getElem? (i := 19) rfl)) (hw _ (List.mem_of_getElem? (i := 18) rfl)) (hw _ (List.mem_of_getElem? (i := 2) rfl)) (hw _ (List.mem_of_getElem? (i := 20) rfl)) (by decide) (i := 0) rfl (gF l Z a0 hw n0 ((0 : Int32) :: (-1 : Int32) :: List.replicate 14 (0 : Int32)) ((1 : Int32) :: List.replicate 15 (0 : Int32)) ((0 : Int32) :: (1 : Int32) :: List.replicate 30 (0 : Int32)) (2 : Int32) (1 : Int32) (2 : Int32) (0 : Int32) (1 : Int32) 2 1 rfl rfl rfl ⟨by decide, by decide, by decide⟩ rfl ⟨by decide, by decide, by decide⟩) (by rw [hml]; rfl) [] rfl rfl pd___I rfl (W := 0) (by show 2 * 0 + _ ≤ _; exact Nat.le_of_eq rfl) (own_db hby at_116) (by decide) (by decide) (by decide) (by decide) ?_
      intro v89 i90 T92 hq91 A93
      obtain ⟨rfl, he94⟩ := hq91
      rw [he94] at A93
      replace A93 : own_at p l e _ s m _ below meth c n0 T92 4 80 [(own_obj Z "com/example/cairn/cairn/cache/UseOrder" ns_UseOrder [(.ref (n0 + 1)), (.ref (n0 + 2)), (.ref (n0 + 3)), (.int (0 : Int32)), (.int (2 : Int32)), (.int (2 : Int32)), (.int (3 : Int32)), (.int (0 : Int32))]), (own_ia Z .int ((0 : Int32) :: (2 : Int32) :: List.replicate 14 (0 : Int32))), (own_ia Z .int ((1 : Int32) :: List.replicate 15 (0 : Int32))), (own_ia Z .int ((0 : Int32) :: (1 : Int32) :: (1 : Int32) :: List.replicate 29 (0 : Int32)))] := A93
      show own_go _ _ _ _ _ _ _ (T92.setTop (mkF m 119 #[.val (.int x1), .val (.int x2), .val (.ref (n0 + 0)), .val (.int (0 : Int32)), .val (.int (1 : Int32)), .val (.int (1 : Int32)), .val (.int (0 : Int32)), .val (.int (0 : Int32)), .val (.int (2 : Int32)), .unset] [(.int (1 : Int32))]))
      refine own_by (u' := T92.setTop (mkF m 121 #[.val (.int x1), .val (.int x2), .val (.ref (n0 + 0)), .val (.int (0 : Int32)), .val (.int (1 : Int32)), .val (.int (1 : Int32)), .val (.int (0 : Int32)), .val (.int (0 : Int32)), .val (.int (2 : Int32)), .val (.int (1 : Int32))] [])) (fun _ k => XS.istore A93.here hx rfl (own_db hby at_119) rfl (l' := #[.val (.int x1), .val (.int x2), .val (.ref (n0 + 0)), .val (.int (0 : Int32)), .val (.int (1 : Int32)), .val (.int (1 : Int32)), .val (.int (0 : Int32)), .val (.int (0 : Int32)), .val (.int (2 : Int32)), .val (.int (1 : Int32))]) rfl k) ?_
      refine own_by (u' := T92.setTop (mkF m 123 #[.val (.int x1), .val (.int x2), .val (.ref (n0 + 0)), .val (.int (0 : Int32)), .val (.int (1 : Int32)), .val (.int (1 : Int32)), .val (.int (0 : Int32)), .val (.int (0 : Int32)), .val (.int (2 : Int32)), .val (.int (1 : Int32))] [(.int (1 : Int32))])) (fun _ k => XS.iload A93.here hx rfl (own_db hby at_121) rfl k) ?_
      refine own_by (u' := T92.setTop (mkF m 125 #[.val (.int x1), .val (.int x2), .val (.ref (n0 + 0)), .val (.int (0 : Int32)), .val (.int (1 : Int32)), .val (.int (1 : Int32)), .val (.int (0 : Int32)), .val (.int (0 : Int32)), .val (.int (2 : Int32)), .val (.int (1 : Int32))] [(.int (1 : Int32)), (.int (1 : Int32))])) (fun _ k => XS.iload A93.here hx rfl (own_db hby at_123) rfl k) ?_
      refine own_by (u' := T92.setTop (mkF m 128 #[.val (.int x1), .val (.int x2), .val (.ref (n0 + 0)), .val (.int (0 : Int32)), .val (.int (1 : Int32)), .val (.int (1 : Int32)), .val (.int (0 : Int32)), .val (.int (0 : Int32)), .val (.int (2 : Int32)), .val (.int (1 : Int32))] [])) (fun _ k => XS.icmpNo A93.here hx rfl (own_db hby at_125) rfl (teq (by decide)).2 k) ?_
      refine own_by (u' := T92.setTop (mkF m 129 #[.val (.int x1), .val (.int x2), .val (.ref (n0 + 0)), .val (.int (0 : Int32)), .val (.int (1 : Int32)), .val (.int (1 : Int32)), .val (.int (0 : Int32)), .val (.int (0 : Int32)), .val (.int (2 : Int32)), .val (.int (1 : Int32))] [(.int (1 : Int32))])) (fun _ k => XS.iconst A93.here hx rfl (own_db hby at_128) k) ?_
      refine own_by (u' := T92.setTop (mkF m 133 #[.val (.int x1), .val (.int x2), .val (.ref (n0 + 0)), .val (.int (0 : Int32)), .val (.int (1 : Int32)), .val (.int (1 : Int32)), .val (.int (0 : Int32)), .val (.int (0 : Int32)), .val (.int (2 : Int32)), .val (.int (1 : Int32))] [(.int (1 : Int32))])) (fun _ k => XS.goto A93.here hx rfl (pc0 := 129) (pc' := 133) rfl (own_db hby at_129) (by decide) (by decide) k) ?_
      exact own_retN A93 hx hlk (t := .boolean) (by simp) hret (own_db hby at_133) (by decide) (by decide) ⟨rfl, trivial⟩
  · refine own_by (u' := T18.setTop (mkF m 37 #[.val (.int x1), .val (.int x2), .val (.ref (n0 + 0)), .val (.int (0 : Int32)), .val (.int (1 : Int32)), .unset, .unset, .unset, .unset, .unset] [])) (fun _ k => XS.ifNo A19.here hx rfl (own_db hby at_34) rfl ((if0 _ _).trans (feq hc21).1) k) ?_
    refine own_by (u' := T18.setTop (mkF m 38 #[.val (.int x1), .val (.int x2), .val (.ref (n0 + 0)), .val (.int (0 : Int32)), .val (.int (1 : Int32)), .unset, .unset, .unset, .unset, .unset] [(.ref (n0 + 0))])) (fun _ k => XS.aloadN A19.here hx rfl (own_db hby at_37) rfl rfl k) ?_
    refine own_by (u' := T18.setTop (mkF m 39 #[.val (.int x1), .val (.int x2), .val (.ref (n0 + 0)), .val (.int (0 : Int32)), .val (.int (1 : Int32)), .unset, .unset, .unset, .unset, .unset] [(.int (0 : Int32)), (.ref (n0 + 0))])) (fun _ k => XS.iloadN A19.here hx rfl (own_db hby at_38) rfl k) ?_
    refine own_callV (y := (⟨"com/example/cairn/cairn/cache/UseOrder", "use", "(I)V"⟩ : MethodName)) (rest := []) A19 hx hZ hown (hw _ (List.mem_of_getElem? (i := 60) rfl)) (hw _ (List.mem_of_getElem? (i := 28) rfl)) (hw _ (List.mem_of_getElem? (i := 30) rfl)) (hw _ (List.mem_of_getElem? (i := 29) rfl)) (hw _ (List.mem_of_getElem? (i := 2) rfl)) (hw _ (List.mem_of_getElem? (i := 31) rfl)) (by decide) (i := 0) rfl (gU l Z a0 hw n0 ((0 : Int32) :: (1 : Int32) :: List.replicate 14 (0 : Int32)) (List.replicate 16 (0 : Int32)) ((0 : Int32) :: (1 : Int32) :: List.replicate 30 (0 : Int32)) (0 : Int32) (2 : Int32) (2 : Int32) (2 : Int32) (0 : Int32) (0 : Int32) 2 0 rfl rfl rfl ⟨by decide, by decide, by decide⟩ ⟨by decide, by decide, by decide⟩) (by rw [hml]; rfl) [(.int (0 : Int32))] rfl rfl pd__I_V rfl (W := 0) (by show 2 * 0 + _ ≤ _; exact Nat.le_of_eq rfl) (own_db hby at_39) (by decide) (by decide) (by decide) (by decide) ?_
    intro v95 i96 T98 hq97 A99
    obtain ⟨rfl, he100⟩ := hq97
    rw [he100] at A99
    replace A99 : own_at p l e _ s m _ below meth c n0 T98 4 80 [(own_obj Z "com/example/cairn/cairn/cache/UseOrder" ns_UseOrder [(.ref (n0 + 1)), (.ref (n0 + 2)), (.ref (n0 + 3)), (.int (0 : Int32)), (.int (2 : Int32)), (.int (2 : Int32)), (.int (3 : Int32)), (.int (0 : Int32))]), (own_ia Z .int ((2 : Int32) :: (1 : Int32) :: List.replicate 14 (0 : Int32))), (own_ia Z .int (List.replicate 16 (0 : Int32))), (own_ia Z .int ((0 : Int32) :: (1 : Int32) :: List.replicate 30 (0 : Int32)))] := A99
    show own_go _ _ _ _ _ _ _ (T98.setTop (mkF m 42 #[.val (.int x1), .val (.int x2), .val (.ref (n0 + 0)), .val (.int (0 : Int32)), .val (.int (1 : Int32)), .unset, .unset, .unset, .unset, .unset] []))
    refine own_by (u' := T98.setTop (mkF m 43 #[.val (.int x1), .val (.int x2), .val (.ref (n0 + 0)), .val (.int (0 : Int32)), .val (.int (1 : Int32)), .unset, .unset, .unset, .unset, .unset] [(.int x2)])) (fun _ k => XS.iloadN A99.here hx rfl (own_db hby at_42) rfl k) ?_
    refine own_by (u' := T98.setTop (mkF m 44 #[.val (.int x1), .val (.int x2), .val (.ref (n0 + 0)), .val (.int (0 : Int32)), .val (.int (1 : Int32)), .unset, .unset, .unset, .unset, .unset] [(.int (1 : Int32)), (.int x2)])) (fun _ k => XS.iconst A99.here hx rfl (own_db hby at_43) k) ?_
    refine own_by (u' := T98.setTop (mkF m 45 #[.val (.int x1), .val (.int x2), .val (.ref (n0 + 0)), .val (.int (0 : Int32)), .val (.int (1 : Int32)), .unset, .unset, .unset, .unset, .unset] [(.int (x2 &&& (1 : Int32)))])) (fun _ k => XS.iand A99.here hx rfl (own_db hby at_44) rfl k) ?_
    by_cases hc101 : (x2 &&& (1 : Int32)) = (0 : Int32)
    · refine own_by (u' := T98.setTop (mkF m 53 #[.val (.int x1), .val (.int x2), .val (.ref (n0 + 0)), .val (.int (0 : Int32)), .val (.int (1 : Int32)), .unset, .unset, .unset, .unset, .unset] [])) (fun _ k => XS.ifYes A99.here hx rfl (pc0 := 45) (pc' := 53) rfl (own_db hby at_45) rfl ((if0 _ _).trans (teq hc101).1) (by decide) (by decide) k) ?_
      refine own_by (u' := T98.setTop (mkF m 54 #[.val (.int x1), .val (.int x2), .val (.ref (n0 + 0)), .val (.int (0 : Int32)), .val (.int (1 : Int32)), .unset, .unset, .unset, .unset, .unset] [(.int (0 : Int32))])) (fun _ k => XS.iloadN A99.here hx rfl (own_db hby at_53) rfl k) ?_
      refine own_by (u' := T98.setTop (mkF m 56 #[.val (.int x1), .val (.int x2), .val (.ref (n0 + 0)), .val (.int (0 : Int32)), .val (.int (1 : Int32)), .val (.int (0 : Int32)), .unset, .unset, .unset, .unset] [])) (fun _ k => XS.istore A99.here hx rfl (own_db hby at_54) rfl (l' := #[.val (.int x1), .val (.int x2), .val (.ref (n0 + 0)), .val (.int (0 : Int32)), .val (.int (1 : Int32)), .val (.int (0 : Int32)), .unset, .unset, .unset, .unset]) rfl k) ?_
      refine own_by (u' := T98.setTop (mkF m 58 #[.val (.int x1), .val (.int x2), .val (.ref (n0 + 0)), .val (.int (0 : Int32)), .val (.int (1 : Int32)), .val (.int (0 : Int32)), .unset, .unset, .unset, .unset] [(.int (0 : Int32))])) (fun _ k => XS.iload A99.here hx rfl (own_db hby at_56) rfl k) ?_
      refine own_by (u' := T98.setTop (mkF m 59 #[.val (.int x1), .val (.int x2), .val (.ref (n0 + 0)), .val (.int (0 : Int32)), .val (.int (1 : Int32)), .val (.int (0 : Int32)), .unset, .unset, .unset, .unset] [(.int (0 : Int32)), (.int (0 : Int32))])) (fun _ k => XS.iloadN A99.here hx rfl (own_db hby at_58) rfl k) ?_
      refine own_by (u' := T98.setTop (mkF m 62 #[.val (.int x1), .val (.int x2), .val (.ref (n0 + 0)), .val (.int (0 : Int32)), .val (.int (1 : Int32)), .val (.int (0 : Int32)), .unset, .unset, .unset, .unset] [])) (fun _ k => XS.icmpNo A99.here hx rfl (own_db hby at_59) rfl (teq (by decide)).2 k) ?_
      refine own_by (u' := T98.setTop (mkF m 64 #[.val (.int x1), .val (.int x2), .val (.ref (n0 + 0)), .val (.int (0 : Int32)), .val (.int (1 : Int32)), .val (.int (0 : Int32)), .unset, .unset, .unset, .unset] [(.int (1 : Int32))])) (fun _ k => XS.iload A99.here hx rfl (own_db hby at_62) rfl k) ?_
      refine own_by (u' := T98.setTop (mkF m 68 #[.val (.int x1), .val (.int x2), .val (.ref (n0 + 0)), .val (.int (0 : Int32)), .val (.int (1 : Int32)), .val (.int (0 : Int32)), .unset, .unset, .unset, .unset] [(.int (1 : Int32))])) (fun _ k => XS.goto A99.here hx rfl (pc0 := 64) (pc' := 68) rfl (own_db hby at_64) (by decide) (by decide) k) ?_
      refine own_by (u' := T98.setTop (mkF m 70 #[.val (.int x1), .val (.int x2), .val (.ref (n0 + 0)), .val (.int (0 : Int32)), .val (.int (1 : Int32)), .val (.int (0 : Int32)), .val (.int (1 : Int32)), .unset, .unset, .unset] [])) (fun _ k => XS.istore A99.here hx rfl (own_db hby at_68) rfl (l' := #[.val (.int x1), .val (.int x2), .val (.ref (n0 + 0)), .val (.int (0 : Int32)), .val (.int (1 : Int32)), .val (.int (0 : Int32)), .val (.int (1 : Int32)), .unset, .unset, .unset]) rfl k) ?_
      refine own_by (u' := T98.setTop (mkF m 71 #[.val (.int x1), .val (.int x2), .val (.ref (n0 + 0)), .val (.int (0 : Int32)), .val (.int (1 : Int32)), .val (.int (0 : Int32)), .val (.int (1 : Int32)), .unset, .unset, .unset] [(.ref (n0 + 0))])) (fun _ k => XS.aloadN A99.here hx rfl (own_db hby at_70) rfl rfl k) ?_
      refine own_by (u' := T98.setTop (mkF m 73 #[.val (.int x1), .val (.int x2), .val (.ref (n0 + 0)), .val (.int (0 : Int32)), .val (.int (1 : Int32)), .val (.int (0 : Int32)), .val (.int (1 : Int32)), .unset, .unset, .unset] [(.int (0 : Int32)), (.ref (n0 + 0))])) (fun _ k => XS.iload A99.here hx rfl (own_db hby at_71) rfl k) ?_
      refine own_callV (y := (⟨"com/example/cairn/cairn/cache/UseOrder", "free", "(I)V"⟩ : MethodName)) (rest := []) A99 hx hZ hown (hw _ (List.mem_of_getElem? (i := 34) rfl)) (hw _ (List.mem_of_getElem? (i := 35) rfl)) (hw _ (List.mem_of_getElem? (i := 37) rfl)) (hw _ (List.mem_of_getElem? (i := 36) rfl)) (hw _ (List.mem_of_getElem? (i := 2) rfl)) (hw _ (List.mem_of_getElem? (i := 38) rfl)) (by decide) (i := 0) rfl (gX l Z a0 hw n0 ((2 : Int32) :: (1 : Int32) :: List.replicate 14 (0 : Int32)) (List.replicate 16 (0 : Int32)) ((0 : Int32) :: (1 : Int32) :: List.replicate 30 (0 : Int32)) (0 : Int32) (2 : Int32) (2 : Int32) (3 : Int32) (0 : Int32) (0 : Int32) 0 0 rfl rfl rfl ⟨by decide, by decide, by decide⟩ ⟨by decide, by decide, by decide⟩) (by rw [hml]; rfl) [(.int (0 : Int32))] rfl rfl pd__I_V rfl (W := 0) (by show 2 * 0 + _ ≤ _; exact Nat.le_of_eq rfl) (own_db hby at_73) (by decide) (by decide) (by decide) (by decide) ?_
      intro v102 i103 T105 hq104 A106
      obtain ⟨rfl, he107⟩ := hq104
      rw [he107] at A106
      replace A106 : own_at p l e _ s m _ below meth c n0 T105 4 80 [(own_obj Z "com/example/cairn/cairn/cache/UseOrder" ns_UseOrder [(.ref (n0 + 1)), (.ref (n0 + 2)), (.ref (n0 + 3)), (.int (1 : Int32)), (.int (2 : Int32)), (.int (1 : Int32)), (.int (3 : Int32)), (.int (0 : Int32))]), (own_ia Z .int ((-1 : Int32) :: (1 : Int32) :: List.replicate 14 (0 : Int32))), (own_ia Z .int (List.replicate 16 (0 : Int32))), (own_ia Z .int ((0 : Int32) :: (1 : Int32) :: List.replicate 30 (0 : Int32)))] := A106
      show own_go _ _ _ _ _ _ _ (T105.setTop (mkF m 76 #[.val (.int x1), .val (.int x2), .val (.ref (n0 + 0)), .val (.int (0 : Int32)), .val (.int (1 : Int32)), .val (.int (0 : Int32)), .val (.int (1 : Int32)), .unset, .unset, .unset] []))
      refine own_by (u' := T105.setTop (mkF m 77 #[.val (.int x1), .val (.int x2), .val (.ref (n0 + 0)), .val (.int (0 : Int32)), .val (.int (1 : Int32)), .val (.int (0 : Int32)), .val (.int (1 : Int32)), .unset, .unset, .unset] [(.ref (n0 + 0))])) (fun _ k => XS.aloadN A106.here hx rfl (own_db hby at_76) rfl rfl k) ?_
      refine own_callV (y := (⟨"com/example/cairn/cairn/cache/UseOrder", "start", "()I"⟩ : MethodName)) (rest := []) A106 hx hZ hown (hw _ (List.mem_of_getElem? (i := 39) rfl)) (hw _ (List.mem_of_getElem? (i := 40) rfl)) (hw _ (List.mem_of_getElem? (i := 42) rfl)) (hw _ (List.mem_of_getElem? (i := 41) rfl)) (hw _ (List.mem_of_getElem? (i := 2) rfl)) (hw _ (List.mem_of_getElem? (i := 43) rfl)) (by decide) (i := 0) rfl (gS l Z a0 hw n0 ((-1 : Int32) :: (1 : Int32) :: List.replicate 14 (0 : Int32)) (List.replicate 16 (0 : Int32)) ((0 : Int32) :: (1 : Int32) :: List.replicate 30 (0 : Int32)) (1 : Int32) (2 : Int32) (1 : Int32) (3 : Int32) (0 : Int32) rfl rfl rfl (by decide) (by decide) (by decide)) (by rw [hml]; rfl) [] rfl rfl pd___I rfl (W := 0) (by show 2 * 0 + _ ≤ _; exact Nat.le_of_eq rfl) (own_db hby at_77) (by decide) (by decide) (by decide) (by decide) ?_
      intro v108 i109 T111 hq110 A112
      obtain ⟨he113, rfl⟩ := hq110
      rw [show own_cur ((-1 : Int32) :: (1 : Int32) :: List.replicate 14 (0 : Int32)) ((0 : Int32) :: (1 : Int32) :: List.replicate 30 (0 : Int32)) (3 : Int32) ((3 : Int32).toInt - (0 : Int32).toInt).toNat (0 : Int32) = (1 : Int32) from by decide +kernel] at he113
      subst he113
      replace A112 : own_at p l e _ s m _ below meth c n0 T111 4 80 [(own_obj Z "com/example/cairn/cairn/cache/UseOrder" ns_UseOrder [(.ref (n0 + 1)), (.ref (n0 + 2)), (.ref (n0 + 3)), (.int (1 : Int32)), (.int (2 : Int32)), (.int (1 : Int32)), (.int (3 : Int32)), (.int (0 : Int32))]), (own_ia Z .int ((-1 : Int32) :: (1 : Int32) :: List.replicate 14 (0 : Int32))), (own_ia Z .int (List.replicate 16 (0 : Int32))), (own_ia Z .int ((0 : Int32) :: (1 : Int32) :: List.replicate 30 (0 : Int32)))] := A112
      show own_go _ _ _ _ _ _ _ (T111.setTop (mkF m 80 #[.val (.int x1), .val (.int x2), .val (.ref (n0 + 0)), .val (.int (0 : Int32)), .val (.int (1 : Int32)), .val (.int (0 : Int32)), .val (.int (1 : Int32)), .unset, .unset, .unset] [(.int (1 : Int32))]))
      refine own_by (u' := T111.setTop (mkF m 82 #[.val (.int x1), .val (.int x2), .val (.ref (n0 + 0)), .val (.int (0 : Int32)), .val (.int (1 : Int32)), .val (.int (0 : Int32)), .val (.int (1 : Int32)), .val (.int (1 : Int32)), .unset, .unset] [])) (fun _ k => XS.istore A112.here hx rfl (own_db hby at_80) rfl (l' := #[.val (.int x1), .val (.int x2), .val (.ref (n0 + 0)), .val (.int (0 : Int32)), .val (.int (1 : Int32)), .val (.int (0 : Int32)), .val (.int (1 : Int32)), .val (.int (1 : Int32)), .unset, .unset]) rfl k) ?_
      refine own_by (u' := T111.setTop (mkF m 83 #[.val (.int x1), .val (.int x2), .val (.ref (n0 + 0)), .val (.int (0 : Int32)), .val (.int (1 : Int32)), .val (.int (0 : Int32)), .val (.int (1 : Int32)), .val (.int (1 : Int32)), .unset, .unset] [(.ref (n0 + 0))])) (fun _ k => XS.aloadN A112.here hx rfl (own_db hby at_82) rfl rfl k) ?_
      refine own_by (u' := T111.setTop (mkF m 85 #[.val (.int x1), .val (.int x2), .val (.ref (n0 + 0)), .val (.int (0 : Int32)), .val (.int (1 : Int32)), .val (.int (0 : Int32)), .val (.int (1 : Int32)), .val (.int (1 : Int32)), .unset, .unset] [(.int (1 : Int32)), (.ref (n0 + 0))])) (fun _ k => XS.iload A112.here hx rfl (own_db hby at_83) rfl k) ?_
      refine own_callV (y := (⟨"com/example/cairn/cairn/cache/UseOrder", "slotAt", "(I)I"⟩ : MethodName)) (rest := []) A112 hx hZ hown (hw _ (List.mem_of_getElem? (i := 50) rfl)) (hw _ (List.mem_of_getElem? (i := 51) rfl)) (hw _ (List.mem_of_getElem? (i := 53) rfl)) (hw _ (List.mem_of_getElem? (i := 52) rfl)) (hw _ (List.mem_of_getElem? (i := 2) rfl)) (hw _ (List.mem_of_getElem? (i := 54) rfl)) (by decide) (i := 0) rfl (gA l Z a0 hw n0 ((-1 : Int32) :: (1 : Int32) :: List.replicate 14 (0 : Int32)) (List.replicate 16 (0 : Int32)) ((0 : Int32) :: (1 : Int32) :: List.replicate 30 (0 : Int32)) (1 : Int32) (2 : Int32) (1 : Int32) (3 : Int32) (0 : Int32) (1 : Int32) rfl rfl rfl (by decide)) (by rw [hml]; rfl) [(.int (1 : Int32))] rfl rfl pd__I_I rfl (W := 0) (by show 2 * 0 + _ ≤ _; exact Nat.le_of_eq rfl) (own_db hby at_85) (by decide) (by decide) (by decide) (by decide) ?_
      intro v114 i115 T117 hq116 A118
      obtain ⟨he119, rfl⟩ := hq116
      rw [show fA ((0 : Int32) :: (1 : Int32) :: List.replicate 30 (0 : Int32)) (3 : Int32) (1 : Int32) = (1 : Int32) from by decide +kernel] at he119
      subst he119
      replace A118 : own_at p l e _ s m _ below meth c n0 T117 4 80 [(own_obj Z "com/example/cairn/cairn/cache/UseOrder" ns_UseOrder [(.ref (n0 + 1)), (.ref (n0 + 2)), (.ref (n0 + 3)), (.int (1 : Int32)), (.int (2 : Int32)), (.int (1 : Int32)), (.int (3 : Int32)), (.int (0 : Int32))]), (own_ia Z .int ((-1 : Int32) :: (1 : Int32) :: List.replicate 14 (0 : Int32))), (own_ia Z .int (List.replicate 16 (0 : Int32))), (own_ia Z .int ((0 : Int32) :: (1 : Int32) :: List.replicate 30 (0 : Int32)))] := A118
      show own_go _ _ _ _ _ _ _ (T117.setTop (mkF m 88 #[.val (.int x1), .val (.int x2), .val (.ref (n0 + 0)), .val (.int (0 : Int32)), .val (.int (1 : Int32)), .val (.int (0 : Int32)), .val (.int (1 : Int32)), .val (.int (1 : Int32)), .unset, .unset] [(.int (1 : Int32))]))
      refine own_by (u' := T117.setTop (mkF m 90 #[.val (.int x1), .val (.int x2), .val (.ref (n0 + 0)), .val (.int (0 : Int32)), .val (.int (1 : Int32)), .val (.int (0 : Int32)), .val (.int (1 : Int32)), .val (.int (1 : Int32)), .unset, .unset] [(.int (1 : Int32)), (.int (1 : Int32))])) (fun _ k => XS.iload A118.here hx rfl (own_db hby at_88) rfl k) ?_
      refine own_by (u' := T117.setTop (mkF m 95 #[.val (.int x1), .val (.int x2), .val (.ref (n0 + 0)), .val (.int (0 : Int32)), .val (.int (1 : Int32)), .val (.int (0 : Int32)), .val (.int (1 : Int32)), .val (.int (1 : Int32)), .unset, .unset] [])) (fun _ k => XS.icmpYes A118.here hx rfl (pc0 := 90) (pc' := 95) rfl (own_db hby at_90) rfl (teq (by decide)).1 (by decide) (by decide) k) ?_
      refine own_by (u' := T117.setTop (mkF m 96 #[.val (.int x1), .val (.int x2), .val (.ref (n0 + 0)), .val (.int (0 : Int32)), .val (.int (1 : Int32)), .val (.int (0 : Int32)), .val (.int (1 : Int32)), .val (.int (1 : Int32)), .unset, .unset] [(.ref (n0 + 0))])) (fun _ k => XS.aloadN A118.here hx rfl (own_db hby at_95) rfl rfl k) ?_
      refine own_by (u' := T117.setTop (mkF m 98 #[.val (.int x1), .val (.int x2), .val (.ref (n0 + 0)), .val (.int (0 : Int32)), .val (.int (1 : Int32)), .val (.int (0 : Int32)), .val (.int (1 : Int32)), .val (.int (1 : Int32)), .unset, .unset] [(.int (1 : Int32)), (.ref (n0 + 0))])) (fun _ k => XS.iload A118.here hx rfl (own_db hby at_96) rfl k) ?_
      refine own_callV (y := (⟨"com/example/cairn/cairn/cache/UseOrder", "next", "(I)I"⟩ : MethodName)) (rest := []) A118 hx hZ hown (hw _ (List.mem_of_getElem? (i := 55) rfl)) (hw _ (List.mem_of_getElem? (i := 56) rfl)) (hw _ (List.mem_of_getElem? (i := 58) rfl)) (hw _ (List.mem_of_getElem? (i := 57) rfl)) (hw _ (List.mem_of_getElem? (i := 2) rfl)) (hw _ (List.mem_of_getElem? (i := 59) rfl)) (by decide) (i := 0) rfl (gM l Z a0 hw n0 ((-1 : Int32) :: (1 : Int32) :: List.replicate 14 (0 : Int32)) (List.replicate 16 (0 : Int32)) ((0 : Int32) :: (1 : Int32) :: List.replicate 30 (0 : Int32)) (1 : Int32) (2 : Int32) (1 : Int32) (3 : Int32) (0 : Int32) (1 : Int32) rfl rfl rfl (by decide) (by decide) (by decide)) (by rw [hml]; rfl) [(.int (1 : Int32))] rfl rfl pd__I_I rfl (W := 0) (by show 2 * 0 + _ ≤ _; exact Nat.le_of_eq rfl) (own_db hby at_98) (by decide) (by decide) (by decide) (by decide) ?_
      intro v120 i121 T123 hq122 A124
      obtain ⟨he125, rfl⟩ := hq122
      rw [show own_cur ((-1 : Int32) :: (1 : Int32) :: List.replicate 14 (0 : Int32)) ((0 : Int32) :: (1 : Int32) :: List.replicate 30 (0 : Int32)) (3 : Int32) ((3 : Int32).toInt - ((1 : Int32) + (1 : Int32)).toInt).toNat ((1 : Int32) + (1 : Int32)) = (3 : Int32) from by decide +kernel] at he125
      subst he125
      replace A124 : own_at p l e _ s m _ below meth c n0 T123 4 80 [(own_obj Z "com/example/cairn/cairn/cache/UseOrder" ns_UseOrder [(.ref (n0 + 1)), (.ref (n0 + 2)), (.ref (n0 + 3)), (.int (1 : Int32)), (.int (2 : Int32)), (.int (1 : Int32)), (.int (3 : Int32)), (.int (0 : Int32))]), (own_ia Z .int ((-1 : Int32) :: (1 : Int32) :: List.replicate 14 (0 : Int32))), (own_ia Z .int (List.replicate 16 (0 : Int32))), (own_ia Z .int ((0 : Int32) :: (1 : Int32) :: List.replicate 30 (0 : Int32)))] := A124
      show own_go _ _ _ _ _ _ _ (T123.setTop (mkF m 101 #[.val (.int x1), .val (.int x2), .val (.ref (n0 + 0)), .val (.int (0 : Int32)), .val (.int (1 : Int32)), .val (.int (0 : Int32)), .val (.int (1 : Int32)), .val (.int (1 : Int32)), .unset, .unset] [(.int (3 : Int32))]))
      refine own_by (u' := T123.setTop (mkF m 103 #[.val (.int x1), .val (.int x2), .val (.ref (n0 + 0)), .val (.int (0 : Int32)), .val (.int (1 : Int32)), .val (.int (0 : Int32)), .val (.int (1 : Int32)), .val (.int (1 : Int32)), .val (.int (3 : Int32)), .unset] [])) (fun _ k => XS.istore A124.here hx rfl (own_db hby at_101) rfl (l' := #[.val (.int x1), .val (.int x2), .val (.ref (n0 + 0)), .val (.int (0 : Int32)), .val (.int (1 : Int32)), .val (.int (0 : Int32)), .val (.int (1 : Int32)), .val (.int (1 : Int32)), .val (.int (3 : Int32)), .unset]) rfl k) ?_
      refine own_by (u' := T123.setTop (mkF m 104 #[.val (.int x1), .val (.int x2), .val (.ref (n0 + 0)), .val (.int (0 : Int32)), .val (.int (1 : Int32)), .val (.int (0 : Int32)), .val (.int (1 : Int32)), .val (.int (1 : Int32)), .val (.int (3 : Int32)), .unset] [(.ref (n0 + 0))])) (fun _ k => XS.aloadN A124.here hx rfl (own_db hby at_103) rfl rfl k) ?_
      refine own_by (u' := T123.setTop (mkF m 106 #[.val (.int x1), .val (.int x2), .val (.ref (n0 + 0)), .val (.int (0 : Int32)), .val (.int (1 : Int32)), .val (.int (0 : Int32)), .val (.int (1 : Int32)), .val (.int (1 : Int32)), .val (.int (3 : Int32)), .unset] [(.int (3 : Int32)), (.ref (n0 + 0))])) (fun _ k => XS.iload A124.here hx rfl (own_db hby at_104) rfl k) ?_
      refine own_callV (y := (⟨"com/example/cairn/cairn/cache/UseOrder", "slotAt", "(I)I"⟩ : MethodName)) (rest := []) A124 hx hZ hown (hw _ (List.mem_of_getElem? (i := 50) rfl)) (hw _ (List.mem_of_getElem? (i := 51) rfl)) (hw _ (List.mem_of_getElem? (i := 53) rfl)) (hw _ (List.mem_of_getElem? (i := 52) rfl)) (hw _ (List.mem_of_getElem? (i := 2) rfl)) (hw _ (List.mem_of_getElem? (i := 54) rfl)) (by decide) (i := 0) rfl (gA l Z a0 hw n0 ((-1 : Int32) :: (1 : Int32) :: List.replicate 14 (0 : Int32)) (List.replicate 16 (0 : Int32)) ((0 : Int32) :: (1 : Int32) :: List.replicate 30 (0 : Int32)) (1 : Int32) (2 : Int32) (1 : Int32) (3 : Int32) (0 : Int32) (3 : Int32) rfl rfl rfl (by decide)) (by rw [hml]; rfl) [(.int (3 : Int32))] rfl rfl pd__I_I rfl (W := 0) (by show 2 * 0 + _ ≤ _; exact Nat.le_of_eq rfl) (own_db hby at_106) (by decide) (by decide) (by decide) (by decide) ?_
      intro v126 i127 T129 hq128 A130
      obtain ⟨he131, rfl⟩ := hq128
      rw [show fA ((0 : Int32) :: (1 : Int32) :: List.replicate 30 (0 : Int32)) (3 : Int32) (3 : Int32) = (-1 : Int32) from by decide +kernel] at he131
      subst he131
      replace A130 : own_at p l e _ s m _ below meth c n0 T129 4 80 [(own_obj Z "com/example/cairn/cairn/cache/UseOrder" ns_UseOrder [(.ref (n0 + 1)), (.ref (n0 + 2)), (.ref (n0 + 3)), (.int (1 : Int32)), (.int (2 : Int32)), (.int (1 : Int32)), (.int (3 : Int32)), (.int (0 : Int32))]), (own_ia Z .int ((-1 : Int32) :: (1 : Int32) :: List.replicate 14 (0 : Int32))), (own_ia Z .int (List.replicate 16 (0 : Int32))), (own_ia Z .int ((0 : Int32) :: (1 : Int32) :: List.replicate 30 (0 : Int32)))] := A130
      show own_go _ _ _ _ _ _ _ (T129.setTop (mkF m 109 #[.val (.int x1), .val (.int x2), .val (.ref (n0 + 0)), .val (.int (0 : Int32)), .val (.int (1 : Int32)), .val (.int (0 : Int32)), .val (.int (1 : Int32)), .val (.int (1 : Int32)), .val (.int (3 : Int32)), .unset] [(.int (-1 : Int32))]))
      refine own_by (u' := T129.setTop (mkF m 110 #[.val (.int x1), .val (.int x2), .val (.ref (n0 + 0)), .val (.int (0 : Int32)), .val (.int (1 : Int32)), .val (.int (0 : Int32)), .val (.int (1 : Int32)), .val (.int (1 : Int32)), .val (.int (3 : Int32)), .unset] [(.int (-1 : Int32)), (.int (-1 : Int32))])) (fun _ k => XS.iconst A130.here hx rfl (own_db hby at_109) k) ?_
      refine own_by (u' := T129.setTop (mkF m 115 #[.val (.int x1), .val (.int x2), .val (.ref (n0 + 0)), .val (.int (0 : Int32)), .val (.int (1 : Int32)), .val (.int (0 : Int32)), .val (.int (1 : Int32)), .val (.int (1 : Int32)), .val (.int (3 : Int32)), .unset] [])) (fun _ k => XS.icmpYes A130.here hx rfl (pc0 := 110) (pc' := 115) rfl (own_db hby at_110) rfl (teq (by decide)).1 (by decide) (by decide) k) ?_
      refine own_by (u' := T129.setTop (mkF m 116 #[.val (.int x1), .val (.int x2), .val (.ref (n0 + 0)), .val (.int (0 : Int32)), .val (.int (1 : Int32)), .val (.int (0 : Int32)), .val (.int (1 : Int32)), .val (.int (1 : Int32)), .val (.int (3 : Int32)), .unset] [(.ref (n0 + 0))])) (fun _ k => XS.aloadN A130.here hx rfl (own_db hby at_115) rfl rfl k) ?_
      refine own_callV (y := (⟨"com/example/cairn/cairn/cache/UseOrder", "take", "()I"⟩ : MethodName)) (rest := []) A130 hx hZ hown (hw _ (List.mem_of_getElem? (i := 16) rfl)) (hw _ (List.mem_of_getElem? (i := 17) rfl)) (hw _ (List.mem_of_getElem? (i := 19) rfl)) (hw _ (List.mem_of_getElem? (i := 18) rfl)) (hw _ (List.mem_of_getElem? (i := 2) rfl)) (hw _ (List.mem_of_getElem? (i := 20) rfl)) (by decide) (i := 0) rfl (gF l Z a0 hw n0 ((-1 : Int32) :: (1 : Int32) :: List.replicate 14 (0 : Int32)) (List.replicate 16 (0 : Int32)) ((0 : Int32) :: (1 : Int32) :: List.replicate 30 (0 : Int32)) (2 : Int32) (1 : Int32) (3 : Int32) (0 : Int32) (0 : Int32) 3 0 rfl rfl rfl ⟨by decide, by decide, by decide⟩ rfl ⟨by decide, by decide, by decide⟩) (by rw [hml]; rfl) [] rfl rfl pd___I rfl (W := 0) (by show 2 * 0 + _ ≤ _; exact Nat.le_of_eq rfl) (own_db hby at_116) (by decide) (by decide) (by decide) (by decide) ?_
      intro v132 i133 T135 hq134 A136
      obtain ⟨rfl, he137⟩ := hq134
      rw [he137] at A136
      replace A136 : own_at p l e _ s m _ below meth c n0 T135 4 80 [(own_obj Z "com/example/cairn/cairn/cache/UseOrder" ns_UseOrder [(.ref (n0 + 1)), (.ref (n0 + 2)), (.ref (n0 + 3)), (.int (0 : Int32)), (.int (2 : Int32)), (.int (2 : Int32)), (.int (4 : Int32)), (.int (0 : Int32))]), (own_ia Z .int ((3 : Int32) :: (1 : Int32) :: List.replicate 14 (0 : Int32))), (own_ia Z .int (List.replicate 16 (0 : Int32))), (own_ia Z .int ((0 : Int32) :: (1 : Int32) :: List.replicate 30 (0 : Int32)))] := A136
      show own_go _ _ _ _ _ _ _ (T135.setTop (mkF m 119 #[.val (.int x1), .val (.int x2), .val (.ref (n0 + 0)), .val (.int (0 : Int32)), .val (.int (1 : Int32)), .val (.int (0 : Int32)), .val (.int (1 : Int32)), .val (.int (1 : Int32)), .val (.int (3 : Int32)), .unset] [(.int (0 : Int32))]))
      refine own_by (u' := T135.setTop (mkF m 121 #[.val (.int x1), .val (.int x2), .val (.ref (n0 + 0)), .val (.int (0 : Int32)), .val (.int (1 : Int32)), .val (.int (0 : Int32)), .val (.int (1 : Int32)), .val (.int (1 : Int32)), .val (.int (3 : Int32)), .val (.int (0 : Int32))] [])) (fun _ k => XS.istore A136.here hx rfl (own_db hby at_119) rfl (l' := #[.val (.int x1), .val (.int x2), .val (.ref (n0 + 0)), .val (.int (0 : Int32)), .val (.int (1 : Int32)), .val (.int (0 : Int32)), .val (.int (1 : Int32)), .val (.int (1 : Int32)), .val (.int (3 : Int32)), .val (.int (0 : Int32))]) rfl k) ?_
      refine own_by (u' := T135.setTop (mkF m 123 #[.val (.int x1), .val (.int x2), .val (.ref (n0 + 0)), .val (.int (0 : Int32)), .val (.int (1 : Int32)), .val (.int (0 : Int32)), .val (.int (1 : Int32)), .val (.int (1 : Int32)), .val (.int (3 : Int32)), .val (.int (0 : Int32))] [(.int (0 : Int32))])) (fun _ k => XS.iload A136.here hx rfl (own_db hby at_121) rfl k) ?_
      refine own_by (u' := T135.setTop (mkF m 125 #[.val (.int x1), .val (.int x2), .val (.ref (n0 + 0)), .val (.int (0 : Int32)), .val (.int (1 : Int32)), .val (.int (0 : Int32)), .val (.int (1 : Int32)), .val (.int (1 : Int32)), .val (.int (3 : Int32)), .val (.int (0 : Int32))] [(.int (0 : Int32)), (.int (0 : Int32))])) (fun _ k => XS.iload A136.here hx rfl (own_db hby at_123) rfl k) ?_
      refine own_by (u' := T135.setTop (mkF m 128 #[.val (.int x1), .val (.int x2), .val (.ref (n0 + 0)), .val (.int (0 : Int32)), .val (.int (1 : Int32)), .val (.int (0 : Int32)), .val (.int (1 : Int32)), .val (.int (1 : Int32)), .val (.int (3 : Int32)), .val (.int (0 : Int32))] [])) (fun _ k => XS.icmpNo A136.here hx rfl (own_db hby at_125) rfl (teq (by decide)).2 k) ?_
      refine own_by (u' := T135.setTop (mkF m 129 #[.val (.int x1), .val (.int x2), .val (.ref (n0 + 0)), .val (.int (0 : Int32)), .val (.int (1 : Int32)), .val (.int (0 : Int32)), .val (.int (1 : Int32)), .val (.int (1 : Int32)), .val (.int (3 : Int32)), .val (.int (0 : Int32))] [(.int (1 : Int32))])) (fun _ k => XS.iconst A136.here hx rfl (own_db hby at_128) k) ?_
      refine own_by (u' := T135.setTop (mkF m 133 #[.val (.int x1), .val (.int x2), .val (.ref (n0 + 0)), .val (.int (0 : Int32)), .val (.int (1 : Int32)), .val (.int (0 : Int32)), .val (.int (1 : Int32)), .val (.int (1 : Int32)), .val (.int (3 : Int32)), .val (.int (0 : Int32))] [(.int (1 : Int32))])) (fun _ k => XS.goto A136.here hx rfl (pc0 := 129) (pc' := 133) rfl (own_db hby at_129) (by decide) (by decide) k) ?_
      exact own_retN A136 hx hlk (t := .boolean) (by simp) hret (own_db hby at_133) (by decide) (by decide) ⟨rfl, trivial⟩
    · refine own_by (u' := T98.setTop (mkF m 48 #[.val (.int x1), .val (.int x2), .val (.ref (n0 + 0)), .val (.int (0 : Int32)), .val (.int (1 : Int32)), .unset, .unset, .unset, .unset, .unset] [])) (fun _ k => XS.ifNo A99.here hx rfl (own_db hby at_45) rfl ((if0 _ _).trans (feq hc101).1) k) ?_
      refine own_by (u' := T98.setTop (mkF m 50 #[.val (.int x1), .val (.int x2), .val (.ref (n0 + 0)), .val (.int (0 : Int32)), .val (.int (1 : Int32)), .unset, .unset, .unset, .unset, .unset] [(.int (1 : Int32))])) (fun _ k => XS.iload A99.here hx rfl (own_db hby at_48) rfl k) ?_
      refine own_by (u' := T98.setTop (mkF m 54 #[.val (.int x1), .val (.int x2), .val (.ref (n0 + 0)), .val (.int (0 : Int32)), .val (.int (1 : Int32)), .unset, .unset, .unset, .unset, .unset] [(.int (1 : Int32))])) (fun _ k => XS.goto A99.here hx rfl (pc0 := 50) (pc' := 54) rfl (own_db hby at_50) (by decide) (by decide) k) ?_
      refine own_by (u' := T98.setTop (mkF m 56 #[.val (.int x1), .val (.int x2), .val (.ref (n0 + 0)), .val (.int (0 : Int32)), .val (.int (1 : Int32)), .val (.int (1 : Int32)), .unset, .unset, .unset, .unset] [])) (fun _ k => XS.istore A99.here hx rfl (own_db hby at_54) rfl (l' := #[.val (.int x1), .val (.int x2), .val (.ref (n0 + 0)), .val (.int (0 : Int32)), .val (.int (1 : Int32)), .val (.int (1 : Int32)), .unset, .unset, .unset, .unset]) rfl k) ?_
      refine own_by (u' := T98.setTop (mkF m 58 #[.val (.int x1), .val (.int x2), .val (.ref (n0 + 0)), .val (.int (0 : Int32)), .val (.int (1 : Int32)), .val (.int (1 : Int32)), .unset, .unset, .unset, .unset] [(.int (1 : Int32))])) (fun _ k => XS.iload A99.here hx rfl (own_db hby at_56) rfl k) ?_
      refine own_by (u' := T98.setTop (mkF m 59 #[.val (.int x1), .val (.int x2), .val (.ref (n0 + 0)), .val (.int (0 : Int32)), .val (.int (1 : Int32)), .val (.int (1 : Int32)), .unset, .unset, .unset, .unset] [(.int (0 : Int32)), (.int (1 : Int32))])) (fun _ k => XS.iloadN A99.here hx rfl (own_db hby at_58) rfl k) ?_
      refine own_by (u' := T98.setTop (mkF m 67 #[.val (.int x1), .val (.int x2), .val (.ref (n0 + 0)), .val (.int (0 : Int32)), .val (.int (1 : Int32)), .val (.int (1 : Int32)), .unset, .unset, .unset, .unset] [])) (fun _ k => XS.icmpYes A99.here hx rfl (pc0 := 59) (pc' := 67) rfl (own_db hby at_59) rfl (feq (by decide)).2 (by decide) (by decide) k) ?_
      refine own_by (u' := T98.setTop (mkF m 68 #[.val (.int x1), .val (.int x2), .val (.ref (n0 + 0)), .val (.int (0 : Int32)), .val (.int (1 : Int32)), .val (.int (1 : Int32)), .unset, .unset, .unset, .unset] [(.int (0 : Int32))])) (fun _ k => XS.iloadN A99.here hx rfl (own_db hby at_67) rfl k) ?_
      refine own_by (u' := T98.setTop (mkF m 70 #[.val (.int x1), .val (.int x2), .val (.ref (n0 + 0)), .val (.int (0 : Int32)), .val (.int (1 : Int32)), .val (.int (1 : Int32)), .val (.int (0 : Int32)), .unset, .unset, .unset] [])) (fun _ k => XS.istore A99.here hx rfl (own_db hby at_68) rfl (l' := #[.val (.int x1), .val (.int x2), .val (.ref (n0 + 0)), .val (.int (0 : Int32)), .val (.int (1 : Int32)), .val (.int (1 : Int32)), .val (.int (0 : Int32)), .unset, .unset, .unset]) rfl k) ?_
      refine own_by (u' := T98.setTop (mkF m 71 #[.val (.int x1), .val (.int x2), .val (.ref (n0 + 0)), .val (.int (0 : Int32)), .val (.int (1 : Int32)), .val (.int (1 : Int32)), .val (.int (0 : Int32)), .unset, .unset, .unset] [(.ref (n0 + 0))])) (fun _ k => XS.aloadN A99.here hx rfl (own_db hby at_70) rfl rfl k) ?_
      refine own_by (u' := T98.setTop (mkF m 73 #[.val (.int x1), .val (.int x2), .val (.ref (n0 + 0)), .val (.int (0 : Int32)), .val (.int (1 : Int32)), .val (.int (1 : Int32)), .val (.int (0 : Int32)), .unset, .unset, .unset] [(.int (1 : Int32)), (.ref (n0 + 0))])) (fun _ k => XS.iload A99.here hx rfl (own_db hby at_71) rfl k) ?_
      refine own_callV (y := (⟨"com/example/cairn/cairn/cache/UseOrder", "free", "(I)V"⟩ : MethodName)) (rest := []) A99 hx hZ hown (hw _ (List.mem_of_getElem? (i := 34) rfl)) (hw _ (List.mem_of_getElem? (i := 35) rfl)) (hw _ (List.mem_of_getElem? (i := 37) rfl)) (hw _ (List.mem_of_getElem? (i := 36) rfl)) (hw _ (List.mem_of_getElem? (i := 2) rfl)) (hw _ (List.mem_of_getElem? (i := 38) rfl)) (by decide) (i := 0) rfl (gX l Z a0 hw n0 ((2 : Int32) :: (1 : Int32) :: List.replicate 14 (0 : Int32)) (List.replicate 16 (0 : Int32)) ((0 : Int32) :: (1 : Int32) :: List.replicate 30 (0 : Int32)) (0 : Int32) (2 : Int32) (2 : Int32) (3 : Int32) (0 : Int32) (1 : Int32) 0 1 rfl rfl rfl ⟨by decide, by decide, by decide⟩ ⟨by decide, by decide, by decide⟩) (by rw [hml]; rfl) [(.int (1 : Int32))] rfl rfl pd__I_V rfl (W := 0) (by show 2 * 0 + _ ≤ _; exact Nat.le_of_eq rfl) (own_db hby at_73) (by decide) (by decide) (by decide) (by decide) ?_
      intro v138 i139 T141 hq140 A142
      obtain ⟨rfl, he143⟩ := hq140
      rw [he143] at A142
      replace A142 : own_at p l e _ s m _ below meth c n0 T141 4 80 [(own_obj Z "com/example/cairn/cairn/cache/UseOrder" ns_UseOrder [(.ref (n0 + 1)), (.ref (n0 + 2)), (.ref (n0 + 3)), (.int (1 : Int32)), (.int (2 : Int32)), (.int (1 : Int32)), (.int (3 : Int32)), (.int (0 : Int32))]), (own_ia Z .int ((2 : Int32) :: (-1 : Int32) :: List.replicate 14 (0 : Int32))), (own_ia Z .int ((1 : Int32) :: List.replicate 15 (0 : Int32))), (own_ia Z .int ((0 : Int32) :: (1 : Int32) :: List.replicate 30 (0 : Int32)))] := A142
      show own_go _ _ _ _ _ _ _ (T141.setTop (mkF m 76 #[.val (.int x1), .val (.int x2), .val (.ref (n0 + 0)), .val (.int (0 : Int32)), .val (.int (1 : Int32)), .val (.int (1 : Int32)), .val (.int (0 : Int32)), .unset, .unset, .unset] []))
      refine own_by (u' := T141.setTop (mkF m 77 #[.val (.int x1), .val (.int x2), .val (.ref (n0 + 0)), .val (.int (0 : Int32)), .val (.int (1 : Int32)), .val (.int (1 : Int32)), .val (.int (0 : Int32)), .unset, .unset, .unset] [(.ref (n0 + 0))])) (fun _ k => XS.aloadN A142.here hx rfl (own_db hby at_76) rfl rfl k) ?_
      refine own_callV (y := (⟨"com/example/cairn/cairn/cache/UseOrder", "start", "()I"⟩ : MethodName)) (rest := []) A142 hx hZ hown (hw _ (List.mem_of_getElem? (i := 39) rfl)) (hw _ (List.mem_of_getElem? (i := 40) rfl)) (hw _ (List.mem_of_getElem? (i := 42) rfl)) (hw _ (List.mem_of_getElem? (i := 41) rfl)) (hw _ (List.mem_of_getElem? (i := 2) rfl)) (hw _ (List.mem_of_getElem? (i := 43) rfl)) (by decide) (i := 0) rfl (gS l Z a0 hw n0 ((2 : Int32) :: (-1 : Int32) :: List.replicate 14 (0 : Int32)) ((1 : Int32) :: List.replicate 15 (0 : Int32)) ((0 : Int32) :: (1 : Int32) :: List.replicate 30 (0 : Int32)) (1 : Int32) (2 : Int32) (1 : Int32) (3 : Int32) (0 : Int32) rfl rfl rfl (by decide) (by decide) (by decide)) (by rw [hml]; rfl) [] rfl rfl pd___I rfl (W := 0) (by show 2 * 0 + _ ≤ _; exact Nat.le_of_eq rfl) (own_db hby at_77) (by decide) (by decide) (by decide) (by decide) ?_
      intro v144 i145 T147 hq146 A148
      obtain ⟨he149, rfl⟩ := hq146
      rw [show own_cur ((2 : Int32) :: (-1 : Int32) :: List.replicate 14 (0 : Int32)) ((0 : Int32) :: (1 : Int32) :: List.replicate 30 (0 : Int32)) (3 : Int32) ((3 : Int32).toInt - (0 : Int32).toInt).toNat (0 : Int32) = (2 : Int32) from by decide +kernel] at he149
      subst he149
      replace A148 : own_at p l e _ s m _ below meth c n0 T147 4 80 [(own_obj Z "com/example/cairn/cairn/cache/UseOrder" ns_UseOrder [(.ref (n0 + 1)), (.ref (n0 + 2)), (.ref (n0 + 3)), (.int (1 : Int32)), (.int (2 : Int32)), (.int (1 : Int32)), (.int (3 : Int32)), (.int (0 : Int32))]), (own_ia Z .int ((2 : Int32) :: (-1 : Int32) :: List.replicate 14 (0 : Int32))), (own_ia Z .int ((1 : Int32) :: List.replicate 15 (0 : Int32))), (own_ia Z .int ((0 : Int32) :: (1 : Int32) :: List.replicate 30 (0 : Int32)))] := A148
      show own_go _ _ _ _ _ _ _ (T147.setTop (mkF m 80 #[.val (.int x1), .val (.int x2), .val (.ref (n0 + 0)), .val (.int (0 : Int32)), .val (.int (1 : Int32)), .val (.int (1 : Int32)), .val (.int (0 : Int32)), .unset, .unset, .unset] [(.int (2 : Int32))]))
      refine own_by (u' := T147.setTop (mkF m 82 #[.val (.int x1), .val (.int x2), .val (.ref (n0 + 0)), .val (.int (0 : Int32)), .val (.int (1 : Int32)), .val (.int (1 : Int32)), .val (.int (0 : Int32)), .val (.int (2 : Int32)), .unset, .unset] [])) (fun _ k => XS.istore A148.here hx rfl (own_db hby at_80) rfl (l' := #[.val (.int x1), .val (.int x2), .val (.ref (n0 + 0)), .val (.int (0 : Int32)), .val (.int (1 : Int32)), .val (.int (1 : Int32)), .val (.int (0 : Int32)), .val (.int (2 : Int32)), .unset, .unset]) rfl k) ?_
      refine own_by (u' := T147.setTop (mkF m 83 #[.val (.int x1), .val (.int x2), .val (.ref (n0 + 0)), .val (.int (0 : Int32)), .val (.int (1 : Int32)), .val (.int (1 : Int32)), .val (.int (0 : Int32)), .val (.int (2 : Int32)), .unset, .unset] [(.ref (n0 + 0))])) (fun _ k => XS.aloadN A148.here hx rfl (own_db hby at_82) rfl rfl k) ?_
      refine own_by (u' := T147.setTop (mkF m 85 #[.val (.int x1), .val (.int x2), .val (.ref (n0 + 0)), .val (.int (0 : Int32)), .val (.int (1 : Int32)), .val (.int (1 : Int32)), .val (.int (0 : Int32)), .val (.int (2 : Int32)), .unset, .unset] [(.int (2 : Int32)), (.ref (n0 + 0))])) (fun _ k => XS.iload A148.here hx rfl (own_db hby at_83) rfl k) ?_
      refine own_callV (y := (⟨"com/example/cairn/cairn/cache/UseOrder", "slotAt", "(I)I"⟩ : MethodName)) (rest := []) A148 hx hZ hown (hw _ (List.mem_of_getElem? (i := 50) rfl)) (hw _ (List.mem_of_getElem? (i := 51) rfl)) (hw _ (List.mem_of_getElem? (i := 53) rfl)) (hw _ (List.mem_of_getElem? (i := 52) rfl)) (hw _ (List.mem_of_getElem? (i := 2) rfl)) (hw _ (List.mem_of_getElem? (i := 54) rfl)) (by decide) (i := 0) rfl (gA l Z a0 hw n0 ((2 : Int32) :: (-1 : Int32) :: List.replicate 14 (0 : Int32)) ((1 : Int32) :: List.replicate 15 (0 : Int32)) ((0 : Int32) :: (1 : Int32) :: List.replicate 30 (0 : Int32)) (1 : Int32) (2 : Int32) (1 : Int32) (3 : Int32) (0 : Int32) (2 : Int32) rfl rfl rfl (by decide)) (by rw [hml]; rfl) [(.int (2 : Int32))] rfl rfl pd__I_I rfl (W := 0) (by show 2 * 0 + _ ≤ _; exact Nat.le_of_eq rfl) (own_db hby at_85) (by decide) (by decide) (by decide) (by decide) ?_
      intro v150 i151 T153 hq152 A154
      obtain ⟨he155, rfl⟩ := hq152
      rw [show fA ((0 : Int32) :: (1 : Int32) :: List.replicate 30 (0 : Int32)) (3 : Int32) (2 : Int32) = (0 : Int32) from by decide +kernel] at he155
      subst he155
      replace A154 : own_at p l e _ s m _ below meth c n0 T153 4 80 [(own_obj Z "com/example/cairn/cairn/cache/UseOrder" ns_UseOrder [(.ref (n0 + 1)), (.ref (n0 + 2)), (.ref (n0 + 3)), (.int (1 : Int32)), (.int (2 : Int32)), (.int (1 : Int32)), (.int (3 : Int32)), (.int (0 : Int32))]), (own_ia Z .int ((2 : Int32) :: (-1 : Int32) :: List.replicate 14 (0 : Int32))), (own_ia Z .int ((1 : Int32) :: List.replicate 15 (0 : Int32))), (own_ia Z .int ((0 : Int32) :: (1 : Int32) :: List.replicate 30 (0 : Int32)))] := A154
      show own_go _ _ _ _ _ _ _ (T153.setTop (mkF m 88 #[.val (.int x1), .val (.int x2), .val (.ref (n0 + 0)), .val (.int (0 : Int32)), .val (.int (1 : Int32)), .val (.int (1 : Int32)), .val (.int (0 : Int32)), .val (.int (2 : Int32)), .unset, .unset] [(.int (0 : Int32))]))
      refine own_by (u' := T153.setTop (mkF m 90 #[.val (.int x1), .val (.int x2), .val (.ref (n0 + 0)), .val (.int (0 : Int32)), .val (.int (1 : Int32)), .val (.int (1 : Int32)), .val (.int (0 : Int32)), .val (.int (2 : Int32)), .unset, .unset] [(.int (0 : Int32)), (.int (0 : Int32))])) (fun _ k => XS.iload A154.here hx rfl (own_db hby at_88) rfl k) ?_
      refine own_by (u' := T153.setTop (mkF m 95 #[.val (.int x1), .val (.int x2), .val (.ref (n0 + 0)), .val (.int (0 : Int32)), .val (.int (1 : Int32)), .val (.int (1 : Int32)), .val (.int (0 : Int32)), .val (.int (2 : Int32)), .unset, .unset] [])) (fun _ k => XS.icmpYes A154.here hx rfl (pc0 := 90) (pc' := 95) rfl (own_db hby at_90) rfl (teq (by decide)).1 (by decide) (by decide) k) ?_
      refine own_by (u' := T153.setTop (mkF m 96 #[.val (.int x1), .val (.int x2), .val (.ref (n0 + 0)), .val (.int (0 : Int32)), .val (.int (1 : Int32)), .val (.int (1 : Int32)), .val (.int (0 : Int32)), .val (.int (2 : Int32)), .unset, .unset] [(.ref (n0 + 0))])) (fun _ k => XS.aloadN A154.here hx rfl (own_db hby at_95) rfl rfl k) ?_
      refine own_by (u' := T153.setTop (mkF m 98 #[.val (.int x1), .val (.int x2), .val (.ref (n0 + 0)), .val (.int (0 : Int32)), .val (.int (1 : Int32)), .val (.int (1 : Int32)), .val (.int (0 : Int32)), .val (.int (2 : Int32)), .unset, .unset] [(.int (2 : Int32)), (.ref (n0 + 0))])) (fun _ k => XS.iload A154.here hx rfl (own_db hby at_96) rfl k) ?_
      refine own_callV (y := (⟨"com/example/cairn/cairn/cache/UseOrder", "next", "(I)I"⟩ : MethodName)) (rest := []) A154 hx hZ hown (hw _ (List.mem_of_getElem? (i := 55) rfl)) (hw _ (List.mem_of_getElem? (i := 56) rfl)) (hw _ (List.mem_of_getElem? (i := 58) rfl)) (hw _ (List.mem_of_getElem? (i := 57) rfl)) (hw _ (List.mem_of_getElem? (i := 2) rfl)) (hw _ (List.mem_of_getElem? (i := 59) rfl)) (by decide) (i := 0) rfl (gM l Z a0 hw n0 ((2 : Int32) :: (-1 : Int32) :: List.replicate 14 (0 : Int32)) ((1 : Int32) :: List.replicate 15 (0 : Int32)) ((0 : Int32) :: (1 : Int32) :: List.replicate 30 (0 : Int32)) (1 : Int32) (2 : Int32) (1 : Int32) (3 : Int32) (0 : Int32) (2 : Int32) rfl rfl rfl (by decide) (by decide) (by decide)) (by rw [hml]; rfl) [(.int (2 : Int32))] rfl rfl pd__I_I rfl (W := 0) (by show 2 * 0 + _ ≤ _; exact Nat.le_of_eq rfl) (own_db hby at_98) (by decide) (by decide) (by decide) (by decide) ?_
      intro v156 i157 T159 hq158 A160
      obtain ⟨he161, rfl⟩ := hq158
      rw [show own_cur ((2 : Int32) :: (-1 : Int32) :: List.replicate 14 (0 : Int32)) ((0 : Int32) :: (1 : Int32) :: List.replicate 30 (0 : Int32)) (3 : Int32) ((3 : Int32).toInt - ((2 : Int32) + (1 : Int32)).toInt).toNat ((2 : Int32) + (1 : Int32)) = (3 : Int32) from by decide +kernel] at he161
      subst he161
      replace A160 : own_at p l e _ s m _ below meth c n0 T159 4 80 [(own_obj Z "com/example/cairn/cairn/cache/UseOrder" ns_UseOrder [(.ref (n0 + 1)), (.ref (n0 + 2)), (.ref (n0 + 3)), (.int (1 : Int32)), (.int (2 : Int32)), (.int (1 : Int32)), (.int (3 : Int32)), (.int (0 : Int32))]), (own_ia Z .int ((2 : Int32) :: (-1 : Int32) :: List.replicate 14 (0 : Int32))), (own_ia Z .int ((1 : Int32) :: List.replicate 15 (0 : Int32))), (own_ia Z .int ((0 : Int32) :: (1 : Int32) :: List.replicate 30 (0 : Int32)))] := A160
      show own_go _ _ _ _ _ _ _ (T159.setTop (mkF m 101 #[.val (.int x1), .val (.int x2), .val (.ref (n0 + 0)), .val (.int (0 : Int32)), .val (.int (1 : Int32)), .val (.int (1 : Int32)), .val (.int (0 : Int32)), .val (.int (2 : Int32)), .unset, .unset] [(.int (3 : Int32))]))
      refine own_by (u' := T159.setTop (mkF m 103 #[.val (.int x1), .val (.int x2), .val (.ref (n0 + 0)), .val (.int (0 : Int32)), .val (.int (1 : Int32)), .val (.int (1 : Int32)), .val (.int (0 : Int32)), .val (.int (2 : Int32)), .val (.int (3 : Int32)), .unset] [])) (fun _ k => XS.istore A160.here hx rfl (own_db hby at_101) rfl (l' := #[.val (.int x1), .val (.int x2), .val (.ref (n0 + 0)), .val (.int (0 : Int32)), .val (.int (1 : Int32)), .val (.int (1 : Int32)), .val (.int (0 : Int32)), .val (.int (2 : Int32)), .val (.int (3 : Int32)), .unset]) rfl k) ?_
      refine own_by (u' := T159.setTop (mkF m 104 #[.val (.int x1), .val (.int x2), .val (.ref (n0 + 0)), .val (.int (0 : Int32)), .val (.int (1 : Int32)), .val (.int (1 : Int32)), .val (.int (0 : Int32)), .val (.int (2 : Int32)), .val (.int (3 : Int32)), .unset] [(.ref (n0 + 0))])) (fun _ k => XS.aloadN A160.here hx rfl (own_db hby at_103) rfl rfl k) ?_
      refine own_by (u' := T159.setTop (mkF m 106 #[.val (.int x1), .val (.int x2), .val (.ref (n0 + 0)), .val (.int (0 : Int32)), .val (.int (1 : Int32)), .val (.int (1 : Int32)), .val (.int (0 : Int32)), .val (.int (2 : Int32)), .val (.int (3 : Int32)), .unset] [(.int (3 : Int32)), (.ref (n0 + 0))])) (fun _ k => XS.iload A160.here hx rfl (own_db hby at_104) rfl k) ?_
      refine own_callV (y := (⟨"com/example/cairn/cairn/cache/UseOrder", "slotAt", "(I)I"⟩ : MethodName)) (rest := []) A160 hx hZ hown (hw _ (List.mem_of_getElem? (i := 50) rfl)) (hw _ (List.mem_of_getElem? (i := 51) rfl)) (hw _ (List.mem_of_getElem? (i := 53) rfl)) (hw _ (List.mem_of_getElem? (i := 52) rfl)) (hw _ (List.mem_of_getElem? (i := 2) rfl)) (hw _ (List.mem_of_getElem? (i := 54) rfl)) (by decide) (i := 0) rfl (gA l Z a0 hw n0 ((2 : Int32) :: (-1 : Int32) :: List.replicate 14 (0 : Int32)) ((1 : Int32) :: List.replicate 15 (0 : Int32)) ((0 : Int32) :: (1 : Int32) :: List.replicate 30 (0 : Int32)) (1 : Int32) (2 : Int32) (1 : Int32) (3 : Int32) (0 : Int32) (3 : Int32) rfl rfl rfl (by decide)) (by rw [hml]; rfl) [(.int (3 : Int32))] rfl rfl pd__I_I rfl (W := 0) (by show 2 * 0 + _ ≤ _; exact Nat.le_of_eq rfl) (own_db hby at_106) (by decide) (by decide) (by decide) (by decide) ?_
      intro v162 i163 T165 hq164 A166
      obtain ⟨he167, rfl⟩ := hq164
      rw [show fA ((0 : Int32) :: (1 : Int32) :: List.replicate 30 (0 : Int32)) (3 : Int32) (3 : Int32) = (-1 : Int32) from by decide +kernel] at he167
      subst he167
      replace A166 : own_at p l e _ s m _ below meth c n0 T165 4 80 [(own_obj Z "com/example/cairn/cairn/cache/UseOrder" ns_UseOrder [(.ref (n0 + 1)), (.ref (n0 + 2)), (.ref (n0 + 3)), (.int (1 : Int32)), (.int (2 : Int32)), (.int (1 : Int32)), (.int (3 : Int32)), (.int (0 : Int32))]), (own_ia Z .int ((2 : Int32) :: (-1 : Int32) :: List.replicate 14 (0 : Int32))), (own_ia Z .int ((1 : Int32) :: List.replicate 15 (0 : Int32))), (own_ia Z .int ((0 : Int32) :: (1 : Int32) :: List.replicate 30 (0 : Int32)))] := A166
      show own_go _ _ _ _ _ _ _ (T165.setTop (mkF m 109 #[.val (.int x1), .val (.int x2), .val (.ref (n0 + 0)), .val (.int (0 : Int32)), .val (.int (1 : Int32)), .val (.int (1 : Int32)), .val (.int (0 : Int32)), .val (.int (2 : Int32)), .val (.int (3 : Int32)), .unset] [(.int (-1 : Int32))]))
      refine own_by (u' := T165.setTop (mkF m 110 #[.val (.int x1), .val (.int x2), .val (.ref (n0 + 0)), .val (.int (0 : Int32)), .val (.int (1 : Int32)), .val (.int (1 : Int32)), .val (.int (0 : Int32)), .val (.int (2 : Int32)), .val (.int (3 : Int32)), .unset] [(.int (-1 : Int32)), (.int (-1 : Int32))])) (fun _ k => XS.iconst A166.here hx rfl (own_db hby at_109) k) ?_
      refine own_by (u' := T165.setTop (mkF m 115 #[.val (.int x1), .val (.int x2), .val (.ref (n0 + 0)), .val (.int (0 : Int32)), .val (.int (1 : Int32)), .val (.int (1 : Int32)), .val (.int (0 : Int32)), .val (.int (2 : Int32)), .val (.int (3 : Int32)), .unset] [])) (fun _ k => XS.icmpYes A166.here hx rfl (pc0 := 110) (pc' := 115) rfl (own_db hby at_110) rfl (teq (by decide)).1 (by decide) (by decide) k) ?_
      refine own_by (u' := T165.setTop (mkF m 116 #[.val (.int x1), .val (.int x2), .val (.ref (n0 + 0)), .val (.int (0 : Int32)), .val (.int (1 : Int32)), .val (.int (1 : Int32)), .val (.int (0 : Int32)), .val (.int (2 : Int32)), .val (.int (3 : Int32)), .unset] [(.ref (n0 + 0))])) (fun _ k => XS.aloadN A166.here hx rfl (own_db hby at_115) rfl rfl k) ?_
      refine own_callV (y := (⟨"com/example/cairn/cairn/cache/UseOrder", "take", "()I"⟩ : MethodName)) (rest := []) A166 hx hZ hown (hw _ (List.mem_of_getElem? (i := 16) rfl)) (hw _ (List.mem_of_getElem? (i := 17) rfl)) (hw _ (List.mem_of_getElem? (i := 19) rfl)) (hw _ (List.mem_of_getElem? (i := 18) rfl)) (hw _ (List.mem_of_getElem? (i := 2) rfl)) (hw _ (List.mem_of_getElem? (i := 20) rfl)) (by decide) (i := 0) rfl (gF l Z a0 hw n0 ((2 : Int32) :: (-1 : Int32) :: List.replicate 14 (0 : Int32)) ((1 : Int32) :: List.replicate 15 (0 : Int32)) ((0 : Int32) :: (1 : Int32) :: List.replicate 30 (0 : Int32)) (2 : Int32) (1 : Int32) (3 : Int32) (0 : Int32) (1 : Int32) 3 1 rfl rfl rfl ⟨by decide, by decide, by decide⟩ rfl ⟨by decide, by decide, by decide⟩) (by rw [hml]; rfl) [] rfl rfl pd___I rfl (W := 0) (by show 2 * 0 + _ ≤ _; exact Nat.le_of_eq rfl) (own_db hby at_116) (by decide) (by decide) (by decide) (by decide) ?_
      intro v168 i169 T171 hq170 A172
      obtain ⟨rfl, he173⟩ := hq170
      rw [he173] at A172
      replace A172 : own_at p l e _ s m _ below meth c n0 T171 4 80 [(own_obj Z "com/example/cairn/cairn/cache/UseOrder" ns_UseOrder [(.ref (n0 + 1)), (.ref (n0 + 2)), (.ref (n0 + 3)), (.int (0 : Int32)), (.int (2 : Int32)), (.int (2 : Int32)), (.int (4 : Int32)), (.int (0 : Int32))]), (own_ia Z .int ((2 : Int32) :: (3 : Int32) :: List.replicate 14 (0 : Int32))), (own_ia Z .int ((1 : Int32) :: List.replicate 15 (0 : Int32))), (own_ia Z .int ((0 : Int32) :: (1 : Int32) :: (0 : Int32) :: (1 : Int32) :: List.replicate 28 (0 : Int32)))] := A172
      show own_go _ _ _ _ _ _ _ (T171.setTop (mkF m 119 #[.val (.int x1), .val (.int x2), .val (.ref (n0 + 0)), .val (.int (0 : Int32)), .val (.int (1 : Int32)), .val (.int (1 : Int32)), .val (.int (0 : Int32)), .val (.int (2 : Int32)), .val (.int (3 : Int32)), .unset] [(.int (1 : Int32))]))
      refine own_by (u' := T171.setTop (mkF m 121 #[.val (.int x1), .val (.int x2), .val (.ref (n0 + 0)), .val (.int (0 : Int32)), .val (.int (1 : Int32)), .val (.int (1 : Int32)), .val (.int (0 : Int32)), .val (.int (2 : Int32)), .val (.int (3 : Int32)), .val (.int (1 : Int32))] [])) (fun _ k => XS.istore A172.here hx rfl (own_db hby at_119) rfl (l' := #[.val (.int x1), .val (.int x2), .val (.ref (n0 + 0)), .val (.int (0 : Int32)), .val (.int (1 : Int32)), .val (.int (1 : Int32)), .val (.int (0 : Int32)), .val (.int (2 : Int32)), .val (.int (3 : Int32)), .val (.int (1 : Int32))]) rfl k) ?_
      refine own_by (u' := T171.setTop (mkF m 123 #[.val (.int x1), .val (.int x2), .val (.ref (n0 + 0)), .val (.int (0 : Int32)), .val (.int (1 : Int32)), .val (.int (1 : Int32)), .val (.int (0 : Int32)), .val (.int (2 : Int32)), .val (.int (3 : Int32)), .val (.int (1 : Int32))] [(.int (1 : Int32))])) (fun _ k => XS.iload A172.here hx rfl (own_db hby at_121) rfl k) ?_
      refine own_by (u' := T171.setTop (mkF m 125 #[.val (.int x1), .val (.int x2), .val (.ref (n0 + 0)), .val (.int (0 : Int32)), .val (.int (1 : Int32)), .val (.int (1 : Int32)), .val (.int (0 : Int32)), .val (.int (2 : Int32)), .val (.int (3 : Int32)), .val (.int (1 : Int32))] [(.int (1 : Int32)), (.int (1 : Int32))])) (fun _ k => XS.iload A172.here hx rfl (own_db hby at_123) rfl k) ?_
      refine own_by (u' := T171.setTop (mkF m 128 #[.val (.int x1), .val (.int x2), .val (.ref (n0 + 0)), .val (.int (0 : Int32)), .val (.int (1 : Int32)), .val (.int (1 : Int32)), .val (.int (0 : Int32)), .val (.int (2 : Int32)), .val (.int (3 : Int32)), .val (.int (1 : Int32))] [])) (fun _ k => XS.icmpNo A172.here hx rfl (own_db hby at_125) rfl (teq (by decide)).2 k) ?_
      refine own_by (u' := T171.setTop (mkF m 129 #[.val (.int x1), .val (.int x2), .val (.ref (n0 + 0)), .val (.int (0 : Int32)), .val (.int (1 : Int32)), .val (.int (1 : Int32)), .val (.int (0 : Int32)), .val (.int (2 : Int32)), .val (.int (3 : Int32)), .val (.int (1 : Int32))] [(.int (1 : Int32))])) (fun _ k => XS.iconst A172.here hx rfl (own_db hby at_128) k) ?_
      refine own_by (u' := T171.setTop (mkF m 133 #[.val (.int x1), .val (.int x2), .val (.ref (n0 + 0)), .val (.int (0 : Int32)), .val (.int (1 : Int32)), .val (.int (1 : Int32)), .val (.int (0 : Int32)), .val (.int (2 : Int32)), .val (.int (3 : Int32)), .val (.int (1 : Int32))] [(.int (1 : Int32))])) (fun _ k => XS.goto A172.here hx rfl (pc0 := 129) (pc' := 133) rfl (own_db hby at_129) (by decide) (by decide) k) ?_
      exact own_retN A172 hx hlk (t := .boolean) (by simp) hret (own_db hby at_133) (by decide) (by decide) ⟨rfl, trivial⟩
set_option maxRecDepth 65536 in
set_option maxHeartbeats 40000000 in
theorem comes_1 {Post : Tables → Env → Array Value → State → Outcome → State → Prop} (hpost : ∀ tb e args s v u, (limb_1_1.after args s (.returned v) u = true ∧ limb_1_2.after args s (.returned v) u = true ∧ True) → FrameEnd s (.returned v) u (Jvm.fieldLocs frame_1_writes args s ++ Jvm.arrayLocs frame_1_arrays args s ++ Jvm.staticLocs frame_1_statics s) 16 256 → Post tb e args s (.returned v) u) :
    ArmFor flags0 classFile x code maxLocals ret World_1 tables_1 room_1 Calls_1 rest_1 Pre_1 Post := by
  intro l hfl _ _ p e ha hc hk s m args below hf hA hF happ hP
  obtain ⟨hcalls, hrest, hpre⟩ := hP
  obtain ⟨-, -, -, hnamed, -, -, -, hat⟩ := (Spec.applies_iff hf).mp happ
  obtain ⟨hg, hn⟩ := and_e (Cond.before_iff.mp (show (Jvm.Cond.and given_1 narrow_1).before args s = true from hpre))
  obtain ⟨h1, k0⟩ := and_e hg
  obtain ⟨j0, k1⟩ := and_e k0
  obtain ⟨w0, w1, rfl⟩ : ∃ w0 w1 : Value, args = #[w0, w1] := by
    have hs : args.size = 2 := by simpa [Cond.value, given_1] using h1
    obtain ⟨L⟩ := args
    match L, hs with
    | [w0, w1], _ => exact ⟨w0, w1, rfl⟩
  have hw := fun d (hd : d ∈ tables_1) => atoms_spec (ws := Jvm.Cond.code x code maxLocals ret :: tables_1) hat d (List.mem_cons_of_mem _ hd)
  obtain ⟨i0, ei0⟩ := is_v j0
  obtain rfl : w0 = (.int i0) := Option.some.inj ei0
  obtain ⟨i1, ei1⟩ := is_v k1
  obtain rfl : w1 = (.int i1) := Option.some.inj ei1
  obtain ⟨n, o, h1, h2, h3, v, L, rfl, ⟨N, its', ⟨rfl, -⟩, -⟩, hq⟩ := g0 l s _ hw s.heap.size i0 i1 s.heap tables_1 ⟨rfl, fun i P q => nomatch q⟩ p e ha hc hk s m _ below hf ((Spec.applies_iff_loose hf).mp happ).1 ⟨rfl, State.Warmed39.refl s, rfl⟩ trivial
  refine ⟨n, _, h1, h2, h3, hpost _ _ _ _ _ _ ⟨Cond.after_iff.mpr rfl, Cond.after_iff.mpr (eq_i res_at (Term.int_eval (1)) rfl), trivial⟩ ⟨hq.1, hq.2.1, (hq.2.2.sift fun y hy => Or.inr (N y hy)).mono (by decide) (by decide)⟩⟩
theorem main_1_1 : Claimed_1_1 := comes_1 fun _ _ _ _ _ _ h hF => ⟨h.1, hF⟩
theorem main_1_2 : Claimed_1_2 := comes_1 fun _ _ _ _ _ _ h hF => ⟨h.2.1, hF⟩
end Jvm.Pilot.@@N@@
namespace Jvm.Pilot.@@N@@
open Jvm Jvm.ClassFile Sem Op Lib Jvm.Free Jvm.Stand Jvm.Pilot.@@N@@.Jvm.D
/-! MADE BY PROGRAM (witnessworld.py) out of the Statement's table words and the real class files: 9 classes; the members and pool entries that the words name. The judged class is class 1, her method 1. -/
namespace start1
open Jvm.ClassFile
def u (s : String) : CpInfo := .utf8 (stringToUtf16 s)
/-- a pool by its gaps: so many unusable entries, then the entry; so many at the end -/
def gap : Nat → List CpInfo → List CpInfo
  | 0, r => r
  | n + 1, r => .unusable :: gap n r
def poolList (es : List (Nat × CpInfo)) (last : Nat) : List CpInfo := es.foldr (fun e r => gap e.1 (e.2 :: r)) (gap last [])
def pool (es : List (Nat × CpInfo)) (last : Nat) : Array CpInfo := ⟨poolList es last⟩
def fileOf (pool : Array CpInfo) (this : Nat) (attrs : Array Attribute := #[]) (ms : Array MethodInfo := #[]) (fl : Nat := 33) (sup : Nat := 0) (ifs : Array Nat := #[]) (fds : Array FieldInfo := #[]) : ClassFile where
  minorVersion := 0
  majorVersion := 65
  constantPool := pool
  accessFlags := fl
  thisClass := this
  superClass := sup
  interfaces := ifs
  fields := fds
  methods := ms
  attributes := attrs
def plain (name : String) (sup : Option ClassId) : Class where
  name := name
  kind := .ordinary
  loader := none
  accessFlags := 33
  super := sup
  interfaces := #[]
  cf := none
  fields := #[]
  methods := #[]
  instanceTypes := #[]
  staticTypes := #[]
  resolved := #[]
  callSites := []
  init := .initialized
  statics := none
  mirror := none

def pool0 : Array CpInfo := pool [(5, u "<init>"), (0, u "()V"), (1, .class_ 10), (1, u "java/lang/Object")] 113

def k0c0 : Code := { maxStack := 0, maxLocals := 1, code := object_method_1_code, exceptionTable := #[], attributes := #[] }
def k0m0 : Method := { name := "<init>", desc := "()V", sig := { parameters := [], returnType := none }, accessFlags := 1, code := some k0c0 }
/-- java/lang/Object -/
def k0 : Class := { plain "java/lang/Object" none with
  accessFlags := 33
  interfaces := #[]
  cf := some (fileOf pool0 8 #[] #[{ accessFlags := 1, nameIndex := 5, descriptorIndex := 6, attributes := #[] }] 33 0 #[] #[])
  fields := #[]
  methods := #[k0m0]
  instanceTypes := #[]
  staticTypes := #[]
  resolved := Array.replicate 124 none
  statics := none }

def pool1 : Array CpInfo := pool [(2, .class_ 4), (0, .nameAndType 5 6), (0, u "java/lang/Object"), (0, u "<init>"), (0, u "()V"), (0, .class_ 8), (0, u "com/example/cairn/cairn/cache/UseOrder"), (0, .methodref 7 3), (0, .methodref 7 11), (0, .nameAndType 12 13), (0, u "take"), (0, u "()I"), (0, .methodref 7 15), (0, .nameAndType 16 17), (0, u "use"), (0, u "(I)V"), (0, .methodref 7 19), (0, .nameAndType 20 17), (0, u "free"), (0, .methodref 7 22), (0, .nameAndType 23 13), (0, u "start"), (0, .methodref 7 25), (0, .nameAndType 26 27), (0, u "slotAt"), (0, u "(I)I"), (0, .methodref 7 29), (0, .nameAndType 30 27), (0, u "next"), (0, .class_ 32), (0, u "com/example/cairn/cairn/cache/UseOrderFreePinLaw"), (2, u "law"), (0, u "(II)Z")] 3

def k1m0 : Method := { name := "<init>", desc := "()V", sig := { parameters := [], returnType := none }, accessFlags := 1, code := none }
def k1c1 : Code := { maxStack := 2, maxLocals := 10, code := code, exceptionTable := #[], attributes := #[] }
def k1m1 : Method := { name := "law", desc := "(II)Z", sig := { parameters := [.int, .int], returnType := some .boolean }, accessFlags := 9, code := some k1c1 }
/-- com/example/cairn/cairn/cache/UseOrderFreePinLaw -/
def k1 : Class := { plain "com/example/cairn/cairn/cache/UseOrderFreePinLaw" (some 0) with
  accessFlags := 49
  interfaces := #[]
  cf := some (fileOf pool1 31 #[] #[{ accessFlags := 1, nameIndex := 5, descriptorIndex := 6, attributes := #[] }, { accessFlags := 9, nameIndex := 35, descriptorIndex := 36, attributes := #[] }] 49 2 #[] #[])
  fields := #[]
  methods := #[k1m0, k1m1]
  instanceTypes := #[]
  staticTypes := #[]
  resolved := Array.replicate 40 none
  statics := none }

def pool2 : Array CpInfo := pool [(1, .methodref 2 3), (0, .class_ 4), (0, .nameAndType 5 6), (0, u "java/lang/Object"), (0, u "<init>"), (0, u "()V"), (0, .class_ 8), (0, u "com/example/cairn/cairn/cache/UseOrder"), (0, .fieldref 7 10), (0, .nameAndType 11 12), (0, u "lastUse"), (0, u "[I"), (0, .fieldref 7 14), (0, .nameAndType 15 12), (0, u "freeSlots"), (0, .fieldref 7 17), (0, .nameAndType 18 12), (0, u "log"), (0, .fieldref 7 20), (0, .nameAndType 21 22), (0, u "freeCount"), (0, u "I"), (0, .fieldref 7 24), (0, .nameAndType 25 22), (0, u "taken"), (6, .fieldref 7 33), (0, .nameAndType 34 22), (0, u "used"), (0, .methodref 7 36), (0, .nameAndType 37 38), (0, u "use"), (0, u "(I)V"), (0, .fieldref 7 40), (0, .nameAndType 41 22), (0, u "end"), (3, .fieldref 7 46), (0, .nameAndType 47 22), (0, u "first"), (0, .methodref 7 49), (0, .nameAndType 50 51), (0, u "current"), (0, u "(I)I"), (0, u "NONE"), (2, u "INITIAL_SLOTS"), (1, u "LOG_PER_SLOT"), (1, u "pad0"), (0, u "J"), (0, u "pad1"), (0, u "pad2"), (0, u "pad3"), (0, u "pad4"), (0, u "pad5"), (0, u "pad6"), (0, u "pad7"), (2, u "take"), (0, u "()I"), (1, u "free"), (1, u "start"), (0, u "next"), (0, u "slotAt")] 4

def k2c0 : Code := { maxStack := 2, maxLocals := 1, code := prog_15_method_1_code, exceptionTable := #[], attributes := #[] }
def k2m0 : Method := { name := "<init>", desc := "()V", sig := { parameters := [], returnType := none }, accessFlags := 0, code := some k2c0 }
def k2c1 : Code := { maxStack := 4, maxLocals := 2, code := prog_15_method_2_code, exceptionTable := #[], attributes := #[] }
def k2m1 : Method := { name := "take", desc := "()I", sig := { parameters := [], returnType := some .int }, accessFlags := 0, code := some k2c1 }
def k2c2 : Code := { maxStack := 3, maxLocals := 2, code := prog_15_method_3_code, exceptionTable := #[], attributes := #[] }
def k2m2 : Method := { name := "use", desc := "(I)V", sig := { parameters := [.int], returnType := none }, accessFlags := 0, code := some k2c2 }
def k2c3 : Code := { maxStack := 5, maxLocals := 2, code := prog_15_method_4_code, exceptionTable := #[], attributes := #[] }
def k2m3 : Method := { name := "free", desc := "(I)V", sig := { parameters := [.int], returnType := none }, accessFlags := 0, code := some k2c3 }
def k2c4 : Code := { maxStack := 2, maxLocals := 1, code := prog_15_method_6_code, exceptionTable := #[], attributes := #[] }
def k2m4 : Method := { name := "start", desc := "()I", sig := { parameters := [], returnType := some .int }, accessFlags := 0, code := some k2c4 }
def k2c5 : Code := { maxStack := 3, maxLocals := 2, code := prog_15_method_7_code, exceptionTable := #[], attributes := #[] }
def k2m5 : Method := { name := "next", desc := "(I)I", sig := { parameters := [.int], returnType := some .int }, accessFlags := 0, code := some k2c5 }
def k2c6 : Code := { maxStack := 2, maxLocals := 2, code := prog_15_method_8_code, exceptionTable := #[], attributes := #[] }
def k2m6 : Method := { name := "slotAt", desc := "(I)I", sig := { parameters := [.int], returnType := some .int }, accessFlags := 0, code := some k2c6 }
def k2c7 : Code := { maxStack := 3, maxLocals := 3, code := prog_15_method_10_code, exceptionTable := #[], attributes := #[] }
def k2m7 : Method := { name := "current", desc := "(I)I", sig := { parameters := [.int], returnType := some .int }, accessFlags := 2, code := some k2c7 }
/-- com/example/cairn/cairn/cache/UseOrder -/
def k2 : Class := { plain "com/example/cairn/cairn/cache/UseOrder" (some 0) with
  accessFlags := 48
  interfaces := #[]
  cf := some (fileOf pool2 7 #[] #[{ accessFlags := 0, nameIndex := 5, descriptorIndex := 6, attributes := #[] }, { accessFlags := 0, nameIndex := 70, descriptorIndex := 71, attributes := #[] }, { accessFlags := 0, nameIndex := 37, descriptorIndex := 38, attributes := #[] }, { accessFlags := 0, nameIndex := 73, descriptorIndex := 38, attributes := #[] }, { accessFlags := 0, nameIndex := 75, descriptorIndex := 71, attributes := #[] }, { accessFlags := 0, nameIndex := 76, descriptorIndex := 51, attributes := #[] }, { accessFlags := 0, nameIndex := 77, descriptorIndex := 51, attributes := #[] }, { accessFlags := 2, nameIndex := 50, descriptorIndex := 51, attributes := #[] }] 48 2 #[] #[{ accessFlags := 24, nameIndex := 52, descriptorIndex := 22, attributes := #[] }, { accessFlags := 26, nameIndex := 55, descriptorIndex := 22, attributes := #[] }, { accessFlags := 26, nameIndex := 57, descriptorIndex := 22, attributes := #[] }, { accessFlags := 2, nameIndex := 59, descriptorIndex := 60, attributes := #[] }, { accessFlags := 2, nameIndex := 61, descriptorIndex := 60, attributes := #[] }, { accessFlags := 2, nameIndex := 62, descriptorIndex := 60, attributes := #[] }, { accessFlags := 2, nameIndex := 63, descriptorIndex := 60, attributes := #[] }, { accessFlags := 2, nameIndex := 64, descriptorIndex := 60, attributes := #[] }, { accessFlags := 2, nameIndex := 65, descriptorIndex := 60, attributes := #[] }, { accessFlags := 2, nameIndex := 66, descriptorIndex := 60, attributes := #[] }, { accessFlags := 2, nameIndex := 67, descriptorIndex := 60, attributes := #[] }, { accessFlags := 2, nameIndex := 11, descriptorIndex := 12, attributes := #[] }, { accessFlags := 2, nameIndex := 15, descriptorIndex := 12, attributes := #[] }, { accessFlags := 2, nameIndex := 21, descriptorIndex := 22, attributes := #[] }, { accessFlags := 2, nameIndex := 25, descriptorIndex := 22, attributes := #[] }, { accessFlags := 2, nameIndex := 18, descriptorIndex := 12, attributes := #[] }, { accessFlags := 2, nameIndex := 47, descriptorIndex := 22, attributes := #[] }, { accessFlags := 2, nameIndex := 41, descriptorIndex := 22, attributes := #[] }, { accessFlags := 2, nameIndex := 34, descriptorIndex := 22, attributes := #[] }])
  fields := #[{ name := "NONE", type := .int, accessFlags := 24, slot := 0, constantValue := 0 }, { name := "INITIAL_SLOTS", type := .int, accessFlags := 26, slot := 1, constantValue := 0 }, { name := "LOG_PER_SLOT", type := .int, accessFlags := 26, slot := 2, constantValue := 0 }, { name := "pad0", type := .long, accessFlags := 2, slot := 0, constantValue := 0 }, { name := "pad1", type := .long, accessFlags := 2, slot := 1, constantValue := 0 }, { name := "pad2", type := .long, accessFlags := 2, slot := 2, constantValue := 0 }, { name := "pad3", type := .long, accessFlags := 2, slot := 3, constantValue := 0 }, { name := "pad4", type := .long, accessFlags := 2, slot := 4, constantValue := 0 }, { name := "pad5", type := .long, accessFlags := 2, slot := 5, constantValue := 0 }, { name := "pad6", type := .long, accessFlags := 2, slot := 6, constantValue := 0 }, { name := "pad7", type := .long, accessFlags := 2, slot := 7, constantValue := 0 }, { name := "lastUse", type := (.array .int), accessFlags := 2, slot := 8, constantValue := 0 }, { name := "freeSlots", type := (.array .int), accessFlags := 2, slot := 9, constantValue := 0 }, { name := "freeCount", type := .int, accessFlags := 2, slot := 10, constantValue := 0 }, { name := "taken", type := .int, accessFlags := 2, slot := 11, constantValue := 0 }, { name := "log", type := (.array .int), accessFlags := 2, slot := 12, constantValue := 0 }, { name := "first", type := .int, accessFlags := 2, slot := 13, constantValue := 0 }, { name := "end", type := .int, accessFlags := 2, slot := 14, constantValue := 0 }, { name := "used", type := .int, accessFlags := 2, slot := 15, constantValue := 0 }]
  methods := #[k2m0, k2m1, k2m2, k2m3, k2m4, k2m5, k2m6, k2m7]
  instanceTypes := #[.long, .long, .long, .long, .long, .long, .long, .long, (.array .int), (.array .int), .int, .int, (.array .int), .int, .int, .int]
  staticTypes := #[.int, .int, .int]
  resolved := Array.replicate 82 none
  statics := none }

def pool3 : Array CpInfo := pool [(1, u "java/lang/Cloneable"), (0, .class_ 1), (0, u "java/lang/Object"), (0, .class_ 3)] 3

/-- java/lang/Cloneable -/
def k3 : Class := { plain "java/lang/Cloneable" (some 0) with
  accessFlags := 1537
  interfaces := #[]
  cf := some (fileOf pool3 2 #[] #[] 1537 4 #[] #[])
  fields := #[]
  methods := #[]
  instanceTypes := #[]
  staticTypes := #[]
  resolved := Array.replicate 8 none
  statics := none }

def pool4 : Array CpInfo := pool [(1, u "java/io/Serializable"), (0, .class_ 1), (0, u "java/lang/Object"), (0, .class_ 3)] 3

/-- java/io/Serializable -/
def k4 : Class := { plain "java/io/Serializable" (some 0) with
  accessFlags := 1537
  interfaces := #[]
  cf := some (fileOf pool4 2 #[] #[] 1537 4 #[] #[])
  fields := #[]
  methods := #[]
  instanceTypes := #[]
  staticTypes := #[]
  resolved := Array.replicate 8 none
  statics := none }

/-- the primitive byte -/
def k5 : Class := { plain "byte" none with kind := .primitive 'B', accessFlags := 0x411 }
/-- [B -/
def k6 : Class := { plain "[B" (some 0) with kind := .array 5 .byte, interfaces := #[3, 4], accessFlags := 1041 }

/-- the primitive int -/
def k7 : Class := { plain "int" none with kind := .primitive 'I', accessFlags := 0x411 }
/-- [I -/
def k8 : Class := { plain "[I" (some 0) with kind := .array 7 .int, interfaces := #[3, 4], accessFlags := 1041 }

def heap : Heap := #[]
def classes : Array Class := #[k0, k1, k2, k3, k4, k5, k6, k7, k8]
def interned : List (Array UInt16 × Addr) := []
def slotsUsed : Nat := 0
def theMethod : MethodId := ⟨1, 1⟩
def args0 : Array Value := #[.int 5, .int 6]
def aboutOver (below : List Frame) : State where
  vm := { classes := classes, interned := interned.toArray }
  heap := heap
  slotsUsed := slotsUsed
  threads := #[{ frames := .invoking theMethod args0 :: below }]
def below0 : List Frame := [.native { method := ⟨0, 0⟩, args := #[] }]
def about1 : State := aboutOver below0
def p0 : Program := .bare "" "" ""
def e0 : Env := launch0.env 0 0 0
theorem w_frames : about1.frames = Frame.invoking theMethod args0 :: below0 := rfl
set_option maxRecDepth 65536 in
theorem w_args : argsFit about1.vm theMethod args0 = true := by decide +kernel
set_option maxRecDepth 65536 in
theorem w_heap : heapFits about1 = true := by decide +kernel
set_option maxRecDepth 65536 in
theorem w_runnable : about1.curStatus? = some .runnable := by decide +kernel
set_option maxRecDepth 65536 in
theorem w_alone : about1.alone = true := by decide +kernel
set_option maxRecDepth 65536 in
theorem w_named : about1.methodNamed? x = some theMethod := by decide +kernel
set_option maxRecDepth 65536 in
theorem w_hears : about1.hears theMethod below0 = true := by decide +kernel
set_option maxRecDepth 65536 in
theorem w_ripe : about1.ripe theMethod args0 below0 = true := by decide +kernel
theorem w_running : about1.status = .running := rfl
set_option maxRecDepth 65536 in
theorem w_room : about1.hasRoom e0.platform room_1 = true :=
  launch0.hasRoom_least _ room_1 (by decide +kernel) (by decide +kernel) (by decide +kernel) (by decide +kernel) (by decide +kernel) (by decide +kernel)
theorem allAtoms_all (ts : List Jvm.Cond) (a : Array Jvm.Value) (st : Jvm.State) : (allAtoms ts).before a st = ts.all (fun c => c.before a st) := by
  induction ts with
  | nil => rfl
  | cons c t ih =>
    show (Jvm.Cond.and c (allAtoms t)).before a st = _
    rw [Jvm.Cond.before_and, ih, List.all_cons]
def words1 : List Jvm.Cond := Jvm.Cond.code x code maxLocals ret :: tables_1
/-- a 'code' word, met by the world's own term for the bytes: nothing is compared byte by byte -/
theorem code_word {y : MethodName} {bytes : ByteArray} {mx : Nat} {rt : Option FieldType} {a : Array Value} {s : State} {m : MethodId} {meth : Method} {c : Code} (h1 : s.methodNamed? y = some m) (h2 : s.vm.method? m = some meth) (h3 : meth.code = some c) (h4 : c.code = bytes)
    (h5 : (c.maxLocals == mx && c.exceptionTable.isEmpty && decide (c.maxStack ≤ mostOperands) && decide (meth.sig.returnType = rt) && !meth.locks && decide (parseMethodDescriptor y.desc = some meth.sig)) = true) : (Jvm.Cond.code y bytes mx rt).before a s = true := by
  simp only [Bool.and_eq_true, beq_iff_eq, Bool.not_eq_true', decide_eq_true_eq] at h5
  obtain ⟨⟨⟨⟨⟨g1, g2⟩, g3⟩, g4⟩, g5⟩, g6⟩ := h5
  simp [Cond.before, Cond.holds, Cond.value, h1, h2, h3, h4, g1, g2, g3, g4, g5, g6]
def isCode : Jvm.Cond → Bool
  | .code _ _ _ _ => true
  | _ => false
theorem all_split {L : List Jvm.Cond} {P : Jvm.Cond → Bool} (h1 : L.all (fun c => isCode c || P c) = true) (h2 : ∀ c ∈ L.filter isCode, P c = true) : L.all P = true := by
  refine List.all_eq_true.mpr fun c hc => ?_
  have h := List.all_eq_true.mp h1 c hc
  rcases Bool.eq_false_or_eq_true (isCode c) with hi | hi
  · exact h2 c (List.mem_filter.mpr ⟨hc, hi⟩)
  · simpa [hi] using h
set_option maxRecDepth 65536 in
theorem w_c0 : (Jvm.Cond.code x code maxLocals ret).before args0 about1 = true := code_word (m := ⟨1, 1⟩) (meth := k1m1) (c := k1c1) (by decide +kernel) rfl rfl rfl (by decide +kernel)
set_option maxRecDepth 65536 in
theorem w_c1 : (Jvm.Cond.code ({ cls := "com/example/cairn/cairn/cache/UseOrder", name := "<init>", desc := "()V" } : Jvm.MethodName) prog_15_method_1_code (1 : Nat) (Option.none : Option Jvm.ClassFile.FieldType)).before args0 about1 = true := code_word (m := ⟨2, 0⟩) (meth := k2m0) (c := k2c0) (by decide +kernel) rfl rfl rfl (by decide +kernel)
set_option maxRecDepth 65536 in
theorem w_c2 : (Jvm.Cond.code ({ cls := "java/lang/Object", name := "<init>", desc := "()V" } : Jvm.MethodName) object_method_1_code (1 : Nat) (Option.none : Option Jvm.ClassFile.FieldType)).before args0 about1 = true := code_word (m := ⟨0, 0⟩) (meth := k0m0) (c := k0c0) (by decide +kernel) rfl rfl rfl (by decide +kernel)
set_option maxRecDepth 65536 in
theorem w_c3 : (Jvm.Cond.code ({ cls := "com/example/cairn/cairn/cache/UseOrder", name := "take", desc := "()I" } : Jvm.MethodName) prog_15_method_2_code (2 : Nat) (Option.some Jvm.ClassFile.FieldType.int)).before args0 about1 = true := code_word (m := ⟨2, 1⟩) (meth := k2m1) (c := k2c1) (by decide +kernel) rfl rfl rfl (by decide +kernel)
set_option maxRecDepth 65536 in
theorem w_c4 : (Jvm.Cond.code ({ cls := "com/example/cairn/cairn/cache/UseOrder", name := "use", desc := "(I)V" } : Jvm.MethodName) prog_15_method_3_code (2 : Nat) (Option.none : Option Jvm.ClassFile.FieldType)).before args0 about1 = true := code_word (m := ⟨2, 2⟩) (meth := k2m2) (c := k2c2) (by decide +kernel) rfl rfl rfl (by decide +kernel)
set_option maxRecDepth 65536 in
theorem w_c5 : (Jvm.Cond.code ({ cls := "com/example/cairn/cairn/cache/UseOrder", name := "free", desc := "(I)V" } : Jvm.MethodName) prog_15_method_4_code (2 : Nat) (Option.none : Option Jvm.ClassFile.FieldType)).before args0 about1 = true := code_word (m := ⟨2, 3⟩) (meth := k2m3) (c := k2c3) (by decide +kernel) rfl rfl rfl (by decide +kernel)
set_option maxRecDepth 65536 in
theorem w_c6 : (Jvm.Cond.code ({ cls := "com/example/cairn/cairn/cache/UseOrder", name := "start", desc := "()I" } : Jvm.MethodName) prog_15_method_6_code (1 : Nat) (Option.some Jvm.ClassFile.FieldType.int)).before args0 about1 = true := code_word (m := ⟨2, 4⟩) (meth := k2m4) (c := k2c4) (by decide +kernel) rfl rfl rfl (by decide +kernel)
set_option maxRecDepth 65536 in
theorem w_c7 : (Jvm.Cond.code ({ cls := "com/example/cairn/cairn/cache/UseOrder", name := "current", desc := "(I)I" } : Jvm.MethodName) prog_15_method_10_code (3 : Nat) (Option.some Jvm.ClassFile.FieldType.int)).before args0 about1 = true := code_word (m := ⟨2, 7⟩) (meth := k2m7) (c := k2c7) (by decide +kernel) rfl rfl rfl (by decide +kernel)
set_option maxRecDepth 65536 in
theorem w_c8 : (Jvm.Cond.code ({ cls := "com/example/cairn/cairn/cache/UseOrder", name := "slotAt", desc := "(I)I" } : Jvm.MethodName) prog_15_method_8_code (2 : Nat) (Option.some Jvm.ClassFile.FieldType.int)).before args0 about1 = true := code_word (m := ⟨2, 6⟩) (meth := k2m6) (c := k2c6) (by decide +kernel) rfl rfl rfl (by decide +kernel)
set_option maxRecDepth 65536 in
theorem w_c9 : (Jvm.Cond.code ({ cls := "com/example/cairn/cairn/cache/UseOrder", name := "next", desc := "(I)I" } : Jvm.MethodName) prog_15_method_7_code (2 : Nat) (Option.some Jvm.ClassFile.FieldType.int)).before args0 about1 = true := code_word (m := ⟨2, 5⟩) (meth := k2m5) (c := k2c5) (by decide +kernel) rfl rfl rfl (by decide +kernel)
def codes1 : List Jvm.Cond := [Jvm.Cond.code x code maxLocals ret, Jvm.Cond.code ({ cls := "com/example/cairn/cairn/cache/UseOrder", name := "<init>", desc := "()V" } : Jvm.MethodName) prog_15_method_1_code (1 : Nat) (Option.none : Option Jvm.ClassFile.FieldType), Jvm.Cond.code ({ cls := "java/lang/Object", name := "<init>", desc := "()V" } : Jvm.MethodName) object_method_1_code (1 : Nat) (Option.none : Option Jvm.ClassFile.FieldType), Jvm.Cond.code ({ cls := "com/example/cairn/cairn/cache/UseOrder", name := "take", desc := "()I" } : Jvm.MethodName) prog_15_method_2_code (2 : Nat) (Option.some Jvm.ClassFile.FieldType.int), Jvm.Cond.code ({ cls := "com/example/cairn/cairn/cache/UseOrder", name := "use", desc := "(I)V" } : Jvm.MethodName) prog_15_method_3_code (2 : Nat) (Option.none : Option Jvm.ClassFile.FieldType), Jvm.Cond.code ({ cls := "com/example/cairn/cairn/cache/UseOrder", name := "free", desc := "(I)V" } : Jvm.MethodName) prog_15_method_4_code (2 : Nat) (Option.none : Option Jvm.ClassFile.FieldType), Jvm.Cond.code ({ cls := "com/example/cairn/cairn/cache/UseOrder", name := "start", desc := "()I" } : Jvm.MethodName) prog_15_method_6_code (1 : Nat) (Option.some Jvm.ClassFile.FieldType.int), Jvm.Cond.code ({ cls := "com/example/cairn/cairn/cache/UseOrder", name := "current", desc := "(I)I" } : Jvm.MethodName) prog_15_method_10_code (3 : Nat) (Option.some Jvm.ClassFile.FieldType.int), Jvm.Cond.code ({ cls := "com/example/cairn/cairn/cache/UseOrder", name := "slotAt", desc := "(I)I" } : Jvm.MethodName) prog_15_method_8_code (2 : Nat) (Option.some Jvm.ClassFile.FieldType.int), Jvm.Cond.code ({ cls := "com/example/cairn/cairn/cache/UseOrder", name := "next", desc := "(I)I" } : Jvm.MethodName) prog_15_method_7_code (2 : Nat) (Option.some Jvm.ClassFile.FieldType.int)]
set_option maxRecDepth 65536 in
theorem codes_eq : words1.filter isCode = codes1 := rfl
theorem w_codes : ∀ c ∈ words1.filter isCode, c.before args0 about1 = true := by
  rw [codes_eq]
  intro c hc
  simp only [codes1, List.mem_cons, List.not_mem_nil, or_false] at hc
  rcases hc with rfl | rfl | rfl | rfl | rfl | rfl | rfl | rfl | rfl | rfl
  · exact w_c0
  · exact w_c1
  · exact w_c2
  · exact w_c3
  · exact w_c4
  · exact w_c5
  · exact w_c6
  · exact w_c7
  · exact w_c8
  · exact w_c9
set_option maxRecDepth 65536 in
theorem w_t1 : (words1.take 24).all (fun c => isCode c || c.before args0 about1) = true := by decide +kernel
set_option maxRecDepth 65536 in
theorem w_t2 : ((words1.drop 24).take 24).all (fun c => isCode c || c.before args0 about1) = true := by decide +kernel
set_option maxRecDepth 65536 in
theorem w_t3 : ((words1.drop 24).drop 24).all (fun c => isCode c || c.before args0 about1) = true := by decide +kernel
theorem w_tables : (allAtoms (Jvm.Cond.code x code maxLocals ret :: tables_1)).before args0 about1 = true := by
  rw [allAtoms_all]
  show words1.all (fun c => c.before args0 about1) = true
  refine all_split ?_ w_codes
  rw [← List.take_append_drop 24 words1, List.all_append, w_t1, ← List.take_append_drop 24 (words1.drop 24), List.all_append, w_t2, w_t3]
  rfl
set_option maxRecDepth 65536 in
theorem w_case : (Jvm.Cond.and given_1 narrow_1).before args0 about1 = true := by decide +kernel
theorem w_applies : (headSpec (Jvm.Cond.code x code maxLocals ret :: tables_1) room_1).applies x e0.platform about1 = true :=
  (Spec.applies_iff w_frames).mpr ⟨w_running, w_runnable, w_alone, w_named, w_hears, w_ripe, w_room, w_tables⟩
theorem atStart : AtStart classFile x code maxLocals ret World_1 tables_1 room_1 Calls_1 rest_1 Pre_1 launch0 p0 e0 about1 theMethod args0 below0 :=
  ⟨lists_1, trivial, launch0.admits_env _ _ _, launch0.least_env, fairChoices_fair.cas, fairChoices_fair.clock, w_frames, w_args, w_heap, w_applies, trivial, trivial, w_case⟩
end start1
theorem witness_1 : WitnessClaimed_1 := ⟨start1.p0, start1.e0, start1.about1, start1.theMethod, start1.args0, start1.below0, start1.atStart⟩
end Jvm.Pilot.@@N@@
