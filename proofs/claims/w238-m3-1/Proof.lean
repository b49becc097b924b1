import JvmDerived
import JvmDerived.Pilot.@@N@@Statement
import JvmDerived.Pilot.@@N@@Code
set_option linter.unusedVariables false
set_option linter.unusedSimpArgs false
namespace Jvm.Pilot.@@N@@
open Jvm Jvm.ClassFile Sem Op Lib Jvm.Free Jvm.Stand Jvm.LawKit Jvm.RoadKit Bundle Jvm.Pilot.@@N@@.Jvm.D
section Own
variable {p : Program} {l : Launch} {e : Env} {R : Room} {s : State} {m : MethodId} {args : Array Value} {below : List Frame} {meth : Method} {c : Code} {T : State} {locs : List Loc} {cells slots n0 : Nat} {Z : State} {a0 : Array Value} {h h' : Heap} {its : List (Cell → Prop)} {Q : Option Value → List (Cell → Prop) → Prop} {pc : Nat} {Ls : Array Slot} {stk rest : List Value} {own : String}
/-- the new part of the heap: the cells from n0 on, one word on each -/
def own_hp (n0 : Nat) (h : Heap) (its : List (Cell → Prop)) : Prop := h.size = n0 + its.length ∧ ∀ (i : Nat) (P : Cell → Prop), its[i]? = some P → ∃ cl : Cell, h[n0 + i]? = some cl ∧ P cl
/-- where the walk stands -/
def own_at (p : Program) (l : Launch) (e : Env) (R : Room) (s : State) (m : MethodId) (args : Array Value) (below : List Frame) (meth : Method) (c : Code) (n0 : Nat) (T : State) (cells slots : Nat) (its : List (Cell → Prop)) : Prop :=
  ∃ locs, Stand p l e R s m args below meth c T locs cells slots ∧ Fr n0 locs ∧ own_hp n0 T.heap its
/-- from u the method comes to its end, and Q holds there -/
def own_go (p : Program) (e : Env) (R : Room) (s : State) (below : List Frame) (n0 : Nat) (Q : Option Value → List (Cell → Prop) → Prop) (u : State) : Prop :=
  ∃ (t : State) (v : Option Value) (L : List Loc) (its : List (Cell → Prop)), Steps p.tables e below u t ∧ t.status = .running ∧ Ended t below (.returned v) ∧ Q v its ∧ Fr n0 L ∧ own_hp n0 t.heap its ∧ s.WarmedH t.vm ∧ s.sameButNew ({ t with vm := s.vm } : State) L R.cells R.slots
theorem own_at.here (A : own_at p l e R s m args below meth c n0 T cells slots its) : At T m c below := by
  obtain ⟨_, X, _⟩ := A; exact X.here
theorem own_at.more (A : own_at p l e R s m args below meth c n0 T cells slots its) {cells' slots' : Nat} (hc : cells ≤ cells') (hs : slots ≤ slots') : own_at p l e R s m args below meth c n0 T cells' slots' its := by
  obtain ⟨L, X, r⟩ := A; exact ⟨L, X.more hc hs, r⟩
theorem own_by {u u' : State} (q : ∀ target, Steps p.tables e below u' target → Steps p.tables e below u target) (k : own_go p e R s below n0 Q u') : own_go p e R s below n0 Q u := by
  obtain ⟨t, v, L, i, h1, r⟩ := k
  exact ⟨t, v, L, i, q t h1, r⟩
theorem own_nil {α : Type} {P : α → Prop} : ∀ x ∈ ([] : List α), P x := fun _ q => nomatch q
theorem own_cons {α : Type} {P : α → Prop} {y : α} {L : List α} (q : P y) (r : ∀ x ∈ L, P x) : ∀ x ∈ y :: L, P x := fun x z => (List.mem_cons.mp z).elim (fun u => u ▸ q) (r x)
theorem own_hp.push (H : own_hp n0 h its) {cl : Cell} {P : Cell → Prop} (hP : P cl) : own_hp n0 (h.push cl) (its ++ [P]) := by
  refine ⟨by rw [Array.size_push, H.1, List.length_append]; rfl, fun i P' hi => ?_⟩
  by_cases q : i < its.length
  · rw [List.getElem?_append_left q] at hi
    obtain ⟨c, h1, h2⟩ := H.2 i P' hi
    refine ⟨c, ?_, h2⟩
    rw [Array.getElem?_push_lt (Array.getElem?_eq_some_iff.mp h1).1]
    exact (Array.getElem?_eq_getElem _).symm.trans h1
  · have q2 : i = its.length := by
      have := (List.getElem?_eq_some_iff.mp hi).1
      simp only [List.length_append, List.length_cons, List.length_nil] at this
      omega
    subst q2
    simp only [List.getElem?_concat_length, Option.some.injEq] at hi
    subst hi
    refine ⟨cl, ?_, hP⟩
    rw [← H.1]; simp
theorem own_hp.wr (H : own_hp n0 h its) {i sl : Nat} {v : Value} {P P' : Cell → Prop} (hi : its[i]? = some P) (W : Wr h h' (n0 + i) sl v) (hP : ∀ cl, h[n0 + i]? = some cl → P cl → P' (cl.setSlot sl v)) : own_hp n0 h' (its.set i P') := by
  obtain ⟨cell, w1, w2, w3, rfl⟩ := W
  refine ⟨by rw [Array.size_setIfInBounds, List.length_set]; exact H.1, fun j P2 hj => ?_⟩
  by_cases q : i = j
  · subst q
    have hl := (List.getElem?_eq_some_iff.mp hi).1
    rw [List.getElem?_set_self hl] at hj
    cases hj
    obtain ⟨cl, g1, g2⟩ := H.2 i P hi
    cases w1.symm.trans g1
    exact ⟨cell.setSlot sl v, by simp [(Array.getElem?_eq_some_iff.mp w1).1], hP _ w1 g2⟩
  · rw [List.getElem?_set_ne q] at hj
    obtain ⟨cl, g1, g2⟩ := H.2 j P2 hj
    exact ⟨cl, by rw [Array.getElem?_setIfInBounds_ne (by omega)]; exact g1, g2⟩
theorem own_geti {i : Nat} {P P' : Cell → Prop} (hi : its[i]? = some P) : (its.set i P')[i]? = some P' := List.getElem?_set_self (List.getElem?_eq_some_iff.mp hi).1
/-- an object of just that class, its fields ns holding vs -/
def own_obj (Z : State) (C : String) (ns : List (String × String)) (vs : List Value) : Cell → Prop := fun cl => ∀ (h : Heap) (a : Addr), h[a]? = some cl → Exa Z h a C ∧ ∀ (i : Nat) (f : String × String) (v : Value), ns[i]? = some f → vs[i]? = some v → Fld Z h a C f.1 f.2 v
/-- an array of ints (shorts, chars, bytes) -/
def own_ia (Z : State) (ty : FieldType) (xs : List Int32) : Cell → Prop := fun cl => xs.length < 2 ^ 31 ∧ cl.slots = (xs.map Value.int).toArray ∧ Z.isArrayOf cl ty ∧ cl.vm ≠ .unknown ∧ (∀ x ∈ xs, fits ty (.int x) = true) ∧ Z.vm.findClass ("[" ++ ty.toString) = some cl.cls
/-- an array of longs -/
def own_la (Z : State) (xs : List Int64) : Cell → Prop := fun cl => xs.length < 2 ^ 31 ∧ cl.slots = (xs.map Value.long).toArray ∧ Z.isArrayOf cl .long ∧ cl.vm ≠ .unknown
/-- the fields' places are unlike -/
def own_apart (Z : State) (C : String) (ns : List (String × String)) : Prop := ∀ (i j : Nat) (f g : String × String), ns[i]? = some f → ns[j]? = some g → i ≠ j → Jvm.RoadKit.slotOf Z C f.1 f.2 ≠ Jvm.RoadKit.slotOf Z C g.1 g.2
theorem own_apart_of {C : String} {ns : List (String × String)} (hL : ∀ f ∈ ns, Laid Z a0 C C f.1 f.2 ∧ ∃ t, parseFieldDescriptor f.2 = some t) (hn : (ns.map (·.1)).Nodup) : own_apart Z C ns := by
  intro i j f g hi hj hij
  obtain ⟨l1, t1, d1⟩ := hL f (List.mem_of_getElem? hi)
  obtain ⟨l2, t2, d2⟩ := hL g (List.mem_of_getElem? hj)
  refine slot_ne l1 l2 (fun q => ?_) d1 d2
  have e1 : (ns.map (·.1))[i]? = some f.1 := by rw [List.getElem?_map, hi]; rfl
  have e2 : (ns.map (·.1))[j]? = some g.1 := by rw [List.getElem?_map, hj]; rfl
  obtain ⟨b1, c1⟩ := List.getElem?_eq_some_iff.mp e1
  obtain ⟨b2, c2⟩ := List.getElem?_eq_some_iff.mp e2
  have pw := List.pairwise_iff_getElem.mp hn
  rcases Nat.lt_or_gt_of_ne hij with z | z
  · exact pw i j b1 b2 z (by rw [c1, c2, q])
  · exact pw j i b2 b1 z (by rw [c1, c2, q])
theorem own_obj.set {C : String} {ns : List (String × String)} {vs : List Value} {j : Nat} {n d : String} {v old : Value} {cl : Cell} (O : own_obj Z C ns vs cl) (ap : own_apart Z C ns) (hj : ns[j]? = some (n, d)) (hv : vs[j]? = some old) (hlt : Jvm.RoadKit.slotOf Z C n d < cl.slots.size) (hst : cl.vm.isStatics = false) : own_obj Z C ns (vs.set j v) (cl.setSlot (Jvm.RoadKit.slotOf Z C n d) v) := by
  intro h2 a2 ha2
  have hb : (#[cl] : Heap)[0]? = some cl := rfl
  have W : Wr (#[cl] : Heap) (#[cl.setSlot (Jvm.RoadKit.slotOf Z C n d) v] : Heap) 0 (Jvm.RoadKit.slotOf Z C n d) v := ⟨cl, hb, hst, hlt, rfl⟩
  obtain ⟨E, F⟩ := O _ _ hb
  have E' : Exa Z (#[cl.setSlot (Jvm.RoadKit.slotOf Z C n d) v] : Heap) 0 C := E.wr W
  refine ⟨?_, fun i f w hi hw => ?_⟩
  · obtain ⟨c1, k, q1, r⟩ := E'
    cases (show (#[cl.setSlot (Jvm.RoadKit.slotOf Z C n d) v] : Heap)[0]? = some _ from rfl).symm.trans q1
    exact ⟨_, k, ha2, r⟩
  · have F' : Fld Z (#[cl.setSlot (Jvm.RoadKit.slotOf Z C n d) v] : Heap) 0 C f.1 f.2 w := by
      by_cases q : j = i
      · subst q
        cases hj.symm.trans hi
        rw [List.getElem?_set_self (List.getElem?_eq_some_iff.mp hv).1] at hw
        cases hw
        exact (F j (n, d) old hj hv).same W
      · rw [List.getElem?_set_ne q] at hw
        exact (F i f w hi hw).other W (Or.inr (ap i j f (n, d) hi hj (Ne.symm q)))
    obtain ⟨c1, cf, k, i1, f1, q1, r⟩ := F'
    cases (show (#[cl.setSlot (Jvm.RoadKit.slotOf Z C n d) v] : Heap)[0]? = some _ from rfl).symm.trans q1
    exact ⟨_, cf, k, i1, f1, ha2, r⟩
theorem own_db {bs : ByteArray} (h1 : c.code = bs) {r : Except DecodeError (Instr × Nat)} (h2 : decode bs pc = r) : decode c.code pc = r := h1 ▸ h2
/-! steps -/
theorem own_new (A : own_at p l e R s m args below meth c n0 T cells slots its) (hx : p.tables.exec = Jvm.exec) (hZ : Z.Warmed39 s.vm) {C : String} {index n : Nat} (hown : s.vm.findClass own = some m.cls) (w : (Cond.classLink own index C).before a0 Z = true) (wi : (Cond.instantiable C n).before a0 Z = true) (wz : (Cond.initialized C).before a0 Z = true)
    {ns : List (String × String)} {vs : List Value} (hns : ∀ f ∈ ns.zip vs, Laid Z a0 C C f.1.1 f.1.2 ∧ ∃ ty, parseFieldDescriptor f.1.2 = some ty ∧ f.2 = defaultValue ty)
    (hd : decode c.code pc = .ok (.new index, 3)) (hc : cells + 1 ≤ R.cells) (hl : slots + n ≤ R.slots)
    (k : ∀ T', own_at p l e R s m args below meth c n0 T' (cells + 1) (slots + n) (its ++ [own_obj Z C ns vs]) → own_go p e R s below n0 Q (T'.setTop (mkF m (pc + 3) Ls (.ref (n0 + its.length) :: stk)))) :
    own_go p e R s below n0 Q (T.setTop (mkF m pc Ls stk)) := by
  obtain ⟨L, X, N, H⟩ := A
  obtain ⟨vm', cC, kC, h1, h2, h3, h4, X', st⟩ := X.newCold hx hown (mv hZ w) (mv hZ wi) (mv hZ wz) (g := mkF m pc Ls stk) rfl hd hc hl
  rw [H.1] at st
  rw [hZ.alike.findClass] at h1
  obtain ⟨kZ, z1, -⟩ := Vm.findClass_spec h1
  obtain ⟨k', z2, z3⟩ := hZ.alike.2.2 _ _ z1
  cases h2.symm.trans z2
  have ei : kC.instanceTypes = kZ.instanceTypes := by rw [z3]
  refine own_by st (k _ ⟨L, X', N, H.push fun h2 a2 ha2 => ⟨⟨_, kZ, ha2, h1, z1, rfl, fun _ => by simp [ei]⟩, fun i f v hi hv => ?_⟩⟩)
  have hz : (ns.zip vs)[i]? = some (f, v) := List.getElem?_zip_eq_some.mpr ⟨hi, hv⟩
  obtain ⟨La, ty, ht, hdv⟩ := hns _ (List.mem_of_getElem? hz)
  obtain ⟨c1, k1, cf, kf, i1, f1, a1, a2', a3, a4, a5, a6, -⟩ := La.spec
  cases h1.symm.trans a1
  cases z1.symm.trans a2'
  dsimp only at hdv ht a3
  subst hdv
  exact ⟨_, cf, kf, i1, f1, ha2, a3, a4, by simp, rfl, a5, by simp [ei, a6, (State.fieldFound?_type a3 ht).2]⟩
theorem own_fit0 {ty : FieldType} (h0 : defaultValue ty = .int 0) : fits ty (.int 0) = true := by
  cases ty <;> first | rfl | (simp [defaultValue] at h0)
theorem own_newP (A : own_at p l e R s m args below meth c n0 T cells slots its) (hx : p.tables.exec = Jvm.exec) (hZ : Z.Warmed39 s.vm) {aty : ArrayType} (w : (Cond.arrayClass (newarray.typeOf aty)).before a0 Z = true)
    (hd : decode c.code pc = .ok (.newarray aty, 2)) {n : Int32} (q : Nat) (hn : ¬ n < 0 ∧ n.toNatClampNeg = q) {cap : Nat} (hcap : q ≤ cap) (hb : cap * 8 ≤ 536870912) (h0 : defaultValue (newarray.typeOf aty) = .int 0) (hc : cells + 1 ≤ R.cells) (hl : slots + cap ≤ R.slots)
    (k : ∀ T', own_at p l e R s m args below meth c n0 T' (cells + 1) (slots + cap) (its ++ [own_ia Z (newarray.typeOf aty) (List.replicate q 0)]) → own_go p e R s below n0 Q (T'.setTop (mkF m (pc + 2) Ls (.ref (n0 + its.length) :: stk)))) :
    own_go p e R s below n0 Q (T.setTop (mkF m pc Ls (.int n :: stk))) := by
  obtain ⟨L, X, N, H⟩ := A
  obtain ⟨hn, rfl⟩ := hn
  have hcb : componentBytes (newarray.typeOf aty) ≤ 8 := by cases aty <;> decide
  obtain ⟨cA, kA, comp, h1, h2, h3, X', st⟩ := X.newarrayPrim hx (mvA hZ w) (g := mkF m pc Ls (.int n :: stk)) rfl hd rfl hn (Nat.le_trans (Nat.mul_le_mul hcap hcb) hb) hc (by omega)
  rw [H.1] at st
  rw [hZ.alike.findClass] at h1
  obtain ⟨kZ, z1, -⟩ := Vm.findClass_spec h1
  obtain ⟨k', z2, z3⟩ := hZ.alike.2.2 _ _ z1
  cases h2.symm.trans z2
  refine own_by st (k _ ⟨L, X'.more (Nat.le_refl _) (by omega), N, H.push ⟨by rw [List.length_replicate]; exact n.toNatClampNeg_lt, by rw [h0]; simp [List.map_replicate], ⟨by simp, kZ, z1, comp, by rw [← h3, z3]⟩, by simp, fun x hx => ?_, h1⟩⟩)
  rw [List.eq_of_mem_replicate hx]
  exact own_fit0 h0
theorem own_newL (A : own_at p l e R s m args below meth c n0 T cells slots its) (hx : p.tables.exec = Jvm.exec) (hZ : Z.Warmed39 s.vm) (w : (Cond.arrayClass .long).before a0 Z = true)
    (hd : decode c.code pc = .ok (.newarray .long, 2)) {n : Int32} (q : Nat) (hn : ¬ n < 0 ∧ n.toNatClampNeg = q) {cap : Nat} (hcap : q ≤ cap) (hb : cap * 8 ≤ 536870912) (hc : cells + 1 ≤ R.cells) (hl : slots + cap ≤ R.slots)
    (k : ∀ T', own_at p l e R s m args below meth c n0 T' (cells + 1) (slots + cap) (its ++ [own_la Z (List.replicate q 0)]) → own_go p e R s below n0 Q (T'.setTop (mkF m (pc + 2) Ls (.ref (n0 + its.length) :: stk)))) :
    own_go p e R s below n0 Q (T.setTop (mkF m pc Ls (.int n :: stk))) := by
  obtain ⟨L, X, N, H⟩ := A
  obtain ⟨hn, rfl⟩ := hn
  obtain ⟨cA, kA, comp, h1, h2, h3, X', st⟩ := X.newarrayPrim hx (atype := .long) (mvA hZ w) (g := mkF m pc Ls (.int n :: stk)) rfl hd rfl hn (Nat.le_trans (Nat.mul_le_mul hcap (by decide)) hb) hc (by omega)
  rw [H.1] at st
  rw [hZ.alike.findClass] at h1
  obtain ⟨kZ, z1, -⟩ := Vm.findClass_spec h1
  obtain ⟨k', z2, z3⟩ := hZ.alike.2.2 _ _ z1
  cases h2.symm.trans z2
  exact own_by st (k _ ⟨L, X'.more (Nat.le_refl _) (by omega), N, H.push ⟨by rw [List.length_replicate]; exact n.toNatClampNeg_lt, by simp [List.map_replicate, newarray.typeOf, defaultValue], ⟨by simp, kZ, z1, comp, by rw [z3] at h3; exact h3⟩, by simp⟩⟩)
theorem own_getF (A : own_at p l e R s m args below meth c n0 T cells slots its) (hx : p.tables.exec = Jvm.exec) (hZ : Z.Warmed39 s.vm) {C n d : String} {index i : Nat} (hown : s.vm.findClass own = some m.cls) (w : (Cond.fieldLink own index C n d).before a0 Z = true)
    {ns : List (String × String)} {vs : List Value} (hi : its[i]? = some (own_obj Z C ns vs)) (j : Nat) (hj : ns[j]? = some (n, d)) {v : Value} (hv : vs[j]? = some v) (hd : decode c.code pc = .ok (.getfield index, 3))
    (k : ∀ T', own_at p l e R s m args below meth c n0 T' cells slots its → own_go p e R s below n0 Q (T'.setTop (mkF m (pc + 3) Ls (v :: stk)))) :
    own_go p e R s below n0 Q (T.setTop (mkF m pc Ls (.ref (n0 + i) :: stk))) := by
  obtain ⟨L, X, N, H⟩ := A
  obtain ⟨cl, g1, g2⟩ := H.2 i _ hi
  obtain ⟨T', X', e', st⟩ := getF X hx hZ hown (host := "") (Or.inl w) Via.refl rfl ((g2 _ _ g1).2 j _ v hj hv) (g := mkF m pc Ls (.ref (n0 + i) :: stk)) rfl rfl hd
  exact own_by st (k T' ⟨L, X', N, by rw [e']; exact H⟩)
theorem own_putF (A : own_at p l e R s m args below meth c n0 T cells slots its) (hx : p.tables.exec = Jvm.exec) (hZ : Z.Warmed39 s.vm) {C n d : String} {index i kk : Nat} {ty : FieldType} (hown : s.vm.findClass own = some m.cls) (w : (Cond.fieldLink own index C n d).before a0 Z = true)
    {ns : List (String × String)} {vs : List Value} (hi : its[i]? = some (own_obj Z C ns vs)) (j : Nat) (hj : ns[j]? = some (n, d)) {v v' old : Value} (hv : vs[j]? = some old) (ap : own_apart Z C ns)
    (La : (Cond.lays C C n d).before a0 Z = true ∨ ((Cond.laysFinal C C n d).before a0 Z = true ∧ own = C ∧ meth.name = "<init>")) (wi : (Cond.instantiable C kk).before a0 Z = true) (hty : parseFieldDescriptor d = some ty) (hn : narrow ty v = v') (hf : fits ty v' = true)
    (hd : decode c.code pc = .ok (.putfield index, 3)) {its2 : List (Cell → Prop)} (h2 : its.set i (own_obj Z C ns (vs.set j v')) = its2)
    (k : ∀ T', own_at p l e R s m args below meth c n0 T' cells slots its2 → own_go p e R s below n0 Q (T'.setTop (mkF m (pc + 3) Ls stk))) :
    own_go p e R s below n0 Q (T.setTop (mkF m pc Ls (v :: .ref (n0 + i) :: stk))) := by
  obtain ⟨L, X, N, H⟩ := A
  obtain ⟨cl, g1, g2⟩ := H.2 i _ hi
  obtain ⟨T', h', X', e', W, st⟩ := putFN X hx hZ hown w Via.refl rfl ((g2 _ _ g1).2 j _ old hj hv) (g2 _ _ g1).1 La wi hty hn hf (g := mkF m pc Ls (v :: .ref (n0 + i) :: stk)) rfl rfl hd
  have N' := Fr.snoc X' N (Nat.le_add_right n0 i)
  have W2 := W
  obtain ⟨cl2, w1, w2, w3, -⟩ := W2
  refine own_by st (k T' ⟨_, X', N', ?_⟩)
  rw [e', ← h2]
  exact H.wr hi W fun cl3 q1 q2 => by
    cases w1.symm.trans q1
    exact q2.set ap hj hv w3 w2
theorem own_ia.arr {ty : FieldType} {xs : List Int32} {cl : Cell} (O : own_ia Z ty xs cl) {a : Addr} (hc : h[a]? = some cl) : Arr Z h a cl ty := ⟨hc, O.2.2.1, O.2.2.2.1⟩
theorem own_ia.inb {ty : FieldType} {xs : List Int32} {cl : Cell} (O : own_ia Z ty xs cl) {j : Int32} {x : Int32} (hj : ¬ j < 0 ∧ xs[j.toNatClampNeg]? = some x) : ¬ (j < 0 ∨ cl.slots.size ≤ j.toNatClampNeg) ∧ cl.slots[j.toNatClampNeg]? = some (.int x) := by
  have hl := (List.getElem?_eq_some_iff.mp hj.2).1
  refine ⟨fun q => q.elim hj.1 fun q2 => ?_, ?_⟩
  · rw [O.2.1] at q2; simp at q2; omega
  · rw [O.2.1]; simp [hj.2]
theorem own_la.inb {xs : List Int64} {cl : Cell} (O : own_la Z xs cl) {j : Int32} {x : Int64} (hj : ¬ j < 0 ∧ xs[j.toNatClampNeg]? = some x) : ¬ (j < 0 ∨ cl.slots.size ≤ j.toNatClampNeg) ∧ cl.slots[j.toNatClampNeg]? = some (.long x) := by
  have hl := (List.getElem?_eq_some_iff.mp hj.2).1
  refine ⟨fun q => q.elim hj.1 fun q2 => ?_, ?_⟩
  · rw [O.2.1] at q2; simp at q2; omega
  · rw [O.2.1]; simp [hj.2]
theorem own_ia.set {ty : FieldType} {xs : List Int32} {cl : Cell} (O : own_ia Z ty xs cl) (q : Nat) {x : Int32} (hf : fits ty (.int x) = true) : own_ia Z ty (xs.set q x) (cl.setSlot q (.int x)) := by
  refine ⟨by rw [List.length_set]; exact O.1, ?_, O.2.2.1, O.2.2.2.1, fun y hy => ?_, O.2.2.2.2.2⟩
  · rw [Cell.setSlot]; show cl.slots.setIfInBounds q _ = _
    rw [O.2.1, List.setIfInBounds_toArray, List.map_set]
  · rcases List.mem_or_eq_of_mem_set hy with q | rfl
    · exact O.2.2.2.2.1 y q
    · exact hf
theorem own_la.set {xs : List Int64} {cl : Cell} (O : own_la Z xs cl) (q : Nat) {x : Int64} : own_la Z (xs.set q x) (cl.setSlot q (.long x)) := by
  refine ⟨by rw [List.length_set]; exact O.1, ?_, O.2.2.1, O.2.2.2⟩
  rw [Cell.setSlot]; show cl.slots.setIfInBounds q _ = _
  rw [O.2.1, List.setIfInBounds_toArray, List.map_set]
theorem own_iaload (A : own_at p l e R s m args below meth c n0 T cells slots its) (hx : p.tables.exec = Jvm.exec) (hZ : Z.Warmed39 s.vm) {i : Nat} {xs : List Int32} (hi : its[i]? = some (own_ia Z .int xs)) {j x : Int32} (hj : ¬ j < 0 ∧ xs[j.toNatClampNeg]? = some x) (hd : decode c.code pc = .ok (.iaload, 1))
    (k : own_go p e R s below n0 Q (T.setTop (mkF m (pc + 1) Ls (.int x :: stk)))) : own_go p e R s below n0 Q (T.setTop (mkF m pc Ls (.int j :: .ref (n0 + i) :: stk))) := by
  obtain ⟨L, X, N, H⟩ := A
  obtain ⟨cl, g1, g2⟩ := H.2 i _ hi
  exact own_by (fun t k => X.iaload hx g1 (State.isArrayOf_alike hZ.alike g2.2.2.1) g2.2.2.2.1 (g2.inb hj).1 (g2.inb hj).2 (g := mkF m pc Ls (.int j :: .ref (n0 + i) :: stk)) rfl rfl hd t k) k
theorem own_caload (A : own_at p l e R s m args below meth c n0 T cells slots its) (hx : p.tables.exec = Jvm.exec) (hZ : Z.Warmed39 s.vm) {i : Nat} {xs : List Int32} (hi : its[i]? = some (own_ia Z .char xs)) {j x : Int32} (hj : ¬ j < 0 ∧ xs[j.toNatClampNeg]? = some x) (hd : decode c.code pc = .ok (.caload, 1))
    (k : own_go p e R s below n0 Q (T.setTop (mkF m (pc + 1) Ls (.int x :: stk)))) : own_go p e R s below n0 Q (T.setTop (mkF m pc Ls (.int j :: .ref (n0 + i) :: stk))) := by
  obtain ⟨L, X, N, H⟩ := A
  obtain ⟨cl, g1, g2⟩ := H.2 i _ hi
  exact own_by (fun t k => X.caload hx g1 (State.isArrayOf_alike hZ.alike g2.2.2.1) g2.2.2.2.1 (g2.inb hj).1 (g2.inb hj).2 (g := mkF m pc Ls (.int j :: .ref (n0 + i) :: stk)) rfl rfl hd t k) k
theorem own_baload (A : own_at p l e R s m args below meth c n0 T cells slots its) (hx : p.tables.exec = Jvm.exec) (hZ : Z.Warmed39 s.vm) {i : Nat} {xs : List Int32} (hi : its[i]? = some (own_ia Z .byte xs)) {j x : Int32} (hj : ¬ j < 0 ∧ xs[j.toNatClampNeg]? = some x) (hd : decode c.code pc = .ok (.baload, 1))
    (k : own_go p e R s below n0 Q (T.setTop (mkF m (pc + 1) Ls (.int x :: stk)))) : own_go p e R s below n0 Q (T.setTop (mkF m pc Ls (.int j :: .ref (n0 + i) :: stk))) := by
  obtain ⟨L, X, N, H⟩ := A
  obtain ⟨cl, g1, g2⟩ := H.2 i _ hi
  exact own_by (fun t k => X.baloadBytes hx g1 (State.isArrayOf_alike hZ.alike g2.2.2.1) g2.2.2.2.1 (g2.inb hj).1 (g2.inb hj).2 (g := mkF m pc Ls (.int j :: .ref (n0 + i) :: stk)) rfl rfl hd t k) k
theorem own_laload (A : own_at p l e R s m args below meth c n0 T cells slots its) (hx : p.tables.exec = Jvm.exec) (hZ : Z.Warmed39 s.vm) {i : Nat} {xs : List Int64} (hi : its[i]? = some (own_la Z xs)) {j : Int32} {x : Int64} (hj : ¬ j < 0 ∧ xs[j.toNatClampNeg]? = some x) (hd : decode c.code pc = .ok (.laload, 1))
    (k : own_go p e R s below n0 Q (T.setTop (mkF m (pc + 1) Ls (.long x :: stk)))) : own_go p e R s below n0 Q (T.setTop (mkF m pc Ls (.int j :: .ref (n0 + i) :: stk))) := by
  obtain ⟨L, X, N, H⟩ := A
  obtain ⟨cl, g1, g2⟩ := H.2 i _ hi
  exact own_by (fun t k => X.laload hx g1 (State.isArrayOf_alike hZ.alike g2.2.2.1) g2.2.2.2 (g2.inb hj).1 (g2.inb hj).2 (g := mkF m pc Ls (.int j :: .ref (n0 + i) :: stk)) rfl rfl hd t k) k
theorem own_at.wrote (N : Fr n0 locs) (H : own_hp n0 h its) {T' : State} {i sl : Nat} {v : Value} {P P' : Cell → Prop} (X' : Stand p l e R s m args below meth c T' (locs ++ [⟨n0 + i, sl⟩]) cells slots) (e' : T'.heap = h') (hi : its[i]? = some P) (W : Wr h h' (n0 + i) sl v) (hP : ∀ cl, h[n0 + i]? = some cl → P cl → P' (cl.setSlot sl v)) : own_at p l e R s m args below meth c n0 T' cells slots (its.set i P') :=
  ⟨_, X', Fr.snoc X' N (Nat.le_add_right n0 i), by rw [e']; exact H.wr hi W hP⟩
theorem own_ib {xs : List Int32} {ty : FieldType} {cl : Cell} (O : own_ia Z ty xs cl) {j : Int32} {q : Nat} (hj : ¬ j < 0 ∧ j.toNatClampNeg = q ∧ q < xs.length) : ¬ (j < 0 ∨ cl.slots.size ≤ j.toNatClampNeg) := by
  obtain ⟨h1, rfl, h3⟩ := hj
  refine fun z => z.elim h1 fun z => ?_
  rw [O.2.1] at z; simp at z; omega
theorem own_iastore (A : own_at p l e R s m args below meth c n0 T cells slots its) (hx : p.tables.exec = Jvm.exec) (hZ : Z.Warmed39 s.vm) {i : Nat} {xs : List Int32} (hi : its[i]? = some (own_ia Z .int xs)) {j x : Int32} (q : Nat) (hj : ¬ j < 0 ∧ j.toNatClampNeg = q ∧ q < xs.length) (hd : decode c.code pc = .ok (.iastore, 1)) {its2 : List (Cell → Prop)} (h2 : its.set i (own_ia Z .int (xs.set q x)) = its2)
    (k : ∀ T', own_at p l e R s m args below meth c n0 T' cells slots its2 → own_go p e R s below n0 Q (T'.setTop (mkF m (pc + 1) Ls stk))) : own_go p e R s below n0 Q (T.setTop (mkF m pc Ls (.int x :: .int j :: .ref (n0 + i) :: stk))) := by
  obtain ⟨L, X, N, H⟩ := A
  obtain ⟨cl, g1, g2⟩ := H.2 i _ hi
  obtain ⟨T', h', X', e', W, st⟩ := stI X hx hZ rfl (g2.arr g1) (own_ib g2 hj) (g := mkF m pc Ls (.int x :: .int j :: .ref (n0 + i) :: stk)) rfl rfl hd
  obtain ⟨j1, rfl, j3⟩ := hj
  exact own_by st (k T' (h2 ▸ own_at.wrote N H X' e' hi W fun cl _ O => O.set _ rfl))
theorem own_castore (A : own_at p l e R s m args below meth c n0 T cells slots its) (hx : p.tables.exec = Jvm.exec) (hZ : Z.Warmed39 s.vm) {i : Nat} {xs : List Int32} (hi : its[i]? = some (own_ia Z .char xs)) {j x : Int32} (q : Nat) (hj : ¬ j < 0 ∧ j.toNatClampNeg = q ∧ q < xs.length) (hd : decode c.code pc = .ok (.castore, 1)) {its2 : List (Cell → Prop)} (h2 : its.set i (own_ia Z .char (xs.set q (nar .char x))) = its2)
    (k : ∀ T', own_at p l e R s m args below meth c n0 T' cells slots its2 → own_go p e R s below n0 Q (T'.setTop (mkF m (pc + 1) Ls stk))) : own_go p e R s below n0 Q (T.setTop (mkF m pc Ls (.int x :: .int j :: .ref (n0 + i) :: stk))) := by
  obtain ⟨L, X, N, H⟩ := A
  obtain ⟨cl, g1, g2⟩ := H.2 i _ hi
  obtain ⟨T', h', X', e', W, st⟩ := stC X hx hZ rfl (g2.arr g1) (own_ib g2 hj) (g := mkF m pc Ls (.int x :: .int j :: .ref (n0 + i) :: stk)) rfl rfl hd
  obtain ⟨j1, rfl, j3⟩ := hj
  exact own_by st (k T' (h2 ▸ own_at.wrote N H X' e' hi W fun cl _ O => O.set _ (fits_nar_char x)))
theorem own_bastore (A : own_at p l e R s m args below meth c n0 T cells slots its) (hx : p.tables.exec = Jvm.exec) (hZ : Z.Warmed39 s.vm) {i : Nat} {xs : List Int32} (hi : its[i]? = some (own_ia Z .byte xs)) {j x : Int32} (q : Nat) (hj : ¬ j < 0 ∧ j.toNatClampNeg = q ∧ q < xs.length) (hd : decode c.code pc = .ok (.bastore, 1)) {its2 : List (Cell → Prop)} (h2 : its.set i (own_ia Z .byte (xs.set q (nar .byte x))) = its2)
    (k : ∀ T', own_at p l e R s m args below meth c n0 T' cells slots its2 → own_go p e R s below n0 Q (T'.setTop (mkF m (pc + 1) Ls stk))) : own_go p e R s below n0 Q (T.setTop (mkF m pc Ls (.int x :: .int j :: .ref (n0 + i) :: stk))) := by
  obtain ⟨L, X, N, H⟩ := A
  obtain ⟨cl, g1, g2⟩ := H.2 i _ hi
  obtain ⟨T', h', X', e', W, st⟩ := stB X hx hZ rfl (g2.arr g1) (own_ib g2 hj) (g := mkF m pc Ls (.int x :: .int j :: .ref (n0 + i) :: stk)) rfl rfl hd
  obtain ⟨j1, rfl, j3⟩ := hj
  exact own_by st (k T' (h2 ▸ own_at.wrote N H X' e' hi W fun cl _ O => O.set _ (fits_nar_byte x)))
theorem own_lastore (A : own_at p l e R s m args below meth c n0 T cells slots its) (hx : p.tables.exec = Jvm.exec) (hZ : Z.Warmed39 s.vm) {i : Nat} {xs : List Int64} (hi : its[i]? = some (own_la Z xs)) {j : Int32} {x : Int64} (q : Nat) (hj : ¬ j < 0 ∧ j.toNatClampNeg = q ∧ q < xs.length) (hd : decode c.code pc = .ok (.lastore, 1)) {its2 : List (Cell → Prop)} (h2 : its.set i (own_la Z (xs.set q x)) = its2)
    (k : ∀ T', own_at p l e R s m args below meth c n0 T' cells slots its2 → own_go p e R s below n0 Q (T'.setTop (mkF m (pc + 1) Ls stk))) : own_go p e R s below n0 Q (T.setTop (mkF m pc Ls (.long x :: .int j :: .ref (n0 + i) :: stk))) := by
  obtain ⟨L, X, N, H⟩ := A
  obtain ⟨cl, g1, g2⟩ := H.2 i _ hi
  obtain ⟨j1, rfl, j3⟩ := hj
  have hb : ¬ (j < 0 ∨ cl.slots.size ≤ j.toNatClampNeg) := fun z => z.elim j1 fun z => by rw [g2.2.1] at z; simp at z; omega
  obtain ⟨T', h', X', e', W, st⟩ := stJ X hx hZ rfl (⟨g1, g2.2.2.1, g2.2.2.2⟩ : Arr Z T.heap (n0 + i) cl .long) hb (g := mkF m pc Ls (.long x :: .int j :: .ref (n0 + i) :: stk)) rfl rfl hd
  exact own_by st (k T' (h2 ▸ own_at.wrote N H X' e' hi W fun cl _ O => O.set _))
theorem own_len (A : own_at p l e R s m args below meth c n0 T cells slots its) (hx : p.tables.exec = Jvm.exec) (hZ : Z.Warmed39 s.vm) {i : Nat} {ty : FieldType} {xs : List Int32} (hi : its[i]? = some (own_ia Z ty xs)) {z : Int32} (hz : xs.length.toInt32 = z) (hd : decode c.code pc = .ok (.arraylength, 1))
    (k : own_go p e R s below n0 Q (T.setTop (mkF m (pc + 1) Ls (.int z :: stk)))) : own_go p e R s below n0 Q (T.setTop (mkF m pc Ls (.ref (n0 + i) :: stk))) := by
  obtain ⟨L, X, N, H⟩ := A
  obtain ⟨cl, g1, g2⟩ := H.2 i _ hi
  have q : cl.slots.size.toInt32 = z := by rw [g2.2.1]; simpa using hz
  subst q
  exact own_by (fun t k => X.arraylength hx g1 (State.isArrayOf_alike hZ.alike g2.2.2.1) (g := mkF m pc Ls (.ref (n0 + i) :: stk)) rfl rfl hd t k) k
theorem own_lenL (A : own_at p l e R s m args below meth c n0 T cells slots its) (hx : p.tables.exec = Jvm.exec) (hZ : Z.Warmed39 s.vm) {i : Nat} {xs : List Int64} (hi : its[i]? = some (own_la Z xs)) {z : Int32} (hz : xs.length.toInt32 = z) (hd : decode c.code pc = .ok (.arraylength, 1))
    (k : own_go p e R s below n0 Q (T.setTop (mkF m (pc + 1) Ls (.int z :: stk)))) : own_go p e R s below n0 Q (T.setTop (mkF m pc Ls (.ref (n0 + i) :: stk))) := by
  obtain ⟨L, X, N, H⟩ := A
  obtain ⟨cl, g1, g2⟩ := H.2 i _ hi
  have q : cl.slots.size.toInt32 = z := by rw [g2.2.1]; simpa using hz
  subst q
  exact own_by (fun t k => X.arraylength hx g1 (State.isArrayOf_alike hZ.alike g2.2.2.1) (g := mkF m pc Ls (.ref (n0 + i) :: stk)) rfl rfl hd t k) k
theorem own_ldcI (A : own_at p l e R s m args below meth c n0 T cells slots its) (hx : p.tables.exec = Jvm.exec) (hZ : Z.Warmed39 s.vm) (hown : s.vm.findClass own = some m.cls) {index : Nat} {v : Int32} (w : (Cond.constant own index v).before a0 Z = true) (hd : decode c.code pc = .ok (.ldc index, 2))
    (k : own_go p e R s below n0 Q (T.setTop (mkF m (pc + 2) Ls (.int v :: stk)))) : own_go p e R s below n0 Q (T.setTop (mkF m pc Ls stk)) := by
  obtain ⟨L, X, N, H⟩ := A
  exact own_by (X.ldcInt hx hown (mvT hZ w) (g := mkF m pc Ls stk) rfl hd) k
theorem own_ldcJ (A : own_at p l e R s m args below meth c n0 T cells slots its) (hx : p.tables.exec = Jvm.exec) (hZ : Z.Warmed39 s.vm) (hown : s.vm.findClass own = some m.cls) {index : Nat} {v : Int64} (w : (Cond.constantLong own index v).before a0 Z = true) (hd : decode c.code pc = .ok (.ldc2_w index, 3))
    (k : own_go p e R s below n0 Q (T.setTop (mkF m (pc + 3) Ls (.long v :: stk)))) : own_go p e R s below n0 Q (T.setTop (mkF m pc Ls stk)) := by
  obtain ⟨L, X, N, H⟩ := A
  exact own_by (X.ldc2Long hx hown (mvT hZ w) (g := mkF m pc Ls stk) rfl hd) k
theorem own_irem (A : own_at p l e R s m args below meth c n0 T cells slots its) (hx : p.tables.exec = Jvm.exec) {x y : Int32} (hy : y ≠ 0) (hd : decode c.code pc = .ok (.irem, 1))
    (k : own_go p e R s below n0 Q (T.setTop (mkF m (pc + 1) Ls (.int (x % y) :: stk)))) : own_go p e R s below n0 Q (T.setTop (mkF m pc Ls (.int y :: .int x :: stk))) := by
  obtain ⟨L, X, N, H⟩ := A
  exact own_by (fun t k => iremM X hx (g := mkF m pc Ls (.int y :: .int x :: stk)) rfl hd rfl hy k) k
theorem own_lrem (A : own_at p l e R s m args below meth c n0 T cells slots its) (hx : p.tables.exec = Jvm.exec) {x y : Int64} (hy : y ≠ 0) (hd : decode c.code pc = .ok (.lrem, 1))
    (k : own_go p e R s below n0 Q (T.setTop (mkF m (pc + 1) Ls (.long (x % y) :: stk)))) : own_go p e R s below n0 Q (T.setTop (mkF m pc Ls (.long y :: .long x :: stk))) := by
  rw [← lrem_mod] at k
  exact own_by (fun t k => XS.lrem A.here hx (g := mkF m pc Ls (.long y :: .long x :: stk)) rfl hd rfl hy k) k
theorem own_initO (A : own_at p l e R s m args below meth c n0 T cells slots its) (hx : p.tables.exec = Jvm.exec) (hZ : Z.Warmed39 s.vm) (hown : s.vm.findClass own = some m.cls) {idx : Nat} (w1 : (Cond.methodLink own idx Lib.objectInit).before a0 Z = true) (w2 : (Cond.instanceMethod Lib.objectInit).before a0 Z = true) (w3 : (Cond.code Lib.objectInit object_method_1_code 1 none).before a0 Z = true)
    (hml : Ls.size = c.maxLocals) {a : Addr} (hd : decode c.code pc = .ok (.invokespecial idx, 3)) (hf : 1 ≤ R.frames) {W : Nat} (hW : 2 * 0 + (stk.map fun v => v.category).sum ≤ W) (hl : W + 12 ≤ R.locals)
    (k : ∀ T', own_at p l e R s m args below meth c n0 T' cells slots its → own_go p e R s below n0 Q (T'.setTop (mkF m (pc + 3) Ls stk))) : own_go p e R s below n0 Q (T.setTop (mkF m pc Ls (.ref a :: stk))) := by
  obtain ⟨L, X, N, H⟩ := A
  obtain ⟨T', X', e', st⟩ := initO X hx hZ hown w1 w2 w3 rfl (g := mkF m pc Ls (.ref a :: stk)) rfl hml rfl hd hf hW hl
  exact own_by st (k T' ⟨L, X', N, by rw [e']; exact H⟩)
/-! the end -/
theorem own_ret (A : own_at p l e R s m args below meth c n0 T cells slots its) (hx : p.tables.exec = Jvm.exec) (hlk : meth.locks = false) {w : Value} {t : FieldType} {i : Instr} (hret : meth.sig.returnType = some t) (hn : narrow t w = w)
    (hi : (i = .ireturn ∧ (t = .int ∨ t = .boolean ∨ t = .byte ∨ t = .char ∨ t = .short) ∧ ∃ z, w = .int z) ∨ (i = .lreturn ∧ t = .long ∧ ∃ z, w = .long z) ∨ (i = .dreturn ∧ t = .double ∧ ∃ z, w = .double z) ∨ (i = .freturn ∧ t = .float ∧ ∃ z, w = .float z) ∨ (i = .areturn ∧ t.isReference = true ∧ w.isRef = true))
    (hd : decode c.code pc = .ok (i, 1)) (hc : cells ≤ R.cells) (hs : slots ≤ R.slots) (hQ : Q (some w) its) : own_go p e R s below n0 Q (T.setTop (mkF m pc Ls (w :: stk))) := by
  obtain ⟨L, X, N, H⟩ := A
  obtain ⟨fs, hr, hrun, hended, hW, hsame⟩ := X.leave (v := some w) (fun h => by rw [hret] at h; cases h) hlk
  exact ⟨_, _, _, _, retOut X hx hret hn hi hd hr, hrun, hended, hQ, N, H, hW, hsame.mono hc hs⟩
theorem own_retI (A : own_at p l e R s m args below meth c n0 T cells slots its) (hx : p.tables.exec = Jvm.exec) (hlk : meth.locks = false) {w : Int32} (hret : meth.sig.returnType = some .int) (hd : decode c.code pc = .ok (.ireturn, 1)) (hc : cells ≤ R.cells) (hs : slots ≤ R.slots) (hQ : Q (some (.int w)) its) : own_go p e R s below n0 Q (T.setTop (mkF m pc Ls (.int w :: stk))) :=
  own_ret A hx hlk hret rfl (Or.inl ⟨rfl, Or.inl rfl, w, rfl⟩) hd hc hs hQ
theorem own_retJ (A : own_at p l e R s m args below meth c n0 T cells slots its) (hx : p.tables.exec = Jvm.exec) (hlk : meth.locks = false) {w : Int64} (hret : meth.sig.returnType = some .long) (hd : decode c.code pc = .ok (.lreturn, 1)) (hc : cells ≤ R.cells) (hs : slots ≤ R.slots) (hQ : Q (some (.long w)) its) : own_go p e R s below n0 Q (T.setTop (mkF m pc Ls (.long w :: stk))) :=
  own_ret A hx hlk hret rfl (Or.inr (Or.inl ⟨rfl, rfl, w, rfl⟩)) hd hc hs hQ
theorem own_retA (A : own_at p l e R s m args below meth c n0 T cells slots its) (hx : p.tables.exec = Jvm.exec) (hlk : meth.locks = false) {a : Addr} {t : FieldType} (hret : meth.sig.returnType = some t) (hn : narrow t (.ref a) = .ref a) (ht : t.isReference = true) (hd : decode c.code pc = .ok (.areturn, 1)) (hc : cells ≤ R.cells) (hs : slots ≤ R.slots) (hQ : Q (some (.ref a)) its) : own_go p e R s below n0 Q (T.setTop (mkF m pc Ls (.ref a :: stk))) :=
  own_ret A hx hlk hret hn (Or.inr (Or.inr (Or.inr (Or.inr ⟨rfl, ht, rfl⟩)))) hd hc hs hQ
theorem own_retN (A : own_at p l e R s m args below meth c n0 T cells slots its) (hx : p.tables.exec = Jvm.exec) (hlk : meth.locks = false) {w : Int32} {t : FieldType} (ht : t = .boolean ∨ t = .byte ∨ t = .char ∨ t = .short) (hret : meth.sig.returnType = some t) (hd : decode c.code pc = .ok (.ireturn, 1)) (hc : cells ≤ R.cells) (hs : slots ≤ R.slots) (hQ : Q (some (.int (nar t w))) its) : own_go p e R s below n0 Q (T.setTop (mkF m pc Ls (.int w :: stk))) := by
  obtain ⟨L, X, N, H⟩ := A
  obtain ⟨fs, hr, hrun, hended, hW, hsame⟩ := X.leave (v := some (.int (nar t w))) (fun h => by rw [hret] at h; cases h) hlk
  exact ⟨_, _, _, _, retN X hx hret ht hd hr, hrun, hended, hQ, N, H, hW, hsame.mono hc hs⟩
theorem own_retV (A : own_at p l e R s m args below meth c n0 T cells slots its) (hx : p.tables.exec = Jvm.exec) (hlk : meth.locks = false) (hret : meth.sig.returnType = none) (hd : decode c.code pc = .ok (.return_, 1)) (hc : cells ≤ R.cells) (hs : slots ≤ R.slots) (hQ : Q none its) : own_go p e R s below n0 Q (T.setTop (mkF m pc Ls [])) := by
  obtain ⟨L, X, N, H⟩ := A
  obtain ⟨fs, hr, hrun, hended, hW, hsame⟩ := X.leave (v := none) (fun _ => rfl) hlk
  exact ⟨_, _, _, _, X.returnOut hx hret hd hr, hrun, hended, hQ, N, H, hW, hsame.mono hc hs⟩
/-! contracts -/
/-- a method's contract: with these arguments, over a heap whose new part is its, it returns as Q says -/
def own_met (l : Launch) (Z : State) (n0 : Nat) (y : MethodName) (bytes : ByteArray) (maxL : Nat) (ret : Option FieldType) (rm : Room) (as : Array Value) (its : List (Cell → Prop)) (Q : Option Value → List (Cell → Prop) → Prop) : Prop :=
  ∀ (h0 : Heap) (ws : List Jvm.Cond), own_hp n0 h0 its → MetFree l y (head1 (Jvm.Cond.code y bytes maxL ret :: ws) rm) (fun a U => a = as ∧ Z.Warmed39 U.vm ∧ U.heap = h0) (fun _ _ _ _ _ => True) (fun _ U o U' => ∃ v L, o = .returned v ∧ (Fr n0 L ∧ ∃ its', Q v its' ∧ own_hp n0 U'.heap its') ∧ FrameEnd U o U' L rm.cells rm.slots)
variable {y z : MethodName} {bytes : ByteArray} {maxL : Nat} {ret : Option FieldType} {rm : Room} {as : Array Value} {Q' : Option Value → List (Cell → Prop) → Prop}
theorem own_met.of (hpn : plainFor y = true)
    (body : ∀ (p : Program) (e : Env) (s : State) (m : MethodId) (below : List Frame) (meth : Method) (c : Code) (T : State), p.tables.exec = Jvm.exec → c.code = bytes → c.maxLocals = maxL → meth.sig.returnType = ret → meth.locks = false → Z.Warmed39 s.vm → s.vm.findClass y.cls = some m.cls → meth.name = y.name → own_at p l e rm s m as below meth c n0 T 0 0 its → own_go p e rm s below n0 Q (T.setTop (entryFrame m as maxL))) :
    own_met l Z n0 y bytes maxL ret rm as its Q := by
  intro h0 ws H
  refine MetFree.of_bodySF hpn hisR ?_
  intro p e s m args below meth c s₁ Bd hml0 hP hK
  obtain ⟨rfl, hZ, hh⟩ := hP
  have X0 : Stand p l e rm s m args below meth c s₁ [] 0 0 := Stand.of_body Bd
  have e0 : s₁.heap = h0 := by rw [← hh, Bd.state]; rfl
  obtain ⟨t, v, L, its', h1, h2, h3, h4, h5, h6, h7, h8⟩ := body p e s m below meth c s₁ Bd.exec Bd.bytes hml0 Bd.returns (BodyLoose.notSynchronized Bd) hZ (findClass_of_methodNamed Bd.named) (name_of_methodNamed Bd.named Bd.method).1 ⟨[], X0, Fr.nil n0, by rw [e0]; exact H⟩
  exact ⟨t, _, h1, h2, h3, v, L, rfl, ⟨h5, its', h4, h6⟩, ⟨_, rfl⟩, h7, h8⟩
theorem own_post {A B : Pt} {rm : Room} {v : Option Value} (hP : ∃ L, (Fr n0 L ∧ ∃ its', Q' v its' ∧ own_hp n0 B.U.heap its') ∧ B.locs = A.locs ++ L ∧ B.cells = A.cells + rm.cells ∧ B.slots = A.slots + rm.slots) (X : Stand p l e R s m args below meth c B.U B.locs B.cells B.slots) (N : Fr n0 A.locs) :
    ∃ its', Q' v its' ∧ own_at p l e R s m args below meth c n0 B.U (A.cells + rm.cells) (A.slots + rm.slots) its' := by
  obtain ⟨L, ⟨h1, its', h2, h3⟩, h4, h5, h6⟩ := hP
  rw [h4, h5, h6] at X
  exact ⟨its', h2, _, X, N.app h1, h3⟩
theorem own_callS (A : own_at p l e R s m args below meth c n0 T cells slots its) (hx : p.tables.exec = Jvm.exec) (hZ : Z.Warmed39 s.vm) (hown : s.vm.findClass own = some m.cls) {index : Nat} (w1 : (Cond.methodLink own index y).before a0 Z = true) (w2 : (Cond.static y).before a0 Z = true) (w3 : (Cond.initialized y.cls).before a0 Z = true) (w4 : (Cond.code y bytes maxL ret).before a0 Z = true)
    (hy : y.cls ≠ "java/lang/invoke/MethodHandle" ∧ y.cls ≠ "java/lang/invoke/VarHandle") (M : own_met l Z n0 y bytes maxL ret rm as its Q') (hml : Ls.size = c.maxLocals) (argsL : List Value) (has : argsL.toArray = as) (hstk : stk = argsL.reverse ++ rest) {ps : List FieldType} {r : Option FieldType} (pd : parseMethodDescriptor y.desc = some ⟨ps, r⟩) (hlen : argsL.length = ps.length)
    {W : Nat} (hW : 2 * 0 + (rest.map fun v => v.category).sum ≤ W) (hd : decode c.code pc = .ok (.invokestatic index, 3)) (hf : rm.frames + 1 ≤ R.frames) (hl : W + (maxL + 11) + rm.locals ≤ R.locals) (hc : cells + rm.cells ≤ R.cells) (hs : slots + rm.slots ≤ R.slots)
    (k : ∀ (v : Option Value) (its' : List (Cell → Prop)) (T' : State), Q' v its' → own_at p l e R s m args below meth c n0 T' (cells + rm.cells) (slots + rm.slots) its' → own_go p e R s below n0 Q (T'.setTop (mkF m (pc + 3) Ls (v.toList ++ rest)))) :
    own_go p e R s below n0 Q (T.setTop (mkF m pc Ls stk)) := by
  obtain ⟨L, X, N, H⟩ := A
  subst hstk has
  obtain ⟨v, vm1, B, -, XB, hP, st⟩ := Jvm.LawKit.callS X hx (y := y) hown (mvT hZ w1) (mvT hZ w2) (mvT hZ w3) (mvT hZ w4) hy (backOf (W := W) (Q := fun v h L => Fr n0 L ∧ ∃ its', Q' v its' ∧ own_hp n0 h its') (M T.heap [] H) hZ w4 w3 hf hl) (g := mkF m pc Ls (argsL.reverse ++ rest)) rfl hml (argsL := argsL) (rest := rest) (lenOf pd hlen) rfl hW hd (fun _ _ => ⟨rfl, rfl, hc, hs⟩)
  obtain ⟨its', q1, q2⟩ := own_post hP XB N
  exact own_by st (k v its' B.U q1 q2)
theorem own_tr {u u' : State} (st : Steps p.tables e below u u') (k : own_go p e R s below n0 Q u') : own_go p e R s below n0 Q u := own_by (fun _ q => st.trans q) k
theorem own_callC (A : own_at p l e R s m args below meth c n0 T cells slots its) (hx : p.tables.exec = Jvm.exec) (hZ : Z.Warmed39 s.vm) (hown : s.vm.findClass own = some m.cls) {index : Nat} (hy1 : y.name = "<init>") (w1 : (Cond.methodLink own index y).before a0 Z = true) (w2 : (Cond.instanceMethod y).before a0 Z = true) (w3 : (Cond.initialized y.cls).before a0 Z = true) (w4 : (Cond.code y bytes maxL none).before a0 Z = true)
    (hy : y.cls ≠ "java/lang/invoke/MethodHandle" ∧ y.cls ≠ "java/lang/invoke/VarHandle") (M : own_met l Z n0 y bytes maxL none rm as its Q') (hml : Ls.size = c.maxLocals) (a : Addr) (argsL : List Value) (has : (Value.ref a :: argsL).toArray = as) (hstk : stk = argsL.reverse ++ .ref a :: rest) {ps : List FieldType} {r : Option FieldType} (pd : parseMethodDescriptor y.desc = some ⟨ps, r⟩) (hlen : argsL.length = ps.length)
    {W : Nat} (hW : 2 * 0 + (rest.map fun v => v.category).sum ≤ W) (hd : decode c.code pc = .ok (.invokespecial index, 3)) (hf : rm.frames + 1 ≤ R.frames) (hl : W + (maxL + 11) + rm.locals ≤ R.locals) (hc : cells + rm.cells ≤ R.cells) (hs : slots + rm.slots ≤ R.slots)
    (k : ∀ (v : Option Value) (its' : List (Cell → Prop)) (T' : State), Q' v its' → own_at p l e R s m args below meth c n0 T' (cells + rm.cells) (slots + rm.slots) its' → own_go p e R s below n0 Q (T'.setTop (mkF m (pc + 3) Ls (v.toList ++ rest)))) :
    own_go p e R s below n0 Q (T.setTop (mkF m pc Ls stk)) := by
  obtain ⟨L, X, N, H⟩ := A
  subst hstk has
  obtain ⟨v, vm1, B, -, XB, hP, st⟩ := X.specialBack hx (y := y) hy1 hown (mvT hZ w1) (mvT hZ w2) (mvT hZ w4) hy (backOf (W := W) (Q := fun v h L => Fr n0 L ∧ ∃ its', Q' v its' ∧ own_hp n0 h its') (M T.heap [] H) hZ w4 w3 hf hl) (g := mkF m pc Ls (argsL.reverse ++ .ref a :: rest)) rfl hml (Steps.refl _) (a := a) (argsL := argsL) (rest := rest) (lenOf pd hlen) rfl hW hd (fun _ _ => ⟨rfl, rfl, hc, hs⟩)
  obtain ⟨its', q1, q2⟩ := own_post hP XB N
  exact own_tr st (k v its' B.U q1 q2)
theorem own_callV (A : own_at p l e R s m args below meth c n0 T cells slots its) (hx : p.tables.exec = Jvm.exec) (hZ : Z.Warmed39 s.vm) (hown : s.vm.findClass own = some m.cls) {index i : Nat} (w1 : (Cond.methodLink own index y).before a0 Z = true) (w2 : (Cond.declares y).before a0 Z = true) (w3 : (Cond.selects y.cls y y).before a0 Z = true) (w4 : (Cond.instanceMethod y).before a0 Z = true) (w5 : (Cond.initialized y.cls).before a0 Z = true) (w6 : (Cond.code y bytes maxL ret).before a0 Z = true)
    (hy : y.cls ≠ "java/lang/invoke/MethodHandle" ∧ y.cls ≠ "java/lang/invoke/VarHandle") {ns : List (String × String)} {vs : List Value} (hi : its[i]? = some (own_obj Z y.cls ns vs)) (M : own_met l Z n0 y bytes maxL ret rm as its Q') (hml : Ls.size = c.maxLocals) (argsL : List Value) (has : (Value.ref (n0 + i) :: argsL).toArray = as) (hstk : stk = argsL.reverse ++ .ref (n0 + i) :: rest) {ps : List FieldType} {r : Option FieldType} (pd : parseMethodDescriptor y.desc = some ⟨ps, r⟩) (hlen : argsL.length = ps.length)
    {W : Nat} (hW : 2 * 0 + (rest.map fun v => v.category).sum ≤ W) (hd : decode c.code pc = .ok (.invokevirtual index, 3)) (hf : rm.frames + 1 ≤ R.frames) (hl : W + (maxL + 11) + rm.locals ≤ R.locals) (hc : cells + rm.cells ≤ R.cells) (hs : slots + rm.slots ≤ R.slots)
    (k : ∀ (v : Option Value) (its' : List (Cell → Prop)) (T' : State), Q' v its' → own_at p l e R s m args below meth c n0 T' (cells + rm.cells) (slots + rm.slots) its' → own_go p e R s below n0 Q (T'.setTop (mkF m (pc + 3) Ls (v.toList ++ rest)))) :
    own_go p e R s below n0 Q (T.setTop (mkF m pc Ls stk)) := by
  obtain ⟨L, X, N, H⟩ := A
  subst hstk has
  obtain ⟨cl, g1, g2⟩ := H.2 i _ hi
  obtain ⟨cq, kq, q3a, q3b, q3c⟩ := isOf (T := T) hZ rfl (g2 _ _ g1).1
  obtain ⟨v, vm1, B, -, XB, hP, st⟩ := X.virtualBack hx (y := y) (z := y) hown (mvT hZ w1) (mvT hZ w2) (notFace_of_selects (args := #[]) (mvT hZ w3)) (mvT hZ w3) (mvT hZ w4) hy (backOf (W := W) (Q := fun v h L => Fr n0 L ∧ ∃ its', Q' v its' ∧ own_hp n0 h its') (M T.heap [] H) hZ w6 w5 hf hl) q3a q3c (g := mkF m pc Ls (argsL.reverse ++ .ref (n0 + i) :: rest)) rfl hml (Steps.refl _) (argsL := argsL) (rest := rest) (lenOf pd hlen) rfl hW hd (fun _ _ => ⟨rfl, rfl, hc, hs⟩)
  obtain ⟨its', q1, q2⟩ := own_post hP XB N
  exact own_tr st (k v its' B.U q1 q2)
theorem own_callP (A : own_at p l e R s m args below meth c n0 T cells slots its) (hx : p.tables.exec = Jvm.exec) (hZ : Z.Warmed39 s.vm) (hown : s.vm.findClass own = some m.cls) {index i : Nat} (w1 : (Cond.methodLink own index y).before a0 Z = true) (w2 : (Cond.privateMethod y).before a0 Z = true) {kk : Nat} (w3 : (Cond.instantiable y.cls kk).before a0 Z = true) (w4 : (Cond.instanceMethod y).before a0 Z = true) (w5 : (Cond.initialized y.cls).before a0 Z = true) (w6 : (Cond.code y bytes maxL ret).before a0 Z = true)
    (hy : y.cls ≠ "java/lang/invoke/MethodHandle" ∧ y.cls ≠ "java/lang/invoke/VarHandle") {ns : List (String × String)} {vs : List Value} (hi : its[i]? = some (own_obj Z y.cls ns vs)) (M : own_met l Z n0 y bytes maxL ret rm as its Q') (hml : Ls.size = c.maxLocals) (argsL : List Value) (has : (Value.ref (n0 + i) :: argsL).toArray = as) (hstk : stk = argsL.reverse ++ .ref (n0 + i) :: rest) {ps : List FieldType} {r : Option FieldType} (pd : parseMethodDescriptor y.desc = some ⟨ps, r⟩) (hlen : argsL.length = ps.length)
    {W : Nat} (hW : 2 * 0 + (rest.map fun v => v.category).sum ≤ W) (hd : decode c.code pc = .ok (.invokevirtual index, 3)) (hf : rm.frames + 1 ≤ R.frames) (hl : W + (maxL + 11) + rm.locals ≤ R.locals) (hc : cells + rm.cells ≤ R.cells) (hs : slots + rm.slots ≤ R.slots)
    (k : ∀ (v : Option Value) (its' : List (Cell → Prop)) (T' : State), Q' v its' → own_at p l e R s m args below meth c n0 T' (cells + rm.cells) (slots + rm.slots) its' → own_go p e R s below n0 Q (T'.setTop (mkF m (pc + 3) Ls (v.toList ++ rest)))) :
    own_go p e R s below n0 Q (T.setTop (mkF m pc Ls stk)) := by
  obtain ⟨L, X, N, H⟩ := A
  subst hstk has
  obtain ⟨cl, g1, g2⟩ := H.2 i _ hi
  obtain ⟨cq, q3a, q3b⟩ := (g2 _ _ g1).1.cell
  obtain ⟨c1, k1, i1, i2, -, i4, -⟩ := Cond.instantiable_spec (mvT (s := s) (args := args) hZ w3)
  have hpr : s.PrivateAt y := Cond.privateMethod_at (mvP hZ w2 (args := #[]))
  have hsel : (Cond.selects y.cls y y).before args s = true := selects_self_of_private i1 i2 (Bool.or_eq_false_iff.mp i4).1 hpr (mvT hZ w4) hy
  obtain ⟨v, vm1, B, -, XB, hP, st⟩ := X.privateBack hx (y := y) hown (mvT hZ w1) (mvT hZ w4) hsel hpr (mvT hZ w6) hy (backOf (W := W) (Q := fun v h L => Fr n0 L ∧ ∃ its', Q' v its' ∧ own_hp n0 h its') (M T.heap [] H) hZ w6 w5 hf hl) (g := mkF m pc Ls (argsL.reverse ++ .ref (n0 + i) :: rest)) rfl hml (Steps.refl _) (a := n0 + i) q3a q3b (argsL := argsL) (rest := rest) (lenOf pd hlen) rfl hW hd (fun _ _ => ⟨rfl, rfl, hc, hs⟩)
  obtain ⟨its', q1, q2⟩ := own_post hP XB N
  exact own_tr st (k v its' B.U q1 q2)
/-! comparisons of longs -/
theorem own_lc_lt {x y : Int64} (h : x < y) : lcmpW x y < 0 := by rw [lcW]; exact (lc_lt x y).mpr h
theorem own_lc_nlt {x y : Int64} (h : ¬ x < y) : ¬ lcmpW x y < 0 := by rw [lcW]; exact fun q => h ((lc_lt x y).mp q)
theorem own_lc_gt {x y : Int64} (h : y < x) : 0 < lcmpW x y := by rw [lcW]; exact (lc_gt x y).mpr h
theorem own_lc_ngt {x y : Int64} (h : ¬ y < x) : ¬ 0 < lcmpW x y := by rw [lcW]; exact fun q => h ((lc_gt x y).mp q)
theorem own_lc_eq {x y : Int64} (h : x = y) : lcmpW x y = 0 := by subst h; unfold lcmpW; simp
theorem own_lc_ne {x y : Int64} (h : ¬ x = y) : ¬ lcmpW x y = 0 := by
  unfold lcmpW
  (repeat' split) <;> first | decide | (exfalso; exact h (by assumption))
end Own
section Wide
variable {p : Program} {l : Launch} {e : Env} {R : Room} {s s0 : State} {vm : Vm} {m : MethodId} {args : Array Value} {below : List Frame} {meth : Method} {c : Code} {T : State} {locs : List Loc} {cells slots n0 : Nat} {Z : State} {a0 : Array Value} {h h' : Heap} {its : List (Cell → Prop)} {Q : Option Value → List (Cell → Prop) → Prop} {pc : Nat} {Ls : Array Slot} {stk rest : List Value} {own : String}
variable {y z : MethodName} {bytes : ByteArray} {maxL : Nat} {ret : Option FieldType} {rm : Room} {as : Array Value} {Q' : Option Value → List (Cell → Prop) → Prop}
def owx_go (p : Program) (e : Env) (R : Room) (s : State) (below : List Frame) (n0 : Nat) (Q : Option Value → List (Cell → Prop) → Prop) (u : State) : Prop :=
  ∃ (t : State) (v : Option Value) (L : List Loc) (its : List (Cell → Prop)), Steps p.tables e below u t ∧ t.status = .running ∧ Ended t below (.returned v) ∧ Q v its ∧ Fr n0 L ∧ own_hp n0 t.heap its ∧ ReturnedEndW s (.returned v) t L R.cells R.slots
theorem owx_by {u u' : State} (q : ∀ target, Steps p.tables e below u' target → Steps p.tables e below u target) (k : owx_go p e R s0 below n0 Q u') : owx_go p e R s0 below n0 Q u := by
  obtain ⟨t, v, L, i, h1, r⟩ := k
  exact ⟨t, v, L, i, q t h1, r⟩
theorem owx_tr {u u' : State} (st : Steps p.tables e below u u') (k : owx_go p e R s0 below n0 Q u') : owx_go p e R s0 below n0 Q u := owx_by (fun _ q => st.trans q) k
theorem owx_new (A : own_at p l e R s m args below meth c n0 T cells slots its) (hx : p.tables.exec = Jvm.exec) (hZ : Z.Warmed39 s.vm) {C : String} {index n : Nat} (hown : s.vm.findClass own = some m.cls) (w : (Cond.classLink own index C).before a0 Z = true) (wi : (Cond.instantiable C n).before a0 Z = true) (wz : (Cond.initialized C).before a0 Z = true)
    {ns : List (String × String)} {vs : List Value} (hns : ∀ f ∈ ns.zip vs, Laid Z a0 C C f.1.1 f.1.2 ∧ ∃ ty, parseFieldDescriptor f.1.2 = some ty ∧ f.2 = defaultValue ty)
    (hd : decode c.code pc = .ok (.new index, 3)) (hc : cells + 1 ≤ R.cells) (hl : slots + n ≤ R.slots)
    (k : ∀ T', own_at p l e R s m args below meth c n0 T' (cells + 1) (slots + n) (its ++ [own_obj Z C ns vs]) → owx_go p e R s0 below n0 Q (T'.setTop (mkF m (pc + 3) Ls (.ref (n0 + its.length) :: stk)))) :
    owx_go p e R s0 below n0 Q (T.setTop (mkF m pc Ls stk)) := by
  obtain ⟨L, X, N, H⟩ := A
  obtain ⟨vm', cC, kC, h1, h2, h3, h4, X', st⟩ := X.newCold hx hown (mv hZ w) (mv hZ wi) (mv hZ wz) (g := mkF m pc Ls stk) rfl hd hc hl
  rw [H.1] at st
  rw [hZ.alike.findClass] at h1
  obtain ⟨kZ, z1, -⟩ := Vm.findClass_spec h1
  obtain ⟨k', z2, z3⟩ := hZ.alike.2.2 _ _ z1
  cases h2.symm.trans z2
  have ei : kC.instanceTypes = kZ.instanceTypes := by rw [z3]
  refine owx_by st (k _ ⟨L, X', N, H.push fun h2 a2 ha2 => ⟨⟨_, kZ, ha2, h1, z1, rfl, fun _ => by simp [ei]⟩, fun i f v hi hv => ?_⟩⟩)
  have hz : (ns.zip vs)[i]? = some (f, v) := List.getElem?_zip_eq_some.mpr ⟨hi, hv⟩
  obtain ⟨La, ty, ht, hdv⟩ := hns _ (List.mem_of_getElem? hz)
  obtain ⟨c1, k1, cf, kf, i1, f1, a1, a2', a3, a4, a5, a6, -⟩ := La.spec
  cases h1.symm.trans a1
  cases z1.symm.trans a2'
  dsimp only at hdv ht a3
  subst hdv
  exact ⟨_, cf, kf, i1, f1, ha2, a3, a4, by simp, rfl, a5, by simp [ei, a6, (State.fieldFound?_type a3 ht).2]⟩
theorem owx_getF (A : own_at p l e R s m args below meth c n0 T cells slots its) (hx : p.tables.exec = Jvm.exec) (hZ : Z.Warmed39 s.vm) {C n d : String} {index i : Nat} (hown : s.vm.findClass own = some m.cls) (w : (Cond.fieldLink own index C n d).before a0 Z = true)
    {ns : List (String × String)} {vs : List Value} (hi : its[i]? = some (own_obj Z C ns vs)) (j : Nat) (hj : ns[j]? = some (n, d)) {v : Value} (hv : vs[j]? = some v) (hd : decode c.code pc = .ok (.getfield index, 3))
    (k : ∀ T', own_at p l e R s m args below meth c n0 T' cells slots its → owx_go p e R s0 below n0 Q (T'.setTop (mkF m (pc + 3) Ls (v :: stk)))) :
    owx_go p e R s0 below n0 Q (T.setTop (mkF m pc Ls (.ref (n0 + i) :: stk))) := by
  obtain ⟨L, X, N, H⟩ := A
  obtain ⟨cl, g1, g2⟩ := H.2 i _ hi
  obtain ⟨T', X', e', st⟩ := getF X hx hZ hown (host := "") (Or.inl w) Via.refl rfl ((g2 _ _ g1).2 j _ v hj hv) (g := mkF m pc Ls (.ref (n0 + i) :: stk)) rfl rfl hd
  exact owx_by st (k T' ⟨L, X', N, by rw [e']; exact H⟩)
theorem owx_putF (A : own_at p l e R s m args below meth c n0 T cells slots its) (hx : p.tables.exec = Jvm.exec) (hZ : Z.Warmed39 s.vm) {C n d : String} {index i kk : Nat} {ty : FieldType} (hown : s.vm.findClass own = some m.cls) (w : (Cond.fieldLink own index C n d).before a0 Z = true)
    {ns : List (String × String)} {vs : List Value} (hi : its[i]? = some (own_obj Z C ns vs)) (j : Nat) (hj : ns[j]? = some (n, d)) {v v' old : Value} (hv : vs[j]? = some old) (ap : own_apart Z C ns)
    (La : (Cond.lays C C n d).before a0 Z = true ∨ ((Cond.laysFinal C C n d).before a0 Z = true ∧ own = C ∧ meth.name = "<init>")) (wi : (Cond.instantiable C kk).before a0 Z = true) (hty : parseFieldDescriptor d = some ty) (hn : narrow ty v = v') (hf : fits ty v' = true)
    (hd : decode c.code pc = .ok (.putfield index, 3)) {its2 : List (Cell → Prop)} (h2 : its.set i (own_obj Z C ns (vs.set j v')) = its2)
    (k : ∀ T', own_at p l e R s m args below meth c n0 T' cells slots its2 → owx_go p e R s0 below n0 Q (T'.setTop (mkF m (pc + 3) Ls stk))) :
    owx_go p e R s0 below n0 Q (T.setTop (mkF m pc Ls (v :: .ref (n0 + i) :: stk))) := by
  obtain ⟨L, X, N, H⟩ := A
  obtain ⟨cl, g1, g2⟩ := H.2 i _ hi
  obtain ⟨T', h', X', e', W, st⟩ := putFN X hx hZ hown w Via.refl rfl ((g2 _ _ g1).2 j _ old hj hv) (g2 _ _ g1).1 La wi hty hn hf (g := mkF m pc Ls (v :: .ref (n0 + i) :: stk)) rfl rfl hd
  have N' := Fr.snoc X' N (Nat.le_add_right n0 i)
  have W2 := W
  obtain ⟨cl2, w1, w2, w3, -⟩ := W2
  refine owx_by st (k T' ⟨_, X', N', ?_⟩)
  rw [e', ← h2]
  exact H.wr hi W fun cl3 q1 q2 => by
    cases w1.symm.trans q1
    exact q2.set ap hj hv w3 w2
theorem owx_ldcI (A : own_at p l e R s m args below meth c n0 T cells slots its) (hx : p.tables.exec = Jvm.exec) (hZ : Z.Warmed39 s.vm) (hown : s.vm.findClass own = some m.cls) {index : Nat} {v : Int32} (w : (Cond.constant own index v).before a0 Z = true) (hd : decode c.code pc = .ok (.ldc index, 2))
    (k : owx_go p e R s0 below n0 Q (T.setTop (mkF m (pc + 2) Ls (.int v :: stk)))) : owx_go p e R s0 below n0 Q (T.setTop (mkF m pc Ls stk)) := by
  obtain ⟨L, X, N, H⟩ := A
  exact owx_by (X.ldcInt hx hown (mvT hZ w) (g := mkF m pc Ls stk) rfl hd) k
theorem owx_irem (A : own_at p l e R s m args below meth c n0 T cells slots its) (hx : p.tables.exec = Jvm.exec) {x y : Int32} (hy : y ≠ 0) (hd : decode c.code pc = .ok (.irem, 1))
    (k : owx_go p e R s0 below n0 Q (T.setTop (mkF m (pc + 1) Ls (.int (x % y) :: stk)))) : owx_go p e R s0 below n0 Q (T.setTop (mkF m pc Ls (.int y :: .int x :: stk))) := by
  obtain ⟨L, X, N, H⟩ := A
  exact owx_by (fun t k => iremM X hx (g := mkF m pc Ls (.int y :: .int x :: stk)) rfl hd rfl hy k) k
theorem owx_callS (A : own_at p l e R s m args below meth c n0 T cells slots its) (hx : p.tables.exec = Jvm.exec) (hZ : Z.Warmed39 s.vm) (hown : s.vm.findClass own = some m.cls) {index : Nat} (w1 : (Cond.methodLink own index y).before a0 Z = true) (w2 : (Cond.static y).before a0 Z = true) (w3 : (Cond.initialized y.cls).before a0 Z = true) (w4 : (Cond.code y bytes maxL ret).before a0 Z = true)
    (hy : y.cls ≠ "java/lang/invoke/MethodHandle" ∧ y.cls ≠ "java/lang/invoke/VarHandle") (M : own_met l Z n0 y bytes maxL ret rm as its Q') (hml : Ls.size = c.maxLocals) (argsL : List Value) (has : argsL.toArray = as) (hstk : stk = argsL.reverse ++ rest) {ps : List FieldType} {r : Option FieldType} (pd : parseMethodDescriptor y.desc = some ⟨ps, r⟩) (hlen : argsL.length = ps.length)
    {W : Nat} (hW : 2 * 0 + (rest.map fun v => v.category).sum ≤ W) (hd : decode c.code pc = .ok (.invokestatic index, 3)) (hf : rm.frames + 1 ≤ R.frames) (hl : W + (maxL + 11) + rm.locals ≤ R.locals) (hc : cells + rm.cells ≤ R.cells) (hs : slots + rm.slots ≤ R.slots)
    (k : ∀ (v : Option Value) (its' : List (Cell → Prop)) (T' : State), Q' v its' → own_at p l e R s m args below meth c n0 T' (cells + rm.cells) (slots + rm.slots) its' → owx_go p e R s0 below n0 Q (T'.setTop (mkF m (pc + 3) Ls (v.toList ++ rest)))) :
    owx_go p e R s0 below n0 Q (T.setTop (mkF m pc Ls stk)) := by
  obtain ⟨L, X, N, H⟩ := A
  subst hstk has
  obtain ⟨v, vm1, B, -, XB, hP, st⟩ := Jvm.LawKit.callS X hx (y := y) hown (mvT hZ w1) (mvT hZ w2) (mvT hZ w3) (mvT hZ w4) hy (backOf (W := W) (Q := fun v h L => Fr n0 L ∧ ∃ its', Q' v its' ∧ own_hp n0 h its') (M T.heap [] H) hZ w4 w3 hf hl) (g := mkF m pc Ls (argsL.reverse ++ rest)) rfl hml (argsL := argsL) (rest := rest) (lenOf pd hlen) rfl hW hd (fun _ _ => ⟨rfl, rfl, hc, hs⟩)
  obtain ⟨its', q1, q2⟩ := own_post hP XB N
  exact owx_by st (k v its' B.U q1 q2)
theorem owx_callC (A : own_at p l e R s m args below meth c n0 T cells slots its) (hx : p.tables.exec = Jvm.exec) (hZ : Z.Warmed39 s.vm) (hown : s.vm.findClass own = some m.cls) {index : Nat} (hy1 : y.name = "<init>") (w1 : (Cond.methodLink own index y).before a0 Z = true) (w2 : (Cond.instanceMethod y).before a0 Z = true) (w3 : (Cond.initialized y.cls).before a0 Z = true) (w4 : (Cond.code y bytes maxL none).before a0 Z = true)
    (hy : y.cls ≠ "java/lang/invoke/MethodHandle" ∧ y.cls ≠ "java/lang/invoke/VarHandle") (M : own_met l Z n0 y bytes maxL none rm as its Q') (hml : Ls.size = c.maxLocals) (a : Addr) (argsL : List Value) (has : (Value.ref a :: argsL).toArray = as) (hstk : stk = argsL.reverse ++ .ref a :: rest) {ps : List FieldType} {r : Option FieldType} (pd : parseMethodDescriptor y.desc = some ⟨ps, r⟩) (hlen : argsL.length = ps.length)
    {W : Nat} (hW : 2 * 0 + (rest.map fun v => v.category).sum ≤ W) (hd : decode c.code pc = .ok (.invokespecial index, 3)) (hf : rm.frames + 1 ≤ R.frames) (hl : W + (maxL + 11) + rm.locals ≤ R.locals) (hc : cells + rm.cells ≤ R.cells) (hs : slots + rm.slots ≤ R.slots)
    (k : ∀ (v : Option Value) (its' : List (Cell → Prop)) (T' : State), Q' v its' → own_at p l e R s m args below meth c n0 T' (cells + rm.cells) (slots + rm.slots) its' → owx_go p e R s0 below n0 Q (T'.setTop (mkF m (pc + 3) Ls (v.toList ++ rest)))) :
    owx_go p e R s0 below n0 Q (T.setTop (mkF m pc Ls stk)) := by
  obtain ⟨L, X, N, H⟩ := A
  subst hstk has
  obtain ⟨v, vm1, B, -, XB, hP, st⟩ := X.specialBack hx (y := y) hy1 hown (mvT hZ w1) (mvT hZ w2) (mvT hZ w4) hy (backOf (W := W) (Q := fun v h L => Fr n0 L ∧ ∃ its', Q' v its' ∧ own_hp n0 h its') (M T.heap [] H) hZ w4 w3 hf hl) (g := mkF m pc Ls (argsL.reverse ++ .ref a :: rest)) rfl hml (Steps.refl _) (a := a) (argsL := argsL) (rest := rest) (lenOf pd hlen) rfl hW hd (fun _ _ => ⟨rfl, rfl, hc, hs⟩)
  obtain ⟨its', q1, q2⟩ := own_post hP XB N
  exact owx_tr st (k v its' B.U q1 q2)
theorem owx_callV (A : own_at p l e R s m args below meth c n0 T cells slots its) (hx : p.tables.exec = Jvm.exec) (hZ : Z.Warmed39 s.vm) (hown : s.vm.findClass own = some m.cls) {index i : Nat} (w1 : (Cond.methodLink own index y).before a0 Z = true) (w2 : (Cond.declares y).before a0 Z = true) (w3 : (Cond.selects y.cls y y).before a0 Z = true) (w4 : (Cond.instanceMethod y).before a0 Z = true) (w5 : (Cond.initialized y.cls).before a0 Z = true) (w6 : (Cond.code y bytes maxL ret).before a0 Z = true)
    (hy : y.cls ≠ "java/lang/invoke/MethodHandle" ∧ y.cls ≠ "java/lang/invoke/VarHandle") {ns : List (String × String)} {vs : List Value} (hi : its[i]? = some (own_obj Z y.cls ns vs)) (M : own_met l Z n0 y bytes maxL ret rm as its Q') (hml : Ls.size = c.maxLocals) (argsL : List Value) (has : (Value.ref (n0 + i) :: argsL).toArray = as) (hstk : stk = argsL.reverse ++ .ref (n0 + i) :: rest) {ps : List FieldType} {r : Option FieldType} (pd : parseMethodDescriptor y.desc = some ⟨ps, r⟩) (hlen : argsL.length = ps.length)
    {W : Nat} (hW : 2 * 0 + (rest.map fun v => v.category).sum ≤ W) (hd : decode c.code pc = .ok (.invokevirtual index, 3)) (hf : rm.frames + 1 ≤ R.frames) (hl : W + (maxL + 11) + rm.locals ≤ R.locals) (hc : cells + rm.cells ≤ R.cells) (hs : slots + rm.slots ≤ R.slots)
    (k : ∀ (v : Option Value) (its' : List (Cell → Prop)) (T' : State), Q' v its' → own_at p l e R s m args below meth c n0 T' (cells + rm.cells) (slots + rm.slots) its' → owx_go p e R s0 below n0 Q (T'.setTop (mkF m (pc + 3) Ls (v.toList ++ rest)))) :
    owx_go p e R s0 below n0 Q (T.setTop (mkF m pc Ls stk)) := by
  obtain ⟨L, X, N, H⟩ := A
  subst hstk has
  obtain ⟨cl, g1, g2⟩ := H.2 i _ hi
  obtain ⟨cq, kq, q3a, q3b, q3c⟩ := isOf (T := T) hZ rfl (g2 _ _ g1).1
  obtain ⟨v, vm1, B, -, XB, hP, st⟩ := X.virtualBack hx (y := y) (z := y) hown (mvT hZ w1) (mvT hZ w2) (notFace_of_selects (args := #[]) (mvT hZ w3)) (mvT hZ w3) (mvT hZ w4) hy (backOf (W := W) (Q := fun v h L => Fr n0 L ∧ ∃ its', Q' v its' ∧ own_hp n0 h its') (M T.heap [] H) hZ w6 w5 hf hl) q3a q3c (g := mkF m pc Ls (argsL.reverse ++ .ref (n0 + i) :: rest)) rfl hml (Steps.refl _) (argsL := argsL) (rest := rest) (lenOf pd hlen) rfl hW hd (fun _ _ => ⟨rfl, rfl, hc, hs⟩)
  obtain ⟨its', q1, q2⟩ := own_post hP XB N
  exact owx_tr st (k v its' B.U q1 q2)
theorem owx_more {o : Outcome} {t : State} {L : List Loc} {k n k' n' : Nat} (w : ReturnedEndW s0 o t L k n) (hk : k ≤ k') (hn : n ≤ n') : ReturnedEndW s0 o t L k' n' := ⟨w.1, w.2.1, w.2.2.1, w.2.2.2.mono hk hn⟩
theorem owx_since {k k' : Nat} (hS : s0.Since vm k) (hk : k ≤ k') : s0.Since vm k' := ⟨hS.1, fun j q hj hq => ⟨(hS.2 j q hj hq).1, Nat.lt_of_lt_of_le (hS.2 j q hj hq).2 hk⟩⟩
theorem owx_ext (H : own_hp n0 h its) (E : Ext h h') : ∃ J, own_hp n0 h' (its ++ J) := by
  have e1 := E.1
  have e2 := H.1
  refine ⟨List.replicate (h'.size - h.size) (fun _ => True), by rw [List.length_append, List.length_replicate]; omega, fun i P hi => ?_⟩
  by_cases q : i < its.length
  · rw [List.getElem?_append_left q] at hi
    obtain ⟨cl, g1, g2⟩ := H.2 i P hi
    exact ⟨cl, E.2 _ _ g1, g2⟩
  · rw [List.getElem?_append_right (by omega), List.getElem?_replicate] at hi
    split at hi
    · rename_i q2
      cases hi
      have lt : n0 + i < h'.size := by omega
      exact ⟨h'[n0 + i], Array.getElem?_eq_getElem lt, trivial⟩
    · cases hi
theorem owx_ldcS (A : own_at p l e R (s0.setVm vm) m args below meth c n0 T cells slots its) (hx : p.tables.exec = Jvm.exec) (hZ : Z.Warmed39 (s0.setVm vm).vm) (hown : (s0.setVm vm).vm.findClass own = some m.cls) {k0 : Nat} (hS : s0.Since vm k0) (hk : k0 ≤ n0 + its.length) {index : Nat} {text : String} (w : (Cond.stringLink own index text).before a0 Z = true) (wS : ∀ a ∈ Bundle.stringAtoms, a.before a0 Z = true)
    (hd : decode c.code pc = .ok (.ldc index, 2)) {n : Nat} (hn : 4 * text.toList.length ≤ n) (hbig : n ≤ 536870912) (hc : cells + 2 ≤ R.cells) (hl : slots + (n + 4) ≤ R.slots)
    (k : ∀ (vm : Vm) (a : Addr) (J : List (Cell → Prop)) (T' : State), s0.Since vm (n0 + (its ++ J).length) → Z.Warmed39 (s0.setVm vm).vm → (s0.setVm vm).vm.findClass own = some m.cls → own_at p l e R (s0.setVm vm) m args below meth c n0 T' (cells + 2) (slots + (n + 4)) (its ++ J) → owx_go p e R s0 below n0 Q (T'.setTop (mkF m (pc + 2) Ls (.ref a :: stk)))) :
    owx_go p e R s0 below n0 Q (T.setTop (mkF m pc Ls stk)) := by
  obtain ⟨L, X, N, H⟩ := A
  obtain ⟨a, T', h', k1, X', e', E, hS', hk', hZ', hown', st⟩ := ldcS X hx hZ hown w wS rfl hS (by rw [H.1]; exact hk) (g := mkF m pc Ls stk) rfl hd hn hbig hc hl
  obtain ⟨J, HJ⟩ := owx_ext H E
  exact owx_by st (k T'.vm a J T' (owx_since hS' (by rw [← HJ.1]; exact hk')) hZ' hown' ⟨L, X', N, by rw [e']; exact HJ⟩)
theorem owx_ret (A : own_at p l e R (s0.setVm vm) m args below meth c n0 T cells slots its) {k0 : Nat} (hS : s0.Since vm k0) (hk : k0 ≤ n0 + its.length) (hx : p.tables.exec = Jvm.exec) (hlk : meth.locks = false) {w : Value} {t : FieldType} {i : Instr} (hret : meth.sig.returnType = some t) (hn : narrow t w = w)
    (hi : (i = .ireturn ∧ (t = .int ∨ t = .boolean ∨ t = .byte ∨ t = .char ∨ t = .short) ∧ ∃ z, w = .int z) ∨ (i = .lreturn ∧ t = .long ∧ ∃ z, w = .long z) ∨ (i = .dreturn ∧ t = .double ∧ ∃ z, w = .double z) ∨ (i = .freturn ∧ t = .float ∧ ∃ z, w = .float z) ∨ (i = .areturn ∧ t.isReference = true ∧ w.isRef = true))
    (hd : decode c.code pc = .ok (i, 1)) (hc : cells ≤ R.cells) (hs : slots ≤ R.slots) (hQ : Q (some w) its) : owx_go p e R s0 below n0 Q (T.setTop (mkF m pc Ls (w :: stk))) := by
  obtain ⟨L, X, N, H⟩ := A
  obtain ⟨fs, hr, hrun, hended, hW⟩ := X.leaveW hS (by rw [H.1]; exact hk) (v := some w) (fun h => by rw [hret] at h; cases h) hlk
  exact ⟨_, _, _, _, retOut X hx hret hn hi hd hr, hrun, hended, hQ, N, H, owx_more hW hc hs⟩
theorem owx_retA (A : own_at p l e R (s0.setVm vm) m args below meth c n0 T cells slots its) {k0 : Nat} (hS : s0.Since vm k0) (hk : k0 ≤ n0 + its.length) (hx : p.tables.exec = Jvm.exec) (hlk : meth.locks = false) {a : Addr} {t : FieldType} (hret : meth.sig.returnType = some t) (hn : narrow t (.ref a) = .ref a) (ht : t.isReference = true) (hd : decode c.code pc = .ok (.areturn, 1)) (hc : cells ≤ R.cells) (hs : slots ≤ R.slots) (hQ : Q (some (.ref a)) its) : owx_go p e R s0 below n0 Q (T.setTop (mkF m pc Ls (.ref a :: stk))) :=
  owx_ret A hS hk hx hlk hret hn (Or.inr (Or.inr (Or.inr (Or.inr ⟨rfl, ht, rfl⟩)))) hd hc hs hQ
theorem owx_retN (A : own_at p l e R (s0.setVm vm) m args below meth c n0 T cells slots its) {k0 : Nat} (hS : s0.Since vm k0) (hk : k0 ≤ n0 + its.length) (hx : p.tables.exec = Jvm.exec) (hlk : meth.locks = false) {w : Int32} {t : FieldType} (ht : t = .boolean ∨ t = .byte ∨ t = .char ∨ t = .short) (hret : meth.sig.returnType = some t) (hd : decode c.code pc = .ok (.ireturn, 1)) (hc : cells ≤ R.cells) (hs : slots ≤ R.slots) (hQ : Q (some (.int (nar t w))) its) : owx_go p e R s0 below n0 Q (T.setTop (mkF m pc Ls (.int w :: stk))) := by
  obtain ⟨L, X, N, H⟩ := A
  obtain ⟨fs, hr, hrun, hended, hW⟩ := X.leaveW hS (by rw [H.1]; exact hk) (v := some (.int (nar t w))) (fun h => by rw [hret] at h; cases h) hlk
  exact ⟨_, _, _, _, retN X hx hret ht hd hr, hrun, hended, hQ, N, H, owx_more hW hc hs⟩
theorem owx_retV (A : own_at p l e R (s0.setVm vm) m args below meth c n0 T cells slots its) {k0 : Nat} (hS : s0.Since vm k0) (hk : k0 ≤ n0 + its.length) (hx : p.tables.exec = Jvm.exec) (hlk : meth.locks = false) (hret : meth.sig.returnType = none) (hd : decode c.code pc = .ok (.return_, 1)) (hc : cells ≤ R.cells) (hs : slots ≤ R.slots) (hQ : Q none its) : owx_go p e R s0 below n0 Q (T.setTop (mkF m pc Ls [])) := by
  obtain ⟨L, X, N, H⟩ := A
  obtain ⟨fs, hr, hrun, hended, hW⟩ := X.leaveW hS (by rw [H.1]; exact hk) (v := none) (fun _ => rfl) hlk
  exact ⟨_, _, _, _, X.returnOut hx hret hd hr, hrun, hended, hQ, N, H, owx_more hW hc hs⟩
def owx_met (l : Launch) (Z : State) (n0 : Nat) (y : MethodName) (bytes : ByteArray) (maxL : Nat) (ret : Option FieldType) (rm : Room) (as : Array Value) (its : List (Cell → Prop)) (Q : Option Value → List (Cell → Prop) → Prop) : Prop :=
  ∀ (h0 : Heap) (ws : List Jvm.Cond), own_hp n0 h0 its → MetFree l y (head1 (Jvm.Cond.code y bytes maxL ret :: ws) rm) (fun a U => a = as ∧ Z.Warmed39 U.vm ∧ U.heap = h0) (fun _ _ _ _ _ => True) (fun _ U o U' => ∃ v L, o = .returned v ∧ (Fr n0 L ∧ ∃ its', Q v its' ∧ own_hp n0 U'.heap its') ∧ ReturnedEndW U o U' L rm.cells rm.slots)
theorem owx_met.of (hpn : plainFor y = true)
    (body : ∀ (p : Program) (e : Env) (s : State) (m : MethodId) (below : List Frame) (meth : Method) (c : Code) (T : State) (vm : Vm), p.tables.exec = Jvm.exec → c.code = bytes → c.maxLocals = maxL → meth.sig.returnType = ret → meth.locks = false → Z.Warmed39 (s.setVm vm).vm → (s.setVm vm).vm.findClass y.cls = some m.cls → meth.name = y.name → s.Since vm (n0 + its.length) → own_at p l e rm (s.setVm vm) m as below meth c n0 T 0 0 its → owx_go p e rm s below n0 Q (T.setTop (entryFrame m as maxL))) :
    owx_met l Z n0 y bytes maxL ret rm as its Q := by
  intro h0 ws H
  refine MetFree.of_bodySF hpn hisR ?_
  intro p e s m args below meth c s₁ Bd hml0 hP hK
  obtain ⟨rfl, hZ, hh⟩ := hP
  have X0 : Stand p l e rm s m args below meth c s₁ [] 0 0 := Stand.of_body Bd
  have e0 : s₁.heap = h0 := by rw [← hh, Bd.state]; rfl
  obtain ⟨t, v, L, its', h1, h2, h3, h4, h5, h6, h7⟩ := body p e s m below meth c s₁ s.vm Bd.exec Bd.bytes hml0 Bd.returns (BodyLoose.notSynchronized Bd) hZ (findClass_of_methodNamed Bd.named) (name_of_methodNamed Bd.named Bd.method).1 ((State.WarmedH.refl s).since _) ⟨[], X0, Fr.nil n0, by rw [e0]; exact H⟩
  exact ⟨t, _, h1, h2, h3, v, L, rfl, ⟨h5, its', h4, h6⟩, h7⟩
theorem owx_callCW (A : own_at p l e R (s0.setVm vm) m args below meth c n0 T cells slots its) (hx : p.tables.exec = Jvm.exec) (hZ : Z.Warmed39 (s0.setVm vm).vm) (hown : (s0.setVm vm).vm.findClass own = some m.cls) {k0 : Nat} (hS : s0.Since vm k0) (hk : k0 ≤ n0 + its.length) {index : Nat} (hy1 : y.name = "<init>") (w1 : (Cond.methodLink own index y).before a0 Z = true) (w2 : (Cond.instanceMethod y).before a0 Z = true) (w3 : (Cond.initialized y.cls).before a0 Z = true) (w4 : (Cond.code y bytes maxL none).before a0 Z = true)
    (hy : y.cls ≠ "java/lang/invoke/MethodHandle" ∧ y.cls ≠ "java/lang/invoke/VarHandle") (M : owx_met l Z n0 y bytes maxL none rm as its Q') (hml : Ls.size = c.maxLocals) (a : Addr) (argsL : List Value) (has : (Value.ref a :: argsL).toArray = as) (hstk : stk = argsL.reverse ++ .ref a :: rest) {ps : List FieldType} {r : Option FieldType} (pd : parseMethodDescriptor y.desc = some ⟨ps, r⟩) (hlen : argsL.length = ps.length)
    {W : Nat} (hW : 2 * 0 + (rest.map fun v => v.category).sum ≤ W) (hd : decode c.code pc = .ok (.invokespecial index, 3)) (hf : rm.frames + 1 ≤ R.frames) (hl : W + (maxL + 11) + rm.locals ≤ R.locals) (hc : cells + rm.cells ≤ R.cells) (hs : slots + rm.slots ≤ R.slots)
    (k : ∀ (vm : Vm) (v : Option Value) (its' : List (Cell → Prop)) (T' : State), s0.Since vm (n0 + its'.length) → Z.Warmed39 (s0.setVm vm).vm → (s0.setVm vm).vm.findClass own = some m.cls → Q' v its' → own_at p l e R (s0.setVm vm) m args below meth c n0 T' (cells + rm.cells) (slots + rm.slots) its' → owx_go p e R s0 below n0 Q (T'.setTop (mkF m (pc + 3) Ls (v.toList ++ rest)))) :
    owx_go p e R s0 below n0 Q (T.setTop (mkF m pc Ls stk)) := by
  obtain ⟨L, X, N, H⟩ := A
  subst hstk has
  obtain ⟨v, vm1, B, -, XB, hS2, hg, hP, st⟩ := X.specialBackS hx (y := y) hy1 hown (mvT hZ w1) (mvT hZ w2) (mvT hZ w4) hy (backOfS (W := W) (Q := fun v h L => Fr n0 L ∧ ∃ its', Q' v its' ∧ own_hp n0 h its') (M T.heap [] H) hZ w4 w3 hf hl) (g := mkF m pc Ls (argsL.reverse ++ .ref a :: rest)) rfl hml (Steps.refl _) (a := a) (argsL := argsL) (rest := rest) (lenOf pd hlen) rfl hW hd (fun _ _ => ⟨rfl, rfl, hc, hs⟩)
  obtain ⟨X2, S2, Z2, O2⟩ := rebS hS (by rw [H.1]; exact hk) XB hS2 hg hZ hown
  obtain ⟨its', q1, q2⟩ := own_post hP X2 N
  have q3 := q2
  obtain ⟨_, _, _, q4⟩ := q3
  exact owx_tr st (k B.U.vm v its' B.U (by rw [← q4.1]; exact S2) Z2 O2 q1 q2)
theorem owx_callVW (A : own_at p l e R (s0.setVm vm) m args below meth c n0 T cells slots its) (hx : p.tables.exec = Jvm.exec) (hZ : Z.Warmed39 (s0.setVm vm).vm) (hown : (s0.setVm vm).vm.findClass own = some m.cls) {k0 : Nat} (hS : s0.Since vm k0) (hk : k0 ≤ n0 + its.length) {index i : Nat} (w1 : (Cond.methodLink own index y).before a0 Z = true) (w2 : (Cond.declares y).before a0 Z = true) (w3 : (Cond.selects y.cls y y).before a0 Z = true) (w4 : (Cond.instanceMethod y).before a0 Z = true) (w5 : (Cond.initialized y.cls).before a0 Z = true) (w6 : (Cond.code y bytes maxL ret).before a0 Z = true)
    (hy : y.cls ≠ "java/lang/invoke/MethodHandle" ∧ y.cls ≠ "java/lang/invoke/VarHandle") {ns : List (String × String)} {vs : List Value} (hi : its[i]? = some (own_obj Z y.cls ns vs)) (M : owx_met l Z n0 y bytes maxL ret rm as its Q') (hml : Ls.size = c.maxLocals) (argsL : List Value) (has : (Value.ref (n0 + i) :: argsL).toArray = as) (hstk : stk = argsL.reverse ++ .ref (n0 + i) :: rest) {ps : List FieldType} {r : Option FieldType} (pd : parseMethodDescriptor y.desc = some ⟨ps, r⟩) (hlen : argsL.length = ps.length)
    {W : Nat} (hW : 2 * 0 + (rest.map fun v => v.category).sum ≤ W) (hd : decode c.code pc = .ok (.invokevirtual index, 3)) (hf : rm.frames + 1 ≤ R.frames) (hl : W + (maxL + 11) + rm.locals ≤ R.locals) (hc : cells + rm.cells ≤ R.cells) (hs : slots + rm.slots ≤ R.slots)
    (k : ∀ (vm : Vm) (v : Option Value) (its' : List (Cell → Prop)) (T' : State), s0.Since vm (n0 + its'.length) → Z.Warmed39 (s0.setVm vm).vm → (s0.setVm vm).vm.findClass own = some m.cls → Q' v its' → own_at p l e R (s0.setVm vm) m args below meth c n0 T' (cells + rm.cells) (slots + rm.slots) its' → owx_go p e R s0 below n0 Q (T'.setTop (mkF m (pc + 3) Ls (v.toList ++ rest)))) :
    owx_go p e R s0 below n0 Q (T.setTop (mkF m pc Ls stk)) := by
  obtain ⟨L, X, N, H⟩ := A
  subst hstk has
  obtain ⟨cl, g1, g2⟩ := H.2 i _ hi
  obtain ⟨cq, kq, q3a, q3b, q3c⟩ := isOf (T := T) hZ rfl (g2 _ _ g1).1
  obtain ⟨v, vm1, B, -, XB, hS2, hg, hP, st⟩ := X.virtualBackS hx (y := y) (z := y) hown (mvT hZ w1) (mvT hZ w2) (notFace_of_selects (args := #[]) (mvT hZ w3)) (mvT hZ w3) (mvT hZ w4) hy (backOfS (W := W) (Q := fun v h L => Fr n0 L ∧ ∃ its', Q' v its' ∧ own_hp n0 h its') (M T.heap [] H) hZ w6 w5 hf hl) q3a q3c (g := mkF m pc Ls (argsL.reverse ++ .ref (n0 + i) :: rest)) rfl hml (Steps.refl _) (argsL := argsL) (rest := rest) (lenOf pd hlen) rfl hW hd (fun _ _ => ⟨rfl, rfl, hc, hs⟩)
  obtain ⟨X2, S2, Z2, O2⟩ := rebS hS (by rw [H.1]; exact hk) XB hS2 hg hZ hown
  obtain ⟨its', q1, q2⟩ := own_post hP X2 N
  have q3 := q2
  obtain ⟨_, _, _, q4⟩ := q3
  exact owx_tr st (k B.U.vm v its' B.U (by rw [← q4.1]; exact S2) Z2 O2 q1 q2)
theorem owx_app {i : Nat} {P : Cell → Prop} (hi : its[i]? = some P) (J : List (Cell → Prop)) : (its ++ J)[i]? = some P := by
  rw [List.getElem?_append_left (List.getElem?_eq_some_iff.mp hi).1]; exact hi
theorem owx_last (P : Cell → Prop) : (its ++ [P])[its.length]? = some P := by simp
theorem owx_ne {i j : Nat} {P P' : Cell → Prop} (h : j ≠ i) (hj : its[j]? = some P) : (its.set i P')[j]? = some P := by
  rw [List.getElem?_set_ne (fun q => h q.symm)]; exact hj
theorem owx_neq {i : Nat} {P : Cell → Prop} (hi : its[i]? = some P) : i ≠ its.length := fun q => by
  subst q; simp at hi
theorem owx_none {i : Nat} {P : Cell → Prop} (hi : its[i]? = none) (h2 : its[i]? = some P) : False := by rw [hi] at h2; cases h2
end Wide

def own_g (xs : List Int32) (j : Int32) : Int32 := xs.getD j.toNatClampNeg 0
theorem own_rd {xs : List Int32} {j : Int32} {n : Nat} (hn : xs.length = n) (h0 : 0 ≤ j.toInt) (h1 : j.toInt < n) : ¬ j < 0 ∧ xs[j.toNatClampNeg]? = some (own_g xs j) := by
  have e0 : (0 : Int32).toInt = 0 := rfl
  have q : j.toNatClampNeg < xs.length := by rw [Int32.toNatClampNeg]; omega
  refine ⟨by rw [Int32.lt_iff_toInt_lt, e0]; omega, ?_⟩
  unfold own_g
  rw [List.getD_eq_getElem?_getD, List.getElem?_eq_getElem q]; rfl
theorem own_inc {j : Int32} (d : Int32) (n : Nat) (hd : d.toInt = n) (hn : n ≤ 100) (h0 : 0 ≤ j.toInt) (h1 : j.toInt < 1000) : (j + d).toInt = j.toInt + n := by
  have b := rng32 j
  have q := c_iadd j d
  have b2 := rng32 (j + d)
  rw [hd] at q; omega
theorem own_dec {j : Int32} (d : Int32) (n : Nat) (hd : d.toInt = n) (hn : n ≤ 100) (h0 : 0 ≤ j.toInt) (h1 : j.toInt < 1000) : (j - d).toInt = j.toInt - n := by
  have b := rng32 j
  have q := c_isub j d
  have b2 := rng32 (j - d)
  rw [hd] at q; omega
theorem own_lt {a b : Int32} : a < b ↔ a.toInt < b.toInt := Int32.lt_iff_toInt_lt
theorem own_pos (x : Int32) : 0 ≤ (x &&& (2147483647 : Int32)).toInt := (c_and x 2147483647 (by decide)).1
theorem own_rem (x : Int32) (d : Int32) (n : Nat) (hd : d.toInt = n) (hn : 0 < n) : 0 ≤ ((x &&& (2147483647 : Int32)) % d).toInt ∧ ((x &&& (2147483647 : Int32)) % d).toInt < n := by
  have q := (c_irem (x &&& (2147483647 : Int32)) d n hd).1 (own_pos x)
  have m1 := Int.emod_nonneg (x &&& (2147483647 : Int32)).toInt (b := (n : Int)) (by omega)
  have m2 := Int.emod_lt_of_pos (x &&& (2147483647 : Int32)).toInt (b := (n : Int)) (by omega)
  omega

def ns_MemorySizes : List (String × String) := [("commitCapacity", "I"), ("transientMemory", "I")]
theorem ap_ns_MemorySizes {Z : State} {a0 : Array Value} (hw : ∀ d ∈ tables_1, d.before a0 Z = true) : own_apart Z "com/example/holdfast/holdfast/store/MemorySizes" ns_MemorySizes := own_apart_of (a0 := a0) (own_cons ⟨(Or.inr (hw _ (List.mem_of_getElem? (i := 31) rfl))), .int, by decide⟩ (own_cons ⟨(Or.inr (hw _ (List.mem_of_getElem? (i := 33) rfl))), .int, by decide⟩ own_nil)) (by decide +kernel)
theorem own_sa {Z : State} {a0 : Array Value} (hw : ∀ d ∈ tables_1, d.before a0 Z = true) : ∀ a ∈ Bundle.stringAtoms, a.before a0 Z = true := (own_cons (hw _ (List.mem_of_getElem? (i := 18) rfl)) (own_cons (hw _ (List.mem_of_getElem? (i := 19) rfl)) (own_cons (hw _ (List.mem_of_getElem? (i := 20) rfl)) (own_cons (hw _ (List.mem_of_getElem? (i := 21) rfl)) (own_cons (hw _ (List.mem_of_getElem? (i := 22) rfl)) (own_cons (hw _ (List.mem_of_getElem? (i := 23) rfl)) (own_cons (hw _ (List.mem_of_getElem? (i := 24) rfl)) own_nil)))))))
theorem d_jdk_30_method_1_0 : decode jdk_30_method_1_code 0 = .ok (.aload_n 0, 1) := by decide +kernel
theorem d_jdk_30_method_1_1 : decode jdk_30_method_1_code 1 = .ok (.invokespecial 1, 3) := by decide +kernel
theorem d_jdk_30_method_1_4 : decode jdk_30_method_1_code 4 = .ok (.return_, 1) := by decide +kernel
theorem pf_gR : plainFor (⟨"java/lang/Record", "<init>", "()V"⟩ : MethodName) = true := by first | exact plainFor_of_name (by first | (simp [plainName, overriddenIn]; done) | decide +kernel) | decide +kernel
theorem ef_gR (m : MethodId) (a : Addr) : entryFrame m #[(.ref a)] 1 = (mkF m 0 #[.val (.ref a)] []) := by first | (simp [entryFrame, mkF, argsToLocals, Value.category]; done) | rfl
set_option maxRecDepth 65536 in
set_option maxHeartbeats 40000000 in
theorem gR (l : Launch) (Z : State) (a0 : Array Value) (hw : ∀ d ∈ tables_1, d.before a0 Z = true) (n0 : Nat) (its : List (Cell → Prop)) (a : Addr)  :
    own_met l Z n0 (⟨"java/lang/Record", "<init>", "()V"⟩ : MethodName) jdk_30_method_1_code 1 none ({ frames := 1, cells := 0, slots := 0, locals := 12 } : Room) #[(.ref a)] its (fun v its' => v = none ∧ its' = its) := by
  refine own_met.of pf_gR ?_
  intro p e s m below meth c T0 hx hby hml hret hlk hZ hown hnm A0
  replace hown : s.vm.findClass "java/lang/Record" = some m.cls := hown
  replace hml : c.maxLocals = 1 := hml
  rw [ef_gR m a]
  show own_go _ _ _ _ _ _ _ (T0.setTop (mkF m 0 #[.val (.ref a)] []))
  refine own_by (u' := T0.setTop (mkF m 1 #[.val (.ref a)] [(.ref a)])) (fun _ k => XS.aloadN A0.here hx rfl (own_db hby d_jdk_30_method_1_0) rfl rfl k) ?_
  refine own_initO A0 hx hZ hown (hw _ (List.mem_of_getElem? (i := 14) rfl)) (hw _ (List.mem_of_getElem? (i := 15) rfl)) (hw _ (List.mem_of_getElem? (i := 16) rfl)) (by rw [hml]; rfl) (own_db hby d_jdk_30_method_1_1) (by decide) (W := 0) (by show 2 * 0 + _ ≤ _; exact Nat.le_of_eq rfl) (by decide) ?_
  intro T1 A2
  show own_go _ _ _ _ _ _ _ (T1.setTop (mkF m 4 #[.val (.ref a)] []))
  exact own_retV A2 hx hlk hret (own_db hby d_jdk_30_method_1_4) (by decide) (by decide) ⟨rfl, rfl⟩
theorem d_prog_13_method_2_0 : decode prog_13_method_2_code 0 = .ok (.iload_n 1, 1) := by decide +kernel
theorem d_prog_13_method_2_1 : decode prog_13_method_2_code 1 = .ok (.iload_n 2, 1) := by decide +kernel
theorem d_prog_13_method_2_2 : decode prog_13_method_2_code 2 = .ok (.if_icmp .lt 8, 3) := by decide +kernel
theorem d_prog_13_method_2_5 : decode prog_13_method_2_code 5 = .ok (.iload_n 1, 1) := by decide +kernel
theorem d_prog_13_method_2_6 : decode prog_13_method_2_code 6 = .ok (.iload_n 3, 1) := by decide +kernel
theorem d_prog_13_method_2_7 : decode prog_13_method_2_code 7 = .ok (.if_icmp .le 20, 3) := by decide +kernel
theorem d_prog_13_method_2_27 : decode prog_13_method_2_code 27 = .ok (.return_, 1) := by decide +kernel
theorem pf_gX : plainFor (⟨"com/example/holdfast/holdfast/store/MemorySizes", "checkRange", "(Ljava/lang/String;III)V"⟩ : MethodName) = true := by first | exact plainFor_of_name (by first | (simp [plainName, overriddenIn]; done) | decide +kernel) | decide +kernel
theorem ef_gX (m : MethodId) (a : Addr) (q0 : Int32) (q1 : Int32) (q2 : Int32) : entryFrame m #[(.ref a), (.int q0), (.int q1), (.int q2)] 4 = (mkF m 0 #[.val (.ref a), .val (.int q0), .val (.int q1), .val (.int q2)] []) := by first | (simp [entryFrame, mkF, argsToLocals, Value.category]; done) | rfl
set_option maxRecDepth 65536 in
set_option maxHeartbeats 40000000 in
theorem gX (l : Launch) (Z : State) (a0 : Array Value) (hw : ∀ d ∈ tables_1, d.before a0 Z = true) (n0 : Nat) (its : List (Cell → Prop)) (a : Addr) (q0 : Int32) (q1 : Int32) (q2 : Int32) (hk : ¬ q0 < q1 ∧ ¬ q2 < q0) :
    own_met l Z n0 (⟨"com/example/holdfast/holdfast/store/MemorySizes", "checkRange", "(Ljava/lang/String;III)V"⟩ : MethodName) prog_13_method_2_code 4 none ({ frames := 0, cells := 0, slots := 0, locals := 0 } : Room) #[(.ref a), (.int q0), (.int q1), (.int q2)] its (fun v its' => v = none ∧ its' = its) := by
  refine own_met.of pf_gX ?_
  intro p e s m below meth c T0 hx hby hml hret hlk hZ hown hnm A0
  replace hown : s.vm.findClass "com/example/holdfast/holdfast/store/MemorySizes" = some m.cls := hown
  replace hml : c.maxLocals = 4 := hml
  rw [ef_gX m a q0 q1 q2]
  show own_go _ _ _ _ _ _ _ (T0.setTop (mkF m 0 #[.val (.ref a), .val (.int q0), .val (.int q1), .val (.int q2)] []))
  refine own_by (u' := T0.setTop (mkF m 1 #[.val (.ref a), .val (.int q0), .val (.int q1), .val (.int q2)] [(.int q0)])) (fun _ k => XS.iloadN A0.here hx rfl (own_db hby d_prog_13_method_2_0) rfl k) ?_
  refine own_by (u' := T0.setTop (mkF m 2 #[.val (.ref a), .val (.int q0), .val (.int q1), .val (.int q2)] [(.int q1), (.int q0)])) (fun _ k => XS.iloadN A0.here hx rfl (own_db hby d_prog_13_method_2_1) rfl k) ?_
  refine own_by (u' := T0.setTop (mkF m 5 #[.val (.ref a), .val (.int q0), .val (.int q1), .val (.int q2)] [])) (fun _ k => XS.icmpNo A0.here hx rfl (own_db hby d_prog_13_method_2_2) rfl (flt hk.1).1 k) ?_
  refine own_by (u' := T0.setTop (mkF m 6 #[.val (.ref a), .val (.int q0), .val (.int q1), .val (.int q2)] [(.int q0)])) (fun _ k => XS.iloadN A0.here hx rfl (own_db hby d_prog_13_method_2_5) rfl k) ?_
  refine own_by (u' := T0.setTop (mkF m 7 #[.val (.ref a), .val (.int q0), .val (.int q1), .val (.int q2)] [(.int q2), (.int q0)])) (fun _ k => XS.iloadN A0.here hx rfl (own_db hby d_prog_13_method_2_6) rfl k) ?_
  refine own_by (u' := T0.setTop (mkF m 27 #[.val (.ref a), .val (.int q0), .val (.int q1), .val (.int q2)] [])) (fun _ k => XS.icmpYes A0.here hx rfl (pc0 := 7) (pc' := 27) rfl (own_db hby d_prog_13_method_2_7) rfl (flt hk.2).2.2.2 (by decide) (by decide) k) ?_
  exact own_retV A0 hx hlk hret (own_db hby d_prog_13_method_2_27) (by decide) (by decide) ⟨rfl, rfl⟩
theorem d_prog_13_method_1_0 : decode prog_13_method_1_code 0 = .ok (.aload_n 0, 1) := by decide +kernel
theorem d_prog_13_method_1_1 : decode prog_13_method_1_code 1 = .ok (.invokespecial 1, 3) := by decide +kernel
theorem pd___V : parseMethodDescriptor "()V" = some ⟨[], none⟩ := by decide +kernel
theorem d_prog_13_method_1_4 : decode prog_13_method_1_code 4 = .ok (.ldc 7, 2) := by decide +kernel
theorem d_prog_13_method_1_6 : decode prog_13_method_1_code 6 = .ok (.iload_n 1, 1) := by decide +kernel
theorem d_prog_13_method_1_7 : decode prog_13_method_1_code 7 = .ok (.bipush 9, 2) := by decide +kernel
theorem d_prog_13_method_1_9 : decode prog_13_method_1_code 9 = .ok (.ldc 11, 2) := by decide +kernel
theorem d_prog_13_method_1_11 : decode prog_13_method_1_code 11 = .ok (.invokestatic 12, 3) := by decide +kernel
theorem pd__Ljava_lang_String_III_V : parseMethodDescriptor "(Ljava/lang/String;III)V" = some ⟨[(.object "java/lang/String"), .int, .int, .int], none⟩ := by decide +kernel
theorem d_prog_13_method_1_14 : decode prog_13_method_1_code 14 = .ok (.ldc 18, 2) := by decide +kernel
theorem d_prog_13_method_1_16 : decode prog_13_method_1_code 16 = .ok (.iload_n 2, 1) := by decide +kernel
theorem d_prog_13_method_1_17 : decode prog_13_method_1_code 17 = .ok (.iconst 0, 1) := by decide +kernel
theorem d_prog_13_method_1_18 : decode prog_13_method_1_code 18 = .ok (.ldc 11, 2) := by decide +kernel
theorem d_prog_13_method_1_20 : decode prog_13_method_1_code 20 = .ok (.invokestatic 12, 3) := by decide +kernel
theorem d_prog_13_method_1_23 : decode prog_13_method_1_code 23 = .ok (.aload_n 0, 1) := by decide +kernel
theorem d_prog_13_method_1_24 : decode prog_13_method_1_code 24 = .ok (.iload_n 1, 1) := by decide +kernel
theorem d_prog_13_method_1_25 : decode prog_13_method_1_code 25 = .ok (.putfield 20, 3) := by decide +kernel
theorem d_prog_13_method_1_28 : decode prog_13_method_1_code 28 = .ok (.aload_n 0, 1) := by decide +kernel
theorem d_prog_13_method_1_29 : decode prog_13_method_1_code 29 = .ok (.iload_n 2, 1) := by decide +kernel
theorem d_prog_13_method_1_30 : decode prog_13_method_1_code 30 = .ok (.putfield 24, 3) := by decide +kernel
theorem d_prog_13_method_1_33 : decode prog_13_method_1_code 33 = .ok (.return_, 1) := by decide +kernel
theorem pf_gI : plainFor (⟨"com/example/holdfast/holdfast/store/MemorySizes", "<init>", "(II)V"⟩ : MethodName) = true := by first | exact plainFor_of_name (by first | (simp [plainName, overriddenIn]; done) | decide +kernel) | decide +kernel
theorem ef_gI (m : MethodId) (i : Nat) (n0 : Nat) (p0 : Int32) (p1 : Int32) : entryFrame m #[(.ref (n0 + i)), (.int p0), (.int p1)] 3 = (mkF m 0 #[.val (.ref (n0 + i)), .val (.int p0), .val (.int p1)] []) := by first | (simp [entryFrame, mkF, argsToLocals, Value.category]; done) | rfl
set_option maxRecDepth 65536 in
set_option maxHeartbeats 40000000 in
theorem gI (l : Launch) (Z : State) (a0 : Array Value) (hw : ∀ d ∈ tables_1, d.before a0 Z = true) (n0 : Nat) (its : List (Cell → Prop)) (i : Nat) (p0 : Int32) (p1 : Int32) (hi : its[i]? = some (own_obj Z "com/example/holdfast/holdfast/store/MemorySizes" ns_MemorySizes [(.int (0 : Int32)), (.int (0 : Int32))])) (h1 : ¬ p0 < (9 : Int32) ∧ ¬ (65535 : Int32) < p0) (h2 : ¬ p1 < (0 : Int32) ∧ ¬ (65535 : Int32) < p1) :
    owx_met l Z n0 (⟨"com/example/holdfast/holdfast/store/MemorySizes", "<init>", "(II)V"⟩ : MethodName) prog_13_method_1_code 3 none ({ frames := 2, cells := 4, slots := 148, locals := 24 } : Room) #[(.ref (n0 + i)), (.int p0), (.int p1)] its (fun v its' => v = none ∧ its'[i]? = some (own_obj Z "com/example/holdfast/holdfast/store/MemorySizes" ns_MemorySizes [(.int p0), (.int p1)]) ∧ ∀ (j : Nat) (P : Cell → Prop), j ≠ i → its[j]? = some P → its'[j]? = some P) := by
  refine owx_met.of pf_gI ?_
  intro p e s m below meth c T0 vm hx hby hml hret hlk hZ hown hnm hS A0
  replace hown : (s.setVm vm).vm.findClass "com/example/holdfast/holdfast/store/MemorySizes" = some m.cls := hown
  replace hml : c.maxLocals = 3 := hml
  rw [ef_gI m i n0 p0 p1]
  show owx_go _ _ _ _ _ _ _ (T0.setTop (mkF m 0 #[.val (.ref (n0 + i)), .val (.int p0), .val (.int p1)] []))
  refine owx_by (u' := T0.setTop (mkF m 1 #[.val (.ref (n0 + i)), .val (.int p0), .val (.int p1)] [(.ref (n0 + i))])) (fun _ k => XS.aloadN A0.here hx rfl (own_db hby d_prog_13_method_1_0) rfl rfl k) ?_
  refine owx_callC (y := (⟨"java/lang/Record", "<init>", "()V"⟩ : MethodName)) (rest := []) A0 hx hZ hown rfl (hw _ (List.mem_of_getElem? (i := 9) rfl)) (hw _ (List.mem_of_getElem? (i := 10) rfl)) (hw _ (List.mem_of_getElem? (i := 12) rfl)) (hw _ (List.mem_of_getElem? (i := 13) rfl)) (by decide) (gR l Z a0 hw n0 its (n0 + i)) (by rw [hml]; rfl) (n0 + i) [] rfl rfl pd___V rfl (W := 0) (by show 2 * 0 + _ ≤ _; exact Nat.le_of_eq rfl) (own_db hby d_prog_13_method_1_1) (by decide) (by decide) (by decide) (by decide) ?_
  intro v1 i2 T4 hq3 A5
  obtain ⟨rfl, he6⟩ := hq3
  rw [he6] at A5
  replace A5 : own_at p l e _ (s.setVm vm) m _ below meth c n0 T4 0 0 its := A5
  show owx_go _ _ _ _ _ _ _ (T4.setTop (mkF m 4 #[.val (.ref (n0 + i)), .val (.int p0), .val (.int p1)] []))
  refine owx_ldcS A5 hx hZ hown hS (by first | omega | (simp only [List.length_set, List.length_append, List.length_cons, List.length_nil]; omega)) (hw _ (List.mem_of_getElem? (i := 17) rfl)) (own_sa hw) (own_db hby d_prog_13_method_1_4) (n := 68) (by decide +kernel) (by decide) (by decide) (by decide) ?_
  intro vm a7 J8 T9 hS hZ hown A10
  replace A10 : own_at p l e _ (s.setVm vm) m _ below meth c n0 T9 2 72 (its ++ J8) := A10
  show owx_go _ _ _ _ _ _ _ (T9.setTop (mkF m 6 #[.val (.ref (n0 + i)), .val (.int p0), .val (.int p1)] [(.ref a7)]))
  refine owx_by (u' := T9.setTop (mkF m 7 #[.val (.ref (n0 + i)), .val (.int p0), .val (.int p1)] [(.int p0), (.ref a7)])) (fun _ k => XS.iloadN A10.here hx rfl (own_db hby d_prog_13_method_1_6) rfl k) ?_
  refine owx_by (u' := T9.setTop (mkF m 9 #[.val (.ref (n0 + i)), .val (.int p0), .val (.int p1)] [(.int (9 : Int32)), (.int p0), (.ref a7)])) (fun _ k => XS.bipush A10.here hx rfl (own_db hby d_prog_13_method_1_7) k) ?_
  refine owx_ldcI A10 hx hZ hown (hw _ (List.mem_of_getElem? (i := 25) rfl)) (own_db hby d_prog_13_method_1_9) ?_
  show owx_go _ _ _ _ _ _ _ (T9.setTop (mkF m 11 #[.val (.ref (n0 + i)), .val (.int p0), .val (.int p1)] [(.int (65535 : Int32)), (.int (9 : Int32)), (.int p0), (.ref a7)]))
  refine owx_callS (y := (⟨"com/example/holdfast/holdfast/store/MemorySizes", "checkRange", "(Ljava/lang/String;III)V"⟩ : MethodName)) (rest := []) A10 hx hZ hown (hw _ (List.mem_of_getElem? (i := 26) rfl)) (hw _ (List.mem_of_getElem? (i := 27) rfl)) (hw _ (List.mem_of_getElem? (i := 5) rfl)) (hw _ (List.mem_of_getElem? (i := 28) rfl)) (by decide) (gX l Z a0 hw n0 (its ++ J8) a7 p0 (9 : Int32) (65535 : Int32) h1) (by rw [hml]; rfl) [(.ref a7), (.int p0), (.int (9 : Int32)), (.int (65535 : Int32))] rfl rfl pd__Ljava_lang_String_III_V rfl (W := 0) (by show 2 * 0 + _ ≤ _; exact Nat.le_of_eq rfl) (own_db hby d_prog_13_method_1_11) (by decide) (by decide) (by decide) (by decide) ?_
  intro v11 i12 T14 hq13 A15
  obtain ⟨rfl, he16⟩ := hq13
  rw [he16] at A15
  replace A15 : own_at p l e _ (s.setVm vm) m _ below meth c n0 T14 2 72 (its ++ J8) := A15
  show owx_go _ _ _ _ _ _ _ (T14.setTop (mkF m 14 #[.val (.ref (n0 + i)), .val (.int p0), .val (.int p1)] []))
  refine owx_ldcS A15 hx hZ hown hS (by first | omega | (simp only [List.length_set, List.length_append, List.length_cons, List.length_nil]; omega)) (hw _ (List.mem_of_getElem? (i := 29) rfl)) (own_sa hw) (own_db hby d_prog_13_method_1_14) (n := 72) (by decide +kernel) (by decide) (by decide) (by decide) ?_
  intro vm a17 J18 T19 hS hZ hown A20
  replace A20 : own_at p l e _ (s.setVm vm) m _ below meth c n0 T19 4 148 ((its ++ J8) ++ J18) := A20
  show owx_go _ _ _ _ _ _ _ (T19.setTop (mkF m 16 #[.val (.ref (n0 + i)), .val (.int p0), .val (.int p1)] [(.ref a17)]))
  refine owx_by (u' := T19.setTop (mkF m 17 #[.val (.ref (n0 + i)), .val (.int p0), .val (.int p1)] [(.int p1), (.ref a17)])) (fun _ k => XS.iloadN A20.here hx rfl (own_db hby d_prog_13_method_1_16) rfl k) ?_
  refine owx_by (u' := T19.setTop (mkF m 18 #[.val (.ref (n0 + i)), .val (.int p0), .val (.int p1)] [(.int (0 : Int32)), (.int p1), (.ref a17)])) (fun _ k => XS.iconst A20.here hx rfl (own_db hby d_prog_13_method_1_17) k) ?_
  refine owx_ldcI A20 hx hZ hown (hw _ (List.mem_of_getElem? (i := 25) rfl)) (own_db hby d_prog_13_method_1_18) ?_
  show owx_go _ _ _ _ _ _ _ (T19.setTop (mkF m 20 #[.val (.ref (n0 + i)), .val (.int p0), .val (.int p1)] [(.int (65535 : Int32)), (.int (0 : Int32)), (.int p1), (.ref a17)]))
  refine owx_callS (y := (⟨"com/example/holdfast/holdfast/store/MemorySizes", "checkRange", "(Ljava/lang/String;III)V"⟩ : MethodName)) (rest := []) A20 hx hZ hown (hw _ (List.mem_of_getElem? (i := 26) rfl)) (hw _ (List.mem_of_getElem? (i := 27) rfl)) (hw _ (List.mem_of_getElem? (i := 5) rfl)) (hw _ (List.mem_of_getElem? (i := 28) rfl)) (by decide) (gX l Z a0 hw n0 ((its ++ J8) ++ J18) a17 p1 (0 : Int32) (65535 : Int32) h2) (by rw [hml]; rfl) [(.ref a17), (.int p1), (.int (0 : Int32)), (.int (65535 : Int32))] rfl rfl pd__Ljava_lang_String_III_V rfl (W := 0) (by show 2 * 0 + _ ≤ _; exact Nat.le_of_eq rfl) (own_db hby d_prog_13_method_1_20) (by decide) (by decide) (by decide) (by decide) ?_
  intro v21 i22 T24 hq23 A25
  obtain ⟨rfl, he26⟩ := hq23
  rw [he26] at A25
  replace A25 : own_at p l e _ (s.setVm vm) m _ below meth c n0 T24 4 148 ((its ++ J8) ++ J18) := A25
  show owx_go _ _ _ _ _ _ _ (T24.setTop (mkF m 23 #[.val (.ref (n0 + i)), .val (.int p0), .val (.int p1)] []))
  refine owx_by (u' := T24.setTop (mkF m 24 #[.val (.ref (n0 + i)), .val (.int p0), .val (.int p1)] [(.ref (n0 + i))])) (fun _ k => XS.aloadN A25.here hx rfl (own_db hby d_prog_13_method_1_23) rfl rfl k) ?_
  refine owx_by (u' := T24.setTop (mkF m 25 #[.val (.ref (n0 + i)), .val (.int p0), .val (.int p1)] [(.int p0), (.ref (n0 + i))])) (fun _ k => XS.iloadN A25.here hx rfl (own_db hby d_prog_13_method_1_24) rfl k) ?_
  refine owx_putF A25 hx hZ hown (hw _ (List.mem_of_getElem? (i := 30) rfl)) (i := i) (owx_app (owx_app hi _) _) 0 rfl (v' := (.int p0)) rfl (ap_ns_MemorySizes hw) (Or.inr ⟨(hw _ (List.mem_of_getElem? (i := 31) rfl)), rfl, hnm⟩) (hw _ (List.mem_of_getElem? (i := 4) rfl)) (ty := .int) (by decide) rfl rfl (own_db hby d_prog_13_method_1_25) (its2 := (((its ++ J8) ++ J18).set i (own_obj Z "com/example/holdfast/holdfast/store/MemorySizes" ns_MemorySizes [(.int p0), (.int (0 : Int32))]))) rfl ?_
  intro T27 A28
  show owx_go _ _ _ _ _ _ _ (T27.setTop (mkF m 28 #[.val (.ref (n0 + i)), .val (.int p0), .val (.int p1)] []))
  refine owx_by (u' := T27.setTop (mkF m 29 #[.val (.ref (n0 + i)), .val (.int p0), .val (.int p1)] [(.ref (n0 + i))])) (fun _ k => XS.aloadN A28.here hx rfl (own_db hby d_prog_13_method_1_28) rfl rfl k) ?_
  refine owx_by (u' := T27.setTop (mkF m 30 #[.val (.ref (n0 + i)), .val (.int p0), .val (.int p1)] [(.int p1), (.ref (n0 + i))])) (fun _ k => XS.iloadN A28.here hx rfl (own_db hby d_prog_13_method_1_29) rfl k) ?_
  refine owx_putF A28 hx hZ hown (hw _ (List.mem_of_getElem? (i := 32) rfl)) (i := i) (own_geti (owx_app (owx_app hi _) _)) 1 rfl (v' := (.int p1)) rfl (ap_ns_MemorySizes hw) (Or.inr ⟨(hw _ (List.mem_of_getElem? (i := 33) rfl)), rfl, hnm⟩) (hw _ (List.mem_of_getElem? (i := 4) rfl)) (ty := .int) (by decide) rfl rfl (own_db hby d_prog_13_method_1_30) (its2 := (((its ++ J8) ++ J18).set i (own_obj Z "com/example/holdfast/holdfast/store/MemorySizes" ns_MemorySizes [(.int p0), (.int p1)]))) (List.set_set ..) ?_
  intro T29 A30
  show owx_go _ _ _ _ _ _ _ (T29.setTop (mkF m 33 #[.val (.ref (n0 + i)), .val (.int p0), .val (.int p1)] []))
  exact owx_retV A30 hS (by first | omega | (simp only [List.length_set, List.length_append, List.length_cons, List.length_nil]; omega)) hx hlk hret (own_db hby d_prog_13_method_1_33) (by decide) (by decide) ⟨rfl, (own_geti (owx_app (owx_app hi _) _)), fun j P hj hp => owx_ne hj (owx_app (owx_app hp _) _)⟩
theorem d_prog_13_method_3_0 : decode prog_13_method_3_code 0 = .ok (.new 13, 3) := by decide +kernel
theorem d_prog_13_method_3_3 : decode prog_13_method_3_code 3 = .ok (.dup, 1) := by decide +kernel
theorem d_prog_13_method_3_4 : decode prog_13_method_3_code 4 = .ok (.iload_n 1, 1) := by decide +kernel
theorem d_prog_13_method_3_5 : decode prog_13_method_3_code 5 = .ok (.aload_n 0, 1) := by decide +kernel
theorem d_prog_13_method_3_6 : decode prog_13_method_3_code 6 = .ok (.getfield 24, 3) := by decide +kernel
theorem d_prog_13_method_3_9 : decode prog_13_method_3_code 9 = .ok (.invokespecial 36, 3) := by decide +kernel
theorem pd__II_V : parseMethodDescriptor "(II)V" = some ⟨[.int, .int], none⟩ := by decide +kernel
theorem d_prog_13_method_3_12 : decode prog_13_method_3_code 12 = .ok (.areturn, 1) := by decide +kernel
theorem pf_gW : plainFor (⟨"com/example/holdfast/holdfast/store/MemorySizes", "withCommitCapacity", "(I)Lcom/example/holdfast/holdfast/store/MemorySizes;"⟩ : MethodName) = true := by first | exact plainFor_of_name (by first | (simp [plainName, overriddenIn]; done) | decide +kernel) | decide +kernel
theorem ef_gW (m : MethodId) (i : Nat) (n0 : Nat) (q0 : Int32) : entryFrame m #[(.ref (n0 + i)), (.int q0)] 2 = (mkF m 0 #[.val (.ref (n0 + i)), .val (.int q0)] []) := by first | (simp [entryFrame, mkF, argsToLocals, Value.category]; done) | rfl
set_option maxRecDepth 65536 in
set_option maxHeartbeats 40000000 in
theorem gW (l : Launch) (Z : State) (a0 : Array Value) (hw : ∀ d ∈ tables_1, d.before a0 Z = true) (n0 : Nat) (its : List (Cell → Prop)) (i : Nat) (u0 : Int32) (u1 : Int32) (q0 : Int32) (hi : its[i]? = some (own_obj Z "com/example/holdfast/holdfast/store/MemorySizes" ns_MemorySizes [(.int u0), (.int u1)])) (h1 : ¬ q0 < (9 : Int32) ∧ ¬ (65535 : Int32) < q0) (h2 : ¬ u1 < (0 : Int32) ∧ ¬ (65535 : Int32) < u1) :
    owx_met l Z n0 (⟨"com/example/holdfast/holdfast/store/MemorySizes", "withCommitCapacity", "(I)Lcom/example/holdfast/holdfast/store/MemorySizes;"⟩ : MethodName) prog_13_method_3_code 2 (some (.object "com/example/holdfast/holdfast/store/MemorySizes")) ({ frames := 3, cells := 5, slots := 150, locals := 39 } : Room) #[(.ref (n0 + i)), (.int q0)] its (fun v its' => ∃ k, v = some (.ref (n0 + k)) ∧ its'[k]? = some (own_obj Z "com/example/holdfast/holdfast/store/MemorySizes" ns_MemorySizes [(.int q0), (.int u1)]) ∧ ∀ (j : Nat) (P : Cell → Prop), its[j]? = some P → its'[j]? = some P) := by
  refine owx_met.of pf_gW ?_
  intro p e s m below meth c T0 vm hx hby hml hret hlk hZ hown hnm hS A0
  replace hown : (s.setVm vm).vm.findClass "com/example/holdfast/holdfast/store/MemorySizes" = some m.cls := hown
  replace hml : c.maxLocals = 2 := hml
  rw [ef_gW m i n0 q0]
  show owx_go _ _ _ _ _ _ _ (T0.setTop (mkF m 0 #[.val (.ref (n0 + i)), .val (.int q0)] []))
  refine owx_new (ns := ns_MemorySizes) (vs := [(.int (0 : Int32)), (.int (0 : Int32))]) A0 hx hZ hown (hw _ (List.mem_of_getElem? (i := 39) rfl)) (hw _ (List.mem_of_getElem? (i := 4) rfl)) (hw _ (List.mem_of_getElem? (i := 5) rfl)) (own_cons ⟨(Or.inr (hw _ (List.mem_of_getElem? (i := 31) rfl))), .int, by decide, rfl⟩ (own_cons ⟨(Or.inr (hw _ (List.mem_of_getElem? (i := 33) rfl))), .int, by decide, rfl⟩ own_nil)) (own_db hby d_prog_13_method_3_0) (by decide) (by decide) ?_
  intro T1 A2
  replace A2 : own_at p l e _ (s.setVm vm) m _ below meth c n0 T1 1 2 (its ++ [(own_obj Z "com/example/holdfast/holdfast/store/MemorySizes" ns_MemorySizes [(.int (0 : Int32)), (.int (0 : Int32))])]) := A2
  show owx_go _ _ _ _ _ _ _ (T1.setTop (mkF m 3 #[.val (.ref (n0 + i)), .val (.int q0)] [(.ref (n0 + its.length))]))
  refine owx_by (u' := T1.setTop (mkF m 4 #[.val (.ref (n0 + i)), .val (.int q0)] [(.ref (n0 + its.length)), (.ref (n0 + its.length))])) (fun _ k => XS.dup A2.here hx rfl (own_db hby d_prog_13_method_3_3) rfl rfl k) ?_
  refine owx_by (u' := T1.setTop (mkF m 5 #[.val (.ref (n0 + i)), .val (.int q0)] [(.int q0), (.ref (n0 + its.length)), (.ref (n0 + its.length))])) (fun _ k => XS.iloadN A2.here hx rfl (own_db hby d_prog_13_method_3_4) rfl k) ?_
  refine owx_by (u' := T1.setTop (mkF m 6 #[.val (.ref (n0 + i)), .val (.int q0)] [(.ref (n0 + i)), (.int q0), (.ref (n0 + its.length)), (.ref (n0 + its.length))])) (fun _ k => XS.aloadN A2.here hx rfl (own_db hby d_prog_13_method_3_5) rfl rfl k) ?_
  refine owx_getF A2 hx hZ hown (hw _ (List.mem_of_getElem? (i := 32) rfl)) (i := i) (owx_app hi _) 1 rfl rfl (own_db hby d_prog_13_method_3_6) ?_
  intro T3 A4
  show owx_go _ _ _ _ _ _ _ (T3.setTop (mkF m 9 #[.val (.ref (n0 + i)), .val (.int q0)] [(.int u1), (.int q0), (.ref (n0 + its.length)), (.ref (n0 + its.length))]))
  refine owx_callCW (y := (⟨"com/example/holdfast/holdfast/store/MemorySizes", "<init>", "(II)V"⟩ : MethodName)) (rest := [(.ref (n0 + its.length))]) A4 hx hZ hown hS (by first | omega | (simp only [List.length_set, List.length_append, List.length_cons, List.length_nil]; omega)) rfl (hw _ (List.mem_of_getElem? (i := 40) rfl)) (hw _ (List.mem_of_getElem? (i := 7) rfl)) (hw _ (List.mem_of_getElem? (i := 5) rfl)) (hw _ (List.mem_of_getElem? (i := 8) rfl)) (by decide) (gI l Z a0 hw n0 (its ++ [(own_obj Z "com/example/holdfast/holdfast/store/MemorySizes" ns_MemorySizes [(.int (0 : Int32)), (.int (0 : Int32))])]) its.length q0 u1 (owx_last _) h1 h2) (by rw [hml]; rfl) (n0 + its.length) [(.int q0), (.int u1)] rfl rfl pd__II_V rfl (W := 1) (by show 2 * 0 + _ ≤ _; exact Nat.le_of_eq rfl) (own_db hby d_prog_13_method_3_9) (by decide) (by decide) (by decide) (by decide) ?_
  intro vm v7 i8 T10 hS hZ hown hq9 A11
  obtain ⟨rfl, h5, h6⟩ := hq9
  replace A11 : own_at p l e _ (s.setVm vm) m _ below meth c n0 T10 5 150 i8 := A11
  show owx_go _ _ _ _ _ _ _ (T10.setTop (mkF m 12 #[.val (.ref (n0 + i)), .val (.int q0)] [(.ref (n0 + its.length))]))
  exact owx_retA A11 hS (by first | omega | (simp only [List.length_set, List.length_append, List.length_cons, List.length_nil]; omega)) hx hlk hret rfl rfl (own_db hby d_prog_13_method_3_12) (by decide) (by decide) ⟨_, rfl, h5, fun j P hp => h6 j P (owx_neq hp) (owx_app hp _)⟩
theorem d_prog_13_method_8_0 : decode prog_13_method_8_code 0 = .ok (.aload_n 0, 1) := by decide +kernel
theorem d_prog_13_method_8_1 : decode prog_13_method_8_code 1 = .ok (.getfield 20, 3) := by decide +kernel
theorem d_prog_13_method_8_4 : decode prog_13_method_8_code 4 = .ok (.ireturn, 1) := by decide +kernel
def fC (x0 : Int32) : Int32 := x0
theorem pf_gC : plainFor (⟨"com/example/holdfast/holdfast/store/MemorySizes", "commitCapacity", "()I"⟩ : MethodName) = true := by first | exact plainFor_of_name (by first | (simp [plainName, overriddenIn]; done) | decide +kernel) | decide +kernel
theorem ef_gC (m : MethodId) (i : Nat) (n0 : Nat) : entryFrame m #[(.ref (n0 + i))] 1 = (mkF m 0 #[.val (.ref (n0 + i))] []) := by first | (simp [entryFrame, mkF, argsToLocals, Value.category]; done) | rfl
set_option maxRecDepth 65536 in
set_option maxHeartbeats 40000000 in
theorem gC (l : Launch) (Z : State) (a0 : Array Value) (hw : ∀ d ∈ tables_1, d.before a0 Z = true) (n0 : Nat) (its : List (Cell → Prop)) (i : Nat) (x0 : Int32) (x1 : Int32)  (hi : its[i]? = some (own_obj Z "com/example/holdfast/holdfast/store/MemorySizes" ns_MemorySizes [(.int x0), (.int x1)])) :
    own_met l Z n0 (⟨"com/example/holdfast/holdfast/store/MemorySizes", "commitCapacity", "()I"⟩ : MethodName) prog_13_method_8_code 1 (some .int) ({ frames := 0, cells := 0, slots := 0, locals := 0 } : Room) #[(.ref (n0 + i))] its (fun v its' => v = some (.int (fC x0)) ∧ its' = its) := by
  refine own_met.of pf_gC ?_
  intro p e s m below meth c T0 hx hby hml hret hlk hZ hown hnm A0
  replace hown : s.vm.findClass "com/example/holdfast/holdfast/store/MemorySizes" = some m.cls := hown
  replace hml : c.maxLocals = 1 := hml
  rw [ef_gC m i n0]
  show own_go _ _ _ _ _ _ _ (T0.setTop (mkF m 0 #[.val (.ref (n0 + i))] []))
  refine own_by (u' := T0.setTop (mkF m 1 #[.val (.ref (n0 + i))] [(.ref (n0 + i))])) (fun _ k => XS.aloadN A0.here hx rfl (own_db hby d_prog_13_method_8_0) rfl rfl k) ?_
  refine own_getF A0 hx hZ hown (hw _ (List.mem_of_getElem? (i := 30) rfl)) (i := i) hi 0 rfl rfl (own_db hby d_prog_13_method_8_1) ?_
  intro T1 A2
  show own_go _ _ _ _ _ _ _ (T1.setTop (mkF m 4 #[.val (.ref (n0 + i))] [(.int x0)]))
  exact own_retI A2 hx hlk hret (own_db hby d_prog_13_method_8_4) (by decide) (by decide) ⟨by rw [show fC x0 = x0 from by unfold fC; rfl] <;> rfl, rfl⟩
theorem d_prog_13_method_9_0 : decode prog_13_method_9_code 0 = .ok (.aload_n 0, 1) := by decide +kernel
theorem d_prog_13_method_9_1 : decode prog_13_method_9_code 1 = .ok (.getfield 24, 3) := by decide +kernel
theorem d_prog_13_method_9_4 : decode prog_13_method_9_code 4 = .ok (.ireturn, 1) := by decide +kernel
def fT (x1 : Int32) : Int32 := x1
theorem pf_gT : plainFor (⟨"com/example/holdfast/holdfast/store/MemorySizes", "transientMemory", "()I"⟩ : MethodName) = true := by first | exact plainFor_of_name (by first | (simp [plainName, overriddenIn]; done) | decide +kernel) | decide +kernel
theorem ef_gT (m : MethodId) (i : Nat) (n0 : Nat) : entryFrame m #[(.ref (n0 + i))] 1 = (mkF m 0 #[.val (.ref (n0 + i))] []) := by first | (simp [entryFrame, mkF, argsToLocals, Value.category]; done) | rfl
set_option maxRecDepth 65536 in
set_option maxHeartbeats 40000000 in
theorem gT (l : Launch) (Z : State) (a0 : Array Value) (hw : ∀ d ∈ tables_1, d.before a0 Z = true) (n0 : Nat) (its : List (Cell → Prop)) (i : Nat) (x0 : Int32) (x1 : Int32)  (hi : its[i]? = some (own_obj Z "com/example/holdfast/holdfast/store/MemorySizes" ns_MemorySizes [(.int x0), (.int x1)])) :
    own_met l Z n0 (⟨"com/example/holdfast/holdfast/store/MemorySizes", "transientMemory", "()I"⟩ : MethodName) prog_13_method_9_code 1 (some .int) ({ frames := 0, cells := 0, slots := 0, locals := 0 } : Room) #[(.ref (n0 + i))] its (fun v its' => v = some (.int (fT x1)) ∧ its' = its) := by
  refine own_met.of pf_gT ?_
  intro p e s m below meth c T0 hx hby hml hret hlk hZ hown hnm A0
  replace hown : s.vm.findClass "com/example/holdfast/holdfast/store/MemorySizes" = some m.cls := hown
  replace hml : c.maxLocals = 1 := hml
  rw [ef_gT m i n0]
  show own_go _ _ _ _ _ _ _ (T0.setTop (mkF m 0 #[.val (.ref (n0 + i))] []))
  refine own_by (u' := T0.setTop (mkF m 1 #[.val (.ref (n0 + i))] [(.ref (n0 + i))])) (fun _ k => XS.aloadN A0.here hx rfl (own_db hby d_prog_13_method_9_0) rfl rfl k) ?_
  refine own_getF A0 hx hZ hown (hw _ (List.mem_of_getElem? (i := 32) rfl)) (i := i) hi 1 rfl rfl (own_db hby d_prog_13_method_9_1) ?_
  intro T1 A2
  show own_go _ _ _ _ _ _ _ (T1.setTop (mkF m 4 #[.val (.ref (n0 + i))] [(.int x1)]))
  exact own_retI A2 hx hlk hret (own_db hby d_prog_13_method_9_4) (by decide) (by decide) ⟨by rw [show fT x1 = x1 from by unfold fT; rfl] <;> rfl, rfl⟩
theorem own_c9 (y : Int32) : ¬ ((9 : Int32) + ((y &&& (2147483647 : Int32)) % (65527 : Int32))) < (9 : Int32) ∧ ¬ (65535 : Int32) < ((9 : Int32) + ((y &&& (2147483647 : Int32)) % (65527 : Int32))) := by
  have r := own_rem y 65527 65527 rfl (by omega)
  have q := c_iadd 9 ((y &&& (2147483647 : Int32)) % (65527 : Int32))
  have e9 : (9 : Int32).toInt = 9 := rfl
  have e5 : (65535 : Int32).toInt = 65535 := rfl
  have b := rng32 ((9 : Int32) + ((y &&& (2147483647 : Int32)) % (65527 : Int32)))
  rw [e9] at q
  rw [own_lt, own_lt, e9, e5]; omega
theorem own_t0 (y : Int32) : ¬ (y &&& (65535 : Int32)) < (0 : Int32) ∧ ¬ (65535 : Int32) < (y &&& (65535 : Int32)) := by
  have q := c_and y 65535 (by decide)
  have e0 : (0 : Int32).toInt = 0 := rfl
  rw [own_lt, own_lt, e0]; omega
theorem pd__I_Lcom_example_holdfast_holdfast_store_MemorySizes_ : parseMethodDescriptor "(I)Lcom/example/holdfast/holdfast/store/MemorySizes;" = some ⟨[.int], some (.object "com/example/holdfast/holdfast/store/MemorySizes")⟩ := by decide +kernel
theorem pd___I : parseMethodDescriptor "()I" = some ⟨[], some .int⟩ := by decide +kernel
theorem pf_g0 : plainFor x = true := by first | exact plainFor_of_name (by first | (simp [plainName, overriddenIn]; done) | decide +kernel) | decide +kernel
theorem ef_g0 (m : MethodId) (x1 : Int32) (x2 : Int32) (x3 : Int32) : entryFrame m #[(.int x1), (.int x2), (.int x3)] maxLocals = (mkF m 0 #[.val (.int x1), .val (.int x2), .val (.int x3), .unset, .unset, .unset, .unset, .unset] []) := by first | (simp [entryFrame, mkF, argsToLocals, Value.category, maxLocals]; done) | rfl
set_option maxRecDepth 65536 in
set_option maxHeartbeats 40000000 in
theorem g0 (l : Launch) (Z : State) (a0 : Array Value) (hw : ∀ d ∈ tables_1, d.before a0 Z = true) (n0 : Nat) (x1 : Int32) (x2 : Int32) (x3 : Int32)  :
    owx_met l Z n0 x code maxLocals ret room_1 #[(.int x1), (.int x2), (.int x3)] [] (fun v _ => v = some (.int 1) ∧ True) := by
  refine owx_met.of pf_g0 ?_
  intro p e s m below meth c T0 vm hx hby hml hret hlk hZ hown hnm hS A0
  replace hown : (s.setVm vm).vm.findClass "com/example/holdfast/holdfast/store/MemorySizesWithCommitCapacityPinLaw" = some m.cls := hown
  replace hml : c.maxLocals = 8 := hml
  rw [ef_g0 m x1 x2 x3]
  show owx_go _ _ _ _ _ _ _ (T0.setTop (mkF m 0 #[.val (.int x1), .val (.int x2), .val (.int x3), .unset, .unset, .unset, .unset, .unset] []))
  refine owx_by (u' := T0.setTop (mkF m 2 #[.val (.int x1), .val (.int x2), .val (.int x3), .unset, .unset, .unset, .unset, .unset] [(.int (9 : Int32))])) (fun _ k => XS.bipush A0.here hx rfl (own_db hby at_0) k) ?_
  refine owx_by (u' := T0.setTop (mkF m 3 #[.val (.int x1), .val (.int x2), .val (.int x3), .unset, .unset, .unset, .unset, .unset] [(.int x1), (.int (9 : Int32))])) (fun _ k => XS.iloadN A0.here hx rfl (own_db hby at_2) rfl k) ?_
  refine owx_ldcI A0 hx hZ hown (hw _ (List.mem_of_getElem? (i := 0) rfl)) (own_db hby at_3) ?_
  show owx_go _ _ _ _ _ _ _ (T0.setTop (mkF m 5 #[.val (.int x1), .val (.int x2), .val (.int x3), .unset, .unset, .unset, .unset, .unset] [(.int (2147483647 : Int32)), (.int x1), (.int (9 : Int32))]))
  refine owx_by (u' := T0.setTop (mkF m 6 #[.val (.int x1), .val (.int x2), .val (.int x3), .unset, .unset, .unset, .unset, .unset] [(.int (x1 &&& (2147483647 : Int32))), (.int (9 : Int32))])) (fun _ k => XS.iand A0.here hx rfl (own_db hby at_5) rfl k) ?_
  refine owx_ldcI A0 hx hZ hown (hw _ (List.mem_of_getElem? (i := 1) rfl)) (own_db hby at_6) ?_
  show owx_go _ _ _ _ _ _ _ (T0.setTop (mkF m 8 #[.val (.int x1), .val (.int x2), .val (.int x3), .unset, .unset, .unset, .unset, .unset] [(.int (65527 : Int32)), (.int (x1 &&& (2147483647 : Int32))), (.int (9 : Int32))]))
  refine owx_irem A0 hx (by decide) (own_db hby at_8) ?_
  show owx_go _ _ _ _ _ _ _ (T0.setTop (mkF m 9 #[.val (.int x1), .val (.int x2), .val (.int x3), .unset, .unset, .unset, .unset, .unset] [(.int ((x1 &&& (2147483647 : Int32)) % (65527 : Int32))), (.int (9 : Int32))]))
  refine owx_by (u' := T0.setTop (mkF m 10 #[.val (.int x1), .val (.int x2), .val (.int x3), .unset, .unset, .unset, .unset, .unset] [(.int ((9 : Int32) + ((x1 &&& (2147483647 : Int32)) % (65527 : Int32))))])) (fun _ k => XS.iadd A0.here hx rfl (own_db hby at_9) rfl k) ?_
  refine owx_by (u' := T0.setTop (mkF m 11 #[.val (.int x1), .val (.int x2), .val (.int x3), .val (.int ((9 : Int32) + ((x1 &&& (2147483647 : Int32)) % (65527 : Int32)))), .unset, .unset, .unset, .unset] [])) (fun _ k => XS.istoreN A0.here hx rfl (own_db hby at_10) rfl (l' := #[.val (.int x1), .val (.int x2), .val (.int x3), .val (.int ((9 : Int32) + ((x1 &&& (2147483647 : Int32)) % (65527 : Int32)))), .unset, .unset, .unset, .unset]) rfl k) ?_
  refine owx_by (u' := T0.setTop (mkF m 12 #[.val (.int x1), .val (.int x2), .val (.int x3), .val (.int ((9 : Int32) + ((x1 &&& (2147483647 : Int32)) % (65527 : Int32)))), .unset, .unset, .unset, .unset] [(.int x2)])) (fun _ k => XS.iloadN A0.here hx rfl (own_db hby at_11) rfl k) ?_
  refine owx_ldcI A0 hx hZ hown (hw _ (List.mem_of_getElem? (i := 2) rfl)) (own_db hby at_12) ?_
  show owx_go _ _ _ _ _ _ _ (T0.setTop (mkF m 14 #[.val (.int x1), .val (.int x2), .val (.int x3), .val (.int ((9 : Int32) + ((x1 &&& (2147483647 : Int32)) % (65527 : Int32)))), .unset, .unset, .unset, .unset] [(.int (65535 : Int32)), (.int x2)]))
  refine owx_by (u' := T0.setTop (mkF m 15 #[.val (.int x1), .val (.int x2), .val (.int x3), .val (.int ((9 : Int32) + ((x1 &&& (2147483647 : Int32)) % (65527 : Int32)))), .unset, .unset, .unset, .unset] [(.int (x2 &&& (65535 : Int32)))])) (fun _ k => XS.iand A0.here hx rfl (own_db hby at_14) rfl k) ?_
  refine owx_by (u' := T0.setTop (mkF m 17 #[.val (.int x1), .val (.int x2), .val (.int x3), .val (.int ((9 : Int32) + ((x1 &&& (2147483647 : Int32)) % (65527 : Int32)))), .val (.int (x2 &&& (65535 : Int32))), .unset, .unset, .unset] [])) (fun _ k => XS.istore A0.here hx rfl (own_db hby at_15) rfl (l' := #[.val (.int x1), .val (.int x2), .val (.int x3), .val (.int ((9 : Int32) + ((x1 &&& (2147483647 : Int32)) % (65527 : Int32)))), .val (.int (x2 &&& (65535 : Int32))), .unset, .unset, .unset]) rfl k) ?_
  refine owx_by (u' := T0.setTop (mkF m 19 #[.val (.int x1), .val (.int x2), .val (.int x3), .val (.int ((9 : Int32) + ((x1 &&& (2147483647 : Int32)) % (65527 : Int32)))), .val (.int (x2 &&& (65535 : Int32))), .unset, .unset, .unset] [(.int (9 : Int32))])) (fun _ k => XS.bipush A0.here hx rfl (own_db hby at_17) k) ?_
  refine owx_by (u' := T0.setTop (mkF m 20 #[.val (.int x1), .val (.int x2), .val (.int x3), .val (.int ((9 : Int32) + ((x1 &&& (2147483647 : Int32)) % (65527 : Int32)))), .val (.int (x2 &&& (65535 : Int32))), .unset, .unset, .unset] [(.int x3), (.int (9 : Int32))])) (fun _ k => XS.iloadN A0.here hx rfl (own_db hby at_19) rfl k) ?_
  refine owx_ldcI A0 hx hZ hown (hw _ (List.mem_of_getElem? (i := 0) rfl)) (own_db hby at_20) ?_
  show owx_go _ _ _ _ _ _ _ (T0.setTop (mkF m 22 #[.val (.int x1), .val (.int x2), .val (.int x3), .val (.int ((9 : Int32) + ((x1 &&& (2147483647 : Int32)) % (65527 : Int32)))), .val (.int (x2 &&& (65535 : Int32))), .unset, .unset, .unset] [(.int (2147483647 : Int32)), (.int x3), (.int (9 : Int32))]))
  refine owx_by (u' := T0.setTop (mkF m 23 #[.val (.int x1), .val (.int x2), .val (.int x3), .val (.int ((9 : Int32) + ((x1 &&& (2147483647 : Int32)) % (65527 : Int32)))), .val (.int (x2 &&& (65535 : Int32))), .unset, .unset, .unset] [(.int (x3 &&& (2147483647 : Int32))), (.int (9 : Int32))])) (fun _ k => XS.iand A0.here hx rfl (own_db hby at_22) rfl k) ?_
  refine owx_ldcI A0 hx hZ hown (hw _ (List.mem_of_getElem? (i := 1) rfl)) (own_db hby at_23) ?_
  show owx_go _ _ _ _ _ _ _ (T0.setTop (mkF m 25 #[.val (.int x1), .val (.int x2), .val (.int x3), .val (.int ((9 : Int32) + ((x1 &&& (2147483647 : Int32)) % (65527 : Int32)))), .val (.int (x2 &&& (65535 : Int32))), .unset, .unset, .unset] [(.int (65527 : Int32)), (.int (x3 &&& (2147483647 : Int32))), (.int (9 : Int32))]))
  refine owx_irem A0 hx (by decide) (own_db hby at_25) ?_
  show owx_go _ _ _ _ _ _ _ (T0.setTop (mkF m 26 #[.val (.int x1), .val (.int x2), .val (.int x3), .val (.int ((9 : Int32) + ((x1 &&& (2147483647 : Int32)) % (65527 : Int32)))), .val (.int (x2 &&& (65535 : Int32))), .unset, .unset, .unset] [(.int ((x3 &&& (2147483647 : Int32)) % (65527 : Int32))), (.int (9 : Int32))]))
  refine owx_by (u' := T0.setTop (mkF m 27 #[.val (.int x1), .val (.int x2), .val (.int x3), .val (.int ((9 : Int32) + ((x1 &&& (2147483647 : Int32)) % (65527 : Int32)))), .val (.int (x2 &&& (65535 : Int32))), .unset, .unset, .unset] [(.int ((9 : Int32) + ((x3 &&& (2147483647 : Int32)) % (65527 : Int32))))])) (fun _ k => XS.iadd A0.here hx rfl (own_db hby at_26) rfl k) ?_
  refine owx_by (u' := T0.setTop (mkF m 29 #[.val (.int x1), .val (.int x2), .val (.int x3), .val (.int ((9 : Int32) + ((x1 &&& (2147483647 : Int32)) % (65527 : Int32)))), .val (.int (x2 &&& (65535 : Int32))), .val (.int ((9 : Int32) + ((x3 &&& (2147483647 : Int32)) % (65527 : Int32)))), .unset, .unset] [])) (fun _ k => XS.istore A0.here hx rfl (own_db hby at_27) rfl (l' := #[.val (.int x1), .val (.int x2), .val (.int x3), .val (.int ((9 : Int32) + ((x1 &&& (2147483647 : Int32)) % (65527 : Int32)))), .val (.int (x2 &&& (65535 : Int32))), .val (.int ((9 : Int32) + ((x3 &&& (2147483647 : Int32)) % (65527 : Int32)))), .unset, .unset]) rfl k) ?_
  have J1 : ∀ (T2 : State) (cc : Int32) (tt : Int32) (bb : Int32), own_at p l e room_1 (s.setVm vm) m #[(.int x1), (.int x2), (.int x3)] below meth c n0 T2 0 0 [] → (¬ cc < (9 : Int32) ∧ ¬ (65535 : Int32) < cc) → (¬ tt < (0 : Int32) ∧ ¬ (65535 : Int32) < tt) → (¬ bb < (9 : Int32) ∧ ¬ (65535 : Int32) < bb) → owx_go p e room_1 s below n0 (fun v _ => v = some (.int 1) ∧ True) (T2.setTop (mkF m 29 #[.val (.int x1), .val (.int x2), .val (.int x3), .val (.int cc), .val (.int tt), .val (.int bb), .unset, .unset] [])) := by
    intro T2 cc tt bb A3 h1 h2 h3
    refine owx_new (ns := ns_MemorySizes) (vs := [(.int (0 : Int32)), (.int (0 : Int32))]) A3 hx hZ hown (hw _ (List.mem_of_getElem? (i := 3) rfl)) (hw _ (List.mem_of_getElem? (i := 4) rfl)) (hw _ (List.mem_of_getElem? (i := 5) rfl)) (own_cons ⟨(Or.inr (hw _ (List.mem_of_getElem? (i := 31) rfl))), .int, by decide, rfl⟩ (own_cons ⟨(Or.inr (hw _ (List.mem_of_getElem? (i := 33) rfl))), .int, by decide, rfl⟩ own_nil)) (own_db hby at_29) (by decide) (by decide) ?_
    intro T4 A5
    replace A5 : own_at p l e _ (s.setVm vm) m _ below meth c n0 T4 1 2 [(own_obj Z "com/example/holdfast/holdfast/store/MemorySizes" ns_MemorySizes [(.int (0 : Int32)), (.int (0 : Int32))])] := A5
    show owx_go _ _ _ _ _ _ _ (T4.setTop (mkF m 32 #[.val (.int x1), .val (.int x2), .val (.int x3), .val (.int cc), .val (.int tt), .val (.int bb), .unset, .unset] [(.ref (n0 + 0))]))
    refine owx_by (u' := T4.setTop (mkF m 33 #[.val (.int x1), .val (.int x2), .val (.int x3), .val (.int cc), .val (.int tt), .val (.int bb), .unset, .unset] [(.ref (n0 + 0)), (.ref (n0 + 0))])) (fun _ k => XS.dup A5.here hx rfl (own_db hby at_32) rfl rfl k) ?_
    refine owx_by (u' := T4.setTop (mkF m 34 #[.val (.int x1), .val (.int x2), .val (.int x3), .val (.int cc), .val (.int tt), .val (.int bb), .unset, .unset] [(.int cc), (.ref (n0 + 0)), (.ref (n0 + 0))])) (fun _ k => XS.iloadN A5.here hx rfl (own_db hby at_33) rfl k) ?_
    refine owx_by (u' := T4.setTop (mkF m 36 #[.val (.int x1), .val (.int x2), .val (.int x3), .val (.int cc), .val (.int tt), .val (.int bb), .unset, .unset] [(.int tt), (.int cc), (.ref (n0 + 0)), (.ref (n0 + 0))])) (fun _ k => XS.iload A5.here hx rfl (own_db hby at_34) rfl k) ?_
    refine owx_callCW (y := (⟨"com/example/holdfast/holdfast/store/MemorySizes", "<init>", "(II)V"⟩ : MethodName)) (rest := [(.ref (n0 + 0))]) A5 hx hZ hown hS (by first | omega | (simp only [List.length_set, List.length_append, List.length_cons, List.length_nil]; omega)) rfl (hw _ (List.mem_of_getElem? (i := 6) rfl)) (hw _ (List.mem_of_getElem? (i := 7) rfl)) (hw _ (List.mem_of_getElem? (i := 5) rfl)) (hw _ (List.mem_of_getElem? (i := 8) rfl)) (by decide) (gI l Z a0 hw n0 [(own_obj Z "com/example/holdfast/holdfast/store/MemorySizes" ns_MemorySizes [(.int (0 : Int32)), (.int (0 : Int32))])] 0 cc tt rfl h1 h2) (by rw [hml]; rfl) (n0 + 0) [(.int cc), (.int tt)] rfl rfl pd__II_V rfl (W := 1) (by show 2 * 0 + _ ≤ _; exact Nat.le_of_eq rfl) (own_db hby at_36) (by decide) (by decide) (by decide) (by decide) ?_
    intro vm v8 i9 T11 hS hZ hown hq10 A12
    obtain ⟨rfl, h6, h7⟩ := hq10
    replace A12 : own_at p l e _ (s.setVm vm) m _ below meth c n0 T11 5 150 i9 := A12
    show owx_go _ _ _ _ _ _ _ (T11.setTop (mkF m 39 #[.val (.int x1), .val (.int x2), .val (.int x3), .val (.int cc), .val (.int tt), .val (.int bb), .unset, .unset] [(.ref (n0 + 0))]))
    refine owx_by (u' := T11.setTop (mkF m 41 #[.val (.int x1), .val (.int x2), .val (.int x3), .val (.int cc), .val (.int tt), .val (.int bb), .val (.ref (n0 + 0)), .unset] [])) (fun _ k => XS.astore A12.here hx rfl (own_db hby at_39) rfl rfl (l' := #[.val (.int x1), .val (.int x2), .val (.int x3), .val (.int cc), .val (.int tt), .val (.int bb), .val (.ref (n0 + 0)), .unset]) rfl k) ?_
    refine owx_by (u' := T11.setTop (mkF m 43 #[.val (.int x1), .val (.int x2), .val (.int x3), .val (.int cc), .val (.int tt), .val (.int bb), .val (.ref (n0 + 0)), .unset] [(.ref (n0 + 0))])) (fun _ k => XS.aload A12.here hx rfl (own_db hby at_41) rfl rfl k) ?_
    refine owx_by (u' := T11.setTop (mkF m 45 #[.val (.int x1), .val (.int x2), .val (.int x3), .val (.int cc), .val (.int tt), .val (.int bb), .val (.ref (n0 + 0)), .unset] [(.int bb), (.ref (n0 + 0))])) (fun _ k => XS.iload A12.here hx rfl (own_db hby at_43) rfl k) ?_
    refine owx_callVW (y := (⟨"com/example/holdfast/holdfast/store/MemorySizes", "withCommitCapacity", "(I)Lcom/example/holdfast/holdfast/store/MemorySizes;"⟩ : MethodName)) (rest := []) A12 hx hZ hown hS (by first | omega | (simp only [List.length_set, List.length_append, List.length_cons, List.length_nil]; omega)) (hw _ (List.mem_of_getElem? (i := 34) rfl)) (hw _ (List.mem_of_getElem? (i := 35) rfl)) (hw _ (List.mem_of_getElem? (i := 37) rfl)) (hw _ (List.mem_of_getElem? (i := 36) rfl)) (hw _ (List.mem_of_getElem? (i := 5) rfl)) (hw _ (List.mem_of_getElem? (i := 38) rfl)) (by decide) (i := 0) h6 (gW l Z a0 hw n0 i9 0 cc tt bb h6 h3 h2) (by rw [hml]; rfl) [(.int bb)] rfl rfl pd__I_Lcom_example_holdfast_holdfast_store_MemorySizes_ rfl (W := 0) (by show 2 * 0 + _ ≤ _; exact Nat.le_of_eq rfl) (own_db hby at_45) (by decide) (by decide) (by decide) (by decide) ?_
    intro vm v16 i17 T19 hS hZ hown hq18 A20
    obtain ⟨k13, rfl, h14, h15⟩ := hq18
    replace A20 : own_at p l e _ (s.setVm vm) m _ below meth c n0 T19 10 300 i17 := A20
    show owx_go _ _ _ _ _ _ _ (T19.setTop (mkF m 48 #[.val (.int x1), .val (.int x2), .val (.int x3), .val (.int cc), .val (.int tt), .val (.int bb), .val (.ref (n0 + 0)), .unset] [(.ref (n0 + k13))]))
    refine owx_by (u' := T19.setTop (mkF m 50 #[.val (.int x1), .val (.int x2), .val (.int x3), .val (.int cc), .val (.int tt), .val (.int bb), .val (.ref (n0 + 0)), .val (.ref (n0 + k13))] [])) (fun _ k => XS.astore A20.here hx rfl (own_db hby at_48) rfl rfl (l' := #[.val (.int x1), .val (.int x2), .val (.int x3), .val (.int cc), .val (.int tt), .val (.int bb), .val (.ref (n0 + 0)), .val (.ref (n0 + k13))]) rfl k) ?_
    refine owx_by (u' := T19.setTop (mkF m 52 #[.val (.int x1), .val (.int x2), .val (.int x3), .val (.int cc), .val (.int tt), .val (.int bb), .val (.ref (n0 + 0)), .val (.ref (n0 + k13))] [(.ref (n0 + k13))])) (fun _ k => XS.aload A20.here hx rfl (own_db hby at_50) rfl rfl k) ?_
    refine owx_by (u' := T19.setTop (mkF m 55 #[.val (.int x1), .val (.int x2), .val (.int x3), .val (.int cc), .val (.int tt), .val (.int bb), .val (.ref (n0 + 0)), .val (.ref (n0 + k13))] [])) (fun _ k => XS.ifnullNo A20.here hx rfl (own_db hby at_52) rfl k) ?_
    refine owx_by (u' := T19.setTop (mkF m 57 #[.val (.int x1), .val (.int x2), .val (.int x3), .val (.int cc), .val (.int tt), .val (.int bb), .val (.ref (n0 + 0)), .val (.ref (n0 + k13))] [(.ref (n0 + k13))])) (fun _ k => XS.aload A20.here hx rfl (own_db hby at_55) rfl rfl k) ?_
    refine owx_callV (y := (⟨"com/example/holdfast/holdfast/store/MemorySizes", "commitCapacity", "()I"⟩ : MethodName)) (rest := []) A20 hx hZ hown (hw _ (List.mem_of_getElem? (i := 41) rfl)) (hw _ (List.mem_of_getElem? (i := 42) rfl)) (hw _ (List.mem_of_getElem? (i := 44) rfl)) (hw _ (List.mem_of_getElem? (i := 43) rfl)) (hw _ (List.mem_of_getElem? (i := 5) rfl)) (hw _ (List.mem_of_getElem? (i := 45) rfl)) (by decide) (i := k13) h14 (gC l Z a0 hw n0 i17 k13 bb tt  h14) (by rw [hml]; rfl) [] rfl rfl pd___I rfl (W := 0) (by show 2 * 0 + _ ≤ _; exact Nat.le_of_eq rfl) (own_db hby at_57) (by decide) (by decide) (by decide) (by decide) ?_
    intro v21 i22 T24 hq23 A25
    obtain ⟨rfl, he26⟩ := hq23
    rw [he26] at A25
    replace A25 : own_at p l e _ (s.setVm vm) m _ below meth c n0 T24 10 300 i17 := A25
    show owx_go _ _ _ _ _ _ _ (T24.setTop (mkF m 60 #[.val (.int x1), .val (.int x2), .val (.int x3), .val (.int cc), .val (.int tt), .val (.int bb), .val (.ref (n0 + 0)), .val (.ref (n0 + k13))] [(.int (fC bb))]))
    refine owx_by (u' := T24.setTop (mkF m 62 #[.val (.int x1), .val (.int x2), .val (.int x3), .val (.int cc), .val (.int tt), .val (.int bb), .val (.ref (n0 + 0)), .val (.ref (n0 + k13))] [(.int bb), (.int (fC bb))])) (fun _ k => XS.iload A25.here hx rfl (own_db hby at_60) rfl k) ?_
    refine owx_by (u' := T24.setTop (mkF m 65 #[.val (.int x1), .val (.int x2), .val (.int x3), .val (.int cc), .val (.int tt), .val (.int bb), .val (.ref (n0 + 0)), .val (.ref (n0 + k13))] [])) (fun _ k => XS.icmpNo A25.here hx rfl (own_db hby at_62) rfl (teq rfl).2 k) ?_
    refine owx_by (u' := T24.setTop (mkF m 67 #[.val (.int x1), .val (.int x2), .val (.int x3), .val (.int cc), .val (.int tt), .val (.int bb), .val (.ref (n0 + 0)), .val (.ref (n0 + k13))] [(.ref (n0 + k13))])) (fun _ k => XS.aload A25.here hx rfl (own_db hby at_65) rfl rfl k) ?_
    refine owx_callV (y := (⟨"com/example/holdfast/holdfast/store/MemorySizes", "transientMemory", "()I"⟩ : MethodName)) (rest := []) A25 hx hZ hown (hw _ (List.mem_of_getElem? (i := 46) rfl)) (hw _ (List.mem_of_getElem? (i := 47) rfl)) (hw _ (List.mem_of_getElem? (i := 49) rfl)) (hw _ (List.mem_of_getElem? (i := 48) rfl)) (hw _ (List.mem_of_getElem? (i := 5) rfl)) (hw _ (List.mem_of_getElem? (i := 50) rfl)) (by decide) (i := k13) h14 (gT l Z a0 hw n0 i17 k13 bb tt  h14) (by rw [hml]; rfl) [] rfl rfl pd___I rfl (W := 0) (by show 2 * 0 + _ ≤ _; exact Nat.le_of_eq rfl) (own_db hby at_67) (by decide) (by decide) (by decide) (by decide) ?_
    intro v27 i28 T30 hq29 A31
    obtain ⟨rfl, he32⟩ := hq29
    rw [he32] at A31
    replace A31 : own_at p l e _ (s.setVm vm) m _ below meth c n0 T30 10 300 i17 := A31
    show owx_go _ _ _ _ _ _ _ (T30.setTop (mkF m 70 #[.val (.int x1), .val (.int x2), .val (.int x3), .val (.int cc), .val (.int tt), .val (.int bb), .val (.ref (n0 + 0)), .val (.ref (n0 + k13))] [(.int (fT tt))]))
    refine owx_by (u' := T30.setTop (mkF m 72 #[.val (.int x1), .val (.int x2), .val (.int x3), .val (.int cc), .val (.int tt), .val (.int bb), .val (.ref (n0 + 0)), .val (.ref (n0 + k13))] [(.int tt), (.int (fT tt))])) (fun _ k => XS.iload A31.here hx rfl (own_db hby at_70) rfl k) ?_
    refine owx_by (u' := T30.setTop (mkF m 75 #[.val (.int x1), .val (.int x2), .val (.int x3), .val (.int cc), .val (.int tt), .val (.int bb), .val (.ref (n0 + 0)), .val (.ref (n0 + k13))] [])) (fun _ k => XS.icmpNo A31.here hx rfl (own_db hby at_72) rfl (teq rfl).2 k) ?_
    refine owx_by (u' := T30.setTop (mkF m 77 #[.val (.int x1), .val (.int x2), .val (.int x3), .val (.int cc), .val (.int tt), .val (.int bb), .val (.ref (n0 + 0)), .val (.ref (n0 + k13))] [(.ref (n0 + 0))])) (fun _ k => XS.aload A31.here hx rfl (own_db hby at_75) rfl rfl k) ?_
    refine owx_callV (y := (⟨"com/example/holdfast/holdfast/store/MemorySizes", "commitCapacity", "()I"⟩ : MethodName)) (rest := []) A31 hx hZ hown (hw _ (List.mem_of_getElem? (i := 41) rfl)) (hw _ (List.mem_of_getElem? (i := 42) rfl)) (hw _ (List.mem_of_getElem? (i := 44) rfl)) (hw _ (List.mem_of_getElem? (i := 43) rfl)) (hw _ (List.mem_of_getElem? (i := 5) rfl)) (hw _ (List.mem_of_getElem? (i := 45) rfl)) (by decide) (i := 0) (h15 _ _ h6) (gC l Z a0 hw n0 i17 0 cc tt  (h15 _ _ h6)) (by rw [hml]; rfl) [] rfl rfl pd___I rfl (W := 0) (by show 2 * 0 + _ ≤ _; exact Nat.le_of_eq rfl) (own_db hby at_77) (by decide) (by decide) (by decide) (by decide) ?_
    intro v33 i34 T36 hq35 A37
    obtain ⟨rfl, he38⟩ := hq35
    rw [he38] at A37
    replace A37 : own_at p l e _ (s.setVm vm) m _ below meth c n0 T36 10 300 i17 := A37
    show owx_go _ _ _ _ _ _ _ (T36.setTop (mkF m 80 #[.val (.int x1), .val (.int x2), .val (.int x3), .val (.int cc), .val (.int tt), .val (.int bb), .val (.ref (n0 + 0)), .val (.ref (n0 + k13))] [(.int (fC cc))]))
    refine owx_by (u' := T36.setTop (mkF m 81 #[.val (.int x1), .val (.int x2), .val (.int x3), .val (.int cc), .val (.int tt), .val (.int bb), .val (.ref (n0 + 0)), .val (.ref (n0 + k13))] [(.int cc), (.int (fC cc))])) (fun _ k => XS.iloadN A37.here hx rfl (own_db hby at_80) rfl k) ?_
    refine owx_by (u' := T36.setTop (mkF m 84 #[.val (.int x1), .val (.int x2), .val (.int x3), .val (.int cc), .val (.int tt), .val (.int bb), .val (.ref (n0 + 0)), .val (.ref (n0 + k13))] [])) (fun _ k => XS.icmpNo A37.here hx rfl (own_db hby at_81) rfl (teq rfl).2 k) ?_
    refine owx_by (u' := T36.setTop (mkF m 86 #[.val (.int x1), .val (.int x2), .val (.int x3), .val (.int cc), .val (.int tt), .val (.int bb), .val (.ref (n0 + 0)), .val (.ref (n0 + k13))] [(.ref (n0 + 0))])) (fun _ k => XS.aload A37.here hx rfl (own_db hby at_84) rfl rfl k) ?_
    refine owx_callV (y := (⟨"com/example/holdfast/holdfast/store/MemorySizes", "transientMemory", "()I"⟩ : MethodName)) (rest := []) A37 hx hZ hown (hw _ (List.mem_of_getElem? (i := 46) rfl)) (hw _ (List.mem_of_getElem? (i := 47) rfl)) (hw _ (List.mem_of_getElem? (i := 49) rfl)) (hw _ (List.mem_of_getElem? (i := 48) rfl)) (hw _ (List.mem_of_getElem? (i := 5) rfl)) (hw _ (List.mem_of_getElem? (i := 50) rfl)) (by decide) (i := 0) (h15 _ _ h6) (gT l Z a0 hw n0 i17 0 cc tt  (h15 _ _ h6)) (by rw [hml]; rfl) [] rfl rfl pd___I rfl (W := 0) (by show 2 * 0 + _ ≤ _; exact Nat.le_of_eq rfl) (own_db hby at_86) (by decide) (by decide) (by decide) (by decide) ?_
    intro v39 i40 T42 hq41 A43
    obtain ⟨rfl, he44⟩ := hq41
    rw [he44] at A43
    replace A43 : own_at p l e _ (s.setVm vm) m _ below meth c n0 T42 10 300 i17 := A43
    show owx_go _ _ _ _ _ _ _ (T42.setTop (mkF m 89 #[.val (.int x1), .val (.int x2), .val (.int x3), .val (.int cc), .val (.int tt), .val (.int bb), .val (.ref (n0 + 0)), .val (.ref (n0 + k13))] [(.int (fT tt))]))
    refine owx_by (u' := T42.setTop (mkF m 91 #[.val (.int x1), .val (.int x2), .val (.int x3), .val (.int cc), .val (.int tt), .val (.int bb), .val (.ref (n0 + 0)), .val (.ref (n0 + k13))] [(.int tt), (.int (fT tt))])) (fun _ k => XS.iload A43.here hx rfl (own_db hby at_89) rfl k) ?_
    refine owx_by (u' := T42.setTop (mkF m 94 #[.val (.int x1), .val (.int x2), .val (.int x3), .val (.int cc), .val (.int tt), .val (.int bb), .val (.ref (n0 + 0)), .val (.ref (n0 + k13))] [])) (fun _ k => XS.icmpNo A43.here hx rfl (own_db hby at_91) rfl (teq rfl).2 k) ?_
    refine owx_by (u' := T42.setTop (mkF m 95 #[.val (.int x1), .val (.int x2), .val (.int x3), .val (.int cc), .val (.int tt), .val (.int bb), .val (.ref (n0 + 0)), .val (.ref (n0 + k13))] [(.int (1 : Int32))])) (fun _ k => XS.iconst A43.here hx rfl (own_db hby at_94) k) ?_
    refine owx_by (u' := T42.setTop (mkF m 99 #[.val (.int x1), .val (.int x2), .val (.int x3), .val (.int cc), .val (.int tt), .val (.int bb), .val (.ref (n0 + 0)), .val (.ref (n0 + k13))] [(.int (1 : Int32))])) (fun _ k => XS.goto A43.here hx rfl (pc0 := 95) (pc' := 99) rfl (own_db hby at_95) (by decide) (by decide) k) ?_
    exact owx_retN A43 hS (by first | omega | (simp only [List.length_set, List.length_append, List.length_cons, List.length_nil]; omega)) hx hlk (t := .boolean) (by simp) hret (own_db hby at_99) (by decide) (by decide) ⟨rfl, trivial⟩
  exact J1 _ ((9 : Int32) + ((x1 &&& (2147483647 : Int32)) % (65527 : Int32))) (x2 &&& (65535 : Int32)) ((9 : Int32) + ((x3 &&& (2147483647 : Int32)) % (65527 : Int32))) (A0) (own_c9 _) (own_t0 _) (own_c9 _)
set_option maxRecDepth 65536 in
set_option maxHeartbeats 40000000 in
theorem comes_1 {Post : Tables → Env → Array Value → State → Outcome → State → Prop} (hpost : ∀ tb e args s v u, (limb_1_1.after args s (.returned v) u = true ∧ limb_1_2.after args s (.returned v) u = true ∧ True) → ReturnedEndW s (.returned v) u (Jvm.fieldLocs frame_1_writes args s ++ Jvm.arrayLocs frame_1_arrays args s ++ Jvm.staticLocs frame_1_statics s) 16 2176 → Post tb e args s (.returned v) u) :
    ArmFor flags0 classFile x code maxLocals ret World_1 tables_1 room_1 Calls_1 rest_1 Pre_1 Post := by
  intro l hfl _ _ p e ha hc hk s m args below hf hA hF happ hP
  obtain ⟨hcalls, hrest, hpre⟩ := hP
  obtain ⟨-, -, -, hnamed, -, -, -, hat⟩ := (Spec.applies_iff hf).mp happ
  obtain ⟨hg, hn⟩ := and_e (Cond.before_iff.mp (show (Jvm.Cond.and given_1 narrow_1).before args s = true from hpre))
  obtain ⟨h1, k0⟩ := and_e hg
  obtain ⟨j0, k1⟩ := and_e k0
  obtain ⟨j1, k2⟩ := and_e k1
  obtain ⟨w0, w1, w2, rfl⟩ : ∃ w0 w1 w2 : Value, args = #[w0, w1, w2] := by
    have hs : args.size = 3 := by simpa [Cond.value, given_1] using h1
    obtain ⟨L⟩ := args
    match L, hs with
    | [w0, w1, w2], _ => exact ⟨w0, w1, w2, rfl⟩
  have hw := fun d (hd : d ∈ tables_1) => atoms_spec (ws := Jvm.Cond.code x code maxLocals ret :: tables_1) hat d (List.mem_cons_of_mem _ hd)
  obtain ⟨i0, ei0⟩ := is_v j0
  obtain rfl : w0 = (.int i0) := Option.some.inj ei0
  obtain ⟨i1, ei1⟩ := is_v j1
  obtain rfl : w1 = (.int i1) := Option.some.inj ei1
  obtain ⟨i2, ei2⟩ := is_v k2
  obtain rfl : w2 = (.int i2) := Option.some.inj ei2
  obtain ⟨n, o, h1, h2, h3, v, L, rfl, ⟨N, its', ⟨rfl, -⟩, -⟩, hq⟩ := g0 l s _ hw s.heap.size i0 i1 i2 s.heap tables_1 ⟨rfl, fun i P q => nomatch q⟩ p e ha hc hk s m _ below hf ((Spec.applies_iff_loose hf).mp happ).1 ⟨rfl, State.Warmed39.refl s, rfl⟩ trivial
  refine ⟨n, _, h1, h2, h3, hpost _ _ _ _ _ _ ⟨Cond.after_iff.mpr rfl, Cond.after_iff.mpr (eq_i res_at (Term.int_eval (1)) rfl), trivial⟩ ⟨hq.1, hq.2.1, hq.2.2.1, (hq.2.2.2.sift fun y hy => Or.inr (N y hy)).mono (by decide) (by decide)⟩⟩
theorem main_1_1 : Claimed_1_1 := comes_1 fun _ _ _ _ _ _ h hF => ⟨h.1, hF⟩
theorem main_1_2 : Claimed_1_2 := comes_1 fun _ _ _ _ _ _ h hF => ⟨h.2.1, hF⟩
end Jvm.Pilot.@@N@@
namespace Jvm.Pilot.@@N@@
open Jvm Jvm.ClassFile Sem Op Lib Jvm.Free Jvm.Stand Jvm.Pilot.@@N@@.Jvm.D
/-! MADE BY PROGRAM (witnessworld.py) out of the Statement's table words and the real class files: 15 classes; the members and pool entries that the words name. The judged class is class 1, her method 1. -/
namespace start1
open Jvm.ClassFile
def u (s : String) : CpInfo := .utf8 (stringToUtf16 s)
/-- a pool by its gaps: so many unusable entries, then the entry; so many at the end -/
def gap : Nat → List CpInfo → List CpInfo
  | 0, r => r
  | n + 1, r => .unusable :: gap n r
def poolList (es : List (Nat × CpInfo)) (last : Nat) : List CpInfo := es.foldr (fun e r => gap e.1 (e.2 :: r)) (gap last [])
def pool (es : List (Nat × CpInfo)) (last : Nat) : Array CpInfo := ⟨poolList es last⟩
def fileOf (pool : Array CpInfo) (this : Nat) (attrs : Array Attribute := #[]) (ms : Array MethodInfo := #[]) (fl : Nat := 33) (sup : Nat := 0) (ifs : Array Nat := #[]) (fds : Array FieldInfo := #[]) : ClassFile where
  minorVersion := 0
  majorVersion := 65
  constantPool := pool
  accessFlags := fl
  thisClass := this
  superClass := sup
  interfaces := ifs
  fields := fds
  methods := ms
  attributes := attrs
def plain (name : String) (sup : Option ClassId) : Class where
  name := name
  kind := .ordinary
  loader := none
  accessFlags := 33
  super := sup
  interfaces := #[]
  cf := none
  fields := #[]
  methods := #[]
  instanceTypes := #[]
  staticTypes := #[]
  resolved := #[]
  callSites := []
  init := .initialized
  statics := none
  mirror := none

def pool0 : Array CpInfo := pool [(5, u "<init>"), (0, u "()V"), (1, .class_ 10), (1, u "java/lang/Object")] 113

def k0c0 : Code := { maxStack := 0, maxLocals := 1, code := object_method_1_code, exceptionTable := #[], attributes := #[] }
def k0m0 : Method := { name := "<init>", desc := "()V", sig := { parameters := [], returnType := none }, accessFlags := 1, code := some k0c0 }
/-- java/lang/Object -/
def k0 : Class := { plain "java/lang/Object" none with
  accessFlags := 33
  interfaces := #[]
  cf := some (fileOf pool0 8 #[] #[{ accessFlags := 1, nameIndex := 5, descriptorIndex := 6, attributes := #[] }] 33 0 #[] #[])
  fields := #[]
  methods := #[k0m0]
  instanceTypes := #[]
  staticTypes := #[]
  resolved := Array.replicate 124 none
  statics := none }

def pool1 : Array CpInfo := pool [(2, .class_ 4), (1, u "java/lang/Object"), (0, u "<init>"), (0, u "()V"), (0, .integer 2147483647), (0, .integer 65527), (0, .integer 65535), (0, .class_ 11), (0, u "com/example/holdfast/holdfast/store/MemorySizes"), (0, .methodref 10 13), (0, .nameAndType 5 14), (0, u "(II)V"), (0, .methodref 10 16), (0, .nameAndType 17 18), (0, u "withCommitCapacity"), (0, u "(I)Lcom/example/holdfast/holdfast/store/MemorySizes;"), (0, .methodref 10 20), (0, .nameAndType 21 22), (0, u "commitCapacity"), (0, u "()I"), (0, .methodref 10 24), (0, .nameAndType 25 22), (0, u "transientMemory"), (0, .class_ 27), (0, u "com/example/holdfast/holdfast/store/MemorySizesWithCommitCapacityPinLaw"), (2, u "law"), (0, u "(III)Z")] 3

def k1m0 : Method := { name := "<init>", desc := "()V", sig := { parameters := [], returnType := none }, accessFlags := 1, code := none }
def k1c1 : Code := { maxStack := 4, maxLocals := 8, code := code, exceptionTable := #[], attributes := #[] }
def k1m1 : Method := { name := "law", desc := "(III)Z", sig := { parameters := [.int, .int, .int], returnType := some .boolean }, accessFlags := 9, code := some k1c1 }
/-- com/example/holdfast/holdfast/store/MemorySizesWithCommitCapacityPinLaw -/
def k1 : Class := { plain "com/example/holdfast/holdfast/store/MemorySizesWithCommitCapacityPinLaw" (some 0) with
  accessFlags := 49
  interfaces := #[]
  cf := some (fileOf pool1 26 #[] #[{ accessFlags := 1, nameIndex := 5, descriptorIndex := 6, attributes := #[] }, { accessFlags := 9, nameIndex := 30, descriptorIndex := 31, attributes := #[] }] 49 2 #[] #[])
  fields := #[]
  methods := #[k1m0, k1m1]
  instanceTypes := #[]
  staticTypes := #[]
  resolved := Array.replicate 35 none
  statics := none }

def pool2 : Array CpInfo := pool [(1, .methodref 2 3), (0, .class_ 4), (0, .nameAndType 5 6), (0, u "java/lang/Object"), (0, u "<init>"), (0, u "()V"), (0, .class_ 8), (0, u "java/lang/Record")] 13

def k2c0 : Code := { maxStack := 1, maxLocals := 1, code := jdk_30_method_1_code, exceptionTable := #[], attributes := #[] }
def k2m0 : Method := { name := "<init>", desc := "()V", sig := { parameters := [], returnType := none }, accessFlags := 4, code := some k2c0 }
/-- java/lang/Record -/
def k2 : Class := { plain "java/lang/Record" (some 0) with
  accessFlags := 1057
  interfaces := #[]
  cf := some (fileOf pool2 7 #[] #[{ accessFlags := 4, nameIndex := 5, descriptorIndex := 6, attributes := #[] }] 1057 2 #[] #[])
  fields := #[]
  methods := #[k2m0]
  instanceTypes := #[]
  staticTypes := #[]
  resolved := Array.replicate 22 none
  statics := none }

def pool3 : Array CpInfo := pool [(1, .methodref 2 3), (0, .class_ 4), (0, .nameAndType 5 6), (0, u "java/lang/Record"), (0, u "<init>"), (0, u "()V"), (0, .string 8), (0, u "a commit capacity"), (2, .integer 65535), (0, .methodref 13 14), (0, .class_ 15), (0, .nameAndType 16 17), (0, u "com/example/holdfast/holdfast/store/MemorySizes"), (0, u "checkRange"), (0, u "(Ljava/lang/String;III)V"), (0, .string 19), (0, u "a transient memory"), (0, .fieldref 13 21), (0, .nameAndType 22 23), (0, u "commitCapacity"), (0, u "I"), (0, .fieldref 13 25), (0, .nameAndType 26 23), (0, u "transientMemory"), (9, .methodref 13 37), (0, .nameAndType 5 38), (0, u "(II)V"), (14, u "DEFAULT"), (0, u "Lcom/example/holdfast/holdfast/store/MemorySizes;"), (4, u "withCommitCapacity"), (0, u "(I)Lcom/example/holdfast/holdfast/store/MemorySizes;"), (2, u "()I")] 31

def k3c0 : Code := { maxStack := 4, maxLocals := 3, code := prog_13_method_1_code, exceptionTable := #[], attributes := #[] }
def k3m0 : Method := { name := "<init>", desc := "(II)V", sig := { parameters := [.int, .int], returnType := none }, accessFlags := 1, code := some k3c0 }
def k3c1 : Code := { maxStack := 6, maxLocals := 4, code := prog_13_method_2_code, exceptionTable := #[], attributes := #[] }
def k3m1 : Method := { name := "checkRange", desc := "(Ljava/lang/String;III)V", sig := { parameters := [(.object "java/lang/String"), .int, .int, .int], returnType := none }, accessFlags := 10, code := some k3c1 }
def k3c2 : Code := { maxStack := 4, maxLocals := 2, code := prog_13_method_3_code, exceptionTable := #[], attributes := #[] }
def k3m2 : Method := { name := "withCommitCapacity", desc := "(I)Lcom/example/holdfast/holdfast/store/MemorySizes;", sig := { parameters := [.int], returnType := some (.object "com/example/holdfast/holdfast/store/MemorySizes") }, accessFlags := 1, code := some k3c2 }
def k3c3 : Code := { maxStack := 1, maxLocals := 1, code := prog_13_method_8_code, exceptionTable := #[], attributes := #[] }
def k3m3 : Method := { name := "commitCapacity", desc := "()I", sig := { parameters := [], returnType := some .int }, accessFlags := 1, code := some k3c3 }
def k3c4 : Code := { maxStack := 1, maxLocals := 1, code := prog_13_method_9_code, exceptionTable := #[], attributes := #[] }
def k3m4 : Method := { name := "transientMemory", desc := "()I", sig := { parameters := [], returnType := some .int }, accessFlags := 1, code := some k3c4 }
/-- com/example/holdfast/holdfast/store/MemorySizes -/
def k3 : Class := { plain "com/example/holdfast/holdfast/store/MemorySizes" (some 2) with
  accessFlags := 49
  interfaces := #[]
  cf := some (fileOf pool3 13 #[] #[{ accessFlags := 1, nameIndex := 5, descriptorIndex := 38, attributes := #[] }, { accessFlags := 10, nameIndex := 16, descriptorIndex := 17, attributes := #[] }, { accessFlags := 1, nameIndex := 59, descriptorIndex := 60, attributes := #[] }, { accessFlags := 1, nameIndex := 22, descriptorIndex := 63, attributes := #[] }, { accessFlags := 1, nameIndex := 26, descriptorIndex := 63, attributes := #[] }] 49 2 #[] #[{ accessFlags := 18, nameIndex := 22, descriptorIndex := 23, attributes := #[] }, { accessFlags := 18, nameIndex := 26, descriptorIndex := 23, attributes := #[] }, { accessFlags := 25, nameIndex := 53, descriptorIndex := 54, attributes := #[] }])
  fields := #[{ name := "commitCapacity", type := .int, accessFlags := 18, slot := 0, constantValue := 0 }, { name := "transientMemory", type := .int, accessFlags := 18, slot := 1, constantValue := 0 }, { name := "DEFAULT", type := (.object "com/example/holdfast/holdfast/store/MemorySizes"), accessFlags := 25, slot := 0, constantValue := 0 }]
  methods := #[k3m0, k3m1, k3m2, k3m3, k3m4]
  instanceTypes := #[.int, .int]
  staticTypes := #[(.object "com/example/holdfast/holdfast/store/MemorySizes")]
  resolved := Array.replicate 95 none
  statics := none }

def pool4 : Array CpInfo := pool [(1, .class_ 2), (0, u "java/io/Serializable"), (0, .class_ 4), (0, u "java/lang/Object")] 2

/-- java/io/Serializable -/
def k4 : Class := { plain "java/io/Serializable" (some 0) with
  accessFlags := 1537
  interfaces := #[]
  cf := some (fileOf pool4 1 #[] #[] 1537 3 #[] #[])
  fields := #[]
  methods := #[]
  instanceTypes := #[]
  staticTypes := #[]
  resolved := Array.replicate 7 none
  statics := none }

def pool5 : Array CpInfo := pool [(1, .class_ 2), (0, u "java/lang/Comparable"), (0, .class_ 4), (0, u "java/lang/Object")] 7

/-- java/lang/Comparable -/
def k5 : Class := { plain "java/lang/Comparable" (some 0) with
  accessFlags := 1537
  interfaces := #[]
  cf := some (fileOf pool5 1 #[] #[] 1537 3 #[] #[])
  fields := #[]
  methods := #[]
  instanceTypes := #[]
  staticTypes := #[]
  resolved := Array.replicate 12 none
  statics := none }

def pool6 : Array CpInfo := pool [(2, .class_ 4), (1, u "java/lang/CharSequence"), (42, .class_ 48), (0, u "java/lang/CharSequence$1CodePointIterator"), (10, .class_ 60), (0, u "java/lang/CharSequence$1CharIterator"), (5, .class_ 67), (0, u "java/lang/Object")] 63

/-- java/lang/CharSequence -/
def k6 : Class := { plain "java/lang/CharSequence" (some 0) with
  accessFlags := 1537
  interfaces := #[]
  cf := some (fileOf pool6 2 #[.nestMembers #[47, 59]] #[] 1537 66 #[] #[])
  fields := #[]
  methods := #[]
  instanceTypes := #[]
  staticTypes := #[]
  resolved := Array.replicate 131 none
  statics := none }

def pool7 : Array CpInfo := pool [(1, .class_ 2), (0, u "java/lang/constant/Constable"), (0, .class_ 4), (0, u "java/lang/Object")] 6

/-- java/lang/constant/Constable -/
def k7 : Class := { plain "java/lang/constant/Constable" (some 0) with
  accessFlags := 1537
  interfaces := #[]
  cf := some (fileOf pool7 1 #[] #[] 1537 3 #[] #[])
  fields := #[]
  methods := #[]
  instanceTypes := #[]
  staticTypes := #[]
  resolved := Array.replicate 11 none
  statics := none }

def pool8 : Array CpInfo := pool [(1, .class_ 2), (0, u "java/lang/constant/ConstantDesc"), (0, .class_ 4), (0, u "java/lang/Object")] 32

/-- java/lang/constant/ConstantDesc -/
def k8 : Class := { plain "java/lang/constant/ConstantDesc" (some 0) with
  accessFlags := 1537
  interfaces := #[]
  cf := some (fileOf pool8 1 #[] #[] 1537 3 #[] #[])
  fields := #[]
  methods := #[]
  instanceTypes := #[]
  staticTypes := #[]
  resolved := Array.replicate 37 none
  statics := none }

def pool9 : Array CpInfo := pool [(2, .class_ 4), (1, u "java/lang/Object"), (0, u "<init>"), (0, u "()V"), (3, .class_ 12), (1, u "java/lang/String"), (0, u "value"), (0, u "[B"), (2, u "coder"), (0, u "B"), (2, u "hash"), (0, u "I"), (2, u "hashIsZero"), (0, u "Z"), (13, u "COMPACT_STRINGS"), (534, .class_ 576), (0, u "java/lang/CharSequence"), (22, u "CASE_INSENSITIVE_ORDER"), (0, u "Ljava/util/Comparator;"), (500, u "serialPersistentFields"), (0, u "[Ljava/io/ObjectStreamField;"), (0, .class_ 1104), (0, u "java/lang/String$CaseInsensitiveComparator"), (1, .class_ 1107), (0, u "java/io/Serializable"), (0, .class_ 1109), (0, u "java/lang/Comparable"), (0, .class_ 1111), (0, u "java/lang/constant/Constable"), (0, .class_ 1113), (0, u "java/lang/constant/ConstantDesc"), (2, u "serialVersionUID"), (0, u "J"), (3, u "REPL"), (0, u "C"), (2, u "LATIN1"), (1, u "UTF16")] 323

def k9m0 : Method := { name := "<init>", desc := "()V", sig := { parameters := [], returnType := none }, accessFlags := 1, code := none }
/-- java/lang/String -/
def k9 : Class := { plain "java/lang/String" (some 0) with
  accessFlags := 49
  interfaces := #[4, 5, 6, 7, 8]
  cf := some (fileOf pool9 10 #[.nestMembers #[1103]] #[{ accessFlags := 1, nameIndex := 5, descriptorIndex := 6, attributes := #[] }] 49 2 #[1106, 1108, 575, 1110, 1112] #[{ accessFlags := 18, nameIndex := 13, descriptorIndex := 14, attributes := #[] }, { accessFlags := 18, nameIndex := 17, descriptorIndex := 18, attributes := #[] }, { accessFlags := 2, nameIndex := 21, descriptorIndex := 22, attributes := #[] }, { accessFlags := 2, nameIndex := 25, descriptorIndex := 26, attributes := #[] }, { accessFlags := 26, nameIndex := 1116, descriptorIndex := 1117, attributes := #[] }, { accessFlags := 24, nameIndex := 40, descriptorIndex := 26, attributes := #[] }, { accessFlags := 26, nameIndex := 1101, descriptorIndex := 1102, attributes := #[] }, { accessFlags := 26, nameIndex := 1121, descriptorIndex := 1122, attributes := #[] }, { accessFlags := 25, nameIndex := 599, descriptorIndex := 600, attributes := #[] }, { accessFlags := 24, nameIndex := 1125, descriptorIndex := 18, attributes := #[] }, { accessFlags := 24, nameIndex := 1127, descriptorIndex := 18, attributes := #[] }])
  fields := #[{ name := "value", type := (.array .byte), accessFlags := 18, slot := 0, constantValue := 0 }, { name := "coder", type := .byte, accessFlags := 18, slot := 1, constantValue := 0 }, { name := "hash", type := .int, accessFlags := 2, slot := 2, constantValue := 0 }, { name := "hashIsZero", type := .boolean, accessFlags := 2, slot := 3, constantValue := 0 }, { name := "serialVersionUID", type := .long, accessFlags := 26, slot := 0, constantValue := 0 }, { name := "COMPACT_STRINGS", type := .boolean, accessFlags := 24, slot := 1, constantValue := 0 }, { name := "serialPersistentFields", type := (.array (.object "java/io/ObjectStreamField")), accessFlags := 26, slot := 2, constantValue := 0 }, { name := "REPL", type := .char, accessFlags := 26, slot := 3, constantValue := 0 }, { name := "CASE_INSENSITIVE_ORDER", type := (.object "java/util/Comparator"), accessFlags := 25, slot := 4, constantValue := 0 }, { name := "LATIN1", type := .byte, accessFlags := 24, slot := 5, constantValue := 0 }, { name := "UTF16", type := .byte, accessFlags := 24, slot := 6, constantValue := 0 }]
  methods := #[k9m0]
  instanceTypes := #[(.array .byte), .byte, .int, .boolean]
  staticTypes := #[.long, .boolean, (.array (.object "java/io/ObjectStreamField")), .char, (.object "java/util/Comparator"), .byte, .byte]
  resolved := Array.replicate 1451 none
  statics := none }

def pool10 : Array CpInfo := pool [(1, u "java/lang/Cloneable"), (0, .class_ 1), (0, u "java/lang/Object"), (0, .class_ 3)] 3

/-- java/lang/Cloneable -/
def k10 : Class := { plain "java/lang/Cloneable" (some 0) with
  accessFlags := 1537
  interfaces := #[]
  cf := some (fileOf pool10 2 #[] #[] 1537 4 #[] #[])
  fields := #[]
  methods := #[]
  instanceTypes := #[]
  staticTypes := #[]
  resolved := Array.replicate 8 none
  statics := none }

/-- the primitive byte -/
def k11 : Class := { plain "byte" none with kind := .primitive 'B', accessFlags := 0x411 }
/-- [B -/
def k12 : Class := { plain "[B" (some 0) with kind := .array 11 .byte, interfaces := #[10, 4], accessFlags := 1041 }

/-- the primitive int -/
def k13 : Class := { plain "int" none with kind := .primitive 'I', accessFlags := 0x411 }
/-- [I -/
def k14 : Class := { plain "[I" (some 0) with kind := .array 13 .int, interfaces := #[10, 4], accessFlags := 1041 }

def heap : Heap := #[]
def classes : Array Class := #[k0, k1, k2, k3, k4, k5, k6, k7, k8, k9, k10, k11, k12, k13, k14]
def interned : List (Array UInt16 × Addr) := []
def slotsUsed : Nat := 0
def theMethod : MethodId := ⟨1, 1⟩
def args0 : Array Value := #[.int 5, .int 6, .int 7]
def aboutOver (below : List Frame) : State where
  vm := { classes := classes, interned := interned.toArray }
  heap := heap
  slotsUsed := slotsUsed
  threads := #[{ frames := .invoking theMethod args0 :: below }]
def below0 : List Frame := [.native { method := ⟨0, 0⟩, args := #[] }]
def about1 : State := aboutOver below0
def p0 : Program := .bare "" "" ""
def e0 : Env := launch0.env 0 0 0
theorem w_frames : about1.frames = Frame.invoking theMethod args0 :: below0 := rfl
set_option maxRecDepth 65536 in
theorem w_args : argsFit about1.vm theMethod args0 = true := by decide +kernel
set_option maxRecDepth 65536 in
theorem w_heap : heapFits about1 = true := by decide +kernel
set_option maxRecDepth 65536 in
theorem w_runnable : about1.curStatus? = some .runnable := by decide +kernel
set_option maxRecDepth 65536 in
theorem w_alone : about1.alone = true := by decide +kernel
set_option maxRecDepth 65536 in
theorem w_named : about1.methodNamed? x = some theMethod := by decide +kernel
set_option maxRecDepth 65536 in
theorem w_hears : about1.hears theMethod below0 = true := by decide +kernel
set_option maxRecDepth 65536 in
theorem w_ripe : about1.ripe theMethod args0 below0 = true := by decide +kernel
theorem w_running : about1.status = .running := rfl
set_option maxRecDepth 65536 in
theorem w_room : about1.hasRoom e0.platform room_1 = true :=
  launch0.hasRoom_least _ room_1 (by decide +kernel) (by decide +kernel) (by decide +kernel) (by decide +kernel) (by decide +kernel) (by decide +kernel)
theorem allAtoms_all (ts : List Jvm.Cond) (a : Array Jvm.Value) (st : Jvm.State) : (allAtoms ts).before a st = ts.all (fun c => c.before a st) := by
  induction ts with
  | nil => rfl
  | cons c t ih =>
    show (Jvm.Cond.and c (allAtoms t)).before a st = _
    rw [Jvm.Cond.before_and, ih, List.all_cons]
def words1 : List Jvm.Cond := Jvm.Cond.code x code maxLocals ret :: tables_1
/-- a 'code' word, met by the world's own term for the bytes: nothing is compared byte by byte -/
theorem code_word {y : MethodName} {bytes : ByteArray} {mx : Nat} {rt : Option FieldType} {a : Array Value} {s : State} {m : MethodId} {meth : Method} {c : Code} (h1 : s.methodNamed? y = some m) (h2 : s.vm.method? m = some meth) (h3 : meth.code = some c) (h4 : c.code = bytes)
    (h5 : (c.maxLocals == mx && c.exceptionTable.isEmpty && decide (c.maxStack ≤ mostOperands) && decide (meth.sig.returnType = rt) && !meth.locks && decide (parseMethodDescriptor y.desc = some meth.sig)) = true) : (Jvm.Cond.code y bytes mx rt).before a s = true := by
  simp only [Bool.and_eq_true, beq_iff_eq, Bool.not_eq_true', decide_eq_true_eq] at h5
  obtain ⟨⟨⟨⟨⟨g1, g2⟩, g3⟩, g4⟩, g5⟩, g6⟩ := h5
  simp [Cond.before, Cond.holds, Cond.value, h1, h2, h3, h4, g1, g2, g3, g4, g5, g6]
def isCode : Jvm.Cond → Bool
  | .code _ _ _ _ => true
  | _ => false
theorem all_split {L : List Jvm.Cond} {P : Jvm.Cond → Bool} (h1 : L.all (fun c => isCode c || P c) = true) (h2 : ∀ c ∈ L.filter isCode, P c = true) : L.all P = true := by
  refine List.all_eq_true.mpr fun c hc => ?_
  have h := List.all_eq_true.mp h1 c hc
  rcases Bool.eq_false_or_eq_true (isCode c) with hi | hi
  · exact h2 c (List.mem_filter.mpr ⟨hc, hi⟩)
  · simpa [hi] using h
set_option maxRecDepth 65536 in
theorem w_c0 : (Jvm.Cond.code x code maxLocals ret).before args0 about1 = true := code_word (m := ⟨1, 1⟩) (meth := k1m1) (c := k1c1) (by decide +kernel) rfl rfl rfl (by decide +kernel)
set_option maxRecDepth 65536 in
theorem w_c1 : (Jvm.Cond.code ({ cls := "com/example/holdfast/holdfast/store/MemorySizes", name := "<init>", desc := "(II)V" } : Jvm.MethodName) prog_13_method_1_code (3 : Nat) (Option.none : Option Jvm.ClassFile.FieldType)).before args0 about1 = true := code_word (m := ⟨3, 0⟩) (meth := k3m0) (c := k3c0) (by decide +kernel) rfl rfl rfl (by decide +kernel)
set_option maxRecDepth 65536 in
theorem w_c2 : (Jvm.Cond.code ({ cls := "java/lang/Record", name := "<init>", desc := "()V" } : Jvm.MethodName) jdk_30_method_1_code (1 : Nat) (Option.none : Option Jvm.ClassFile.FieldType)).before args0 about1 = true := code_word (m := ⟨2, 0⟩) (meth := k2m0) (c := k2c0) (by decide +kernel) rfl rfl rfl (by decide +kernel)
set_option maxRecDepth 65536 in
theorem w_c3 : (Jvm.Cond.code ({ cls := "java/lang/Object", name := "<init>", desc := "()V" } : Jvm.MethodName) object_method_1_code (1 : Nat) (Option.none : Option Jvm.ClassFile.FieldType)).before args0 about1 = true := code_word (m := ⟨0, 0⟩) (meth := k0m0) (c := k0c0) (by decide +kernel) rfl rfl rfl (by decide +kernel)
set_option maxRecDepth 65536 in
theorem w_c4 : (Jvm.Cond.code ({ cls := "com/example/holdfast/holdfast/store/MemorySizes", name := "checkRange", desc := "(Ljava/lang/String;III)V" } : Jvm.MethodName) prog_13_method_2_code (4 : Nat) (Option.none : Option Jvm.ClassFile.FieldType)).before args0 about1 = true := code_word (m := ⟨3, 1⟩) (meth := k3m1) (c := k3c1) (by decide +kernel) rfl rfl rfl (by decide +kernel)
set_option maxRecDepth 65536 in
theorem w_c5 : (Jvm.Cond.code ({ cls := "com/example/holdfast/holdfast/store/MemorySizes", name := "withCommitCapacity", desc := "(I)Lcom/example/holdfast/holdfast/store/MemorySizes;" } : Jvm.MethodName) prog_13_method_3_code (2 : Nat) (Option.some (Jvm.ClassFile.FieldType.object "com/example/holdfast/holdfast/store/MemorySizes"))).before args0 about1 = true := code_word (m := ⟨3, 2⟩) (meth := k3m2) (c := k3c2) (by decide +kernel) rfl rfl rfl (by decide +kernel)
set_option maxRecDepth 65536 in
theorem w_c6 : (Jvm.Cond.code ({ cls := "com/example/holdfast/holdfast/store/MemorySizes", name := "commitCapacity", desc := "()I" } : Jvm.MethodName) prog_13_method_8_code (1 : Nat) (Option.some Jvm.ClassFile.FieldType.int)).before args0 about1 = true := code_word (m := ⟨3, 3⟩) (meth := k3m3) (c := k3c3) (by decide +kernel) rfl rfl rfl (by decide +kernel)
set_option maxRecDepth 65536 in
theorem w_c7 : (Jvm.Cond.code ({ cls := "com/example/holdfast/holdfast/store/MemorySizes", name := "transientMemory", desc := "()I" } : Jvm.MethodName) prog_13_method_9_code (1 : Nat) (Option.some Jvm.ClassFile.FieldType.int)).before args0 about1 = true := code_word (m := ⟨3, 4⟩) (meth := k3m4) (c := k3c4) (by decide +kernel) rfl rfl rfl (by decide +kernel)
def codes1 : List Jvm.Cond := [Jvm.Cond.code x code maxLocals ret, Jvm.Cond.code ({ cls := "com/example/holdfast/holdfast/store/MemorySizes", name := "<init>", desc := "(II)V" } : Jvm.MethodName) prog_13_method_1_code (3 : Nat) (Option.none : Option Jvm.ClassFile.FieldType), Jvm.Cond.code ({ cls := "java/lang/Record", name := "<init>", desc := "()V" } : Jvm.MethodName) jdk_30_method_1_code (1 : Nat) (Option.none : Option Jvm.ClassFile.FieldType), Jvm.Cond.code ({ cls := "java/lang/Object", name := "<init>", desc := "()V" } : Jvm.MethodName) object_method_1_code (1 : Nat) (Option.none : Option Jvm.ClassFile.FieldType), Jvm.Cond.code ({ cls := "com/example/holdfast/holdfast/store/MemorySizes", name := "checkRange", desc := "(Ljava/lang/String;III)V" } : Jvm.MethodName) prog_13_method_2_code (4 : Nat) (Option.none : Option Jvm.ClassFile.FieldType), Jvm.Cond.code ({ cls := "com/example/holdfast/holdfast/store/MemorySizes", name := "withCommitCapacity", desc := "(I)Lcom/example/holdfast/holdfast/store/MemorySizes;" } : Jvm.MethodName) prog_13_method_3_code (2 : Nat) (Option.some (Jvm.ClassFile.FieldType.object "com/example/holdfast/holdfast/store/MemorySizes")), Jvm.Cond.code ({ cls := "com/example/holdfast/holdfast/store/MemorySizes", name := "commitCapacity", desc := "()I" } : Jvm.MethodName) prog_13_method_8_code (1 : Nat) (Option.some Jvm.ClassFile.FieldType.int), Jvm.Cond.code ({ cls := "com/example/holdfast/holdfast/store/MemorySizes", name := "transientMemory", desc := "()I" } : Jvm.MethodName) prog_13_method_9_code (1 : Nat) (Option.some Jvm.ClassFile.FieldType.int)]
set_option maxRecDepth 65536 in
theorem codes_eq : words1.filter isCode = codes1 := rfl
theorem w_codes : ∀ c ∈ words1.filter isCode, c.before args0 about1 = true := by
  rw [codes_eq]
  intro c hc
  simp only [codes1, List.mem_cons, List.not_mem_nil, or_false] at hc
  rcases hc with rfl | rfl | rfl | rfl | rfl | rfl | rfl | rfl
  · exact w_c0
  · exact w_c1
  · exact w_c2
  · exact w_c3
  · exact w_c4
  · exact w_c5
  · exact w_c6
  · exact w_c7
set_option maxRecDepth 65536 in
theorem w_t1 : (words1.take 24).all (fun c => isCode c || c.before args0 about1) = true := by decide +kernel
set_option maxRecDepth 65536 in
theorem w_t2 : ((words1.drop 24).take 24).all (fun c => isCode c || c.before args0 about1) = true := by decide +kernel
set_option maxRecDepth 65536 in
theorem w_t3 : ((words1.drop 24).drop 24).all (fun c => isCode c || c.before args0 about1) = true := by decide +kernel
theorem w_tables : (allAtoms (Jvm.Cond.code x code maxLocals ret :: tables_1)).before args0 about1 = true := by
  rw [allAtoms_all]
  show words1.all (fun c => c.before args0 about1) = true
  refine all_split ?_ w_codes
  rw [← List.take_append_drop 24 words1, List.all_append, w_t1, ← List.take_append_drop 24 (words1.drop 24), List.all_append, w_t2, w_t3]
  rfl
set_option maxRecDepth 65536 in
theorem w_case : (Jvm.Cond.and given_1 narrow_1).before args0 about1 = true := by decide +kernel
theorem w_applies : (headSpec (Jvm.Cond.code x code maxLocals ret :: tables_1) room_1).applies x e0.platform about1 = true :=
  (Spec.applies_iff w_frames).mpr ⟨w_running, w_runnable, w_alone, w_named, w_hears, w_ripe, w_room, w_tables⟩
theorem atStart : AtStart classFile x code maxLocals ret World_1 tables_1 room_1 Calls_1 rest_1 Pre_1 launch0 p0 e0 about1 theMethod args0 below0 :=
  ⟨lists_1, trivial, launch0.admits_env _ _ _, launch0.least_env, fairChoices_fair.cas, fairChoices_fair.clock, w_frames, w_args, w_heap, w_applies, trivial, trivial, w_case⟩
end start1
theorem witness_1 : WitnessClaimed_1 := ⟨start1.p0, start1.e0, start1.about1, start1.theMethod, start1.args0, start1.below0, start1.atStart⟩
end Jvm.Pilot.@@N@@
