import JvmDerived
import JvmDerived.Pilot.@@N@@Statement
import JvmDerived.Pilot.@@N@@Code
set_option linter.unusedVariables false
set_option linter.unusedSimpArgs false
namespace Jvm.Pilot.@@N@@
open Jvm Jvm.ClassFile Sem Op Lib Jvm.Free Jvm.Stand Jvm.LawKit Jvm.RoadKit Bundle Jvm.Pilot.@@N@@.Jvm.D
section Own
variable {p : Program} {l : Launch} {e : Env} {R : Room} {s : State} {m : MethodId} {args : Array Value} {below : List Frame} {meth : Method} {c : Code} {T : State} {locs : List Loc} {cells slots n0 : Nat} {Z : State} {a0 : Array Value} {h h' : Heap} {its : List (Cell → Prop)} {Q : Option Value → List (Cell → Prop) → Prop} {pc : Nat} {Ls : Array Slot} {stk rest : List Value} {own : String}
/-- the new part of the heap: the cells from n0 on, one word on each -/
def own_hp (n0 : Nat) (h : Heap) (its : List (Cell → Prop)) : Prop := h.size = n0 + its.length ∧ ∀ (i : Nat) (P : Cell → Prop), its[i]? = some P → ∃ cl : Cell, h[n0 + i]? = some cl ∧ P cl
/-- where the walk stands -/
def own_at (p : Program) (l : Launch) (e : Env) (R : Room) (s : State) (m : MethodId) (args : Array Value) (below : List Frame) (meth : Method) (c : Code) (n0 : Nat) (T : State) (cells slots : Nat) (its : List (Cell → Prop)) : Prop :=
  ∃ locs, Stand p l e R s m args below meth c T locs cells slots ∧ Fr n0 locs ∧ own_hp n0 T.heap its
/-- from u the method comes to its end, and Q holds there -/
def own_go (p : Program) (e : Env) (R : Room) (s : State) (below : List Frame) (n0 : Nat) (Q : Option Value → List (Cell → Prop) → Prop) (u : State) : Prop :=
  ∃ (t : State) (v : Option Value) (L : List Loc) (its : List (Cell → Prop)), Steps p.tables e below u t ∧ t.status = .running ∧ Ended t below (.returned v) ∧ Q v its ∧ Fr n0 L ∧ own_hp n0 t.heap its ∧ s.WarmedH t.vm ∧ s.sameButNew ({ t with vm := s.vm } : State) L R.cells R.slots
theorem own_at.here (A : own_at p l e R s m args below meth c n0 T cells slots its) : At T m c below := by
  obtain ⟨_, X, _⟩ := A; exact X.here
theorem own_at.more (A : own_at p l e R s m args below meth c n0 T cells slots its) {cells' slots' : Nat} (hc : cells ≤ cells') (hs : slots ≤ slots') : own_at p l e R s m args below meth c n0 T cells' slots' its := by
  obtain ⟨L, X, r⟩ := A; exact ⟨L, X.more hc hs, r⟩
theorem own_by {u u' : State} (q : ∀ target, Steps p.tables e below u' target → Steps p.tables e below u target) (k : own_go p e R s below n0 Q u') : own_go p e R s below n0 Q u := by
  obtain ⟨t, v, L, i, h1, r⟩ := k
  exact ⟨t, v, L, i, q t h1, r⟩
theorem own_nil {α : Type} {P : α → Prop} : ∀ x ∈ ([] : List α), P x := fun _ q => nomatch q
theorem own_cons {α : Type} {P : α → Prop} {y : α} {L : List α} (q : P y) (r : ∀ x ∈ L, P x) : ∀ x ∈ y :: L, P x := fun x z => (List.mem_cons.mp z).elim (fun u => u ▸ q) (r x)
theorem own_hp.push (H : own_hp n0 h its) {cl : Cell} {P : Cell → Prop} (hP : P cl) : own_hp n0 (h.push cl) (its ++ [P]) := by
  refine ⟨by rw [Array.size_push, H.1, List.length_append]; rfl, fun i P' hi => ?_⟩
  by_cases q : i < its.length
  · rw [List.getElem?_append_left q] at hi
    obtain ⟨c, h1, h2⟩ := H.2 i P' hi
    refine ⟨c, ?_, h2⟩
    rw [Array.getElem?_push_lt (Array.getElem?_eq_some_iff.mp h1).1]
    exact (Array.getElem?_eq_getElem _).symm.trans h1
  · have q2 : i = its.length := by
      have := (List.getElem?_eq_some_iff.mp hi).1
      simp only [List.length_append, List.length_cons, List.length_nil] at this
      omega
    subst q2
    simp only [List.getElem?_concat_length, Option.some.injEq] at hi
    subst hi
    refine ⟨cl, ?_, hP⟩
    rw [← H.1]; simp
theorem own_hp.wr (H : own_hp n0 h its) {i sl : Nat} {v : Value} {P P' : Cell → Prop} (hi : its[i]? = some P) (W : Wr h h' (n0 + i) sl v) (hP : ∀ cl, h[n0 + i]? = some cl → P cl → P' (cl.setSlot sl v)) : own_hp n0 h' (its.set i P') := by
  obtain ⟨cell, w1, w2, w3, rfl⟩ := W
  refine ⟨by rw [Array.size_setIfInBounds, List.length_set]; exact H.1, fun j P2 hj => ?_⟩
  by_cases q : i = j
  · subst q
    have hl := (List.getElem?_eq_some_iff.mp hi).1
    rw [List.getElem?_set_self hl] at hj
    cases hj
    obtain ⟨cl, g1, g2⟩ := H.2 i P hi
    cases w1.symm.trans g1
    exact ⟨cell.setSlot sl v, by simp [(Array.getElem?_eq_some_iff.mp w1).1], hP _ w1 g2⟩
  · rw [List.getElem?_set_ne q] at hj
    obtain ⟨cl, g1, g2⟩ := H.2 j P2 hj
    exact ⟨cl, by rw [Array.getElem?_setIfInBounds_ne (by omega)]; exact g1, g2⟩
theorem own_geti {i : Nat} {P P' : Cell → Prop} (hi : its[i]? = some P) : (its.set i P')[i]? = some P' := List.getElem?_set_self (List.getElem?_eq_some_iff.mp hi).1
/-- an object of just that class, its fields ns holding vs -/
def own_obj (Z : State) (C : String) (ns : List (String × String)) (vs : List Value) : Cell → Prop := fun cl => ∀ (h : Heap) (a : Addr), h[a]? = some cl → Exa Z h a C ∧ ∀ (i : Nat) (f : String × String) (v : Value), ns[i]? = some f → vs[i]? = some v → Fld Z h a C f.1 f.2 v
/-- an array of ints (shorts, chars, bytes) -/
def own_ia (Z : State) (ty : FieldType) (xs : List Int32) : Cell → Prop := fun cl => xs.length < 2 ^ 31 ∧ cl.slots = (xs.map Value.int).toArray ∧ Z.isArrayOf cl ty ∧ cl.vm ≠ .unknown ∧ (∀ x ∈ xs, fits ty (.int x) = true) ∧ Z.vm.findClass ("[" ++ ty.toString) = some cl.cls
/-- an array of longs -/
def own_la (Z : State) (xs : List Int64) : Cell → Prop := fun cl => xs.length < 2 ^ 31 ∧ cl.slots = (xs.map Value.long).toArray ∧ Z.isArrayOf cl .long ∧ cl.vm ≠ .unknown
/-- the fields' places are unlike -/
def own_apart (Z : State) (C : String) (ns : List (String × String)) : Prop := ∀ (i j : Nat) (f g : String × String), ns[i]? = some f → ns[j]? = some g → i ≠ j → Jvm.RoadKit.slotOf Z C f.1 f.2 ≠ Jvm.RoadKit.slotOf Z C g.1 g.2
theorem own_apart_of {C : String} {ns : List (String × String)} (hL : ∀ f ∈ ns, Laid Z a0 C C f.1 f.2 ∧ ∃ t, parseFieldDescriptor f.2 = some t) (hn : (ns.map (·.1)).Nodup) : own_apart Z C ns := by
  intro i j f g hi hj hij
  obtain ⟨l1, t1, d1⟩ := hL f (List.mem_of_getElem? hi)
  obtain ⟨l2, t2, d2⟩ := hL g (List.mem_of_getElem? hj)
  refine slot_ne l1 l2 (fun q => ?_) d1 d2
  have e1 : (ns.map (·.1))[i]? = some f.1 := by rw [List.getElem?_map, hi]; rfl
  have e2 : (ns.map (·.1))[j]? = some g.1 := by rw [List.getElem?_map, hj]; rfl
  obtain ⟨b1, c1⟩ := List.getElem?_eq_some_iff.mp e1
  obtain ⟨b2, c2⟩ := List.getElem?_eq_some_iff.mp e2
  have pw := List.pairwise_iff_getElem.mp hn
  rcases Nat.lt_or_gt_of_ne hij with z | z
  · exact pw i j b1 b2 z (by rw [c1, c2, q])
  · exact pw j i b2 b1 z (by rw [c1, c2, q])
theorem own_obj.set {C : String} {ns : List (String × String)} {vs : List Value} {j : Nat} {n d : String} {v old : Value} {cl : Cell} (O : own_obj Z C ns vs cl) (ap : own_apart Z C ns) (hj : ns[j]? = some (n, d)) (hv : vs[j]? = some old) (hlt : Jvm.RoadKit.slotOf Z C n d < cl.slots.size) (hst : cl.vm.isStatics = false) : own_obj Z C ns (vs.set j v) (cl.setSlot (Jvm.RoadKit.slotOf Z C n d) v) := by
  intro h2 a2 ha2
  have hb : (#[cl] : Heap)[0]? = some cl := rfl
  have W : Wr (#[cl] : Heap) (#[cl.setSlot (Jvm.RoadKit.slotOf Z C n d) v] : Heap) 0 (Jvm.RoadKit.slotOf Z C n d) v := ⟨cl, hb, hst, hlt, rfl⟩
  obtain ⟨E, F⟩ := O _ _ hb
  have E' : Exa Z (#[cl.setSlot (Jvm.RoadKit.slotOf Z C n d) v] : Heap) 0 C := E.wr W
  refine ⟨?_, fun i f w hi hw => ?_⟩
  · obtain ⟨c1, k, q1, r⟩ := E'
    cases (show (#[cl.setSlot (Jvm.RoadKit.slotOf Z C n d) v] : Heap)[0]? = some _ from rfl).symm.trans q1
    exact ⟨_, k, ha2, r⟩
  · have F' : Fld Z (#[cl.setSlot (Jvm.RoadKit.slotOf Z C n d) v] : Heap) 0 C f.1 f.2 w := by
      by_cases q : j = i
      · subst q
        cases hj.symm.trans hi
        rw [List.getElem?_set_self (List.getElem?_eq_some_iff.mp hv).1] at hw
        cases hw
        exact (F j (n, d) old hj hv).same W
      · rw [List.getElem?_set_ne q] at hw
        exact (F i f w hi hw).other W (Or.inr (ap i j f (n, d) hi hj (Ne.symm q)))
    obtain ⟨c1, cf, k, i1, f1, q1, r⟩ := F'
    cases (show (#[cl.setSlot (Jvm.RoadKit.slotOf Z C n d) v] : Heap)[0]? = some _ from rfl).symm.trans q1
    exact ⟨_, cf, k, i1, f1, ha2, r⟩
theorem own_db {bs : ByteArray} (h1 : c.code = bs) {r : Except DecodeError (Instr × Nat)} (h2 : decode bs pc = r) : decode c.code pc = r := h1 ▸ h2
/-! steps -/
theorem own_new (A : own_at p l e R s m args below meth c n0 T cells slots its) (hx : p.tables.exec = Jvm.exec) (hZ : Z.Warmed39 s.vm) {C : String} {index n : Nat} (hown : s.vm.findClass own = some m.cls) (w : (Cond.classLink own index C).before a0 Z = true) (wi : (Cond.instantiable C n).before a0 Z = true) (wz : (Cond.initialized C).before a0 Z = true)
    {ns : List (String × String)} {vs : List Value} (hns : ∀ f ∈ ns.zip vs, Laid Z a0 C C f.1.1 f.1.2 ∧ ∃ ty, parseFieldDescriptor f.1.2 = some ty ∧ f.2 = defaultValue ty)
    (hd : decode c.code pc = .ok (.new index, 3)) (hc : cells + 1 ≤ R.cells) (hl : slots + n ≤ R.slots)
    (k : ∀ T', own_at p l e R s m args below meth c n0 T' (cells + 1) (slots + n) (its ++ [own_obj Z C ns vs]) → own_go p e R s below n0 Q (T'.setTop (mkF m (pc + 3) Ls (.ref (n0 + its.length) :: stk)))) :
    own_go p e R s below n0 Q (T.setTop (mkF m pc Ls stk)) := by
  obtain ⟨L, X, N, H⟩ := A
  obtain ⟨vm', cC, kC, h1, h2, h3, h4, X', st⟩ := X.newCold hx hown (mv hZ w) (mv hZ wi) (mv hZ wz) (g := mkF m pc Ls stk) rfl hd hc hl
  rw [H.1] at st
  rw [hZ.alike.findClass] at h1
  obtain ⟨kZ, z1, -⟩ := Vm.findClass_spec h1
  obtain ⟨k', z2, z3⟩ := hZ.alike.2.2 _ _ z1
  cases h2.symm.trans z2
  have ei : kC.instanceTypes = kZ.instanceTypes := by rw [z3]
  refine own_by st (k _ ⟨L, X', N, H.push fun h2 a2 ha2 => ⟨⟨_, kZ, ha2, h1, z1, rfl, fun _ => by simp [ei]⟩, fun i f v hi hv => ?_⟩⟩)
  have hz : (ns.zip vs)[i]? = some (f, v) := List.getElem?_zip_eq_some.mpr ⟨hi, hv⟩
  obtain ⟨La, ty, ht, hdv⟩ := hns _ (List.mem_of_getElem? hz)
  obtain ⟨c1, k1, cf, kf, i1, f1, a1, a2', a3, a4, a5, a6, -⟩ := La.spec
  cases h1.symm.trans a1
  cases z1.symm.trans a2'
  dsimp only at hdv ht a3
  subst hdv
  exact ⟨_, cf, kf, i1, f1, ha2, a3, a4, by simp, rfl, a5, by simp [ei, a6, (State.fieldFound?_type a3 ht).2]⟩
theorem own_fit0 {ty : FieldType} (h0 : defaultValue ty = .int 0) : fits ty (.int 0) = true := by
  cases ty <;> first | rfl | (simp [defaultValue] at h0)
theorem own_newP (A : own_at p l e R s m args below meth c n0 T cells slots its) (hx : p.tables.exec = Jvm.exec) (hZ : Z.Warmed39 s.vm) {aty : ArrayType} (w : (Cond.arrayClass (newarray.typeOf aty)).before a0 Z = true)
    (hd : decode c.code pc = .ok (.newarray aty, 2)) {n : Int32} (q : Nat) (hn : ¬ n < 0 ∧ n.toNatClampNeg = q) {cap : Nat} (hcap : q ≤ cap) (hb : cap * 8 ≤ 536870912) (h0 : defaultValue (newarray.typeOf aty) = .int 0) (hc : cells + 1 ≤ R.cells) (hl : slots + cap ≤ R.slots)
    (k : ∀ T', own_at p l e R s m args below meth c n0 T' (cells + 1) (slots + cap) (its ++ [own_ia Z (newarray.typeOf aty) (List.replicate q 0)]) → own_go p e R s below n0 Q (T'.setTop (mkF m (pc + 2) Ls (.ref (n0 + its.length) :: stk)))) :
    own_go p e R s below n0 Q (T.setTop (mkF m pc Ls (.int n :: stk))) := by
  obtain ⟨L, X, N, H⟩ := A
  obtain ⟨hn, rfl⟩ := hn
  have hcb : componentBytes (newarray.typeOf aty) ≤ 8 := by cases aty <;> decide
  obtain ⟨cA, kA, comp, h1, h2, h3, X', st⟩ := X.newarrayPrim hx (mvA hZ w) (g := mkF m pc Ls (.int n :: stk)) rfl hd rfl hn (Nat.le_trans (Nat.mul_le_mul hcap hcb) hb) hc (by omega)
  rw [H.1] at st
  rw [hZ.alike.findClass] at h1
  obtain ⟨kZ, z1, -⟩ := Vm.findClass_spec h1
  obtain ⟨k', z2, z3⟩ := hZ.alike.2.2 _ _ z1
  cases h2.symm.trans z2
  refine own_by st (k _ ⟨L, X'.more (Nat.le_refl _) (by omega), N, H.push ⟨by rw [List.length_replicate]; exact n.toNatClampNeg_lt, by rw [h0]; simp [List.map_replicate], ⟨by simp, kZ, z1, comp, by rw [← h3, z3]⟩, by simp, fun x hx => ?_, h1⟩⟩)
  rw [List.eq_of_mem_replicate hx]
  exact own_fit0 h0
theorem own_newL (A : own_at p l e R s m args below meth c n0 T cells slots its) (hx : p.tables.exec = Jvm.exec) (hZ : Z.Warmed39 s.vm) (w : (Cond.arrayClass .long).before a0 Z = true)
    (hd : decode c.code pc = .ok (.newarray .long, 2)) {n : Int32} (q : Nat) (hn : ¬ n < 0 ∧ n.toNatClampNeg = q) {cap : Nat} (hcap : q ≤ cap) (hb : cap * 8 ≤ 536870912) (hc : cells + 1 ≤ R.cells) (hl : slots + cap ≤ R.slots)
    (k : ∀ T', own_at p l e R s m args below meth c n0 T' (cells + 1) (slots + cap) (its ++ [own_la Z (List.replicate q 0)]) → own_go p e R s below n0 Q (T'.setTop (mkF m (pc + 2) Ls (.ref (n0 + its.length) :: stk)))) :
    own_go p e R s below n0 Q (T.setTop (mkF m pc Ls (.int n :: stk))) := by
  obtain ⟨L, X, N, H⟩ := A
  obtain ⟨hn, rfl⟩ := hn
  obtain ⟨cA, kA, comp, h1, h2, h3, X', st⟩ := X.newarrayPrim hx (atype := .long) (mvA hZ w) (g := mkF m pc Ls (.int n :: stk)) rfl hd rfl hn (Nat.le_trans (Nat.mul_le_mul hcap (by decide)) hb) hc (by omega)
  rw [H.1] at st
  rw [hZ.alike.findClass] at h1
  obtain ⟨kZ, z1, -⟩ := Vm.findClass_spec h1
  obtain ⟨k', z2, z3⟩ := hZ.alike.2.2 _ _ z1
  cases h2.symm.trans z2
  exact own_by st (k _ ⟨L, X'.more (Nat.le_refl _) (by omega), N, H.push ⟨by rw [List.length_replicate]; exact n.toNatClampNeg_lt, by simp [List.map_replicate, newarray.typeOf, defaultValue], ⟨by simp, kZ, z1, comp, by rw [z3] at h3; exact h3⟩, by simp⟩⟩)
theorem own_getF (A : own_at p l e R s m args below meth c n0 T cells slots its) (hx : p.tables.exec = Jvm.exec) (hZ : Z.Warmed39 s.vm) {C n d : String} {index i : Nat} (hown : s.vm.findClass own = some m.cls) (w : (Cond.fieldLink own index C n d).before a0 Z = true)
    {ns : List (String × String)} {vs : List Value} (hi : its[i]? = some (own_obj Z C ns vs)) (j : Nat) (hj : ns[j]? = some (n, d)) {v : Value} (hv : vs[j]? = some v) (hd : decode c.code pc = .ok (.getfield index, 3))
    (k : ∀ T', own_at p l e R s m args below meth c n0 T' cells slots its → own_go p e R s below n0 Q (T'.setTop (mkF m (pc + 3) Ls (v :: stk)))) :
    own_go p e R s below n0 Q (T.setTop (mkF m pc Ls (.ref (n0 + i) :: stk))) := by
  obtain ⟨L, X, N, H⟩ := A
  obtain ⟨cl, g1, g2⟩ := H.2 i _ hi
  obtain ⟨T', X', e', st⟩ := getF X hx hZ hown (host := "") (Or.inl w) Via.refl rfl ((g2 _ _ g1).2 j _ v hj hv) (g := mkF m pc Ls (.ref (n0 + i) :: stk)) rfl rfl hd
  exact own_by st (k T' ⟨L, X', N, by rw [e']; exact H⟩)
theorem own_putF (A : own_at p l e R s m args below meth c n0 T cells slots its) (hx : p.tables.exec = Jvm.exec) (hZ : Z.Warmed39 s.vm) {C n d : String} {index i kk : Nat} {ty : FieldType} (hown : s.vm.findClass own = some m.cls) (w : (Cond.fieldLink own index C n d).before a0 Z = true)
    {ns : List (String × String)} {vs : List Value} (hi : its[i]? = some (own_obj Z C ns vs)) (j : Nat) (hj : ns[j]? = some (n, d)) {v v' old : Value} (hv : vs[j]? = some old) (ap : own_apart Z C ns)
    (La : (Cond.lays C C n d).before a0 Z = true ∨ ((Cond.laysFinal C C n d).before a0 Z = true ∧ own = C ∧ meth.name = "<init>")) (wi : (Cond.instantiable C kk).before a0 Z = true) (hty : parseFieldDescriptor d = some ty) (hn : narrow ty v = v') (hf : fits ty v' = true)
    (hd : decode c.code pc = .ok (.putfield index, 3)) {its2 : List (Cell → Prop)} (h2 : its.set i (own_obj Z C ns (vs.set j v')) = its2)
    (k : ∀ T', own_at p l e R s m args below meth c n0 T' cells slots its2 → own_go p e R s below n0 Q (T'.setTop (mkF m (pc + 3) Ls stk))) :
    own_go p e R s below n0 Q (T.setTop (mkF m pc Ls (v :: .ref (n0 + i) :: stk))) := by
  obtain ⟨L, X, N, H⟩ := A
  obtain ⟨cl, g1, g2⟩ := H.2 i _ hi
  obtain ⟨T', h', X', e', W, st⟩ := putFN X hx hZ hown w Via.refl rfl ((g2 _ _ g1).2 j _ old hj hv) (g2 _ _ g1).1 La wi hty hn hf (g := mkF m pc Ls (v :: .ref (n0 + i) :: stk)) rfl rfl hd
  have N' := Fr.snoc X' N (Nat.le_add_right n0 i)
  have W2 := W
  obtain ⟨cl2, w1, w2, w3, -⟩ := W2
  refine own_by st (k T' ⟨_, X', N', ?_⟩)
  rw [e', ← h2]
  exact H.wr hi W fun cl3 q1 q2 => by
    cases w1.symm.trans q1
    exact q2.set ap hj hv w3 w2
theorem own_ia.arr {ty : FieldType} {xs : List Int32} {cl : Cell} (O : own_ia Z ty xs cl) {a : Addr} (hc : h[a]? = some cl) : Arr Z h a cl ty := ⟨hc, O.2.2.1, O.2.2.2.1⟩
theorem own_ia.inb {ty : FieldType} {xs : List Int32} {cl : Cell} (O : own_ia Z ty xs cl) {j : Int32} {x : Int32} (hj : ¬ j < 0 ∧ xs[j.toNatClampNeg]? = some x) : ¬ (j < 0 ∨ cl.slots.size ≤ j.toNatClampNeg) ∧ cl.slots[j.toNatClampNeg]? = some (.int x) := by
  have hl := (List.getElem?_eq_some_iff.mp hj.2).1
  refine ⟨fun q => q.elim hj.1 fun q2 => ?_, ?_⟩
  · rw [O.2.1] at q2; simp at q2; omega
  · rw [O.2.1]; simp [hj.2]
theorem own_la.inb {xs : List Int64} {cl : Cell} (O : own_la Z xs cl) {j : Int32} {x : Int64} (hj : ¬ j < 0 ∧ xs[j.toNatClampNeg]? = some x) : ¬ (j < 0 ∨ cl.slots.size ≤ j.toNatClampNeg) ∧ cl.slots[j.toNatClampNeg]? = some (.long x) := by
  have hl := (List.getElem?_eq_some_iff.mp hj.2).1
  refine ⟨fun q => q.elim hj.1 fun q2 => ?_, ?_⟩
  · rw [O.2.1] at q2; simp at q2; omega
  · rw [O.2.1]; simp [hj.2]
theorem own_ia.set {ty : FieldType} {xs : List Int32} {cl : Cell} (O : own_ia Z ty xs cl) (q : Nat) {x : Int32} (hf : fits ty (.int x) = true) : own_ia Z ty (xs.set q x) (cl.setSlot q (.int x)) := by
  refine ⟨by rw [List.length_set]; exact O.1, ?_, O.2.2.1, O.2.2.2.1, fun y hy => ?_, O.2.2.2.2.2⟩
  · rw [Cell.setSlot]; show cl.slots.setIfInBounds q _ = _
    rw [O.2.1, List.setIfInBounds_toArray, List.map_set]
  · rcases List.mem_or_eq_of_mem_set hy with q | rfl
    · exact O.2.2.2.2.1 y q
    · exact hf
theorem own_la.set {xs : List Int64} {cl : Cell} (O : own_la Z xs cl) (q : Nat) {x : Int64} : own_la Z (xs.set q x) (cl.setSlot q (.long x)) := by
  refine ⟨by rw [List.length_set]; exact O.1, ?_, O.2.2.1, O.2.2.2⟩
  rw [Cell.setSlot]; show cl.slots.setIfInBounds q _ = _
  rw [O.2.1, List.setIfInBounds_toArray, List.map_set]
theorem own_iaload (A : own_at p l e R s m args below meth c n0 T cells slots its) (hx : p.tables.exec = Jvm.exec) (hZ : Z.Warmed39 s.vm) {i : Nat} {xs : List Int32} (hi : its[i]? = some (own_ia Z .int xs)) {j x : Int32} (hj : ¬ j < 0 ∧ xs[j.toNatClampNeg]? = some x) (hd : decode c.code pc = .ok (.iaload, 1))
    (k : own_go p e R s below n0 Q (T.setTop (mkF m (pc + 1) Ls (.int x :: stk)))) : own_go p e R s below n0 Q (T.setTop (mkF m pc Ls (.int j :: .ref (n0 + i) :: stk))) := by
  obtain ⟨L, X, N, H⟩ := A
  obtain ⟨cl, g1, g2⟩ := H.2 i _ hi
  exact own_by (fun t k => X.iaload hx g1 (State.isArrayOf_alike hZ.alike g2.2.2.1) g2.2.2.2.1 (g2.inb hj).1 (g2.inb hj).2 (g := mkF m pc Ls (.int j :: .ref (n0 + i) :: stk)) rfl rfl hd t k) k
theorem own_caload (A : own_at p l e R s m args below meth c n0 T cells slots its) (hx : p.tables.exec = Jvm.exec) (hZ : Z.Warmed39 s.vm) {i : Nat} {xs : List Int32} (hi : its[i]? = some (own_ia Z .char xs)) {j x : Int32} (hj : ¬ j < 0 ∧ xs[j.toNatClampNeg]? = some x) (hd : decode c.code pc = .ok (.caload, 1))
    (k : own_go p e R s below n0 Q (T.setTop (mkF m (pc + 1) Ls (.int x :: stk)))) : own_go p e R s below n0 Q (T.setTop (mkF m pc Ls (.int j :: .ref (n0 + i) :: stk))) := by
  obtain ⟨L, X, N, H⟩ := A
  obtain ⟨cl, g1, g2⟩ := H.2 i _ hi
  exact own_by (fun t k => X.caload hx g1 (State.isArrayOf_alike hZ.alike g2.2.2.1) g2.2.2.2.1 (g2.inb hj).1 (g2.inb hj).2 (g := mkF m pc Ls (.int j :: .ref (n0 + i) :: stk)) rfl rfl hd t k) k
theorem own_baload (A : own_at p l e R s m args below meth c n0 T cells slots its) (hx : p.tables.exec = Jvm.exec) (hZ : Z.Warmed39 s.vm) {i : Nat} {xs : List Int32} (hi : its[i]? = some (own_ia Z .byte xs)) {j x : Int32} (hj : ¬ j < 0 ∧ xs[j.toNatClampNeg]? = some x) (hd : decode c.code pc = .ok (.baload, 1))
    (k : own_go p e R s below n0 Q (T.setTop (mkF m (pc + 1) Ls (.int x :: stk)))) : own_go p e R s below n0 Q (T.setTop (mkF m pc Ls (.int j :: .ref (n0 + i) :: stk))) := by
  obtain ⟨L, X, N, H⟩ := A
  obtain ⟨cl, g1, g2⟩ := H.2 i _ hi
  exact own_by (fun t k => X.baloadBytes hx g1 (State.isArrayOf_alike hZ.alike g2.2.2.1) g2.2.2.2.1 (g2.inb hj).1 (g2.inb hj).2 (g := mkF m pc Ls (.int j :: .ref (n0 + i) :: stk)) rfl rfl hd t k) k
theorem own_laload (A : own_at p l e R s m args below meth c n0 T cells slots its) (hx : p.tables.exec = Jvm.exec) (hZ : Z.Warmed39 s.vm) {i : Nat} {xs : List Int64} (hi : its[i]? = some (own_la Z xs)) {j : Int32} {x : Int64} (hj : ¬ j < 0 ∧ xs[j.toNatClampNeg]? = some x) (hd : decode c.code pc = .ok (.laload, 1))
    (k : own_go p e R s below n0 Q (T.setTop (mkF m (pc + 1) Ls (.long x :: stk)))) : own_go p e R s below n0 Q (T.setTop (mkF m pc Ls (.int j :: .ref (n0 + i) :: stk))) := by
  obtain ⟨L, X, N, H⟩ := A
  obtain ⟨cl, g1, g2⟩ := H.2 i _ hi
  exact own_by (fun t k => X.laload hx g1 (State.isArrayOf_alike hZ.alike g2.2.2.1) g2.2.2.2 (g2.inb hj).1 (g2.inb hj).2 (g := mkF m pc Ls (.int j :: .ref (n0 + i) :: stk)) rfl rfl hd t k) k
theorem own_at.wrote (N : Fr n0 locs) (H : own_hp n0 h its) {T' : State} {i sl : Nat} {v : Value} {P P' : Cell → Prop} (X' : Stand p l e R s m args below meth c T' (locs ++ [⟨n0 + i, sl⟩]) cells slots) (e' : T'.heap = h') (hi : its[i]? = some P) (W : Wr h h' (n0 + i) sl v) (hP : ∀ cl, h[n0 + i]? = some cl → P cl → P' (cl.setSlot sl v)) : own_at p l e R s m args below meth c n0 T' cells slots (its.set i P') :=
  ⟨_, X', Fr.snoc X' N (Nat.le_add_right n0 i), by rw [e']; exact H.wr hi W hP⟩
theorem own_ib {xs : List Int32} {ty : FieldType} {cl : Cell} (O : own_ia Z ty xs cl) {j : Int32} {q : Nat} (hj : ¬ j < 0 ∧ j.toNatClampNeg = q ∧ q < xs.length) : ¬ (j < 0 ∨ cl.slots.size ≤ j.toNatClampNeg) := by
  obtain ⟨h1, rfl, h3⟩ := hj
  refine fun z => z.elim h1 fun z => ?_
  rw [O.2.1] at z; simp at z; omega
theorem own_iastore (A : own_at p l e R s m args below meth c n0 T cells slots its) (hx : p.tables.exec = Jvm.exec) (hZ : Z.Warmed39 s.vm) {i : Nat} {xs : List Int32} (hi : its[i]? = some (own_ia Z .int xs)) {j x : Int32} (q : Nat) (hj : ¬ j < 0 ∧ j.toNatClampNeg = q ∧ q < xs.length) (hd : decode c.code pc = .ok (.iastore, 1)) {its2 : List (Cell → Prop)} (h2 : its.set i (own_ia Z .int (xs.set q x)) = its2)
    (k : ∀ T', own_at p l e R s m args below meth c n0 T' cells slots its2 → own_go p e R s below n0 Q (T'.setTop (mkF m (pc + 1) Ls stk))) : own_go p e R s below n0 Q (T.setTop (mkF m pc Ls (.int x :: .int j :: .ref (n0 + i) :: stk))) := by
  obtain ⟨L, X, N, H⟩ := A
  obtain ⟨cl, g1, g2⟩ := H.2 i _ hi
  obtain ⟨T', h', X', e', W, st⟩ := stI X hx hZ rfl (g2.arr g1) (own_ib g2 hj) (g := mkF m pc Ls (.int x :: .int j :: .ref (n0 + i) :: stk)) rfl rfl hd
  obtain ⟨j1, rfl, j3⟩ := hj
  exact own_by st (k T' (h2 ▸ own_at.wrote N H X' e' hi W fun cl _ O => O.set _ rfl))
theorem own_castore (A : own_at p l e R s m args below meth c n0 T cells slots its) (hx : p.tables.exec = Jvm.exec) (hZ : Z.Warmed39 s.vm) {i : Nat} {xs : List Int32} (hi : its[i]? = some (own_ia Z .char xs)) {j x : Int32} (q : Nat) (hj : ¬ j < 0 ∧ j.toNatClampNeg = q ∧ q < xs.length) (hd : decode c.code pc = .ok (.castore, 1)) {its2 : List (Cell → Prop)} (h2 : its.set i (own_ia Z .char (xs.set q (nar .char x))) = its2)
    (k : ∀ T', own_at p l e R s m args below meth c n0 T' cells slots its2 → own_go p e R s below n0 Q (T'.setTop (mkF m (pc + 1) Ls stk))) : own_go p e R s below n0 Q (T.setTop (mkF m pc Ls (.int x :: .int j :: .ref (n0 + i) :: stk))) := by
  obtain ⟨L, X, N, H⟩ := A
  obtain ⟨cl, g1, g2⟩ := H.2 i _ hi
  obtain ⟨T', h', X', e', W, st⟩ := stC X hx hZ rfl (g2.arr g1) (own_ib g2 hj) (g := mkF m pc Ls (.int x :: .int j :: .ref (n0 + i) :: stk)) rfl rfl hd
  obtain ⟨j1, rfl, j3⟩ := hj
  exact own_by st (k T' (h2 ▸ own_at.wrote N H X' e' hi W fun cl _ O => O.set _ (fits_nar_char x)))
theorem own_bastore (A : own_at p l e R s m args below meth c n0 T cells slots its) (hx : p.tables.exec = Jvm.exec) (hZ : Z.Warmed39 s.vm) {i : Nat} {xs : List Int32} (hi : its[i]? = some (own_ia Z .byte xs)) {j x : Int32} (q : Nat) (hj : ¬ j < 0 ∧ j.toNatClampNeg = q ∧ q < xs.length) (hd : decode c.code pc = .ok (.bastore, 1)) {its2 : List (Cell → Prop)} (h2 : its.set i (own_ia Z .byte (xs.set q (nar .byte x))) = its2)
    (k : ∀ T', own_at p l e R s m args below meth c n0 T' cells slots its2 → own_go p e R s below n0 Q (T'.setTop (mkF m (pc + 1) Ls stk))) : own_go p e R s below n0 Q (T.setTop (mkF m pc Ls (.int x :: .int j :: .ref (n0 + i) :: stk))) := by
  obtain ⟨L, X, N, H⟩ := A
  obtain ⟨cl, g1, g2⟩ := H.2 i _ hi
  obtain ⟨T', h', X', e', W, st⟩ := stB X hx hZ rfl (g2.arr g1) (own_ib g2 hj) (g := mkF m pc Ls (.int x :: .int j :: .ref (n0 + i) :: stk)) rfl rfl hd
  obtain ⟨j1, rfl, j3⟩ := hj
  exact own_by st (k T' (h2 ▸ own_at.wrote N H X' e' hi W fun cl _ O => O.set _ (fits_nar_byte x)))
theorem own_lastore (A : own_at p l e R s m args below meth c n0 T cells slots its) (hx : p.tables.exec = Jvm.exec) (hZ : Z.Warmed39 s.vm) {i : Nat} {xs : List Int64} (hi : its[i]? = some (own_la Z xs)) {j : Int32} {x : Int64} (q : Nat) (hj : ¬ j < 0 ∧ j.toNatClampNeg = q ∧ q < xs.length) (hd : decode c.code pc = .ok (.lastore, 1)) {its2 : List (Cell → Prop)} (h2 : its.set i (own_la Z (xs.set q x)) = its2)
    (k : ∀ T', own_at p l e R s m args below meth c n0 T' cells slots its2 → own_go p e R s below n0 Q (T'.setTop (mkF m (pc + 1) Ls stk))) : own_go p e R s below n0 Q (T.setTop (mkF m pc Ls (.long x :: .int j :: .ref (n0 + i) :: stk))) := by
  obtain ⟨L, X, N, H⟩ := A
  obtain ⟨cl, g1, g2⟩ := H.2 i _ hi
  obtain ⟨j1, rfl, j3⟩ := hj
  have hb : ¬ (j < 0 ∨ cl.slots.size ≤ j.toNatClampNeg) := fun z => z.elim j1 fun z => by rw [g2.2.1] at z; simp at z; omega
  obtain ⟨T', h', X', e', W, st⟩ := stJ X hx hZ rfl (⟨g1, g2.2.2.1, g2.2.2.2⟩ : Arr Z T.heap (n0 + i) cl .long) hb (g := mkF m pc Ls (.long x :: .int j :: .ref (n0 + i) :: stk)) rfl rfl hd
  exact own_by st (k T' (h2 ▸ own_at.wrote N H X' e' hi W fun cl _ O => O.set _))
theorem own_len (A : own_at p l e R s m args below meth c n0 T cells slots its) (hx : p.tables.exec = Jvm.exec) (hZ : Z.Warmed39 s.vm) {i : Nat} {ty : FieldType} {xs : List Int32} (hi : its[i]? = some (own_ia Z ty xs)) {z : Int32} (hz : xs.length.toInt32 = z) (hd : decode c.code pc = .ok (.arraylength, 1))
    (k : own_go p e R s below n0 Q (T.setTop (mkF m (pc + 1) Ls (.int z :: stk)))) : own_go p e R s below n0 Q (T.setTop (mkF m pc Ls (.ref (n0 + i) :: stk))) := by
  obtain ⟨L, X, N, H⟩ := A
  obtain ⟨cl, g1, g2⟩ := H.2 i _ hi
  have q : cl.slots.size.toInt32 = z := by rw [g2.2.1]; simpa using hz
  subst q
  exact own_by (fun t k => X.arraylength hx g1 (State.isArrayOf_alike hZ.alike g2.2.2.1) (g := mkF m pc Ls (.ref (n0 + i) :: stk)) rfl rfl hd t k) k
theorem own_lenL (A : own_at p l e R s m args below meth c n0 T cells slots its) (hx : p.tables.exec = Jvm.exec) (hZ : Z.Warmed39 s.vm) {i : Nat} {xs : List Int64} (hi : its[i]? = some (own_la Z xs)) {z : Int32} (hz : xs.length.toInt32 = z) (hd : decode c.code pc = .ok (.arraylength, 1))
    (k : own_go p e R s below n0 Q (T.setTop (mkF m (pc + 1) Ls (.int z :: stk)))) : own_go p e R s below n0 Q (T.setTop (mkF m pc Ls (.ref (n0 + i) :: stk))) := by
  obtain ⟨L, X, N, H⟩ := A
  obtain ⟨cl, g1, g2⟩ := H.2 i _ hi
  have q : cl.slots.size.toInt32 = z := by rw [g2.2.1]; simpa using hz
  subst q
  exact own_by (fun t k => X.arraylength hx g1 (State.isArrayOf_alike hZ.alike g2.2.2.1) (g := mkF m pc Ls (.ref (n0 + i) :: stk)) rfl rfl hd t k) k
theorem own_ldcI (A : own_at p l e R s m args below meth c n0 T cells slots its) (hx : p.tables.exec = Jvm.exec) (hZ : Z.Warmed39 s.vm) (hown : s.vm.findClass own = some m.cls) {index : Nat} {v : Int32} (w : (Cond.constant own index v).before a0 Z = true) (hd : decode c.code pc = .ok (.ldc index, 2))
    (k : own_go p e R s below n0 Q (T.setTop (mkF m (pc + 2) Ls (.int v :: stk)))) : own_go p e R s below n0 Q (T.setTop (mkF m pc Ls stk)) := by
  obtain ⟨L, X, N, H⟩ := A
  exact own_by (X.ldcInt hx hown (mvT hZ w) (g := mkF m pc Ls stk) rfl hd) k
theorem own_ldcJ (A : own_at p l e R s m args below meth c n0 T cells slots its) (hx : p.tables.exec = Jvm.exec) (hZ : Z.Warmed39 s.vm) (hown : s.vm.findClass own = some m.cls) {index : Nat} {v : Int64} (w : (Cond.constantLong own index v).before a0 Z = true) (hd : decode c.code pc = .ok (.ldc2_w index, 3))
    (k : own_go p e R s below n0 Q (T.setTop (mkF m (pc + 3) Ls (.long v :: stk)))) : own_go p e R s below n0 Q (T.setTop (mkF m pc Ls stk)) := by
  obtain ⟨L, X, N, H⟩ := A
  exact own_by (X.ldc2Long hx hown (mvT hZ w) (g := mkF m pc Ls stk) rfl hd) k
theorem own_irem (A : own_at p l e R s m args below meth c n0 T cells slots its) (hx : p.tables.exec = Jvm.exec) {x y : Int32} (hy : y ≠ 0) (hd : decode c.code pc = .ok (.irem, 1))
    (k : own_go p e R s below n0 Q (T.setTop (mkF m (pc + 1) Ls (.int (x % y) :: stk)))) : own_go p e R s below n0 Q (T.setTop (mkF m pc Ls (.int y :: .int x :: stk))) := by
  obtain ⟨L, X, N, H⟩ := A
  exact own_by (fun t k => iremM X hx (g := mkF m pc Ls (.int y :: .int x :: stk)) rfl hd rfl hy k) k
theorem own_lrem (A : own_at p l e R s m args below meth c n0 T cells slots its) (hx : p.tables.exec = Jvm.exec) {x y : Int64} (hy : y ≠ 0) (hd : decode c.code pc = .ok (.lrem, 1))
    (k : own_go p e R s below n0 Q (T.setTop (mkF m (pc + 1) Ls (.long (x % y) :: stk)))) : own_go p e R s below n0 Q (T.setTop (mkF m pc Ls (.long y :: .long x :: stk))) := by
  rw [← lrem_mod] at k
  exact own_by (fun t k => XS.lrem A.here hx (g := mkF m pc Ls (.long y :: .long x :: stk)) rfl hd rfl hy k) k
/-! the end -/
theorem own_ret (A : own_at p l e R s m args below meth c n0 T cells slots its) (hx : p.tables.exec = Jvm.exec) (hlk : meth.locks = false) {w : Value} {t : FieldType} {i : Instr} (hret : meth.sig.returnType = some t) (hn : narrow t w = w)
    (hi : (i = .ireturn ∧ (t = .int ∨ t = .boolean ∨ t = .byte ∨ t = .char ∨ t = .short) ∧ ∃ z, w = .int z) ∨ (i = .lreturn ∧ t = .long ∧ ∃ z, w = .long z) ∨ (i = .dreturn ∧ t = .double ∧ ∃ z, w = .double z) ∨ (i = .freturn ∧ t = .float ∧ ∃ z, w = .float z) ∨ (i = .areturn ∧ t.isReference = true ∧ w.isRef = true))
    (hd : decode c.code pc = .ok (i, 1)) (hc : cells ≤ R.cells) (hs : slots ≤ R.slots) (hQ : Q (some w) its) : own_go p e R s below n0 Q (T.setTop (mkF m pc Ls (w :: stk))) := by
  obtain ⟨L, X, N, H⟩ := A
  obtain ⟨fs, hr, hrun, hended, hW, hsame⟩ := X.leave (v := some w) (fun h => by rw [hret] at h; cases h) hlk
  exact ⟨_, _, _, _, retOut X hx hret hn hi hd hr, hrun, hended, hQ, N, H, hW, hsame.mono hc hs⟩
theorem own_retI (A : own_at p l e R s m args below meth c n0 T cells slots its) (hx : p.tables.exec = Jvm.exec) (hlk : meth.locks = false) {w : Int32} (hret : meth.sig.returnType = some .int) (hd : decode c.code pc = .ok (.ireturn, 1)) (hc : cells ≤ R.cells) (hs : slots ≤ R.slots) (hQ : Q (some (.int w)) its) : own_go p e R s below n0 Q (T.setTop (mkF m pc Ls (.int w :: stk))) :=
  own_ret A hx hlk hret rfl (Or.inl ⟨rfl, Or.inl rfl, w, rfl⟩) hd hc hs hQ
theorem own_retJ (A : own_at p l e R s m args below meth c n0 T cells slots its) (hx : p.tables.exec = Jvm.exec) (hlk : meth.locks = false) {w : Int64} (hret : meth.sig.returnType = some .long) (hd : decode c.code pc = .ok (.lreturn, 1)) (hc : cells ≤ R.cells) (hs : slots ≤ R.slots) (hQ : Q (some (.long w)) its) : own_go p e R s below n0 Q (T.setTop (mkF m pc Ls (.long w :: stk))) :=
  own_ret A hx hlk hret rfl (Or.inr (Or.inl ⟨rfl, rfl, w, rfl⟩)) hd hc hs hQ
theorem own_retA (A : own_at p l e R s m args below meth c n0 T cells slots its) (hx : p.tables.exec = Jvm.exec) (hlk : meth.locks = false) {a : Addr} {t : FieldType} (hret : meth.sig.returnType = some t) (hn : narrow t (.ref a) = .ref a) (ht : t.isReference = true) (hd : decode c.code pc = .ok (.areturn, 1)) (hc : cells ≤ R.cells) (hs : slots ≤ R.slots) (hQ : Q (some (.ref a)) its) : own_go p e R s below n0 Q (T.setTop (mkF m pc Ls (.ref a :: stk))) :=
  own_ret A hx hlk hret hn (Or.inr (Or.inr (Or.inr (Or.inr ⟨rfl, ht, rfl⟩)))) hd hc hs hQ
theorem own_retN (A : own_at p l e R s m args below meth c n0 T cells slots its) (hx : p.tables.exec = Jvm.exec) (hlk : meth.locks = false) {w : Int32} {t : FieldType} (ht : t = .boolean ∨ t = .byte ∨ t = .char ∨ t = .short) (hret : meth.sig.returnType = some t) (hd : decode c.code pc = .ok (.ireturn, 1)) (hc : cells ≤ R.cells) (hs : slots ≤ R.slots) (hQ : Q (some (.int (nar t w))) its) : own_go p e R s below n0 Q (T.setTop (mkF m pc Ls (.int w :: stk))) := by
  obtain ⟨L, X, N, H⟩ := A
  obtain ⟨fs, hr, hrun, hended, hW, hsame⟩ := X.leave (v := some (.int (nar t w))) (fun h => by rw [hret] at h; cases h) hlk
  exact ⟨_, _, _, _, retN X hx hret ht hd hr, hrun, hended, hQ, N, H, hW, hsame.mono hc hs⟩
theorem own_retV (A : own_at p l e R s m args below meth c n0 T cells slots its) (hx : p.tables.exec = Jvm.exec) (hlk : meth.locks = false) (hret : meth.sig.returnType = none) (hd : decode c.code pc = .ok (.return_, 1)) (hc : cells ≤ R.cells) (hs : slots ≤ R.slots) (hQ : Q none its) : own_go p e R s below n0 Q (T.setTop (mkF m pc Ls [])) := by
  obtain ⟨L, X, N, H⟩ := A
  obtain ⟨fs, hr, hrun, hended, hW, hsame⟩ := X.leave (v := none) (fun _ => rfl) hlk
  exact ⟨_, _, _, _, X.returnOut hx hret hd hr, hrun, hended, hQ, N, H, hW, hsame.mono hc hs⟩
/-! contracts -/
/-- a method's contract: with these arguments, over a heap whose new part is its, it returns as Q says -/
def own_met (l : Launch) (Z : State) (n0 : Nat) (y : MethodName) (bytes : ByteArray) (maxL : Nat) (ret : Option FieldType) (rm : Room) (as : Array Value) (its : List (Cell → Prop)) (Q : Option Value → List (Cell → Prop) → Prop) : Prop :=
  ∀ (h0 : Heap) (ws : List Jvm.Cond), own_hp n0 h0 its → MetFree l y (head1 (Jvm.Cond.code y bytes maxL ret :: ws) rm) (fun a U => a = as ∧ Z.Warmed39 U.vm ∧ U.heap = h0) (fun _ _ _ _ _ => True) (fun _ U o U' => ∃ v L, o = .returned v ∧ (Fr n0 L ∧ ∃ its', Q v its' ∧ own_hp n0 U'.heap its') ∧ FrameEnd U o U' L rm.cells rm.slots)
variable {y z : MethodName} {bytes : ByteArray} {maxL : Nat} {ret : Option FieldType} {rm : Room} {as : Array Value} {Q' : Option Value → List (Cell → Prop) → Prop}
theorem own_met.of (hpn : plainFor y = true)
    (body : ∀ (p : Program) (e : Env) (s : State) (m : MethodId) (below : List Frame) (meth : Method) (c : Code) (T : State), p.tables.exec = Jvm.exec → c.code = bytes → c.maxLocals = maxL → meth.sig.returnType = ret → meth.locks = false → Z.Warmed39 s.vm → s.vm.findClass y.cls = some m.cls → meth.name = y.name → own_at p l e rm s m as below meth c n0 T 0 0 its → own_go p e rm s below n0 Q (T.setTop (entryFrame m as maxL))) :
    own_met l Z n0 y bytes maxL ret rm as its Q := by
  intro h0 ws H
  refine MetFree.of_bodySF hpn hisR ?_
  intro p e s m args below meth c s₁ Bd hml0 hP hK
  obtain ⟨rfl, hZ, hh⟩ := hP
  have X0 : Stand p l e rm s m args below meth c s₁ [] 0 0 := Stand.of_body Bd
  have e0 : s₁.heap = h0 := by rw [← hh, Bd.state]; rfl
  obtain ⟨t, v, L, its', h1, h2, h3, h4, h5, h6, h7, h8⟩ := body p e s m below meth c s₁ Bd.exec Bd.bytes hml0 Bd.returns (BodyLoose.notSynchronized Bd) hZ (findClass_of_methodNamed Bd.named) (name_of_methodNamed Bd.named Bd.method).1 ⟨[], X0, Fr.nil n0, by rw [e0]; exact H⟩
  exact ⟨t, _, h1, h2, h3, v, L, rfl, ⟨h5, its', h4, h6⟩, ⟨_, rfl⟩, h7, h8⟩
theorem own_post {A B : Pt} {rm : Room} {v : Option Value} (hP : ∃ L, (Fr n0 L ∧ ∃ its', Q' v its' ∧ own_hp n0 B.U.heap its') ∧ B.locs = A.locs ++ L ∧ B.cells = A.cells + rm.cells ∧ B.slots = A.slots + rm.slots) (X : Stand p l e R s m args below meth c B.U B.locs B.cells B.slots) (N : Fr n0 A.locs) :
    ∃ its', Q' v its' ∧ own_at p l e R s m args below meth c n0 B.U (A.cells + rm.cells) (A.slots + rm.slots) its' := by
  obtain ⟨L, ⟨h1, its', h2, h3⟩, h4, h5, h6⟩ := hP
  rw [h4, h5, h6] at X
  exact ⟨its', h2, _, X, N.app h1, h3⟩
theorem own_callS (A : own_at p l e R s m args below meth c n0 T cells slots its) (hx : p.tables.exec = Jvm.exec) (hZ : Z.Warmed39 s.vm) (hown : s.vm.findClass own = some m.cls) {index : Nat} (w1 : (Cond.methodLink own index y).before a0 Z = true) (w2 : (Cond.static y).before a0 Z = true) (w3 : (Cond.initialized y.cls).before a0 Z = true) (w4 : (Cond.code y bytes maxL ret).before a0 Z = true)
    (hy : y.cls ≠ "java/lang/invoke/MethodHandle" ∧ y.cls ≠ "java/lang/invoke/VarHandle") (M : own_met l Z n0 y bytes maxL ret rm as its Q') (hml : Ls.size = c.maxLocals) (argsL : List Value) (has : argsL.toArray = as) (hstk : stk = argsL.reverse ++ rest) {ps : List FieldType} {r : Option FieldType} (pd : parseMethodDescriptor y.desc = some ⟨ps, r⟩) (hlen : argsL.length = ps.length)
    {W : Nat} (hW : 2 * 0 + (rest.map fun v => v.category).sum ≤ W) (hd : decode c.code pc = .ok (.invokestatic index, 3)) (hf : rm.frames + 1 ≤ R.frames) (hl : W + (maxL + 11) + rm.locals ≤ R.locals) (hc : cells + rm.cells ≤ R.cells) (hs : slots + rm.slots ≤ R.slots)
    (k : ∀ (v : Option Value) (its' : List (Cell → Prop)) (T' : State), Q' v its' → own_at p l e R s m args below meth c n0 T' (cells + rm.cells) (slots + rm.slots) its' → own_go p e R s below n0 Q (T'.setTop (mkF m (pc + 3) Ls (v.toList ++ rest)))) :
    own_go p e R s below n0 Q (T.setTop (mkF m pc Ls stk)) := by
  obtain ⟨L, X, N, H⟩ := A
  subst hstk has
  obtain ⟨v, vm1, B, -, XB, hP, st⟩ := Jvm.LawKit.callS X hx (y := y) hown (mvT hZ w1) (mvT hZ w2) (mvT hZ w3) (mvT hZ w4) hy (backOf (W := W) (Q := fun v h L => Fr n0 L ∧ ∃ its', Q' v its' ∧ own_hp n0 h its') (M T.heap [] H) hZ w4 w3 hf hl) (g := mkF m pc Ls (argsL.reverse ++ rest)) rfl hml (argsL := argsL) (rest := rest) (lenOf pd hlen) rfl hW hd (fun _ _ => ⟨rfl, rfl, hc, hs⟩)
  obtain ⟨its', q1, q2⟩ := own_post hP XB N
  exact own_by st (k v its' B.U q1 q2)
theorem own_tr {u u' : State} (st : Steps p.tables e below u u') (k : own_go p e R s below n0 Q u') : own_go p e R s below n0 Q u := own_by (fun _ q => st.trans q) k
theorem own_callC (A : own_at p l e R s m args below meth c n0 T cells slots its) (hx : p.tables.exec = Jvm.exec) (hZ : Z.Warmed39 s.vm) (hown : s.vm.findClass own = some m.cls) {index : Nat} (hy1 : y.name = "<init>") (w1 : (Cond.methodLink own index y).before a0 Z = true) (w2 : (Cond.instanceMethod y).before a0 Z = true) (w3 : (Cond.initialized y.cls).before a0 Z = true) (w4 : (Cond.code y bytes maxL none).before a0 Z = true)
    (hy : y.cls ≠ "java/lang/invoke/MethodHandle" ∧ y.cls ≠ "java/lang/invoke/VarHandle") (M : own_met l Z n0 y bytes maxL none rm as its Q') (hml : Ls.size = c.maxLocals) (a : Addr) (argsL : List Value) (has : (Value.ref a :: argsL).toArray = as) (hstk : stk = argsL.reverse ++ .ref a :: rest) {ps : List FieldType} {r : Option FieldType} (pd : parseMethodDescriptor y.desc = some ⟨ps, r⟩) (hlen : argsL.length = ps.length)
    {W : Nat} (hW : 2 * 0 + (rest.map fun v => v.category).sum ≤ W) (hd : decode c.code pc = .ok (.invokespecial index, 3)) (hf : rm.frames + 1 ≤ R.frames) (hl : W + (maxL + 11) + rm.locals ≤ R.locals) (hc : cells + rm.cells ≤ R.cells) (hs : slots + rm.slots ≤ R.slots)
    (k : ∀ (v : Option Value) (its' : List (Cell → Prop)) (T' : State), Q' v its' → own_at p l e R s m args below meth c n0 T' (cells + rm.cells) (slots + rm.slots) its' → own_go p e R s below n0 Q (T'.setTop (mkF m (pc + 3) Ls (v.toList ++ rest)))) :
    own_go p e R s below n0 Q (T.setTop (mkF m pc Ls stk)) := by
  obtain ⟨L, X, N, H⟩ := A
  subst hstk has
  obtain ⟨v, vm1, B, -, XB, hP, st⟩ := X.specialBack hx (y := y) hy1 hown (mvT hZ w1) (mvT hZ w2) (mvT hZ w4) hy (backOf (W := W) (Q := fun v h L => Fr n0 L ∧ ∃ its', Q' v its' ∧ own_hp n0 h its') (M T.heap [] H) hZ w4 w3 hf hl) (g := mkF m pc Ls (argsL.reverse ++ .ref a :: rest)) rfl hml (Steps.refl _) (a := a) (argsL := argsL) (rest := rest) (lenOf pd hlen) rfl hW hd (fun _ _ => ⟨rfl, rfl, hc, hs⟩)
  obtain ⟨its', q1, q2⟩ := own_post hP XB N
  exact own_tr st (k v its' B.U q1 q2)
theorem own_callV (A : own_at p l e R s m args below meth c n0 T cells slots its) (hx : p.tables.exec = Jvm.exec) (hZ : Z.Warmed39 s.vm) (hown : s.vm.findClass own = some m.cls) {index i : Nat} (w1 : (Cond.methodLink own index y).before a0 Z = true) (w2 : (Cond.declares y).before a0 Z = true) (w3 : (Cond.selects y.cls y y).before a0 Z = true) (w4 : (Cond.instanceMethod y).before a0 Z = true) (w5 : (Cond.initialized y.cls).before a0 Z = true) (w6 : (Cond.code y bytes maxL ret).before a0 Z = true)
    (hy : y.cls ≠ "java/lang/invoke/MethodHandle" ∧ y.cls ≠ "java/lang/invoke/VarHandle") {ns : List (String × String)} {vs : List Value} (hi : its[i]? = some (own_obj Z y.cls ns vs)) (M : own_met l Z n0 y bytes maxL ret rm as its Q') (hml : Ls.size = c.maxLocals) (argsL : List Value) (has : (Value.ref (n0 + i) :: argsL).toArray = as) (hstk : stk = argsL.reverse ++ .ref (n0 + i) :: rest) {ps : List FieldType} {r : Option FieldType} (pd : parseMethodDescriptor y.desc = some ⟨ps, r⟩) (hlen : argsL.length = ps.length)
    {W : Nat} (hW : 2 * 0 + (rest.map fun v => v.category).sum ≤ W) (hd : decode c.code pc = .ok (.invokevirtual index, 3)) (hf : rm.frames + 1 ≤ R.frames) (hl : W + (maxL + 11) + rm.locals ≤ R.locals) (hc : cells + rm.cells ≤ R.cells) (hs : slots + rm.slots ≤ R.slots)
    (k : ∀ (v : Option Value) (its' : List (Cell → Prop)) (T' : State), Q' v its' → own_at p l e R s m args below meth c n0 T' (cells + rm.cells) (slots + rm.slots) its' → own_go p e R s below n0 Q (T'.setTop (mkF m (pc + 3) Ls (v.toList ++ rest)))) :
    own_go p e R s below n0 Q (T.setTop (mkF m pc Ls stk)) := by
  obtain ⟨L, X, N, H⟩ := A
  subst hstk has
  obtain ⟨cl, g1, g2⟩ := H.2 i _ hi
  obtain ⟨cq, kq, q3a, q3b, q3c⟩ := isOf (T := T) hZ rfl (g2 _ _ g1).1
  obtain ⟨v, vm1, B, -, XB, hP, st⟩ := X.virtualBack hx (y := y) (z := y) hown (mvT hZ w1) (mvT hZ w2) (notFace_of_selects (args := #[]) (mvT hZ w3)) (mvT hZ w3) (mvT hZ w4) hy (backOf (W := W) (Q := fun v h L => Fr n0 L ∧ ∃ its', Q' v its' ∧ own_hp n0 h its') (M T.heap [] H) hZ w6 w5 hf hl) q3a q3c (g := mkF m pc Ls (argsL.reverse ++ .ref (n0 + i) :: rest)) rfl hml (Steps.refl _) (argsL := argsL) (rest := rest) (lenOf pd hlen) rfl hW hd (fun _ _ => ⟨rfl, rfl, hc, hs⟩)
  obtain ⟨its', q1, q2⟩ := own_post hP XB N
  exact own_tr st (k v its' B.U q1 q2)
theorem own_callP (A : own_at p l e R s m args below meth c n0 T cells slots its) (hx : p.tables.exec = Jvm.exec) (hZ : Z.Warmed39 s.vm) (hown : s.vm.findClass own = some m.cls) {index i : Nat} (w1 : (Cond.methodLink own index y).before a0 Z = true) (w2 : (Cond.privateMethod y).before a0 Z = true) {kk : Nat} (w3 : (Cond.instantiable y.cls kk).before a0 Z = true) (w4 : (Cond.instanceMethod y).before a0 Z = true) (w5 : (Cond.initialized y.cls).before a0 Z = true) (w6 : (Cond.code y bytes maxL ret).before a0 Z = true)
    (hy : y.cls ≠ "java/lang/invoke/MethodHandle" ∧ y.cls ≠ "java/lang/invoke/VarHandle") {ns : List (String × String)} {vs : List Value} (hi : its[i]? = some (own_obj Z y.cls ns vs)) (M : own_met l Z n0 y bytes maxL ret rm as its Q') (hml : Ls.size = c.maxLocals) (argsL : List Value) (has : (Value.ref (n0 + i) :: argsL).toArray = as) (hstk : stk = argsL.reverse ++ .ref (n0 + i) :: rest) {ps : List FieldType} {r : Option FieldType} (pd : parseMethodDescriptor y.desc = some ⟨ps, r⟩) (hlen : argsL.length = ps.length)
    {W : Nat} (hW : 2 * 0 + (rest.map fun v => v.category).sum ≤ W) (hd : decode c.code pc = .ok (.invokevirtual index, 3)) (hf : rm.frames + 1 ≤ R.frames) (hl : W + (maxL + 11) + rm.locals ≤ R.locals) (hc : cells + rm.cells ≤ R.cells) (hs : slots + rm.slots ≤ R.slots)
    (k : ∀ (v : Option Value) (its' : List (Cell → Prop)) (T' : State), Q' v its' → own_at p l e R s m args below meth c n0 T' (cells + rm.cells) (slots + rm.slots) its' → own_go p e R s below n0 Q (T'.setTop (mkF m (pc + 3) Ls (v.toList ++ rest)))) :
    own_go p e R s below n0 Q (T.setTop (mkF m pc Ls stk)) := by
  obtain ⟨L, X, N, H⟩ := A
  subst hstk has
  obtain ⟨cl, g1, g2⟩ := H.2 i _ hi
  obtain ⟨cq, q3a, q3b⟩ := (g2 _ _ g1).1.cell
  obtain ⟨c1, k1, i1, i2, -, i4, -⟩ := Cond.instantiable_spec (mvT (s := s) (args := args) hZ w3)
  have hpr : s.PrivateAt y := Cond.privateMethod_at (mvP hZ w2 (args := #[]))
  have hsel : (Cond.selects y.cls y y).before args s = true := selects_self_of_private i1 i2 (Bool.or_eq_false_iff.mp i4).1 hpr (mvT hZ w4) hy
  obtain ⟨v, vm1, B, -, XB, hP, st⟩ := X.privateBack hx (y := y) hown (mvT hZ w1) (mvT hZ w4) hsel hpr (mvT hZ w6) hy (backOf (W := W) (Q := fun v h L => Fr n0 L ∧ ∃ its', Q' v its' ∧ own_hp n0 h its') (M T.heap [] H) hZ w6 w5 hf hl) (g := mkF m pc Ls (argsL.reverse ++ .ref (n0 + i) :: rest)) rfl hml (Steps.refl _) (a := n0 + i) q3a q3b (argsL := argsL) (rest := rest) (lenOf pd hlen) rfl hW hd (fun _ _ => ⟨rfl, rfl, hc, hs⟩)
  obtain ⟨its', q1, q2⟩ := own_post hP XB N
  exact own_tr st (k v its' B.U q1 q2)
/-! comparisons of longs -/
theorem own_lc_lt {x y : Int64} (h : x < y) : lcmpW x y < 0 := by rw [lcW]; exact (lc_lt x y).mpr h
theorem own_lc_nlt {x y : Int64} (h : ¬ x < y) : ¬ lcmpW x y < 0 := by rw [lcW]; exact fun q => h ((lc_lt x y).mp q)
theorem own_lc_gt {x y : Int64} (h : y < x) : 0 < lcmpW x y := by rw [lcW]; exact (lc_gt x y).mpr h
theorem own_lc_ngt {x y : Int64} (h : ¬ y < x) : ¬ 0 < lcmpW x y := by rw [lcW]; exact fun q => h ((lc_gt x y).mp q)
theorem own_lc_eq {x y : Int64} (h : x = y) : lcmpW x y = 0 := by subst h; unfold lcmpW; simp
theorem own_lc_ne {x y : Int64} (h : ¬ x = y) : ¬ lcmpW x y = 0 := by
  unfold lcmpW
  (repeat' split) <;> first | decide | (exfalso; exact h (by assumption))
end Own
def own_g (xs : List Int32) (j : Int32) : Int32 := xs.getD j.toNatClampNeg 0
theorem own_rd {xs : List Int32} {j : Int32} {n : Nat} (hn : xs.length = n) (h0 : 0 ≤ j.toInt) (h1 : j.toInt < n) : ¬ j < 0 ∧ xs[j.toNatClampNeg]? = some (own_g xs j) := by
  have e0 : (0 : Int32).toInt = 0 := rfl
  have q : j.toNatClampNeg < xs.length := by rw [Int32.toNatClampNeg]; omega
  refine ⟨by rw [Int32.lt_iff_toInt_lt, e0]; omega, ?_⟩
  unfold own_g
  rw [List.getD_eq_getElem?_getD, List.getElem?_eq_getElem q]; rfl
theorem own_inc {j : Int32} (h1 : j.toInt < 100) : (j + (1 : Int32)).toInt = j.toInt + 1 := by
  have b := rng32 j
  have q := c_iadd j 1
  have b2 := rng32 (j + 1)
  have e1 : (1 : Int32).toInt = 1 := rfl
  rw [e1] at q; omega
theorem own_lt {a b : Int32} : a < b ↔ a.toInt < b.toInt := Int32.lt_iff_toInt_lt
theorem own_rd1 {xs : List Int32} {j lm : Int32} {n : Nat} (hn : xs.length = n) (h0 : 0 ≤ j.toInt) (h1 : j.toInt < 100) (hl : lm.toInt ≤ n) (h : (j + (1 : Int32)) < lm) : ¬ (j + (1 : Int32)) < 0 ∧ xs[(j + (1 : Int32)).toNatClampNeg]? = some (own_g xs (j + (1 : Int32))) := by
  have q := own_inc h1
  rw [own_lt] at h
  exact own_rd hn (by omega) (by omega)
theorem d_method_2_0 : decode method_2_code 0 = .ok (.iload_n 0, 1) := by decide +kernel
theorem d_method_2_1 : decode method_2_code 1 = .ok (.iconst 2, 1) := by decide +kernel
theorem d_method_2_2 : decode method_2_code 2 = .ok (.iload_n 2, 1) := by decide +kernel
theorem d_method_2_3 : decode method_2_code 3 = .ok (.imul, 1) := by decide +kernel
theorem d_method_2_4 : decode method_2_code 4 = .ok (.iushr, 1) := by decide +kernel
theorem d_method_2_5 : decode method_2_code 5 = .ok (.iconst 3, 1) := by decide +kernel
theorem d_method_2_6 : decode method_2_code 6 = .ok (.iand, 1) := by decide +kernel
theorem d_method_2_7 : decode method_2_code 7 = .ok (.istore_n 3, 1) := by decide +kernel
theorem d_method_2_8 : decode method_2_code 8 = .ok (.iload_n 3, 1) := by decide +kernel
theorem d_method_2_9 : decode method_2_code 9 = .ok (.ifCond .ne 6, 3) := by decide +kernel
theorem d_method_2_12 : decode method_2_code 12 = .ok (.bipush 10, 2) := by decide +kernel
theorem d_method_2_14 : decode method_2_code 14 = .ok (.ireturn, 1) := by decide +kernel
theorem d_method_2_15 : decode method_2_code 15 = .ok (.iload_n 3, 1) := by decide +kernel
theorem d_method_2_16 : decode method_2_code 16 = .ok (.iconst 1, 1) := by decide +kernel
theorem d_method_2_17 : decode method_2_code 17 = .ok (.if_icmp .ne 6, 3) := by decide +kernel
theorem d_method_2_20 : decode method_2_code 20 = .ok (.bipush 13, 2) := by decide +kernel
theorem d_method_2_22 : decode method_2_code 22 = .ok (.ireturn, 1) := by decide +kernel
theorem d_method_2_23 : decode method_2_code 23 = .ok (.iload_n 1, 1) := by decide +kernel
theorem d_method_2_24 : decode method_2_code 24 = .ok (.bipush 8, 2) := by decide +kernel
theorem d_method_2_26 : decode method_2_code 26 = .ok (.iload_n 2, 1) := by decide +kernel
theorem d_method_2_27 : decode method_2_code 27 = .ok (.imul, 1) := by decide +kernel
theorem d_method_2_28 : decode method_2_code 28 = .ok (.iushr, 1) := by decide +kernel
theorem d_method_2_29 : decode method_2_code 29 = .ok (.sipush 255, 3) := by decide +kernel
theorem d_method_2_32 : decode method_2_code 32 = .ok (.iand, 1) := by decide +kernel
theorem d_method_2_33 : decode method_2_code 33 = .ok (.i2c, 1) := by decide +kernel
theorem d_method_2_34 : decode method_2_code 34 = .ok (.ireturn, 1) := by decide +kernel
def f1 (x1 : Int32) (x2 : Int32) (x3 : Int32) : Int32 := if (((x1.toUInt32 >>> (((2 : Int32) * x3) &&& 31).toUInt32).toInt32) &&& (3 : Int32)) = (0 : Int32) then (10 : Int32)
  else if (((x1.toUInt32 >>> (((2 : Int32) * x3) &&& 31).toUInt32).toInt32) &&& (3 : Int32)) = (1 : Int32) then (13 : Int32)
  else (nar .char ((((x2.toUInt32 >>> (((8 : Int32) * x3) &&& 31).toUInt32).toInt32) &&& (255 : Int32)).toUInt32.toUInt16.toUInt32.toInt32))
theorem pf_g1 : plainFor (⟨"com/example/oropendola/oropendola/format/xml/XmlTextLineAtPinLaw", "pick", "(III)C"⟩ : MethodName) = true := by first | exact plainFor_of_name (by first | (simp [plainName, overriddenIn]; done) | decide +kernel) | decide +kernel
theorem ef_g1 (m : MethodId) (x1 : Int32) (x2 : Int32) (x3 : Int32) : entryFrame m #[(.int x1), (.int x2), (.int x3)] 4 = (mkF m 0 #[.val (.int x1), .val (.int x2), .val (.int x3), .unset] []) := by first | (simp [entryFrame, mkF, argsToLocals, Value.category]; done) | rfl
set_option maxRecDepth 65536 in
set_option maxHeartbeats 40000000 in
theorem g1 (l : Launch) (Z : State) (a0 : Array Value) (hw : ∀ d ∈ tables_1, d.before a0 Z = true) (n0 : Nat) (its : List (Cell → Prop)) (x1 : Int32) (x2 : Int32) (x3 : Int32)  :
    own_met l Z n0 (⟨"com/example/oropendola/oropendola/format/xml/XmlTextLineAtPinLaw", "pick", "(III)C"⟩ : MethodName) method_2_code 4 (some .char) ({ frames := 0, cells := 0, slots := 0, locals := 0 } : Room) #[(.int x1), (.int x2), (.int x3)] its (fun v its' => v = some (.int (f1 x1 x2 x3)) ∧ its' = its) := by
  refine own_met.of pf_g1 ?_
  intro p e s m below meth c T0 hx hby hml hret hlk hZ hown hnm A0
  replace hown : s.vm.findClass "com/example/oropendola/oropendola/format/xml/XmlTextLineAtPinLaw" = some m.cls := hown
  replace hml : c.maxLocals = 4 := hml
  rw [ef_g1 m x1 x2 x3]
  show own_go _ _ _ _ _ _ _ (T0.setTop (mkF m 0 #[.val (.int x1), .val (.int x2), .val (.int x3), .unset] []))
  refine own_by (u' := T0.setTop (mkF m 1 #[.val (.int x1), .val (.int x2), .val (.int x3), .unset] [(.int x1)])) (fun _ k => XS.iloadN A0.here hx rfl (own_db hby d_method_2_0) rfl k) ?_
  refine own_by (u' := T0.setTop (mkF m 2 #[.val (.int x1), .val (.int x2), .val (.int x3), .unset] [(.int (2 : Int32)), (.int x1)])) (fun _ k => XS.iconst A0.here hx rfl (own_db hby d_method_2_1) k) ?_
  refine own_by (u' := T0.setTop (mkF m 3 #[.val (.int x1), .val (.int x2), .val (.int x3), .unset] [(.int x3), (.int (2 : Int32)), (.int x1)])) (fun _ k => XS.iloadN A0.here hx rfl (own_db hby d_method_2_2) rfl k) ?_
  refine own_by (u' := T0.setTop (mkF m 4 #[.val (.int x1), .val (.int x2), .val (.int x3), .unset] [(.int ((2 : Int32) * x3)), (.int x1)])) (fun _ k => XS.imul A0.here hx rfl (own_db hby d_method_2_3) rfl k) ?_
  refine own_by (u' := T0.setTop (mkF m 5 #[.val (.int x1), .val (.int x2), .val (.int x3), .unset] [(.int ((x1.toUInt32 >>> (((2 : Int32) * x3) &&& 31).toUInt32).toInt32))])) (fun _ k => XS.iushr A0.here hx rfl (own_db hby d_method_2_4) rfl k) ?_
  refine own_by (u' := T0.setTop (mkF m 6 #[.val (.int x1), .val (.int x2), .val (.int x3), .unset] [(.int (3 : Int32)), (.int ((x1.toUInt32 >>> (((2 : Int32) * x3) &&& 31).toUInt32).toInt32))])) (fun _ k => XS.iconst A0.here hx rfl (own_db hby d_method_2_5) k) ?_
  refine own_by (u' := T0.setTop (mkF m 7 #[.val (.int x1), .val (.int x2), .val (.int x3), .unset] [(.int (((x1.toUInt32 >>> (((2 : Int32) * x3) &&& 31).toUInt32).toInt32) &&& (3 : Int32)))])) (fun _ k => XS.iand A0.here hx rfl (own_db hby d_method_2_6) rfl k) ?_
  refine own_by (u' := T0.setTop (mkF m 8 #[.val (.int x1), .val (.int x2), .val (.int x3), .val (.int (((x1.toUInt32 >>> (((2 : Int32) * x3) &&& 31).toUInt32).toInt32) &&& (3 : Int32)))] [])) (fun _ k => XS.istoreN A0.here hx rfl (own_db hby d_method_2_7) rfl (l' := #[.val (.int x1), .val (.int x2), .val (.int x3), .val (.int (((x1.toUInt32 >>> (((2 : Int32) * x3) &&& 31).toUInt32).toInt32) &&& (3 : Int32)))]) rfl k) ?_
  refine own_by (u' := T0.setTop (mkF m 9 #[.val (.int x1), .val (.int x2), .val (.int x3), .val (.int (((x1.toUInt32 >>> (((2 : Int32) * x3) &&& 31).toUInt32).toInt32) &&& (3 : Int32)))] [(.int (((x1.toUInt32 >>> (((2 : Int32) * x3) &&& 31).toUInt32).toInt32) &&& (3 : Int32)))])) (fun _ k => XS.iloadN A0.here hx rfl (own_db hby d_method_2_8) rfl k) ?_
  by_cases hc1 : (((x1.toUInt32 >>> (((2 : Int32) * x3) &&& 31).toUInt32).toInt32) &&& (3 : Int32)) = (0 : Int32)
  · refine own_by (u' := T0.setTop (mkF m 12 #[.val (.int x1), .val (.int x2), .val (.int x3), .val (.int (((x1.toUInt32 >>> (((2 : Int32) * x3) &&& 31).toUInt32).toInt32) &&& (3 : Int32)))] [])) (fun _ k => XS.ifNo A0.here hx rfl (own_db hby d_method_2_9) rfl ((if0 _ _).trans (teq hc1).2) k) ?_
    refine own_by (u' := T0.setTop (mkF m 14 #[.val (.int x1), .val (.int x2), .val (.int x3), .val (.int (((x1.toUInt32 >>> (((2 : Int32) * x3) &&& 31).toUInt32).toInt32) &&& (3 : Int32)))] [(.int (10 : Int32))])) (fun _ k => XS.bipush A0.here hx rfl (own_db hby d_method_2_12) k) ?_
    exact own_retN A0 hx hlk (t := .char) (by simp) hret (own_db hby d_method_2_14) (by decide) (by decide) ⟨by rw [show f1 x1 x2 x3 = (10 : Int32) from by unfold f1; simp only [if_pos hc1]] <;> rfl, rfl⟩
  · refine own_by (u' := T0.setTop (mkF m 15 #[.val (.int x1), .val (.int x2), .val (.int x3), .val (.int (((x1.toUInt32 >>> (((2 : Int32) * x3) &&& 31).toUInt32).toInt32) &&& (3 : Int32)))] [])) (fun _ k => XS.ifYes A0.here hx rfl (pc0 := 9) (pc' := 15) rfl (own_db hby d_method_2_9) rfl ((if0 _ _).trans (feq hc1).2) (by decide) (by decide) k) ?_
    refine own_by (u' := T0.setTop (mkF m 16 #[.val (.int x1), .val (.int x2), .val (.int x3), .val (.int (((x1.toUInt32 >>> (((2 : Int32) * x3) &&& 31).toUInt32).toInt32) &&& (3 : Int32)))] [(.int (((x1.toUInt32 >>> (((2 : Int32) * x3) &&& 31).toUInt32).toInt32) &&& (3 : Int32)))])) (fun _ k => XS.iloadN A0.here hx rfl (own_db hby d_method_2_15) rfl k) ?_
    refine own_by (u' := T0.setTop (mkF m 17 #[.val (.int x1), .val (.int x2), .val (.int x3), .val (.int (((x1.toUInt32 >>> (((2 : Int32) * x3) &&& 31).toUInt32).toInt32) &&& (3 : Int32)))] [(.int (1 : Int32)), (.int (((x1.toUInt32 >>> (((2 : Int32) * x3) &&& 31).toUInt32).toInt32) &&& (3 : Int32)))])) (fun _ k => XS.iconst A0.here hx rfl (own_db hby d_method_2_16) k) ?_
    by_cases hc2 : (((x1.toUInt32 >>> (((2 : Int32) * x3) &&& 31).toUInt32).toInt32) &&& (3 : Int32)) = (1 : Int32)
    · refine own_by (u' := T0.setTop (mkF m 20 #[.val (.int x1), .val (.int x2), .val (.int x3), .val (.int (((x1.toUInt32 >>> (((2 : Int32) * x3) &&& 31).toUInt32).toInt32) &&& (3 : Int32)))] [])) (fun _ k => XS.icmpNo A0.here hx rfl (own_db hby d_method_2_17) rfl (teq hc2).2 k) ?_
      refine own_by (u' := T0.setTop (mkF m 22 #[.val (.int x1), .val (.int x2), .val (.int x3), .val (.int (((x1.toUInt32 >>> (((2 : Int32) * x3) &&& 31).toUInt32).toInt32) &&& (3 : Int32)))] [(.int (13 : Int32))])) (fun _ k => XS.bipush A0.here hx rfl (own_db hby d_method_2_20) k) ?_
      exact own_retN A0 hx hlk (t := .char) (by simp) hret (own_db hby d_method_2_22) (by decide) (by decide) ⟨by rw [show f1 x1 x2 x3 = (13 : Int32) from by unfold f1; simp only [if_neg hc1, if_pos hc2]] <;> rfl, rfl⟩
    · refine own_by (u' := T0.setTop (mkF m 23 #[.val (.int x1), .val (.int x2), .val (.int x3), .val (.int (((x1.toUInt32 >>> (((2 : Int32) * x3) &&& 31).toUInt32).toInt32) &&& (3 : Int32)))] [])) (fun _ k => XS.icmpYes A0.here hx rfl (pc0 := 17) (pc' := 23) rfl (own_db hby d_method_2_17) rfl (feq hc2).2 (by decide) (by decide) k) ?_
      refine own_by (u' := T0.setTop (mkF m 24 #[.val (.int x1), .val (.int x2), .val (.int x3), .val (.int (((x1.toUInt32 >>> (((2 : Int32) * x3) &&& 31).toUInt32).toInt32) &&& (3 : Int32)))] [(.int x2)])) (fun _ k => XS.iloadN A0.here hx rfl (own_db hby d_method_2_23) rfl k) ?_
      refine own_by (u' := T0.setTop (mkF m 26 #[.val (.int x1), .val (.int x2), .val (.int x3), .val (.int (((x1.toUInt32 >>> (((2 : Int32) * x3) &&& 31).toUInt32).toInt32) &&& (3 : Int32)))] [(.int (8 : Int32)), (.int x2)])) (fun _ k => XS.bipush A0.here hx rfl (own_db hby d_method_2_24) k) ?_
      refine own_by (u' := T0.setTop (mkF m 27 #[.val (.int x1), .val (.int x2), .val (.int x3), .val (.int (((x1.toUInt32 >>> (((2 : Int32) * x3) &&& 31).toUInt32).toInt32) &&& (3 : Int32)))] [(.int x3), (.int (8 : Int32)), (.int x2)])) (fun _ k => XS.iloadN A0.here hx rfl (own_db hby d_method_2_26) rfl k) ?_
      refine own_by (u' := T0.setTop (mkF m 28 #[.val (.int x1), .val (.int x2), .val (.int x3), .val (.int (((x1.toUInt32 >>> (((2 : Int32) * x3) &&& 31).toUInt32).toInt32) &&& (3 : Int32)))] [(.int ((8 : Int32) * x3)), (.int x2)])) (fun _ k => XS.imul A0.here hx rfl (own_db hby d_method_2_27) rfl k) ?_
      refine own_by (u' := T0.setTop (mkF m 29 #[.val (.int x1), .val (.int x2), .val (.int x3), .val (.int (((x1.toUInt32 >>> (((2 : Int32) * x3) &&& 31).toUInt32).toInt32) &&& (3 : Int32)))] [(.int ((x2.toUInt32 >>> (((8 : Int32) * x3) &&& 31).toUInt32).toInt32))])) (fun _ k => XS.iushr A0.here hx rfl (own_db hby d_method_2_28) rfl k) ?_
      refine own_by (u' := T0.setTop (mkF m 32 #[.val (.int x1), .val (.int x2), .val (.int x3), .val (.int (((x1.toUInt32 >>> (((2 : Int32) * x3) &&& 31).toUInt32).toInt32) &&& (3 : Int32)))] [(.int (255 : Int32)), (.int ((x2.toUInt32 >>> (((8 : Int32) * x3) &&& 31).toUInt32).toInt32))])) (fun _ k => XS.sipush A0.here hx rfl (own_db hby d_method_2_29) k) ?_
      refine own_by (u' := T0.setTop (mkF m 33 #[.val (.int x1), .val (.int x2), .val (.int x3), .val (.int (((x1.toUInt32 >>> (((2 : Int32) * x3) &&& 31).toUInt32).toInt32) &&& (3 : Int32)))] [(.int (((x2.toUInt32 >>> (((8 : Int32) * x3) &&& 31).toUInt32).toInt32) &&& (255 : Int32)))])) (fun _ k => XS.iand A0.here hx rfl (own_db hby d_method_2_32) rfl k) ?_
      refine own_by (u' := T0.setTop (mkF m 34 #[.val (.int x1), .val (.int x2), .val (.int x3), .val (.int (((x1.toUInt32 >>> (((2 : Int32) * x3) &&& 31).toUInt32).toInt32) &&& (3 : Int32)))] [(.int ((((x2.toUInt32 >>> (((8 : Int32) * x3) &&& 31).toUInt32).toInt32) &&& (255 : Int32)).toUInt32.toUInt16.toUInt32.toInt32))])) (fun _ k => XS.i2c A0.here hx rfl (own_db hby d_method_2_33) rfl k) ?_
      exact own_retN A0 hx hlk (t := .char) (by simp) hret (own_db hby d_method_2_34) (by decide) (by decide) ⟨by rw [show f1 x1 x2 x3 = (nar .char ((((x2.toUInt32 >>> (((8 : Int32) * x3) &&& 31).toUInt32).toInt32) &&& (255 : Int32)).toUInt32.toUInt16.toUInt32.toInt32)) from by unfold f1; simp only [if_neg hc1, if_neg hc2]] <;> rfl, rfl⟩
theorem d_method_3_0 : decode method_3_code 0 = .ok (.iload 4, 2) := by decide +kernel
theorem d_method_3_2 : decode method_3_code 2 = .ok (.iload_n 2, 1) := by decide +kernel
theorem d_method_3_3 : decode method_3_code 3 = .ok (.if_icmp .lt 9, 3) := by decide +kernel
theorem d_method_3_12 : decode method_3_code 12 = .ok (.iconst 0, 1) := by decide +kernel
theorem d_method_3_13 : decode method_3_code 13 = .ok (.ireturn, 1) := by decide +kernel
theorem d_method_3_6 : decode method_3_code 6 = .ok (.iload 4, 2) := by decide +kernel
theorem d_method_3_8 : decode method_3_code 8 = .ok (.iload_n 3, 1) := by decide +kernel
theorem d_method_3_9 : decode method_3_code 9 = .ok (.if_icmp .lt 5, 3) := by decide +kernel
theorem d_method_3_14 : decode method_3_code 14 = .ok (.iconst 0, 1) := by decide +kernel
theorem d_method_3_15 : decode method_3_code 15 = .ok (.istore 5, 2) := by decide +kernel
theorem d_method_3_17 : decode method_3_code 17 = .ok (.aload_n 0, 1) := by decide +kernel
theorem d_method_3_18 : decode method_3_code 18 = .ok (.iload 4, 2) := by decide +kernel
theorem d_method_3_20 : decode method_3_code 20 = .ok (.caload, 1) := by decide +kernel
theorem d_method_3_21 : decode method_3_code 21 = .ok (.bipush 10, 2) := by decide +kernel
theorem d_method_3_23 : decode method_3_code 23 = .ok (.if_icmp .ne 6, 3) := by decide +kernel
theorem d_method_3_26 : decode method_3_code 26 = .ok (.iinc 5 1, 3) := by decide +kernel
theorem d_method_3_29 : decode method_3_code 29 = .ok (.aload_n 0, 1) := by decide +kernel
theorem d_method_3_30 : decode method_3_code 30 = .ok (.iload 4, 2) := by decide +kernel
theorem d_method_3_32 : decode method_3_code 32 = .ok (.caload, 1) := by decide +kernel
theorem d_method_3_33 : decode method_3_code 33 = .ok (.bipush 13, 2) := by decide +kernel
theorem d_method_3_35 : decode method_3_code 35 = .ok (.if_icmp .ne 6, 3) := by decide +kernel
theorem d_method_3_41 : decode method_3_code 41 = .ok (.aload_n 0, 1) := by decide +kernel
theorem d_method_3_42 : decode method_3_code 42 = .ok (.iload 4, 2) := by decide +kernel
theorem d_method_3_44 : decode method_3_code 44 = .ok (.caload, 1) := by decide +kernel
theorem d_method_3_45 : decode method_3_code 45 = .ok (.bipush 13, 2) := by decide +kernel
theorem d_method_3_47 : decode method_3_code 47 = .ok (.if_icmp .ne 25, 3) := by decide +kernel
theorem d_method_3_72 : decode method_3_code 72 = .ok (.iload 5, 2) := by decide +kernel
theorem d_method_3_74 : decode method_3_code 74 = .ok (.ireturn, 1) := by decide +kernel
theorem d_method_3_38 : decode method_3_code 38 = .ok (.iinc 5 1, 3) := by decide +kernel
theorem d_method_3_50 : decode method_3_code 50 = .ok (.iload 4, 2) := by decide +kernel
theorem d_method_3_52 : decode method_3_code 52 = .ok (.iconst 1, 1) := by decide +kernel
theorem d_method_3_53 : decode method_3_code 53 = .ok (.iadd, 1) := by decide +kernel
theorem d_method_3_54 : decode method_3_code 54 = .ok (.iload_n 1, 1) := by decide +kernel
theorem d_method_3_55 : decode method_3_code 55 = .ok (.if_icmp .ge 17, 3) := by decide +kernel
theorem d_method_3_58 : decode method_3_code 58 = .ok (.aload_n 0, 1) := by decide +kernel
theorem d_method_3_59 : decode method_3_code 59 = .ok (.iload 4, 2) := by decide +kernel
theorem d_method_3_61 : decode method_3_code 61 = .ok (.iconst 1, 1) := by decide +kernel
theorem d_method_3_62 : decode method_3_code 62 = .ok (.iadd, 1) := by decide +kernel
theorem d_method_3_63 : decode method_3_code 63 = .ok (.caload, 1) := by decide +kernel
theorem d_method_3_64 : decode method_3_code 64 = .ok (.bipush 10, 2) := by decide +kernel
theorem d_method_3_66 : decode method_3_code 66 = .ok (.if_icmp .ne 6, 3) := by decide +kernel
theorem d_method_3_69 : decode method_3_code 69 = .ok (.iinc 5 (-1), 3) := by decide +kernel
def f2 (xs : List Int32) (lm : Int32) (sr : Int32) (en : Int32) (ix : Int32) : Int32 := if ix < sr then (0 : Int32)
  else if ix < en then (if (own_g xs ix) = (10 : Int32) then (1 : Int32)
    else if (own_g xs ix) = (13 : Int32) then (if (ix + (1 : Int32)) < lm then (if (own_g xs (ix + (1 : Int32))) = (10 : Int32) then (0 : Int32)
        else (1 : Int32))
      else (1 : Int32))
    else (0 : Int32))
  else (0 : Int32)
theorem pf_g2 : plainFor (⟨"com/example/oropendola/oropendola/format/xml/XmlTextLineAtPinLaw", "part", "([CIIII)I"⟩ : MethodName) = true := by first | exact plainFor_of_name (by first | (simp [plainName, overriddenIn]; done) | decide +kernel) | decide +kernel
theorem ef_g2 (m : MethodId) (n0 : Nat) (lm : Int32) (sr : Int32) (en : Int32) (ix : Int32) : entryFrame m #[(.ref (n0 + 0)), (.int lm), (.int sr), (.int en), (.int ix)] 6 = (mkF m 0 #[.val (.ref (n0 + 0)), .val (.int lm), .val (.int sr), .val (.int en), .val (.int ix), .unset] []) := by first | (simp [entryFrame, mkF, argsToLocals, Value.category]; done) | rfl
set_option maxRecDepth 65536 in
set_option maxHeartbeats 40000000 in
theorem g2 (l : Launch) (Z : State) (a0 : Array Value) (hw : ∀ d ∈ tables_1, d.before a0 Z = true) (n0 : Nat) (xs : List Int32) (lm : Int32) (sr : Int32) (en : Int32) (ix : Int32) (h4 : xs.length = 4) (hlm : lm.toInt ≤ 4) (hen : en.toInt ≤ 4) (hix : 0 ≤ ix.toInt ∧ ix.toInt < 4) :
    own_met l Z n0 (⟨"com/example/oropendola/oropendola/format/xml/XmlTextLineAtPinLaw", "part", "([CIIII)I"⟩ : MethodName) method_3_code 6 (some .int) ({ frames := 0, cells := 0, slots := 0, locals := 0 } : Room) #[(.ref (n0 + 0)), (.int lm), (.int sr), (.int en), (.int ix)] [(own_ia Z .char xs)] (fun v its' => v = some (.int (f2 xs lm sr en ix)) ∧ its' = [(own_ia Z .char xs)]) := by
  refine own_met.of pf_g2 ?_
  intro p e s m below meth c T0 hx hby hml hret hlk hZ hown hnm A0
  replace hown : s.vm.findClass "com/example/oropendola/oropendola/format/xml/XmlTextLineAtPinLaw" = some m.cls := hown
  replace hml : c.maxLocals = 6 := hml
  rw [ef_g2 m n0 lm sr en ix]
  show own_go _ _ _ _ _ _ _ (T0.setTop (mkF m 0 #[.val (.ref (n0 + 0)), .val (.int lm), .val (.int sr), .val (.int en), .val (.int ix), .unset] []))
  refine own_by (u' := T0.setTop (mkF m 2 #[.val (.ref (n0 + 0)), .val (.int lm), .val (.int sr), .val (.int en), .val (.int ix), .unset] [(.int ix)])) (fun _ k => XS.iload A0.here hx rfl (own_db hby d_method_3_0) rfl k) ?_
  refine own_by (u' := T0.setTop (mkF m 3 #[.val (.ref (n0 + 0)), .val (.int lm), .val (.int sr), .val (.int en), .val (.int ix), .unset] [(.int sr), (.int ix)])) (fun _ k => XS.iloadN A0.here hx rfl (own_db hby d_method_3_2) rfl k) ?_
  by_cases hc1 : ix < sr
  · refine own_by (u' := T0.setTop (mkF m 12 #[.val (.ref (n0 + 0)), .val (.int lm), .val (.int sr), .val (.int en), .val (.int ix), .unset] [])) (fun _ k => XS.icmpYes A0.here hx rfl (pc0 := 3) (pc' := 12) rfl (own_db hby d_method_3_3) rfl (tlt hc1).1 (by decide) (by decide) k) ?_
    refine own_by (u' := T0.setTop (mkF m 13 #[.val (.ref (n0 + 0)), .val (.int lm), .val (.int sr), .val (.int en), .val (.int ix), .unset] [(.int (0 : Int32))])) (fun _ k => XS.iconst A0.here hx rfl (own_db hby d_method_3_12) k) ?_
    exact own_retI A0 hx hlk hret (own_db hby d_method_3_13) (by decide) (by decide) ⟨by rw [show f2 xs lm sr en ix = (0 : Int32) from by unfold f2; simp only [if_pos hc1]] <;> rfl, rfl⟩
  · refine own_by (u' := T0.setTop (mkF m 6 #[.val (.ref (n0 + 0)), .val (.int lm), .val (.int sr), .val (.int en), .val (.int ix), .unset] [])) (fun _ k => XS.icmpNo A0.here hx rfl (own_db hby d_method_3_3) rfl (flt hc1).1 k) ?_
    refine own_by (u' := T0.setTop (mkF m 8 #[.val (.ref (n0 + 0)), .val (.int lm), .val (.int sr), .val (.int en), .val (.int ix), .unset] [(.int ix)])) (fun _ k => XS.iload A0.here hx rfl (own_db hby d_method_3_6) rfl k) ?_
    refine own_by (u' := T0.setTop (mkF m 9 #[.val (.ref (n0 + 0)), .val (.int lm), .val (.int sr), .val (.int en), .val (.int ix), .unset] [(.int en), (.int ix)])) (fun _ k => XS.iloadN A0.here hx rfl (own_db hby d_method_3_8) rfl k) ?_
    by_cases hc2 : ix < en
    · refine own_by (u' := T0.setTop (mkF m 14 #[.val (.ref (n0 + 0)), .val (.int lm), .val (.int sr), .val (.int en), .val (.int ix), .unset] [])) (fun _ k => XS.icmpYes A0.here hx rfl (pc0 := 9) (pc' := 14) rfl (own_db hby d_method_3_9) rfl (tlt hc2).1 (by decide) (by decide) k) ?_
      refine own_by (u' := T0.setTop (mkF m 15 #[.val (.ref (n0 + 0)), .val (.int lm), .val (.int sr), .val (.int en), .val (.int ix), .unset] [(.int (0 : Int32))])) (fun _ k => XS.iconst A0.here hx rfl (own_db hby d_method_3_14) k) ?_
      refine own_by (u' := T0.setTop (mkF m 17 #[.val (.ref (n0 + 0)), .val (.int lm), .val (.int sr), .val (.int en), .val (.int ix), .val (.int (0 : Int32))] [])) (fun _ k => XS.istore A0.here hx rfl (own_db hby d_method_3_15) rfl (l' := #[.val (.ref (n0 + 0)), .val (.int lm), .val (.int sr), .val (.int en), .val (.int ix), .val (.int (0 : Int32))]) rfl k) ?_
      refine own_by (u' := T0.setTop (mkF m 18 #[.val (.ref (n0 + 0)), .val (.int lm), .val (.int sr), .val (.int en), .val (.int ix), .val (.int (0 : Int32))] [(.ref (n0 + 0))])) (fun _ k => XS.aloadN A0.here hx rfl (own_db hby d_method_3_17) rfl rfl k) ?_
      refine own_by (u' := T0.setTop (mkF m 20 #[.val (.ref (n0 + 0)), .val (.int lm), .val (.int sr), .val (.int en), .val (.int ix), .val (.int (0 : Int32))] [(.int ix), (.ref (n0 + 0))])) (fun _ k => XS.iload A0.here hx rfl (own_db hby d_method_3_18) rfl k) ?_
      refine own_caload A0 hx hZ (i := 0) rfl (x := (own_g xs ix)) (own_rd h4 hix.1 hix.2) (own_db hby d_method_3_20) ?_
      show own_go _ _ _ _ _ _ _ (T0.setTop (mkF m 21 #[.val (.ref (n0 + 0)), .val (.int lm), .val (.int sr), .val (.int en), .val (.int ix), .val (.int (0 : Int32))] [(.int (own_g xs ix))]))
      refine own_by (u' := T0.setTop (mkF m 23 #[.val (.ref (n0 + 0)), .val (.int lm), .val (.int sr), .val (.int en), .val (.int ix), .val (.int (0 : Int32))] [(.int (10 : Int32)), (.int (own_g xs ix))])) (fun _ k => XS.bipush A0.here hx rfl (own_db hby d_method_3_21) k) ?_
      by_cases hc3 : (own_g xs ix) = (10 : Int32)
      · refine own_by (u' := T0.setTop (mkF m 26 #[.val (.ref (n0 + 0)), .val (.int lm), .val (.int sr), .val (.int en), .val (.int ix), .val (.int (0 : Int32))] [])) (fun _ k => XS.icmpNo A0.here hx rfl (own_db hby d_method_3_23) rfl (teq hc3).2 k) ?_
        refine own_by (u' := T0.setTop (mkF m 29 #[.val (.ref (n0 + 0)), .val (.int lm), .val (.int sr), .val (.int en), .val (.int ix), .val (.int (1 : Int32))] [])) (fun _ k => XS.iinc A0.here hx rfl (own_db hby d_method_3_26) rfl (l' := #[.val (.ref (n0 + 0)), .val (.int lm), .val (.int sr), .val (.int en), .val (.int ix), .val (.int (1 : Int32))]) rfl k) ?_
        refine own_by (u' := T0.setTop (mkF m 30 #[.val (.ref (n0 + 0)), .val (.int lm), .val (.int sr), .val (.int en), .val (.int ix), .val (.int (1 : Int32))] [(.ref (n0 + 0))])) (fun _ k => XS.aloadN A0.here hx rfl (own_db hby d_method_3_29) rfl rfl k) ?_
        refine own_by (u' := T0.setTop (mkF m 32 #[.val (.ref (n0 + 0)), .val (.int lm), .val (.int sr), .val (.int en), .val (.int ix), .val (.int (1 : Int32))] [(.int ix), (.ref (n0 + 0))])) (fun _ k => XS.iload A0.here hx rfl (own_db hby d_method_3_30) rfl k) ?_
        refine own_caload A0 hx hZ (i := 0) rfl (x := (own_g xs ix)) (own_rd h4 hix.1 hix.2) (own_db hby d_method_3_32) ?_
        show own_go _ _ _ _ _ _ _ (T0.setTop (mkF m 33 #[.val (.ref (n0 + 0)), .val (.int lm), .val (.int sr), .val (.int en), .val (.int ix), .val (.int (1 : Int32))] [(.int (own_g xs ix))]))
        refine own_by (u' := T0.setTop (mkF m 35 #[.val (.ref (n0 + 0)), .val (.int lm), .val (.int sr), .val (.int en), .val (.int ix), .val (.int (1 : Int32))] [(.int (13 : Int32)), (.int (own_g xs ix))])) (fun _ k => XS.bipush A0.here hx rfl (own_db hby d_method_3_33) k) ?_
        refine own_by (u' := T0.setTop (mkF m 41 #[.val (.ref (n0 + 0)), .val (.int lm), .val (.int sr), .val (.int en), .val (.int ix), .val (.int (1 : Int32))] [])) (fun _ k => XS.icmpYes A0.here hx rfl (pc0 := 35) (pc' := 41) rfl (own_db hby d_method_3_35) rfl (feq (fun z => absurd (hc3.symm.trans z) (by decide))).2 (by decide) (by decide) k) ?_
        refine own_by (u' := T0.setTop (mkF m 42 #[.val (.ref (n0 + 0)), .val (.int lm), .val (.int sr), .val (.int en), .val (.int ix), .val (.int (1 : Int32))] [(.ref (n0 + 0))])) (fun _ k => XS.aloadN A0.here hx rfl (own_db hby d_method_3_41) rfl rfl k) ?_
        refine own_by (u' := T0.setTop (mkF m 44 #[.val (.ref (n0 + 0)), .val (.int lm), .val (.int sr), .val (.int en), .val (.int ix), .val (.int (1 : Int32))] [(.int ix), (.ref (n0 + 0))])) (fun _ k => XS.iload A0.here hx rfl (own_db hby d_method_3_42) rfl k) ?_
        refine own_caload A0 hx hZ (i := 0) rfl (x := (own_g xs ix)) (own_rd h4 hix.1 hix.2) (own_db hby d_method_3_44) ?_
        show own_go _ _ _ _ _ _ _ (T0.setTop (mkF m 45 #[.val (.ref (n0 + 0)), .val (.int lm), .val (.int sr), .val (.int en), .val (.int ix), .val (.int (1 : Int32))] [(.int (own_g xs ix))]))
        refine own_by (u' := T0.setTop (mkF m 47 #[.val (.ref (n0 + 0)), .val (.int lm), .val (.int sr), .val (.int en), .val (.int ix), .val (.int (1 : Int32))] [(.int (13 : Int32)), (.int (own_g xs ix))])) (fun _ k => XS.bipush A0.here hx rfl (own_db hby d_method_3_45) k) ?_
        refine own_by (u' := T0.setTop (mkF m 72 #[.val (.ref (n0 + 0)), .val (.int lm), .val (.int sr), .val (.int en), .val (.int ix), .val (.int (1 : Int32))] [])) (fun _ k => XS.icmpYes A0.here hx rfl (pc0 := 47) (pc' := 72) rfl (own_db hby d_method_3_47) rfl (feq (fun z => absurd (hc3.symm.trans z) (by decide))).2 (by decide) (by decide) k) ?_
        refine own_by (u' := T0.setTop (mkF m 74 #[.val (.ref (n0 + 0)), .val (.int lm), .val (.int sr), .val (.int en), .val (.int ix), .val (.int (1 : Int32))] [(.int (1 : Int32))])) (fun _ k => XS.iload A0.here hx rfl (own_db hby d_method_3_72) rfl k) ?_
        exact own_retI A0 hx hlk hret (own_db hby d_method_3_74) (by decide) (by decide) ⟨by rw [show f2 xs lm sr en ix = (1 : Int32) from by unfold f2; simp only [if_neg hc1, if_pos hc2, if_pos hc3]] <;> rfl, rfl⟩
      · refine own_by (u' := T0.setTop (mkF m 29 #[.val (.ref (n0 + 0)), .val (.int lm), .val (.int sr), .val (.int en), .val (.int ix), .val (.int (0 : Int32))] [])) (fun _ k => XS.icmpYes A0.here hx rfl (pc0 := 23) (pc' := 29) rfl (own_db hby d_method_3_23) rfl (feq hc3).2 (by decide) (by decide) k) ?_
        refine own_by (u' := T0.setTop (mkF m 30 #[.val (.ref (n0 + 0)), .val (.int lm), .val (.int sr), .val (.int en), .val (.int ix), .val (.int (0 : Int32))] [(.ref (n0 + 0))])) (fun _ k => XS.aloadN A0.here hx rfl (own_db hby d_method_3_29) rfl rfl k) ?_
        refine own_by (u' := T0.setTop (mkF m 32 #[.val (.ref (n0 + 0)), .val (.int lm), .val (.int sr), .val (.int en), .val (.int ix), .val (.int (0 : Int32))] [(.int ix), (.ref (n0 + 0))])) (fun _ k => XS.iload A0.here hx rfl (own_db hby d_method_3_30) rfl k) ?_
        refine own_caload A0 hx hZ (i := 0) rfl (x := (own_g xs ix)) (own_rd h4 hix.1 hix.2) (own_db hby d_method_3_32) ?_
        show own_go _ _ _ _ _ _ _ (T0.setTop (mkF m 33 #[.val (.ref (n0 + 0)), .val (.int lm), .val (.int sr), .val (.int en), .val (.int ix), .val (.int (0 : Int32))] [(.int (own_g xs ix))]))
        refine own_by (u' := T0.setTop (mkF m 35 #[.val (.ref (n0 + 0)), .val (.int lm), .val (.int sr), .val (.int en), .val (.int ix), .val (.int (0 : Int32))] [(.int (13 : Int32)), (.int (own_g xs ix))])) (fun _ k => XS.bipush A0.here hx rfl (own_db hby d_method_3_33) k) ?_
        by_cases hc4 : (own_g xs ix) = (13 : Int32)
        · refine own_by (u' := T0.setTop (mkF m 38 #[.val (.ref (n0 + 0)), .val (.int lm), .val (.int sr), .val (.int en), .val (.int ix), .val (.int (0 : Int32))] [])) (fun _ k => XS.icmpNo A0.here hx rfl (own_db hby d_method_3_35) rfl (teq hc4).2 k) ?_
          refine own_by (u' := T0.setTop (mkF m 41 #[.val (.ref (n0 + 0)), .val (.int lm), .val (.int sr), .val (.int en), .val (.int ix), .val (.int (1 : Int32))] [])) (fun _ k => XS.iinc A0.here hx rfl (own_db hby d_method_3_38) rfl (l' := #[.val (.ref (n0 + 0)), .val (.int lm), .val (.int sr), .val (.int en), .val (.int ix), .val (.int (1 : Int32))]) rfl k) ?_
          refine own_by (u' := T0.setTop (mkF m 42 #[.val (.ref (n0 + 0)), .val (.int lm), .val (.int sr), .val (.int en), .val (.int ix), .val (.int (1 : Int32))] [(.ref (n0 + 0))])) (fun _ k => XS.aloadN A0.here hx rfl (own_db hby d_method_3_41) rfl rfl k) ?_
          refine own_by (u' := T0.setTop (mkF m 44 #[.val (.ref (n0 + 0)), .val (.int lm), .val (.int sr), .val (.int en), .val (.int ix), .val (.int (1 : Int32))] [(.int ix), (.ref (n0 + 0))])) (fun _ k => XS.iload A0.here hx rfl (own_db hby d_method_3_42) rfl k) ?_
          refine own_caload A0 hx hZ (i := 0) rfl (x := (own_g xs ix)) (own_rd h4 hix.1 hix.2) (own_db hby d_method_3_44) ?_
          show own_go _ _ _ _ _ _ _ (T0.setTop (mkF m 45 #[.val (.ref (n0 + 0)), .val (.int lm), .val (.int sr), .val (.int en), .val (.int ix), .val (.int (1 : Int32))] [(.int (own_g xs ix))]))
          refine own_by (u' := T0.setTop (mkF m 47 #[.val (.ref (n0 + 0)), .val (.int lm), .val (.int sr), .val (.int en), .val (.int ix), .val (.int (1 : Int32))] [(.int (13 : Int32)), (.int (own_g xs ix))])) (fun _ k => XS.bipush A0.here hx rfl (own_db hby d_method_3_45) k) ?_
          refine own_by (u' := T0.setTop (mkF m 50 #[.val (.ref (n0 + 0)), .val (.int lm), .val (.int sr), .val (.int en), .val (.int ix), .val (.int (1 : Int32))] [])) (fun _ k => XS.icmpNo A0.here hx rfl (own_db hby d_method_3_47) rfl (teq hc4).2 k) ?_
          refine own_by (u' := T0.setTop (mkF m 52 #[.val (.ref (n0 + 0)), .val (.int lm), .val (.int sr), .val (.int en), .val (.int ix), .val (.int (1 : Int32))] [(.int ix)])) (fun _ k => XS.iload A0.here hx rfl (own_db hby d_method_3_50) rfl k) ?_
          refine own_by (u' := T0.setTop (mkF m 53 #[.val (.ref (n0 + 0)), .val (.int lm), .val (.int sr), .val (.int en), .val (.int ix), .val (.int (1 : Int32))] [(.int (1 : Int32)), (.int ix)])) (fun _ k => XS.iconst A0.here hx rfl (own_db hby d_method_3_52) k) ?_
          refine own_by (u' := T0.setTop (mkF m 54 #[.val (.ref (n0 + 0)), .val (.int lm), .val (.int sr), .val (.int en), .val (.int ix), .val (.int (1 : Int32))] [(.int (ix + (1 : Int32)))])) (fun _ k => XS.iadd A0.here hx rfl (own_db hby d_method_3_53) rfl k) ?_
          refine own_by (u' := T0.setTop (mkF m 55 #[.val (.ref (n0 + 0)), .val (.int lm), .val (.int sr), .val (.int en), .val (.int ix), .val (.int (1 : Int32))] [(.int lm), (.int (ix + (1 : Int32)))])) (fun _ k => XS.iloadN A0.here hx rfl (own_db hby d_method_3_54) rfl k) ?_
          by_cases hc5 : (ix + (1 : Int32)) < lm
          · refine own_by (u' := T0.setTop (mkF m 58 #[.val (.ref (n0 + 0)), .val (.int lm), .val (.int sr), .val (.int en), .val (.int ix), .val (.int (1 : Int32))] [])) (fun _ k => XS.icmpNo A0.here hx rfl (own_db hby d_method_3_55) rfl (tlt hc5).2.1 k) ?_
            refine own_by (u' := T0.setTop (mkF m 59 #[.val (.ref (n0 + 0)), .val (.int lm), .val (.int sr), .val (.int en), .val (.int ix), .val (.int (1 : Int32))] [(.ref (n0 + 0))])) (fun _ k => XS.aloadN A0.here hx rfl (own_db hby d_method_3_58) rfl rfl k) ?_
            refine own_by (u' := T0.setTop (mkF m 61 #[.val (.ref (n0 + 0)), .val (.int lm), .val (.int sr), .val (.int en), .val (.int ix), .val (.int (1 : Int32))] [(.int ix), (.ref (n0 + 0))])) (fun _ k => XS.iload A0.here hx rfl (own_db hby d_method_3_59) rfl k) ?_
            refine own_by (u' := T0.setTop (mkF m 62 #[.val (.ref (n0 + 0)), .val (.int lm), .val (.int sr), .val (.int en), .val (.int ix), .val (.int (1 : Int32))] [(.int (1 : Int32)), (.int ix), (.ref (n0 + 0))])) (fun _ k => XS.iconst A0.here hx rfl (own_db hby d_method_3_61) k) ?_
            refine own_by (u' := T0.setTop (mkF m 63 #[.val (.ref (n0 + 0)), .val (.int lm), .val (.int sr), .val (.int en), .val (.int ix), .val (.int (1 : Int32))] [(.int (ix + (1 : Int32))), (.ref (n0 + 0))])) (fun _ k => XS.iadd A0.here hx rfl (own_db hby d_method_3_62) rfl k) ?_
            refine own_caload A0 hx hZ (i := 0) rfl (x := (own_g xs (ix + (1 : Int32)))) (own_rd1 h4 hix.1 (by omega) hlm hc5) (own_db hby d_method_3_63) ?_
            show own_go _ _ _ _ _ _ _ (T0.setTop (mkF m 64 #[.val (.ref (n0 + 0)), .val (.int lm), .val (.int sr), .val (.int en), .val (.int ix), .val (.int (1 : Int32))] [(.int (own_g xs (ix + (1 : Int32))))]))
            refine own_by (u' := T0.setTop (mkF m 66 #[.val (.ref (n0 + 0)), .val (.int lm), .val (.int sr), .val (.int en), .val (.int ix), .val (.int (1 : Int32))] [(.int (10 : Int32)), (.int (own_g xs (ix + (1 : Int32))))])) (fun _ k => XS.bipush A0.here hx rfl (own_db hby d_method_3_64) k) ?_
            by_cases hc6 : (own_g xs (ix + (1 : Int32))) = (10 : Int32)
            · refine own_by (u' := T0.setTop (mkF m 69 #[.val (.ref (n0 + 0)), .val (.int lm), .val (.int sr), .val (.int en), .val (.int ix), .val (.int (1 : Int32))] [])) (fun _ k => XS.icmpNo A0.here hx rfl (own_db hby d_method_3_66) rfl (teq hc6).2 k) ?_
              refine own_by (u' := T0.setTop (mkF m 72 #[.val (.ref (n0 + 0)), .val (.int lm), .val (.int sr), .val (.int en), .val (.int ix), .val (.int (0 : Int32))] [])) (fun _ k => XS.iinc A0.here hx rfl (own_db hby d_method_3_69) rfl (l' := #[.val (.ref (n0 + 0)), .val (.int lm), .val (.int sr), .val (.int en), .val (.int ix), .val (.int (0 : Int32))]) rfl k) ?_
              refine own_by (u' := T0.setTop (mkF m 74 #[.val (.ref (n0 + 0)), .val (.int lm), .val (.int sr), .val (.int en), .val (.int ix), .val (.int (0 : Int32))] [(.int (0 : Int32))])) (fun _ k => XS.iload A0.here hx rfl (own_db hby d_method_3_72) rfl k) ?_
              exact own_retI A0 hx hlk hret (own_db hby d_method_3_74) (by decide) (by decide) ⟨by rw [show f2 xs lm sr en ix = (0 : Int32) from by unfold f2; simp only [if_neg hc1, if_pos hc2, if_neg hc3, if_pos hc4, if_pos hc5, if_pos hc6]] <;> rfl, rfl⟩
            · refine own_by (u' := T0.setTop (mkF m 72 #[.val (.ref (n0 + 0)), .val (.int lm), .val (.int sr), .val (.int en), .val (.int ix), .val (.int (1 : Int32))] [])) (fun _ k => XS.icmpYes A0.here hx rfl (pc0 := 66) (pc' := 72) rfl (own_db hby d_method_3_66) rfl (feq hc6).2 (by decide) (by decide) k) ?_
              refine own_by (u' := T0.setTop (mkF m 74 #[.val (.ref (n0 + 0)), .val (.int lm), .val (.int sr), .val (.int en), .val (.int ix), .val (.int (1 : Int32))] [(.int (1 : Int32))])) (fun _ k => XS.iload A0.here hx rfl (own_db hby d_method_3_72) rfl k) ?_
              exact own_retI A0 hx hlk hret (own_db hby d_method_3_74) (by decide) (by decide) ⟨by rw [show f2 xs lm sr en ix = (1 : Int32) from by unfold f2; simp only [if_neg hc1, if_pos hc2, if_neg hc3, if_pos hc4, if_pos hc5, if_neg hc6]] <;> rfl, rfl⟩
          · refine own_by (u' := T0.setTop (mkF m 72 #[.val (.ref (n0 + 0)), .val (.int lm), .val (.int sr), .val (.int en), .val (.int ix), .val (.int (1 : Int32))] [])) (fun _ k => XS.icmpYes A0.here hx rfl (pc0 := 55) (pc' := 72) rfl (own_db hby d_method_3_55) rfl (flt hc5).2.1 (by decide) (by decide) k) ?_
            refine own_by (u' := T0.setTop (mkF m 74 #[.val (.ref (n0 + 0)), .val (.int lm), .val (.int sr), .val (.int en), .val (.int ix), .val (.int (1 : Int32))] [(.int (1 : Int32))])) (fun _ k => XS.iload A0.here hx rfl (own_db hby d_method_3_72) rfl k) ?_
            exact own_retI A0 hx hlk hret (own_db hby d_method_3_74) (by decide) (by decide) ⟨by rw [show f2 xs lm sr en ix = (1 : Int32) from by unfold f2; simp only [if_neg hc1, if_pos hc2, if_neg hc3, if_pos hc4, if_neg hc5]] <;> rfl, rfl⟩
        · refine own_by (u' := T0.setTop (mkF m 41 #[.val (.ref (n0 + 0)), .val (.int lm), .val (.int sr), .val (.int en), .val (.int ix), .val (.int (0 : Int32))] [])) (fun _ k => XS.icmpYes A0.here hx rfl (pc0 := 35) (pc' := 41) rfl (own_db hby d_method_3_35) rfl (feq hc4).2 (by decide) (by decide) k) ?_
          refine own_by (u' := T0.setTop (mkF m 42 #[.val (.ref (n0 + 0)), .val (.int lm), .val (.int sr), .val (.int en), .val (.int ix), .val (.int (0 : Int32))] [(.ref (n0 + 0))])) (fun _ k => XS.aloadN A0.here hx rfl (own_db hby d_method_3_41) rfl rfl k) ?_
          refine own_by (u' := T0.setTop (mkF m 44 #[.val (.ref (n0 + 0)), .val (.int lm), .val (.int sr), .val (.int en), .val (.int ix), .val (.int (0 : Int32))] [(.int ix), (.ref (n0 + 0))])) (fun _ k => XS.iload A0.here hx rfl (own_db hby d_method_3_42) rfl k) ?_
          refine own_caload A0 hx hZ (i := 0) rfl (x := (own_g xs ix)) (own_rd h4 hix.1 hix.2) (own_db hby d_method_3_44) ?_
          show own_go _ _ _ _ _ _ _ (T0.setTop (mkF m 45 #[.val (.ref (n0 + 0)), .val (.int lm), .val (.int sr), .val (.int en), .val (.int ix), .val (.int (0 : Int32))] [(.int (own_g xs ix))]))
          refine own_by (u' := T0.setTop (mkF m 47 #[.val (.ref (n0 + 0)), .val (.int lm), .val (.int sr), .val (.int en), .val (.int ix), .val (.int (0 : Int32))] [(.int (13 : Int32)), (.int (own_g xs ix))])) (fun _ k => XS.bipush A0.here hx rfl (own_db hby d_method_3_45) k) ?_
          refine own_by (u' := T0.setTop (mkF m 72 #[.val (.ref (n0 + 0)), .val (.int lm), .val (.int sr), .val (.int en), .val (.int ix), .val (.int (0 : Int32))] [])) (fun _ k => XS.icmpYes A0.here hx rfl (pc0 := 47) (pc' := 72) rfl (own_db hby d_method_3_47) rfl (feq hc4).2 (by decide) (by decide) k) ?_
          refine own_by (u' := T0.setTop (mkF m 74 #[.val (.ref (n0 + 0)), .val (.int lm), .val (.int sr), .val (.int en), .val (.int ix), .val (.int (0 : Int32))] [(.int (0 : Int32))])) (fun _ k => XS.iload A0.here hx rfl (own_db hby d_method_3_72) rfl k) ?_
          exact own_retI A0 hx hlk hret (own_db hby d_method_3_74) (by decide) (by decide) ⟨by rw [show f2 xs lm sr en ix = (0 : Int32) from by unfold f2; simp only [if_neg hc1, if_pos hc2, if_neg hc3, if_neg hc4]] <;> rfl, rfl⟩
    · refine own_by (u' := T0.setTop (mkF m 12 #[.val (.ref (n0 + 0)), .val (.int lm), .val (.int sr), .val (.int en), .val (.int ix), .unset] [])) (fun _ k => XS.icmpNo A0.here hx rfl (own_db hby d_method_3_9) rfl (flt hc2).1 k) ?_
      refine own_by (u' := T0.setTop (mkF m 13 #[.val (.ref (n0 + 0)), .val (.int lm), .val (.int sr), .val (.int en), .val (.int ix), .unset] [(.int (0 : Int32))])) (fun _ k => XS.iconst A0.here hx rfl (own_db hby d_method_3_12) k) ?_
      exact own_retI A0 hx hlk hret (own_db hby d_method_3_13) (by decide) (by decide) ⟨by rw [show f2 xs lm sr en ix = (0 : Int32) from by unfold f2; simp only [if_neg hc1, if_neg hc2]] <;> rfl, rfl⟩
def own_cnt (xs : List Int32) (lm i : Int32) : Int32 := if own_g xs i = 10 then 1 else if own_g xs i = 13 then (if (i + (1 : Int32)) < lm then (if own_g xs (i + (1 : Int32)) = 10 then 0 else 1) else 1) else 0
def own_run (xs : List Int32) (lm : Int32) : Nat → Int32 → Int32 → Int32
  | 0, _, a => a
  | k + 1, i, a => own_run xs lm k (i + (1 : Int32)) (a + own_cnt xs lm i)
theorem own_z {ii en : Int32} (hi : 0 ≤ ii.toInt ∧ (ii.toInt + ((0 : Nat) : Int) = en.toInt ∨ (0 = 0 ∧ en.toInt ≤ ii.toInt))) : ¬ ii < en := by rw [own_lt]; omega
theorem own_s {k : Nat} {ii en : Int32} (hi : 0 ≤ ii.toInt ∧ (ii.toInt + ((k + 1 : Nat) : Int) = en.toInt ∨ (k + 1 = 0 ∧ en.toInt ≤ ii.toInt))) : ii < en := by rw [own_lt]; omega
theorem own_nx {k : Nat} {ii en : Int32} (he : en.toInt ≤ 4) (hi : 0 ≤ ii.toInt ∧ (ii.toInt + ((k + 1 : Nat) : Int) = en.toInt ∨ (k + 1 = 0 ∧ en.toInt ≤ ii.toInt))) : 0 ≤ (ii + (1 : Int32)).toInt ∧ ((ii + (1 : Int32)).toInt + (k : Int) = en.toInt ∨ (k = 0 ∧ en.toInt ≤ (ii + (1 : Int32)).toInt)) := by
  have q := own_inc (j := ii) (by omega)
  omega
theorem own_ub {k : Nat} {ii en : Int32} (he : en.toInt ≤ 4) (hi : 0 ≤ ii.toInt ∧ (ii.toInt + ((k + 1 : Nat) : Int) = en.toInt ∨ (k + 1 = 0 ∧ en.toInt ≤ ii.toInt))) : ii.toInt < (4 : Nat) := by omega
theorem d_prog_134_method_20_0 : decode prog_134_method_20_code 0 = .ok (.iload 4, 2) := by decide +kernel
theorem d_prog_134_method_20_2 : decode prog_134_method_20_code 2 = .ok (.istore 5, 2) := by decide +kernel
theorem d_prog_134_method_20_4 : decode prog_134_method_20_code 4 = .ok (.iload_n 2, 1) := by decide +kernel
theorem d_prog_134_method_20_5 : decode prog_134_method_20_code 5 = .ok (.istore 6, 2) := by decide +kernel
theorem d_prog_134_method_20_7 : decode prog_134_method_20_code 7 = .ok (.iload 6, 2) := by decide +kernel
theorem d_prog_134_method_20_9 : decode prog_134_method_20_code 9 = .ok (.iload_n 3, 1) := by decide +kernel
theorem d_prog_134_method_20_10 : decode prog_134_method_20_code 10 = .ok (.if_icmp .ge 70, 3) := by decide +kernel
theorem d_prog_134_method_20_80 : decode prog_134_method_20_code 80 = .ok (.iload 5, 2) := by decide +kernel
theorem d_prog_134_method_20_82 : decode prog_134_method_20_code 82 = .ok (.ireturn, 1) := by decide +kernel
theorem d_prog_134_method_20_13 : decode prog_134_method_20_code 13 = .ok (.aload_n 0, 1) := by decide +kernel
theorem d_prog_134_method_20_14 : decode prog_134_method_20_code 14 = .ok (.iload 6, 2) := by decide +kernel
theorem d_prog_134_method_20_16 : decode prog_134_method_20_code 16 = .ok (.caload, 1) := by decide +kernel
theorem d_prog_134_method_20_17 : decode prog_134_method_20_code 17 = .ok (.istore 7, 2) := by decide +kernel
theorem d_prog_134_method_20_19 : decode prog_134_method_20_code 19 = .ok (.iload 7, 2) := by decide +kernel
theorem d_prog_134_method_20_21 : decode prog_134_method_20_code 21 = .ok (.bipush 13, 2) := by decide +kernel
theorem d_prog_134_method_20_23 : decode prog_134_method_20_code 23 = .ok (.if_icmp .ne 26, 3) := by decide +kernel
theorem d_prog_134_method_20_26 : decode prog_134_method_20_code 26 = .ok (.iload 6, 2) := by decide +kernel
theorem d_prog_134_method_20_28 : decode prog_134_method_20_code 28 = .ok (.iconst 1, 1) := by decide +kernel
theorem d_prog_134_method_20_29 : decode prog_134_method_20_code 29 = .ok (.iadd, 1) := by decide +kernel
theorem d_prog_134_method_20_30 : decode prog_134_method_20_code 30 = .ok (.iload_n 1, 1) := by decide +kernel
theorem d_prog_134_method_20_31 : decode prog_134_method_20_code 31 = .ok (.if_icmp .ge 18, 3) := by decide +kernel
theorem d_prog_134_method_20_34 : decode prog_134_method_20_code 34 = .ok (.aload_n 0, 1) := by decide +kernel
theorem d_prog_134_method_20_35 : decode prog_134_method_20_code 35 = .ok (.iload 6, 2) := by decide +kernel
theorem d_prog_134_method_20_37 : decode prog_134_method_20_code 37 = .ok (.iconst 1, 1) := by decide +kernel
theorem d_prog_134_method_20_38 : decode prog_134_method_20_code 38 = .ok (.iadd, 1) := by decide +kernel
theorem d_prog_134_method_20_39 : decode prog_134_method_20_code 39 = .ok (.caload, 1) := by decide +kernel
theorem d_prog_134_method_20_40 : decode prog_134_method_20_code 40 = .ok (.bipush 10, 2) := by decide +kernel
theorem d_prog_134_method_20_42 : decode prog_134_method_20_code 42 = .ok (.if_icmp .ne 7, 3) := by decide +kernel
theorem d_prog_134_method_20_45 : decode prog_134_method_20_code 45 = .ok (.iconst 1, 1) := by decide +kernel
theorem d_prog_134_method_20_46 : decode prog_134_method_20_code 46 = .ok (.goto 4, 3) := by decide +kernel
theorem d_prog_134_method_20_50 : decode prog_134_method_20_code 50 = .ok (.istore 8, 2) := by decide +kernel
theorem d_prog_134_method_20_52 : decode prog_134_method_20_code 52 = .ok (.iload 7, 2) := by decide +kernel
theorem d_prog_134_method_20_54 : decode prog_134_method_20_code 54 = .ok (.bipush 10, 2) := by decide +kernel
theorem d_prog_134_method_20_56 : decode prog_134_method_20_code 56 = .ok (.if_icmp .eq 15, 3) := by decide +kernel
theorem d_prog_134_method_20_59 : decode prog_134_method_20_code 59 = .ok (.iload 7, 2) := by decide +kernel
theorem d_prog_134_method_20_61 : decode prog_134_method_20_code 61 = .ok (.bipush 13, 2) := by decide +kernel
theorem d_prog_134_method_20_63 : decode prog_134_method_20_code 63 = .ok (.if_icmp .ne 11, 3) := by decide +kernel
theorem d_prog_134_method_20_66 : decode prog_134_method_20_code 66 = .ok (.iload 8, 2) := by decide +kernel
theorem d_prog_134_method_20_68 : decode prog_134_method_20_code 68 = .ok (.ifCond .ne 6, 3) := by decide +kernel
theorem d_prog_134_method_20_74 : decode prog_134_method_20_code 74 = .ok (.iinc 6 1, 3) := by decide +kernel
theorem d_prog_134_method_20_77 : decode prog_134_method_20_code 77 = .ok (.goto (-70), 3) := by decide +kernel
theorem d_prog_134_method_20_49 : decode prog_134_method_20_code 49 = .ok (.iconst 0, 1) := by decide +kernel
theorem d_prog_134_method_20_71 : decode prog_134_method_20_code 71 = .ok (.iinc 5 1, 3) := by decide +kernel
theorem pf_g3 : plainFor (⟨"com/example/oropendola/oropendola/format/xml/XmlText", "lineAt", "([CIIII)I"⟩ : MethodName) = true := by first | exact plainFor_of_name (by first | (simp [plainName, overriddenIn]; done) | decide +kernel) | decide +kernel
theorem ef_g3 (m : MethodId) (n0 : Nat) (lm : Int32) (sr : Int32) (en : Int32) (li : Int32) : entryFrame m #[(.ref (n0 + 0)), (.int lm), (.int sr), (.int en), (.int li)] 9 = (mkF m 0 #[.val (.ref (n0 + 0)), .val (.int lm), .val (.int sr), .val (.int en), .val (.int li), .unset, .unset, .unset, .unset] []) := by first | (simp [entryFrame, mkF, argsToLocals, Value.category]; done) | rfl
set_option maxRecDepth 65536 in
set_option maxHeartbeats 40000000 in
theorem g3 (l : Launch) (Z : State) (a0 : Array Value) (hw : ∀ d ∈ tables_1, d.before a0 Z = true) (n0 : Nat) (xs : List Int32) (lm : Int32) (sr : Int32) (en : Int32) (li : Int32) (h4 : xs.length = 4) (hlm : lm.toInt ≤ 4) (hen : en.toInt ≤ 4) (hsr : 0 ≤ sr.toInt) :
    own_met l Z n0 (⟨"com/example/oropendola/oropendola/format/xml/XmlText", "lineAt", "([CIIII)I"⟩ : MethodName) prog_134_method_20_code 9 (some .int) ({ frames := 0, cells := 0, slots := 0, locals := 0 } : Room) #[(.ref (n0 + 0)), (.int lm), (.int sr), (.int en), (.int li)] [(own_ia Z .char xs)] (fun v its' => v = some (.int (own_run xs lm (en.toInt - sr.toInt).toNat sr li)) ∧ its' = [own_ia Z .char xs]) := by
  refine own_met.of pf_g3 ?_
  intro p e s m below meth c T0 hx hby hml hret hlk hZ hown hnm A0
  replace hown : s.vm.findClass "com/example/oropendola/oropendola/format/xml/XmlText" = some m.cls := hown
  replace hml : c.maxLocals = 9 := hml
  rw [ef_g3 m n0 lm sr en li]
  show own_go _ _ _ _ _ _ _ (T0.setTop (mkF m 0 #[.val (.ref (n0 + 0)), .val (.int lm), .val (.int sr), .val (.int en), .val (.int li), .unset, .unset, .unset, .unset] []))
  refine own_by (u' := T0.setTop (mkF m 2 #[.val (.ref (n0 + 0)), .val (.int lm), .val (.int sr), .val (.int en), .val (.int li), .unset, .unset, .unset, .unset] [(.int li)])) (fun _ k => XS.iload A0.here hx rfl (own_db hby d_prog_134_method_20_0) rfl k) ?_
  refine own_by (u' := T0.setTop (mkF m 4 #[.val (.ref (n0 + 0)), .val (.int lm), .val (.int sr), .val (.int en), .val (.int li), .val (.int li), .unset, .unset, .unset] [])) (fun _ k => XS.istore A0.here hx rfl (own_db hby d_prog_134_method_20_2) rfl (l' := #[.val (.ref (n0 + 0)), .val (.int lm), .val (.int sr), .val (.int en), .val (.int li), .val (.int li), .unset, .unset, .unset]) rfl k) ?_
  refine own_by (u' := T0.setTop (mkF m 5 #[.val (.ref (n0 + 0)), .val (.int lm), .val (.int sr), .val (.int en), .val (.int li), .val (.int li), .unset, .unset, .unset] [(.int sr)])) (fun _ k => XS.iloadN A0.here hx rfl (own_db hby d_prog_134_method_20_4) rfl k) ?_
  refine own_by (u' := T0.setTop (mkF m 7 #[.val (.ref (n0 + 0)), .val (.int lm), .val (.int sr), .val (.int en), .val (.int li), .val (.int li), .val (.int sr), .unset, .unset] [])) (fun _ k => XS.istore A0.here hx rfl (own_db hby d_prog_134_method_20_5) rfl (l' := #[.val (.ref (n0 + 0)), .val (.int lm), .val (.int sr), .val (.int en), .val (.int li), .val (.int li), .val (.int sr), .unset, .unset]) rfl k) ?_
  have lp1 : ∀ (k : Nat) (T2 : State) (ac : Int32) (ii : Int32) (s7 : Slot) (s8 : Slot), own_at p l e ({ frames := 0, cells := 0, slots := 0, locals := 0 } : Room) s m #[(.ref (n0 + 0)), (.int lm), (.int sr), (.int en), (.int li)] below meth c n0 T2 0 0 [(own_ia Z .char xs)] → (s7 = Slot.unset ∨ ∃ w, s7 = Slot.val w ∧ w.category = 1) → (s8 = Slot.unset ∨ ∃ w, s8 = Slot.val w ∧ w.category = 1) → (0 ≤ ii.toInt ∧ (ii.toInt + ((k : Nat) : Int) = en.toInt ∨ (k = 0 ∧ en.toInt ≤ ii.toInt))) → (own_run xs lm k ii ac = own_run xs lm (en.toInt - sr.toInt).toNat sr li) → own_go p e ({ frames := 0, cells := 0, slots := 0, locals := 0 } : Room) s below n0 (fun v its' => v = some (.int (own_run xs lm (en.toInt - sr.toInt).toNat sr li)) ∧ its' = [own_ia Z .char xs]) (T2.setTop (mkF m 7 #[.val (.ref (n0 + 0)), .val (.int lm), .val (.int sr), .val (.int en), .val (.int li), .val (.int ac), .val (.int ii), s7, s8] [])) := by
    intro k
    induction k with
    | zero =>
      intro T2 ac ii s7 s8 A3 h_s7 h_s8 hi hv
      refine own_by (u' := T2.setTop (mkF m 9 #[.val (.ref (n0 + 0)), .val (.int lm), .val (.int sr), .val (.int en), .val (.int li), .val (.int ac), .val (.int ii), s7, s8] [(.int ii)])) (fun _ k => XS.iload A3.here hx rfl (own_db hby d_prog_134_method_20_7) rfl k) ?_
      refine own_by (u' := T2.setTop (mkF m 10 #[.val (.ref (n0 + 0)), .val (.int lm), .val (.int sr), .val (.int en), .val (.int li), .val (.int ac), .val (.int ii), s7, s8] [(.int en), (.int ii)])) (fun _ k => XS.iloadN A3.here hx rfl (own_db hby d_prog_134_method_20_9) rfl k) ?_
      refine own_by (u' := T2.setTop (mkF m 80 #[.val (.ref (n0 + 0)), .val (.int lm), .val (.int sr), .val (.int en), .val (.int li), .val (.int ac), .val (.int ii), s7, s8] [])) (fun _ k => XS.icmpYes A3.here hx rfl (pc0 := 10) (pc' := 80) rfl (own_db hby d_prog_134_method_20_10) rfl (flt (own_z hi)).2.1 (by decide) (by decide) k) ?_
      refine own_by (u' := T2.setTop (mkF m 82 #[.val (.ref (n0 + 0)), .val (.int lm), .val (.int sr), .val (.int en), .val (.int li), .val (.int ac), .val (.int ii), s7, s8] [(.int ac)])) (fun _ k => XS.iload A3.here hx rfl (own_db hby d_prog_134_method_20_80) rfl k) ?_
      exact own_retI A3 hx hlk hret (own_db hby d_prog_134_method_20_82) (by decide) (by decide) ⟨congrArg (fun z => some (Value.int z)) hv, rfl⟩
    | succ k ih4 =>
      intro T2 ac ii s7 s8 A3 h_s7 h_s8 hi hv
      refine own_by (u' := T2.setTop (mkF m 9 #[.val (.ref (n0 + 0)), .val (.int lm), .val (.int sr), .val (.int en), .val (.int li), .val (.int ac), .val (.int ii), s7, s8] [(.int ii)])) (fun _ k => XS.iload A3.here hx rfl (own_db hby d_prog_134_method_20_7) rfl k) ?_
      refine own_by (u' := T2.setTop (mkF m 10 #[.val (.ref (n0 + 0)), .val (.int lm), .val (.int sr), .val (.int en), .val (.int li), .val (.int ac), .val (.int ii), s7, s8] [(.int en), (.int ii)])) (fun _ k => XS.iloadN A3.here hx rfl (own_db hby d_prog_134_method_20_9) rfl k) ?_
      refine own_by (u' := T2.setTop (mkF m 13 #[.val (.ref (n0 + 0)), .val (.int lm), .val (.int sr), .val (.int en), .val (.int li), .val (.int ac), .val (.int ii), s7, s8] [])) (fun _ k => XS.icmpNo A3.here hx rfl (own_db hby d_prog_134_method_20_10) rfl (tlt (own_s hi)).2.1 k) ?_
      refine own_by (u' := T2.setTop (mkF m 14 #[.val (.ref (n0 + 0)), .val (.int lm), .val (.int sr), .val (.int en), .val (.int li), .val (.int ac), .val (.int ii), s7, s8] [(.ref (n0 + 0))])) (fun _ k => XS.aloadN A3.here hx rfl (own_db hby d_prog_134_method_20_13) rfl rfl k) ?_
      refine own_by (u' := T2.setTop (mkF m 16 #[.val (.ref (n0 + 0)), .val (.int lm), .val (.int sr), .val (.int en), .val (.int li), .val (.int ac), .val (.int ii), s7, s8] [(.int ii), (.ref (n0 + 0))])) (fun _ k => XS.iload A3.here hx rfl (own_db hby d_prog_134_method_20_14) rfl k) ?_
      refine own_caload A3 hx hZ (i := 0) rfl (x := (own_g xs ii)) (own_rd h4 hi.1 (own_ub hen hi)) (own_db hby d_prog_134_method_20_16) ?_
      show own_go _ _ _ _ _ _ _ (T2.setTop (mkF m 17 #[.val (.ref (n0 + 0)), .val (.int lm), .val (.int sr), .val (.int en), .val (.int li), .val (.int ac), .val (.int ii), s7, s8] [(.int (own_g xs ii))]))
      refine own_by (u' := T2.setTop (mkF m 19 #[.val (.ref (n0 + 0)), .val (.int lm), .val (.int sr), .val (.int en), .val (.int li), .val (.int ac), .val (.int ii), .val (.int (own_g xs ii)), s8] [])) (fun _ k => XS.istoreS A3.here hx rfl (own_db hby d_prog_134_method_20_17) rfl (o := s7) rfl h_s7 k) ?_
      refine own_by (u' := T2.setTop (mkF m 21 #[.val (.ref (n0 + 0)), .val (.int lm), .val (.int sr), .val (.int en), .val (.int li), .val (.int ac), .val (.int ii), .val (.int (own_g xs ii)), s8] [(.int (own_g xs ii))])) (fun _ k => XS.iload A3.here hx rfl (own_db hby d_prog_134_method_20_19) rfl k) ?_
      refine own_by (u' := T2.setTop (mkF m 23 #[.val (.ref (n0 + 0)), .val (.int lm), .val (.int sr), .val (.int en), .val (.int li), .val (.int ac), .val (.int ii), .val (.int (own_g xs ii)), s8] [(.int (13 : Int32)), (.int (own_g xs ii))])) (fun _ k => XS.bipush A3.here hx rfl (own_db hby d_prog_134_method_20_21) k) ?_
      by_cases hc5 : (own_g xs ii) = (13 : Int32)
      · refine own_by (u' := T2.setTop (mkF m 26 #[.val (.ref (n0 + 0)), .val (.int lm), .val (.int sr), .val (.int en), .val (.int li), .val (.int ac), .val (.int ii), .val (.int (own_g xs ii)), s8] [])) (fun _ k => XS.icmpNo A3.here hx rfl (own_db hby d_prog_134_method_20_23) rfl (teq hc5).2 k) ?_
        refine own_by (u' := T2.setTop (mkF m 28 #[.val (.ref (n0 + 0)), .val (.int lm), .val (.int sr), .val (.int en), .val (.int li), .val (.int ac), .val (.int ii), .val (.int (own_g xs ii)), s8] [(.int ii)])) (fun _ k => XS.iload A3.here hx rfl (own_db hby d_prog_134_method_20_26) rfl k) ?_
        refine own_by (u' := T2.setTop (mkF m 29 #[.val (.ref (n0 + 0)), .val (.int lm), .val (.int sr), .val (.int en), .val (.int li), .val (.int ac), .val (.int ii), .val (.int (own_g xs ii)), s8] [(.int (1 : Int32)), (.int ii)])) (fun _ k => XS.iconst A3.here hx rfl (own_db hby d_prog_134_method_20_28) k) ?_
        refine own_by (u' := T2.setTop (mkF m 30 #[.val (.ref (n0 + 0)), .val (.int lm), .val (.int sr), .val (.int en), .val (.int li), .val (.int ac), .val (.int ii), .val (.int (own_g xs ii)), s8] [(.int (ii + (1 : Int32)))])) (fun _ k => XS.iadd A3.here hx rfl (own_db hby d_prog_134_method_20_29) rfl k) ?_
        refine own_by (u' := T2.setTop (mkF m 31 #[.val (.ref (n0 + 0)), .val (.int lm), .val (.int sr), .val (.int en), .val (.int li), .val (.int ac), .val (.int ii), .val (.int (own_g xs ii)), s8] [(.int lm), (.int (ii + (1 : Int32)))])) (fun _ k => XS.iloadN A3.here hx rfl (own_db hby d_prog_134_method_20_30) rfl k) ?_
        by_cases hc6 : (ii + (1 : Int32)) < lm
        · refine own_by (u' := T2.setTop (mkF m 34 #[.val (.ref (n0 + 0)), .val (.int lm), .val (.int sr), .val (.int en), .val (.int li), .val (.int ac), .val (.int ii), .val (.int (own_g xs ii)), s8] [])) (fun _ k => XS.icmpNo A3.here hx rfl (own_db hby d_prog_134_method_20_31) rfl (tlt hc6).2.1 k) ?_
          refine own_by (u' := T2.setTop (mkF m 35 #[.val (.ref (n0 + 0)), .val (.int lm), .val (.int sr), .val (.int en), .val (.int li), .val (.int ac), .val (.int ii), .val (.int (own_g xs ii)), s8] [(.ref (n0 + 0))])) (fun _ k => XS.aloadN A3.here hx rfl (own_db hby d_prog_134_method_20_34) rfl rfl k) ?_
          refine own_by (u' := T2.setTop (mkF m 37 #[.val (.ref (n0 + 0)), .val (.int lm), .val (.int sr), .val (.int en), .val (.int li), .val (.int ac), .val (.int ii), .val (.int (own_g xs ii)), s8] [(.int ii), (.ref (n0 + 0))])) (fun _ k => XS.iload A3.here hx rfl (own_db hby d_prog_134_method_20_35) rfl k) ?_
          refine own_by (u' := T2.setTop (mkF m 38 #[.val (.ref (n0 + 0)), .val (.int lm), .val (.int sr), .val (.int en), .val (.int li), .val (.int ac), .val (.int ii), .val (.int (own_g xs ii)), s8] [(.int (1 : Int32)), (.int ii), (.ref (n0 + 0))])) (fun _ k => XS.iconst A3.here hx rfl (own_db hby d_prog_134_method_20_37) k) ?_
          refine own_by (u' := T2.setTop (mkF m 39 #[.val (.ref (n0 + 0)), .val (.int lm), .val (.int sr), .val (.int en), .val (.int li), .val (.int ac), .val (.int ii), .val (.int (own_g xs ii)), s8] [(.int (ii + (1 : Int32))), (.ref (n0 + 0))])) (fun _ k => XS.iadd A3.here hx rfl (own_db hby d_prog_134_method_20_38) rfl k) ?_
          refine own_caload A3 hx hZ (i := 0) rfl (x := (own_g xs (ii + (1 : Int32)))) (own_rd1 h4 hi.1 (Int.lt_trans (own_ub hen hi) (by decide)) hlm hc6) (own_db hby d_prog_134_method_20_39) ?_
          show own_go _ _ _ _ _ _ _ (T2.setTop (mkF m 40 #[.val (.ref (n0 + 0)), .val (.int lm), .val (.int sr), .val (.int en), .val (.int li), .val (.int ac), .val (.int ii), .val (.int (own_g xs ii)), s8] [(.int (own_g xs (ii + (1 : Int32))))]))
          refine own_by (u' := T2.setTop (mkF m 42 #[.val (.ref (n0 + 0)), .val (.int lm), .val (.int sr), .val (.int en), .val (.int li), .val (.int ac), .val (.int ii), .val (.int (own_g xs ii)), s8] [(.int (10 : Int32)), (.int (own_g xs (ii + (1 : Int32))))])) (fun _ k => XS.bipush A3.here hx rfl (own_db hby d_prog_134_method_20_40) k) ?_
          by_cases hc7 : (own_g xs (ii + (1 : Int32))) = (10 : Int32)
          · refine own_by (u' := T2.setTop (mkF m 45 #[.val (.ref (n0 + 0)), .val (.int lm), .val (.int sr), .val (.int en), .val (.int li), .val (.int ac), .val (.int ii), .val (.int (own_g xs ii)), s8] [])) (fun _ k => XS.icmpNo A3.here hx rfl (own_db hby d_prog_134_method_20_42) rfl (teq hc7).2 k) ?_
            refine own_by (u' := T2.setTop (mkF m 46 #[.val (.ref (n0 + 0)), .val (.int lm), .val (.int sr), .val (.int en), .val (.int li), .val (.int ac), .val (.int ii), .val (.int (own_g xs ii)), s8] [(.int (1 : Int32))])) (fun _ k => XS.iconst A3.here hx rfl (own_db hby d_prog_134_method_20_45) k) ?_
            refine own_by (u' := T2.setTop (mkF m 50 #[.val (.ref (n0 + 0)), .val (.int lm), .val (.int sr), .val (.int en), .val (.int li), .val (.int ac), .val (.int ii), .val (.int (own_g xs ii)), s8] [(.int (1 : Int32))])) (fun _ k => XS.goto A3.here hx rfl (pc0 := 46) (pc' := 50) rfl (own_db hby d_prog_134_method_20_46) (by decide) (by decide) k) ?_
            refine own_by (u' := T2.setTop (mkF m 52 #[.val (.ref (n0 + 0)), .val (.int lm), .val (.int sr), .val (.int en), .val (.int li), .val (.int ac), .val (.int ii), .val (.int (own_g xs ii)), .val (.int (1 : Int32))] [])) (fun _ k => XS.istoreS A3.here hx rfl (own_db hby d_prog_134_method_20_50) rfl (o := s8) rfl h_s8 k) ?_
            refine own_by (u' := T2.setTop (mkF m 54 #[.val (.ref (n0 + 0)), .val (.int lm), .val (.int sr), .val (.int en), .val (.int li), .val (.int ac), .val (.int ii), .val (.int (own_g xs ii)), .val (.int (1 : Int32))] [(.int (own_g xs ii))])) (fun _ k => XS.iload A3.here hx rfl (own_db hby d_prog_134_method_20_52) rfl k) ?_
            refine own_by (u' := T2.setTop (mkF m 56 #[.val (.ref (n0 + 0)), .val (.int lm), .val (.int sr), .val (.int en), .val (.int li), .val (.int ac), .val (.int ii), .val (.int (own_g xs ii)), .val (.int (1 : Int32))] [(.int (10 : Int32)), (.int (own_g xs ii))])) (fun _ k => XS.bipush A3.here hx rfl (own_db hby d_prog_134_method_20_54) k) ?_
            refine own_by (u' := T2.setTop (mkF m 59 #[.val (.ref (n0 + 0)), .val (.int lm), .val (.int sr), .val (.int en), .val (.int li), .val (.int ac), .val (.int ii), .val (.int (own_g xs ii)), .val (.int (1 : Int32))] [])) (fun _ k => XS.icmpNo A3.here hx rfl (own_db hby d_prog_134_method_20_56) rfl (feq (fun z => absurd (hc5.symm.trans z) (by decide))).1 k) ?_
            refine own_by (u' := T2.setTop (mkF m 61 #[.val (.ref (n0 + 0)), .val (.int lm), .val (.int sr), .val (.int en), .val (.int li), .val (.int ac), .val (.int ii), .val (.int (own_g xs ii)), .val (.int (1 : Int32))] [(.int (own_g xs ii))])) (fun _ k => XS.iload A3.here hx rfl (own_db hby d_prog_134_method_20_59) rfl k) ?_
            refine own_by (u' := T2.setTop (mkF m 63 #[.val (.ref (n0 + 0)), .val (.int lm), .val (.int sr), .val (.int en), .val (.int li), .val (.int ac), .val (.int ii), .val (.int (own_g xs ii)), .val (.int (1 : Int32))] [(.int (13 : Int32)), (.int (own_g xs ii))])) (fun _ k => XS.bipush A3.here hx rfl (own_db hby d_prog_134_method_20_61) k) ?_
            refine own_by (u' := T2.setTop (mkF m 66 #[.val (.ref (n0 + 0)), .val (.int lm), .val (.int sr), .val (.int en), .val (.int li), .val (.int ac), .val (.int ii), .val (.int (own_g xs ii)), .val (.int (1 : Int32))] [])) (fun _ k => XS.icmpNo A3.here hx rfl (own_db hby d_prog_134_method_20_63) rfl (teq hc5).2 k) ?_
            refine own_by (u' := T2.setTop (mkF m 68 #[.val (.ref (n0 + 0)), .val (.int lm), .val (.int sr), .val (.int en), .val (.int li), .val (.int ac), .val (.int ii), .val (.int (own_g xs ii)), .val (.int (1 : Int32))] [(.int (1 : Int32))])) (fun _ k => XS.iload A3.here hx rfl (own_db hby d_prog_134_method_20_66) rfl k) ?_
            refine own_by (u' := T2.setTop (mkF m 74 #[.val (.ref (n0 + 0)), .val (.int lm), .val (.int sr), .val (.int en), .val (.int li), .val (.int ac), .val (.int ii), .val (.int (own_g xs ii)), .val (.int (1 : Int32))] [])) (fun _ k => XS.ifYes A3.here hx rfl (pc0 := 68) (pc' := 74) rfl (own_db hby d_prog_134_method_20_68) rfl ((if0 _ _).trans (feq (by decide)).2) (by decide) (by decide) k) ?_
            refine own_by (u' := T2.setTop (mkF m 77 #[.val (.ref (n0 + 0)), .val (.int lm), .val (.int sr), .val (.int en), .val (.int li), .val (.int ac), .val (.int (ii + (1 : Int32))), .val (.int (own_g xs ii)), .val (.int (1 : Int32))] [])) (fun _ k => XS.iinc A3.here hx rfl (own_db hby d_prog_134_method_20_74) rfl (l' := #[.val (.ref (n0 + 0)), .val (.int lm), .val (.int sr), .val (.int en), .val (.int li), .val (.int ac), .val (.int (ii + (1 : Int32))), .val (.int (own_g xs ii)), .val (.int (1 : Int32))]) rfl k) ?_
            refine own_by (u' := T2.setTop (mkF m 7 #[.val (.ref (n0 + 0)), .val (.int lm), .val (.int sr), .val (.int en), .val (.int li), .val (.int ac), .val (.int (ii + (1 : Int32))), .val (.int (own_g xs ii)), .val (.int (1 : Int32))] [])) (fun _ k => XS.goto A3.here hx rfl (pc0 := 77) (pc' := 7) rfl (own_db hby d_prog_134_method_20_77) (by decide) (by decide) k) ?_
            exact ih4 _ ac (ii + (1 : Int32)) (.val (.int (own_g xs ii))) (.val (.int (1 : Int32))) A3 (Or.inr ⟨_, rfl, rfl⟩) (Or.inr ⟨_, rfl, rfl⟩) (own_nx hen hi) (by rw [← hv]; show own_run xs lm k (ii + (1 : Int32)) ac = own_run xs lm k (ii + (1 : Int32)) (ac + own_cnt xs lm ii); rw [show own_cnt xs lm ii = 0 from by unfold own_cnt; simp [hc5, hc6, hc7]]; rw [Int32.add_zero])
          · refine own_by (u' := T2.setTop (mkF m 49 #[.val (.ref (n0 + 0)), .val (.int lm), .val (.int sr), .val (.int en), .val (.int li), .val (.int ac), .val (.int ii), .val (.int (own_g xs ii)), s8] [])) (fun _ k => XS.icmpYes A3.here hx rfl (pc0 := 42) (pc' := 49) rfl (own_db hby d_prog_134_method_20_42) rfl (feq hc7).2 (by decide) (by decide) k) ?_
            refine own_by (u' := T2.setTop (mkF m 50 #[.val (.ref (n0 + 0)), .val (.int lm), .val (.int sr), .val (.int en), .val (.int li), .val (.int ac), .val (.int ii), .val (.int (own_g xs ii)), s8] [(.int (0 : Int32))])) (fun _ k => XS.iconst A3.here hx rfl (own_db hby d_prog_134_method_20_49) k) ?_
            refine own_by (u' := T2.setTop (mkF m 52 #[.val (.ref (n0 + 0)), .val (.int lm), .val (.int sr), .val (.int en), .val (.int li), .val (.int ac), .val (.int ii), .val (.int (own_g xs ii)), .val (.int (0 : Int32))] [])) (fun _ k => XS.istoreS A3.here hx rfl (own_db hby d_prog_134_method_20_50) rfl (o := s8) rfl h_s8 k) ?_
            refine own_by (u' := T2.setTop (mkF m 54 #[.val (.ref (n0 + 0)), .val (.int lm), .val (.int sr), .val (.int en), .val (.int li), .val (.int ac), .val (.int ii), .val (.int (own_g xs ii)), .val (.int (0 : Int32))] [(.int (own_g xs ii))])) (fun _ k => XS.iload A3.here hx rfl (own_db hby d_prog_134_method_20_52) rfl k) ?_
            refine own_by (u' := T2.setTop (mkF m 56 #[.val (.ref (n0 + 0)), .val (.int lm), .val (.int sr), .val (.int en), .val (.int li), .val (.int ac), .val (.int ii), .val (.int (own_g xs ii)), .val (.int (0 : Int32))] [(.int (10 : Int32)), (.int (own_g xs ii))])) (fun _ k => XS.bipush A3.here hx rfl (own_db hby d_prog_134_method_20_54) k) ?_
            refine own_by (u' := T2.setTop (mkF m 59 #[.val (.ref (n0 + 0)), .val (.int lm), .val (.int sr), .val (.int en), .val (.int li), .val (.int ac), .val (.int ii), .val (.int (own_g xs ii)), .val (.int (0 : Int32))] [])) (fun _ k => XS.icmpNo A3.here hx rfl (own_db hby d_prog_134_method_20_56) rfl (feq (fun z => absurd (hc5.symm.trans z) (by decide))).1 k) ?_
            refine own_by (u' := T2.setTop (mkF m 61 #[.val (.ref (n0 + 0)), .val (.int lm), .val (.int sr), .val (.int en), .val (.int li), .val (.int ac), .val (.int ii), .val (.int (own_g xs ii)), .val (.int (0 : Int32))] [(.int (own_g xs ii))])) (fun _ k => XS.iload A3.here hx rfl (own_db hby d_prog_134_method_20_59) rfl k) ?_
            refine own_by (u' := T2.setTop (mkF m 63 #[.val (.ref (n0 + 0)), .val (.int lm), .val (.int sr), .val (.int en), .val (.int li), .val (.int ac), .val (.int ii), .val (.int (own_g xs ii)), .val (.int (0 : Int32))] [(.int (13 : Int32)), (.int (own_g xs ii))])) (fun _ k => XS.bipush A3.here hx rfl (own_db hby d_prog_134_method_20_61) k) ?_
            refine own_by (u' := T2.setTop (mkF m 66 #[.val (.ref (n0 + 0)), .val (.int lm), .val (.int sr), .val (.int en), .val (.int li), .val (.int ac), .val (.int ii), .val (.int (own_g xs ii)), .val (.int (0 : Int32))] [])) (fun _ k => XS.icmpNo A3.here hx rfl (own_db hby d_prog_134_method_20_63) rfl (teq hc5).2 k) ?_
            refine own_by (u' := T2.setTop (mkF m 68 #[.val (.ref (n0 + 0)), .val (.int lm), .val (.int sr), .val (.int en), .val (.int li), .val (.int ac), .val (.int ii), .val (.int (own_g xs ii)), .val (.int (0 : Int32))] [(.int (0 : Int32))])) (fun _ k => XS.iload A3.here hx rfl (own_db hby d_prog_134_method_20_66) rfl k) ?_
            refine own_by (u' := T2.setTop (mkF m 71 #[.val (.ref (n0 + 0)), .val (.int lm), .val (.int sr), .val (.int en), .val (.int li), .val (.int ac), .val (.int ii), .val (.int (own_g xs ii)), .val (.int (0 : Int32))] [])) (fun _ k => XS.ifNo A3.here hx rfl (own_db hby d_prog_134_method_20_68) rfl ((if0 _ _).trans (teq (by decide)).2) k) ?_
            refine own_by (u' := T2.setTop (mkF m 74 #[.val (.ref (n0 + 0)), .val (.int lm), .val (.int sr), .val (.int en), .val (.int li), .val (.int (ac + (1 : Int32))), .val (.int ii), .val (.int (own_g xs ii)), .val (.int (0 : Int32))] [])) (fun _ k => XS.iinc A3.here hx rfl (own_db hby d_prog_134_method_20_71) rfl (l' := #[.val (.ref (n0 + 0)), .val (.int lm), .val (.int sr), .val (.int en), .val (.int li), .val (.int (ac + (1 : Int32))), .val (.int ii), .val (.int (own_g xs ii)), .val (.int (0 : Int32))]) rfl k) ?_
            refine own_by (u' := T2.setTop (mkF m 77 #[.val (.ref (n0 + 0)), .val (.int lm), .val (.int sr), .val (.int en), .val (.int li), .val (.int (ac + (1 : Int32))), .val (.int (ii + (1 : Int32))), .val (.int (own_g xs ii)), .val (.int (0 : Int32))] [])) (fun _ k => XS.iinc A3.here hx rfl (own_db hby d_prog_134_method_20_74) rfl (l' := #[.val (.ref (n0 + 0)), .val (.int lm), .val (.int sr), .val (.int en), .val (.int li), .val (.int (ac + (1 : Int32))), .val (.int (ii + (1 : Int32))), .val (.int (own_g xs ii)), .val (.int (0 : Int32))]) rfl k) ?_
            refine own_by (u' := T2.setTop (mkF m 7 #[.val (.ref (n0 + 0)), .val (.int lm), .val (.int sr), .val (.int en), .val (.int li), .val (.int (ac + (1 : Int32))), .val (.int (ii + (1 : Int32))), .val (.int (own_g xs ii)), .val (.int (0 : Int32))] [])) (fun _ k => XS.goto A3.here hx rfl (pc0 := 77) (pc' := 7) rfl (own_db hby d_prog_134_method_20_77) (by decide) (by decide) k) ?_
            exact ih4 _ (ac + (1 : Int32)) (ii + (1 : Int32)) (.val (.int (own_g xs ii))) (.val (.int (0 : Int32))) A3 (Or.inr ⟨_, rfl, rfl⟩) (Or.inr ⟨_, rfl, rfl⟩) (own_nx hen hi) (by rw [← hv]; show own_run xs lm k (ii + (1 : Int32)) (ac + (1 : Int32)) = own_run xs lm k (ii + (1 : Int32)) (ac + own_cnt xs lm ii); rw [show own_cnt xs lm ii = 1 from by unfold own_cnt; simp [hc5, hc6, hc7]])
        · refine own_by (u' := T2.setTop (mkF m 49 #[.val (.ref (n0 + 0)), .val (.int lm), .val (.int sr), .val (.int en), .val (.int li), .val (.int ac), .val (.int ii), .val (.int (own_g xs ii)), s8] [])) (fun _ k => XS.icmpYes A3.here hx rfl (pc0 := 31) (pc' := 49) rfl (own_db hby d_prog_134_method_20_31) rfl (flt hc6).2.1 (by decide) (by decide) k) ?_
          refine own_by (u' := T2.setTop (mkF m 50 #[.val (.ref (n0 + 0)), .val (.int lm), .val (.int sr), .val (.int en), .val (.int li), .val (.int ac), .val (.int ii), .val (.int (own_g xs ii)), s8] [(.int (0 : Int32))])) (fun _ k => XS.iconst A3.here hx rfl (own_db hby d_prog_134_method_20_49) k) ?_
          refine own_by (u' := T2.setTop (mkF m 52 #[.val (.ref (n0 + 0)), .val (.int lm), .val (.int sr), .val (.int en), .val (.int li), .val (.int ac), .val (.int ii), .val (.int (own_g xs ii)), .val (.int (0 : Int32))] [])) (fun _ k => XS.istoreS A3.here hx rfl (own_db hby d_prog_134_method_20_50) rfl (o := s8) rfl h_s8 k) ?_
          refine own_by (u' := T2.setTop (mkF m 54 #[.val (.ref (n0 + 0)), .val (.int lm), .val (.int sr), .val (.int en), .val (.int li), .val (.int ac), .val (.int ii), .val (.int (own_g xs ii)), .val (.int (0 : Int32))] [(.int (own_g xs ii))])) (fun _ k => XS.iload A3.here hx rfl (own_db hby d_prog_134_method_20_52) rfl k) ?_
          refine own_by (u' := T2.setTop (mkF m 56 #[.val (.ref (n0 + 0)), .val (.int lm), .val (.int sr), .val (.int en), .val (.int li), .val (.int ac), .val (.int ii), .val (.int (own_g xs ii)), .val (.int (0 : Int32))] [(.int (10 : Int32)), (.int (own_g xs ii))])) (fun _ k => XS.bipush A3.here hx rfl (own_db hby d_prog_134_method_20_54) k) ?_
          refine own_by (u' := T2.setTop (mkF m 59 #[.val (.ref (n0 + 0)), .val (.int lm), .val (.int sr), .val (.int en), .val (.int li), .val (.int ac), .val (.int ii), .val (.int (own_g xs ii)), .val (.int (0 : Int32))] [])) (fun _ k => XS.icmpNo A3.here hx rfl (own_db hby d_prog_134_method_20_56) rfl (feq (fun z => absurd (hc5.symm.trans z) (by decide))).1 k) ?_
          refine own_by (u' := T2.setTop (mkF m 61 #[.val (.ref (n0 + 0)), .val (.int lm), .val (.int sr), .val (.int en), .val (.int li), .val (.int ac), .val (.int ii), .val (.int (own_g xs ii)), .val (.int (0 : Int32))] [(.int (own_g xs ii))])) (fun _ k => XS.iload A3.here hx rfl (own_db hby d_prog_134_method_20_59) rfl k) ?_
          refine own_by (u' := T2.setTop (mkF m 63 #[.val (.ref (n0 + 0)), .val (.int lm), .val (.int sr), .val (.int en), .val (.int li), .val (.int ac), .val (.int ii), .val (.int (own_g xs ii)), .val (.int (0 : Int32))] [(.int (13 : Int32)), (.int (own_g xs ii))])) (fun _ k => XS.bipush A3.here hx rfl (own_db hby d_prog_134_method_20_61) k) ?_
          refine own_by (u' := T2.setTop (mkF m 66 #[.val (.ref (n0 + 0)), .val (.int lm), .val (.int sr), .val (.int en), .val (.int li), .val (.int ac), .val (.int ii), .val (.int (own_g xs ii)), .val (.int (0 : Int32))] [])) (fun _ k => XS.icmpNo A3.here hx rfl (own_db hby d_prog_134_method_20_63) rfl (teq hc5).2 k) ?_
          refine own_by (u' := T2.setTop (mkF m 68 #[.val (.ref (n0 + 0)), .val (.int lm), .val (.int sr), .val (.int en), .val (.int li), .val (.int ac), .val (.int ii), .val (.int (own_g xs ii)), .val (.int (0 : Int32))] [(.int (0 : Int32))])) (fun _ k => XS.iload A3.here hx rfl (own_db hby d_prog_134_method_20_66) rfl k) ?_
          refine own_by (u' := T2.setTop (mkF m 71 #[.val (.ref (n0 + 0)), .val (.int lm), .val (.int sr), .val (.int en), .val (.int li), .val (.int ac), .val (.int ii), .val (.int (own_g xs ii)), .val (.int (0 : Int32))] [])) (fun _ k => XS.ifNo A3.here hx rfl (own_db hby d_prog_134_method_20_68) rfl ((if0 _ _).trans (teq (by decide)).2) k) ?_
          refine own_by (u' := T2.setTop (mkF m 74 #[.val (.ref (n0 + 0)), .val (.int lm), .val (.int sr), .val (.int en), .val (.int li), .val (.int (ac + (1 : Int32))), .val (.int ii), .val (.int (own_g xs ii)), .val (.int (0 : Int32))] [])) (fun _ k => XS.iinc A3.here hx rfl (own_db hby d_prog_134_method_20_71) rfl (l' := #[.val (.ref (n0 + 0)), .val (.int lm), .val (.int sr), .val (.int en), .val (.int li), .val (.int (ac + (1 : Int32))), .val (.int ii), .val (.int (own_g xs ii)), .val (.int (0 : Int32))]) rfl k) ?_
          refine own_by (u' := T2.setTop (mkF m 77 #[.val (.ref (n0 + 0)), .val (.int lm), .val (.int sr), .val (.int en), .val (.int li), .val (.int (ac + (1 : Int32))), .val (.int (ii + (1 : Int32))), .val (.int (own_g xs ii)), .val (.int (0 : Int32))] [])) (fun _ k => XS.iinc A3.here hx rfl (own_db hby d_prog_134_method_20_74) rfl (l' := #[.val (.ref (n0 + 0)), .val (.int lm), .val (.int sr), .val (.int en), .val (.int li), .val (.int (ac + (1 : Int32))), .val (.int (ii + (1 : Int32))), .val (.int (own_g xs ii)), .val (.int (0 : Int32))]) rfl k) ?_
          refine own_by (u' := T2.setTop (mkF m 7 #[.val (.ref (n0 + 0)), .val (.int lm), .val (.int sr), .val (.int en), .val (.int li), .val (.int (ac + (1 : Int32))), .val (.int (ii + (1 : Int32))), .val (.int (own_g xs ii)), .val (.int (0 : Int32))] [])) (fun _ k => XS.goto A3.here hx rfl (pc0 := 77) (pc' := 7) rfl (own_db hby d_prog_134_method_20_77) (by decide) (by decide) k) ?_
          exact ih4 _ (ac + (1 : Int32)) (ii + (1 : Int32)) (.val (.int (own_g xs ii))) (.val (.int (0 : Int32))) A3 (Or.inr ⟨_, rfl, rfl⟩) (Or.inr ⟨_, rfl, rfl⟩) (own_nx hen hi) (by rw [← hv]; show own_run xs lm k (ii + (1 : Int32)) (ac + (1 : Int32)) = own_run xs lm k (ii + (1 : Int32)) (ac + own_cnt xs lm ii); rw [show own_cnt xs lm ii = 1 from by unfold own_cnt; simp [hc5, hc6]])
      · refine own_by (u' := T2.setTop (mkF m 49 #[.val (.ref (n0 + 0)), .val (.int lm), .val (.int sr), .val (.int en), .val (.int li), .val (.int ac), .val (.int ii), .val (.int (own_g xs ii)), s8] [])) (fun _ k => XS.icmpYes A3.here hx rfl (pc0 := 23) (pc' := 49) rfl (own_db hby d_prog_134_method_20_23) rfl (feq hc5).2 (by decide) (by decide) k) ?_
        refine own_by (u' := T2.setTop (mkF m 50 #[.val (.ref (n0 + 0)), .val (.int lm), .val (.int sr), .val (.int en), .val (.int li), .val (.int ac), .val (.int ii), .val (.int (own_g xs ii)), s8] [(.int (0 : Int32))])) (fun _ k => XS.iconst A3.here hx rfl (own_db hby d_prog_134_method_20_49) k) ?_
        refine own_by (u' := T2.setTop (mkF m 52 #[.val (.ref (n0 + 0)), .val (.int lm), .val (.int sr), .val (.int en), .val (.int li), .val (.int ac), .val (.int ii), .val (.int (own_g xs ii)), .val (.int (0 : Int32))] [])) (fun _ k => XS.istoreS A3.here hx rfl (own_db hby d_prog_134_method_20_50) rfl (o := s8) rfl h_s8 k) ?_
        refine own_by (u' := T2.setTop (mkF m 54 #[.val (.ref (n0 + 0)), .val (.int lm), .val (.int sr), .val (.int en), .val (.int li), .val (.int ac), .val (.int ii), .val (.int (own_g xs ii)), .val (.int (0 : Int32))] [(.int (own_g xs ii))])) (fun _ k => XS.iload A3.here hx rfl (own_db hby d_prog_134_method_20_52) rfl k) ?_
        refine own_by (u' := T2.setTop (mkF m 56 #[.val (.ref (n0 + 0)), .val (.int lm), .val (.int sr), .val (.int en), .val (.int li), .val (.int ac), .val (.int ii), .val (.int (own_g xs ii)), .val (.int (0 : Int32))] [(.int (10 : Int32)), (.int (own_g xs ii))])) (fun _ k => XS.bipush A3.here hx rfl (own_db hby d_prog_134_method_20_54) k) ?_
        by_cases hc8 : (own_g xs ii) = (10 : Int32)
        · refine own_by (u' := T2.setTop (mkF m 71 #[.val (.ref (n0 + 0)), .val (.int lm), .val (.int sr), .val (.int en), .val (.int li), .val (.int ac), .val (.int ii), .val (.int (own_g xs ii)), .val (.int (0 : Int32))] [])) (fun _ k => XS.icmpYes A3.here hx rfl (pc0 := 56) (pc' := 71) rfl (own_db hby d_prog_134_method_20_56) rfl (teq hc8).1 (by decide) (by decide) k) ?_
          refine own_by (u' := T2.setTop (mkF m 74 #[.val (.ref (n0 + 0)), .val (.int lm), .val (.int sr), .val (.int en), .val (.int li), .val (.int (ac + (1 : Int32))), .val (.int ii), .val (.int (own_g xs ii)), .val (.int (0 : Int32))] [])) (fun _ k => XS.iinc A3.here hx rfl (own_db hby d_prog_134_method_20_71) rfl (l' := #[.val (.ref (n0 + 0)), .val (.int lm), .val (.int sr), .val (.int en), .val (.int li), .val (.int (ac + (1 : Int32))), .val (.int ii), .val (.int (own_g xs ii)), .val (.int (0 : Int32))]) rfl k) ?_
          refine own_by (u' := T2.setTop (mkF m 77 #[.val (.ref (n0 + 0)), .val (.int lm), .val (.int sr), .val (.int en), .val (.int li), .val (.int (ac + (1 : Int32))), .val (.int (ii + (1 : Int32))), .val (.int (own_g xs ii)), .val (.int (0 : Int32))] [])) (fun _ k => XS.iinc A3.here hx rfl (own_db hby d_prog_134_method_20_74) rfl (l' := #[.val (.ref (n0 + 0)), .val (.int lm), .val (.int sr), .val (.int en), .val (.int li), .val (.int (ac + (1 : Int32))), .val (.int (ii + (1 : Int32))), .val (.int (own_g xs ii)), .val (.int (0 : Int32))]) rfl k) ?_
          refine own_by (u' := T2.setTop (mkF m 7 #[.val (.ref (n0 + 0)), .val (.int lm), .val (.int sr), .val (.int en), .val (.int li), .val (.int (ac + (1 : Int32))), .val (.int (ii + (1 : Int32))), .val (.int (own_g xs ii)), .val (.int (0 : Int32))] [])) (fun _ k => XS.goto A3.here hx rfl (pc0 := 77) (pc' := 7) rfl (own_db hby d_prog_134_method_20_77) (by decide) (by decide) k) ?_
          exact ih4 _ (ac + (1 : Int32)) (ii + (1 : Int32)) (.val (.int (own_g xs ii))) (.val (.int (0 : Int32))) A3 (Or.inr ⟨_, rfl, rfl⟩) (Or.inr ⟨_, rfl, rfl⟩) (own_nx hen hi) (by rw [← hv]; show own_run xs lm k (ii + (1 : Int32)) (ac + (1 : Int32)) = own_run xs lm k (ii + (1 : Int32)) (ac + own_cnt xs lm ii); rw [show own_cnt xs lm ii = 1 from by unfold own_cnt; simp [hc5, hc8]])
        · refine own_by (u' := T2.setTop (mkF m 59 #[.val (.ref (n0 + 0)), .val (.int lm), .val (.int sr), .val (.int en), .val (.int li), .val (.int ac), .val (.int ii), .val (.int (own_g xs ii)), .val (.int (0 : Int32))] [])) (fun _ k => XS.icmpNo A3.here hx rfl (own_db hby d_prog_134_method_20_56) rfl (feq hc8).1 k) ?_
          refine own_by (u' := T2.setTop (mkF m 61 #[.val (.ref (n0 + 0)), .val (.int lm), .val (.int sr), .val (.int en), .val (.int li), .val (.int ac), .val (.int ii), .val (.int (own_g xs ii)), .val (.int (0 : Int32))] [(.int (own_g xs ii))])) (fun _ k => XS.iload A3.here hx rfl (own_db hby d_prog_134_method_20_59) rfl k) ?_
          refine own_by (u' := T2.setTop (mkF m 63 #[.val (.ref (n0 + 0)), .val (.int lm), .val (.int sr), .val (.int en), .val (.int li), .val (.int ac), .val (.int ii), .val (.int (own_g xs ii)), .val (.int (0 : Int32))] [(.int (13 : Int32)), (.int (own_g xs ii))])) (fun _ k => XS.bipush A3.here hx rfl (own_db hby d_prog_134_method_20_61) k) ?_
          refine own_by (u' := T2.setTop (mkF m 74 #[.val (.ref (n0 + 0)), .val (.int lm), .val (.int sr), .val (.int en), .val (.int li), .val (.int ac), .val (.int ii), .val (.int (own_g xs ii)), .val (.int (0 : Int32))] [])) (fun _ k => XS.icmpYes A3.here hx rfl (pc0 := 63) (pc' := 74) rfl (own_db hby d_prog_134_method_20_63) rfl (feq hc5).2 (by decide) (by decide) k) ?_
          refine own_by (u' := T2.setTop (mkF m 77 #[.val (.ref (n0 + 0)), .val (.int lm), .val (.int sr), .val (.int en), .val (.int li), .val (.int ac), .val (.int (ii + (1 : Int32))), .val (.int (own_g xs ii)), .val (.int (0 : Int32))] [])) (fun _ k => XS.iinc A3.here hx rfl (own_db hby d_prog_134_method_20_74) rfl (l' := #[.val (.ref (n0 + 0)), .val (.int lm), .val (.int sr), .val (.int en), .val (.int li), .val (.int ac), .val (.int (ii + (1 : Int32))), .val (.int (own_g xs ii)), .val (.int (0 : Int32))]) rfl k) ?_
          refine own_by (u' := T2.setTop (mkF m 7 #[.val (.ref (n0 + 0)), .val (.int lm), .val (.int sr), .val (.int en), .val (.int li), .val (.int ac), .val (.int (ii + (1 : Int32))), .val (.int (own_g xs ii)), .val (.int (0 : Int32))] [])) (fun _ k => XS.goto A3.here hx rfl (pc0 := 77) (pc' := 7) rfl (own_db hby d_prog_134_method_20_77) (by decide) (by decide) k) ?_
          exact ih4 _ ac (ii + (1 : Int32)) (.val (.int (own_g xs ii))) (.val (.int (0 : Int32))) A3 (Or.inr ⟨_, rfl, rfl⟩) (Or.inr ⟨_, rfl, rfl⟩) (own_nx hen hi) (by rw [← hv]; show own_run xs lm k (ii + (1 : Int32)) ac = own_run xs lm k (ii + (1 : Int32)) (ac + own_cnt xs lm ii); rw [show own_cnt xs lm ii = 0 from by unfold own_cnt; simp [hc5, hc8]]; rw [Int32.add_zero])
  exact lp1 ((en.toInt - sr.toInt).toNat) _ li sr (.unset) (.unset) A0 (Or.inl rfl) (Or.inl rfl) ⟨hsr, by omega⟩ rfl
theorem own_pos (x : Int32) : 0 ≤ (x &&& (2147483647 : Int32)).toInt := (c_and x 2147483647 (by decide)).1
theorem own_r5 (x : Int32) : 0 ≤ ((x &&& (2147483647 : Int32)) % (5 : Int32)).toInt ∧ ((x &&& (2147483647 : Int32)) % (5 : Int32)).toInt ≤ 4 := by
  have q := (c_irem (x &&& (2147483647 : Int32)) 5 5 rfl).1 (own_pos x)
  omega
theorem own_r6 (x : Int32) : 0 ≤ ((x &&& (2147483647 : Int32)) % (6 : Int32)).toInt ∧ ((x &&& (2147483647 : Int32)) % (6 : Int32)).toInt ≤ 5 := by
  have q := (c_irem (x &&& (2147483647 : Int32)) 6 6 rfl).1 (own_pos x)
  omega
theorem own_l1 {lm : Int32} (h : 0 ≤ lm.toInt ∧ lm.toInt ≤ 4) : lm + (1 : Int32) ≠ 0 := fun q => by
  have z := own_inc (j := lm) (by omega)
  have e0 : (0 : Int32).toInt = 0 := rfl
  rw [q, e0] at z; omega
theorem own_re (x : Int32) {lm : Int32} (h : 0 ≤ lm.toInt ∧ lm.toInt ≤ 4) : 0 ≤ ((x &&& (2147483647 : Int32)) % (lm + (1 : Int32))).toInt ∧ ((x &&& (2147483647 : Int32)) % (lm + (1 : Int32))).toInt ≤ lm.toInt := by
  have z := own_inc (j := lm) (by omega)
  have q := (c_irem (x &&& (2147483647 : Int32)) (lm + (1 : Int32)) _ z).1 (own_pos x)
  have m1 := Int.emod_nonneg (x &&& (2147483647 : Int32)).toInt (b := lm.toInt + 1) (by omega)
  have m2 := Int.emod_lt_of_pos (x &&& (2147483647 : Int32)).toInt (b := lm.toInt + 1) (by omega)
  omega
theorem own_f2 (xs : List Int32) (lm sr en i : Int32) : f2 xs lm sr en i = if i < sr then 0 else if i < en then own_cnt xs lm i else 0 := by
  unfold f2 own_cnt
  rfl
theorem own_six {a : Int32} (h : 0 ≤ a.toInt ∧ a.toInt ≤ 5) : a = 0 ∨ a = 1 ∨ a = 2 ∨ a = 3 ∨ a = 4 ∨ a = 5 := by
  have e0 : (0 : Int32).toInt = 0 := rfl
  have e1 : (1 : Int32).toInt = 1 := rfl
  have e2 : (2 : Int32).toInt = 2 := rfl
  have e3 : (3 : Int32).toInt = 3 := rfl
  have e4 : (4 : Int32).toInt = 4 := rfl
  have e5 : (5 : Int32).toInt = 5 := rfl
  simp only [← Int32.toInt_inj, e0, e1, e2, e3, e4, e5]
  omega
theorem own_tot (xs : List Int32) (lm sr en li : Int32) (hsr : 0 ≤ sr.toInt ∧ sr.toInt ≤ 5) (hen : 0 ≤ en.toInt ∧ en.toInt ≤ 4) : own_run xs lm (en.toInt - sr.toInt).toNat sr li = (((li + f2 xs lm sr en (0 : Int32)) + f2 xs lm sr en (1 : Int32)) + f2 xs lm sr en (2 : Int32)) + f2 xs lm sr en (3 : Int32) := by
  simp only [own_f2]
  have a1 : (0 : Int32) + 1 = 1 := by decide
  have a2 : (1 : Int32) + 1 = 2 := by decide
  have a3 : (2 : Int32) + 1 = 3 := by decide
  have a4 : (3 : Int32) + 1 = 4 := by decide
  have a5 : (4 : Int32) + 1 = 5 := by decide
  rcases own_six hsr with rfl | rfl | rfl | rfl | rfl | rfl <;> rcases own_six (a := en) (by omega) with rfl | rfl | rfl | rfl | rfl | rfl
  · rw [show ((0 : Int32).toInt - (0 : Int32).toInt).toNat = 0 from by decide]; simp [own_run, a1, a2, a3, a4, a5]
  · rw [show ((1 : Int32).toInt - (0 : Int32).toInt).toNat = 1 from by decide]; simp [own_run, a1, a2, a3, a4, a5]
  · rw [show ((2 : Int32).toInt - (0 : Int32).toInt).toNat = 2 from by decide]; simp [own_run, a1, a2, a3, a4, a5]
  · rw [show ((3 : Int32).toInt - (0 : Int32).toInt).toNat = 3 from by decide]; simp [own_run, a1, a2, a3, a4, a5]
  · rw [show ((4 : Int32).toInt - (0 : Int32).toInt).toNat = 4 from by decide]; simp [own_run, a1, a2, a3, a4, a5]
  · exact absurd hen (by decide)
  · rw [show ((0 : Int32).toInt - (1 : Int32).toInt).toNat = 0 from by decide]; simp [own_run, a1, a2, a3, a4, a5]
  · rw [show ((1 : Int32).toInt - (1 : Int32).toInt).toNat = 0 from by decide]; simp [own_run, a1, a2, a3, a4, a5]
  · rw [show ((2 : Int32).toInt - (1 : Int32).toInt).toNat = 1 from by decide]; simp [own_run, a1, a2, a3, a4, a5]
  · rw [show ((3 : Int32).toInt - (1 : Int32).toInt).toNat = 2 from by decide]; simp [own_run, a1, a2, a3, a4, a5]
  · rw [show ((4 : Int32).toInt - (1 : Int32).toInt).toNat = 3 from by decide]; simp [own_run, a1, a2, a3, a4, a5]
  · exact absurd hen (by decide)
  · rw [show ((0 : Int32).toInt - (2 : Int32).toInt).toNat = 0 from by decide]; simp [own_run, a1, a2, a3, a4, a5]
  · rw [show ((1 : Int32).toInt - (2 : Int32).toInt).toNat = 0 from by decide]; simp [own_run, a1, a2, a3, a4, a5]
  · rw [show ((2 : Int32).toInt - (2 : Int32).toInt).toNat = 0 from by decide]; simp [own_run, a1, a2, a3, a4, a5]
  · rw [show ((3 : Int32).toInt - (2 : Int32).toInt).toNat = 1 from by decide]; simp [own_run, a1, a2, a3, a4, a5]
  · rw [show ((4 : Int32).toInt - (2 : Int32).toInt).toNat = 2 from by decide]; simp [own_run, a1, a2, a3, a4, a5]
  · exact absurd hen (by decide)
  · rw [show ((0 : Int32).toInt - (3 : Int32).toInt).toNat = 0 from by decide]; simp [own_run, a1, a2, a3, a4, a5]
  · rw [show ((1 : Int32).toInt - (3 : Int32).toInt).toNat = 0 from by decide]; simp [own_run, a1, a2, a3, a4, a5]
  · rw [show ((2 : Int32).toInt - (3 : Int32).toInt).toNat = 0 from by decide]; simp [own_run, a1, a2, a3, a4, a5]
  · rw [show ((3 : Int32).toInt - (3 : Int32).toInt).toNat = 0 from by decide]; simp [own_run, a1, a2, a3, a4, a5]
  · rw [show ((4 : Int32).toInt - (3 : Int32).toInt).toNat = 1 from by decide]; simp [own_run, a1, a2, a3, a4, a5]
  · exact absurd hen (by decide)
  · rw [show ((0 : Int32).toInt - (4 : Int32).toInt).toNat = 0 from by decide]; simp [own_run, a1, a2, a3, a4, a5]
  · rw [show ((1 : Int32).toInt - (4 : Int32).toInt).toNat = 0 from by decide]; simp [own_run, a1, a2, a3, a4, a5]
  · rw [show ((2 : Int32).toInt - (4 : Int32).toInt).toNat = 0 from by decide]; simp [own_run, a1, a2, a3, a4, a5]
  · rw [show ((3 : Int32).toInt - (4 : Int32).toInt).toNat = 0 from by decide]; simp [own_run, a1, a2, a3, a4, a5]
  · rw [show ((4 : Int32).toInt - (4 : Int32).toInt).toNat = 0 from by decide]; simp [own_run, a1, a2, a3, a4, a5]
  · exact absurd hen (by decide)
  · rw [show ((0 : Int32).toInt - (5 : Int32).toInt).toNat = 0 from by decide]; simp [own_run, a1, a2, a3, a4, a5]
  · rw [show ((1 : Int32).toInt - (5 : Int32).toInt).toNat = 0 from by decide]; simp [own_run, a1, a2, a3, a4, a5]
  · rw [show ((2 : Int32).toInt - (5 : Int32).toInt).toNat = 0 from by decide]; simp [own_run, a1, a2, a3, a4, a5]
  · rw [show ((3 : Int32).toInt - (5 : Int32).toInt).toNat = 0 from by decide]; simp [own_run, a1, a2, a3, a4, a5]
  · rw [show ((4 : Int32).toInt - (5 : Int32).toInt).toNat = 0 from by decide]; simp [own_run, a1, a2, a3, a4, a5]
  · exact absurd hen (by decide)
theorem pd__III_C : parseMethodDescriptor "(III)C" = some ⟨[.int, .int, .int], some .char⟩ := by decide +kernel
theorem pd___CIIII_I : parseMethodDescriptor "([CIIII)I" = some ⟨[(.array .char), .int, .int, .int, .int], some .int⟩ := by decide +kernel
theorem pf_g0 : plainFor x = true := by first | exact plainFor_of_name (by first | (simp [plainName, overriddenIn]; done) | decide +kernel) | decide +kernel
theorem ef_g0 (m : MethodId) (x1 : Int32) (x2 : Int32) (x3 : Int32) (x4 : Int32) (x5 : Int32) (x6 : Int32) : entryFrame m #[(.int x1), (.int x2), (.int x3), (.int x4), (.int x5), (.int x6)] maxLocals = (mkF m 0 #[.val (.int x1), .val (.int x2), .val (.int x3), .val (.int x4), .val (.int x5), .val (.int x6), .unset, .unset, .unset, .unset, .unset, .unset] []) := by first | (simp [entryFrame, mkF, argsToLocals, Value.category, maxLocals]; done) | rfl
set_option maxRecDepth 65536 in
set_option maxHeartbeats 40000000 in
theorem g0 (l : Launch) (Z : State) (a0 : Array Value) (hw : ∀ d ∈ tables_1, d.before a0 Z = true) (n0 : Nat) (x1 : Int32) (x2 : Int32) (x3 : Int32) (x4 : Int32) (x5 : Int32) (x6 : Int32)  :
    own_met l Z n0 x code maxLocals ret room_1 #[(.int x1), (.int x2), (.int x3), (.int x4), (.int x5), (.int x6)] [] (fun v _ => v = some (.int 1) ∧ True) := by
  refine own_met.of pf_g0 ?_
  intro p e s m below meth c T0 hx hby hml hret hlk hZ hown hnm A0
  replace hown : s.vm.findClass "com/example/oropendola/oropendola/format/xml/XmlTextLineAtPinLaw" = some m.cls := hown
  replace hml : c.maxLocals = 12 := hml
  rw [ef_g0 m x1 x2 x3 x4 x5 x6]
  show own_go _ _ _ _ _ _ _ (T0.setTop (mkF m 0 #[.val (.int x1), .val (.int x2), .val (.int x3), .val (.int x4), .val (.int x5), .val (.int x6), .unset, .unset, .unset, .unset, .unset, .unset] []))
  refine own_by (u' := T0.setTop (mkF m 1 #[.val (.int x1), .val (.int x2), .val (.int x3), .val (.int x4), .val (.int x5), .val (.int x6), .unset, .unset, .unset, .unset, .unset, .unset] [(.int (4 : Int32))])) (fun _ k => XS.iconst A0.here hx rfl (own_db hby at_0) k) ?_
  refine own_newP (aty := .char) A0 hx hZ (hw _ (List.mem_of_getElem? (i := 0) rfl)) (own_db hby at_1) (4) ⟨by decide, by decide⟩ (cap := 4) (by decide) (by decide) rfl (by decide) (by decide) ?_
  intro T1 A2
  replace A2 : own_at p l e _ s m _ below meth c n0 T1 1 4 [(own_ia Z .char [(0 : Int32), (0 : Int32), (0 : Int32), (0 : Int32)])] := A2
  show own_go _ _ _ _ _ _ _ (T1.setTop (mkF m 3 #[.val (.int x1), .val (.int x2), .val (.int x3), .val (.int x4), .val (.int x5), .val (.int x6), .unset, .unset, .unset, .unset, .unset, .unset] [(.ref (n0 + 0))]))
  refine own_by (u' := T1.setTop (mkF m 5 #[.val (.int x1), .val (.int x2), .val (.int x3), .val (.int x4), .val (.int x5), .val (.int x6), .val (.ref (n0 + 0)), .unset, .unset, .unset, .unset, .unset] [])) (fun _ k => XS.astore A2.here hx rfl (own_db hby at_3) rfl rfl (l' := #[.val (.int x1), .val (.int x2), .val (.int x3), .val (.int x4), .val (.int x5), .val (.int x6), .val (.ref (n0 + 0)), .unset, .unset, .unset, .unset, .unset]) rfl k) ?_
  refine own_by (u' := T1.setTop (mkF m 7 #[.val (.int x1), .val (.int x2), .val (.int x3), .val (.int x4), .val (.int x5), .val (.int x6), .val (.ref (n0 + 0)), .unset, .unset, .unset, .unset, .unset] [(.ref (n0 + 0))])) (fun _ k => XS.aload A2.here hx rfl (own_db hby at_5) rfl rfl k) ?_
  refine own_by (u' := T1.setTop (mkF m 8 #[.val (.int x1), .val (.int x2), .val (.int x3), .val (.int x4), .val (.int x5), .val (.int x6), .val (.ref (n0 + 0)), .unset, .unset, .unset, .unset, .unset] [(.int (0 : Int32)), (.ref (n0 + 0))])) (fun _ k => XS.iconst A2.here hx rfl (own_db hby at_7) k) ?_
  refine own_by (u' := T1.setTop (mkF m 9 #[.val (.int x1), .val (.int x2), .val (.int x3), .val (.int x4), .val (.int x5), .val (.int x6), .val (.ref (n0 + 0)), .unset, .unset, .unset, .unset, .unset] [(.int x1), (.int (0 : Int32)), (.ref (n0 + 0))])) (fun _ k => XS.iloadN A2.here hx rfl (own_db hby at_8) rfl k) ?_
  refine own_by (u' := T1.setTop (mkF m 10 #[.val (.int x1), .val (.int x2), .val (.int x3), .val (.int x4), .val (.int x5), .val (.int x6), .val (.ref (n0 + 0)), .unset, .unset, .unset, .unset, .unset] [(.int x2), (.int x1), (.int (0 : Int32)), (.ref (n0 + 0))])) (fun _ k => XS.iloadN A2.here hx rfl (own_db hby at_9) rfl k) ?_
  refine own_by (u' := T1.setTop (mkF m 11 #[.val (.int x1), .val (.int x2), .val (.int x3), .val (.int x4), .val (.int x5), .val (.int x6), .val (.ref (n0 + 0)), .unset, .unset, .unset, .unset, .unset] [(.int (0 : Int32)), (.int x2), (.int x1), (.int (0 : Int32)), (.ref (n0 + 0))])) (fun _ k => XS.iconst A2.here hx rfl (own_db hby at_10) k) ?_
  refine own_callS (y := (⟨"com/example/oropendola/oropendola/format/xml/XmlTextLineAtPinLaw", "pick", "(III)C"⟩ : MethodName)) (rest := [(.int (0 : Int32)), (.ref (n0 + 0))]) A2 hx hZ hown (hw _ (List.mem_of_getElem? (i := 1) rfl)) (hw _ (List.mem_of_getElem? (i := 2) rfl)) (hw _ (List.mem_of_getElem? (i := 3) rfl)) (hw _ (List.mem_of_getElem? (i := 4) rfl)) (by decide) (g1 l Z a0 hw n0 [(own_ia Z .char [(0 : Int32), (0 : Int32), (0 : Int32), (0 : Int32)])] x1 x2 (0 : Int32)) (by rw [hml]; rfl) [(.int x1), (.int x2), (.int (0 : Int32))] rfl rfl pd__III_C rfl (W := 2) (by show 2 * 0 + _ ≤ _; exact Nat.le_of_eq rfl) (own_db hby at_11) (by decide) (by decide) (by decide) (by decide) ?_
  intro v3 i4 T6 hq5 A7
  obtain ⟨rfl, he8⟩ := hq5
  rw [he8] at A7
  replace A7 : own_at p l e _ s m _ below meth c n0 T6 1 4 [(own_ia Z .char [(0 : Int32), (0 : Int32), (0 : Int32), (0 : Int32)])] := A7
  show own_go _ _ _ _ _ _ _ (T6.setTop (mkF m 14 #[.val (.int x1), .val (.int x2), .val (.int x3), .val (.int x4), .val (.int x5), .val (.int x6), .val (.ref (n0 + 0)), .unset, .unset, .unset, .unset, .unset] [(.int (f1 x1 x2 (0 : Int32))), (.int (0 : Int32)), (.ref (n0 + 0))]))
  refine own_castore A7 hx hZ (i := 0) rfl (0) ⟨by decide, by decide, Nat.le_of_ble_eq_true rfl⟩ (own_db hby at_14) (its2 := [(own_ia Z .char [(nar .char (f1 x1 x2 (0 : Int32))), (0 : Int32), (0 : Int32), (0 : Int32)])]) rfl ?_
  intro T9 A10
  show own_go _ _ _ _ _ _ _ (T9.setTop (mkF m 15 #[.val (.int x1), .val (.int x2), .val (.int x3), .val (.int x4), .val (.int x5), .val (.int x6), .val (.ref (n0 + 0)), .unset, .unset, .unset, .unset, .unset] []))
  refine own_by (u' := T9.setTop (mkF m 17 #[.val (.int x1), .val (.int x2), .val (.int x3), .val (.int x4), .val (.int x5), .val (.int x6), .val (.ref (n0 + 0)), .unset, .unset, .unset, .unset, .unset] [(.ref (n0 + 0))])) (fun _ k => XS.aload A10.here hx rfl (own_db hby at_15) rfl rfl k) ?_
  refine own_by (u' := T9.setTop (mkF m 18 #[.val (.int x1), .val (.int x2), .val (.int x3), .val (.int x4), .val (.int x5), .val (.int x6), .val (.ref (n0 + 0)), .unset, .unset, .unset, .unset, .unset] [(.int (1 : Int32)), (.ref (n0 + 0))])) (fun _ k => XS.iconst A10.here hx rfl (own_db hby at_17) k) ?_
  refine own_by (u' := T9.setTop (mkF m 19 #[.val (.int x1), .val (.int x2), .val (.int x3), .val (.int x4), .val (.int x5), .val (.int x6), .val (.ref (n0 + 0)), .unset, .unset, .unset, .unset, .unset] [(.int x1), (.int (1 : Int32)), (.ref (n0 + 0))])) (fun _ k => XS.iloadN A10.here hx rfl (own_db hby at_18) rfl k) ?_
  refine own_by (u' := T9.setTop (mkF m 20 #[.val (.int x1), .val (.int x2), .val (.int x3), .val (.int x4), .val (.int x5), .val (.int x6), .val (.ref (n0 + 0)), .unset, .unset, .unset, .unset, .unset] [(.int x2), (.int x1), (.int (1 : Int32)), (.ref (n0 + 0))])) (fun _ k => XS.iloadN A10.here hx rfl (own_db hby at_19) rfl k) ?_
  refine own_by (u' := T9.setTop (mkF m 21 #[.val (.int x1), .val (.int x2), .val (.int x3), .val (.int x4), .val (.int x5), .val (.int x6), .val (.ref (n0 + 0)), .unset, .unset, .unset, .unset, .unset] [(.int (1 : Int32)), (.int x2), (.int x1), (.int (1 : Int32)), (.ref (n0 + 0))])) (fun _ k => XS.iconst A10.here hx rfl (own_db hby at_20) k) ?_
  refine own_callS (y := (⟨"com/example/oropendola/oropendola/format/xml/XmlTextLineAtPinLaw", "pick", "(III)C"⟩ : MethodName)) (rest := [(.int (1 : Int32)), (.ref (n0 + 0))]) A10 hx hZ hown (hw _ (List.mem_of_getElem? (i := 1) rfl)) (hw _ (List.mem_of_getElem? (i := 2) rfl)) (hw _ (List.mem_of_getElem? (i := 3) rfl)) (hw _ (List.mem_of_getElem? (i := 4) rfl)) (by decide) (g1 l Z a0 hw n0 [(own_ia Z .char [(nar .char (f1 x1 x2 (0 : Int32))), (0 : Int32), (0 : Int32), (0 : Int32)])] x1 x2 (1 : Int32)) (by rw [hml]; rfl) [(.int x1), (.int x2), (.int (1 : Int32))] rfl rfl pd__III_C rfl (W := 2) (by show 2 * 0 + _ ≤ _; exact Nat.le_of_eq rfl) (own_db hby at_21) (by decide) (by decide) (by decide) (by decide) ?_
  intro v11 i12 T14 hq13 A15
  obtain ⟨rfl, he16⟩ := hq13
  rw [he16] at A15
  replace A15 : own_at p l e _ s m _ below meth c n0 T14 1 4 [(own_ia Z .char [(nar .char (f1 x1 x2 (0 : Int32))), (0 : Int32), (0 : Int32), (0 : Int32)])] := A15
  show own_go _ _ _ _ _ _ _ (T14.setTop (mkF m 24 #[.val (.int x1), .val (.int x2), .val (.int x3), .val (.int x4), .val (.int x5), .val (.int x6), .val (.ref (n0 + 0)), .unset, .unset, .unset, .unset, .unset] [(.int (f1 x1 x2 (1 : Int32))), (.int (1 : Int32)), (.ref (n0 + 0))]))
  refine own_castore A15 hx hZ (i := 0) rfl (1) ⟨by decide, by decide, Nat.le_of_ble_eq_true rfl⟩ (own_db hby at_24) (its2 := [(own_ia Z .char [(nar .char (f1 x1 x2 (0 : Int32))), (nar .char (f1 x1 x2 (1 : Int32))), (0 : Int32), (0 : Int32)])]) rfl ?_
  intro T17 A18
  show own_go _ _ _ _ _ _ _ (T17.setTop (mkF m 25 #[.val (.int x1), .val (.int x2), .val (.int x3), .val (.int x4), .val (.int x5), .val (.int x6), .val (.ref (n0 + 0)), .unset, .unset, .unset, .unset, .unset] []))
  refine own_by (u' := T17.setTop (mkF m 27 #[.val (.int x1), .val (.int x2), .val (.int x3), .val (.int x4), .val (.int x5), .val (.int x6), .val (.ref (n0 + 0)), .unset, .unset, .unset, .unset, .unset] [(.ref (n0 + 0))])) (fun _ k => XS.aload A18.here hx rfl (own_db hby at_25) rfl rfl k) ?_
  refine own_by (u' := T17.setTop (mkF m 28 #[.val (.int x1), .val (.int x2), .val (.int x3), .val (.int x4), .val (.int x5), .val (.int x6), .val (.ref (n0 + 0)), .unset, .unset, .unset, .unset, .unset] [(.int (2 : Int32)), (.ref (n0 + 0))])) (fun _ k => XS.iconst A18.here hx rfl (own_db hby at_27) k) ?_
  refine own_by (u' := T17.setTop (mkF m 29 #[.val (.int x1), .val (.int x2), .val (.int x3), .val (.int x4), .val (.int x5), .val (.int x6), .val (.ref (n0 + 0)), .unset, .unset, .unset, .unset, .unset] [(.int x1), (.int (2 : Int32)), (.ref (n0 + 0))])) (fun _ k => XS.iloadN A18.here hx rfl (own_db hby at_28) rfl k) ?_
  refine own_by (u' := T17.setTop (mkF m 30 #[.val (.int x1), .val (.int x2), .val (.int x3), .val (.int x4), .val (.int x5), .val (.int x6), .val (.ref (n0 + 0)), .unset, .unset, .unset, .unset, .unset] [(.int x2), (.int x1), (.int (2 : Int32)), (.ref (n0 + 0))])) (fun _ k => XS.iloadN A18.here hx rfl (own_db hby at_29) rfl k) ?_
  refine own_by (u' := T17.setTop (mkF m 31 #[.val (.int x1), .val (.int x2), .val (.int x3), .val (.int x4), .val (.int x5), .val (.int x6), .val (.ref (n0 + 0)), .unset, .unset, .unset, .unset, .unset] [(.int (2 : Int32)), (.int x2), (.int x1), (.int (2 : Int32)), (.ref (n0 + 0))])) (fun _ k => XS.iconst A18.here hx rfl (own_db hby at_30) k) ?_
  refine own_callS (y := (⟨"com/example/oropendola/oropendola/format/xml/XmlTextLineAtPinLaw", "pick", "(III)C"⟩ : MethodName)) (rest := [(.int (2 : Int32)), (.ref (n0 + 0))]) A18 hx hZ hown (hw _ (List.mem_of_getElem? (i := 1) rfl)) (hw _ (List.mem_of_getElem? (i := 2) rfl)) (hw _ (List.mem_of_getElem? (i := 3) rfl)) (hw _ (List.mem_of_getElem? (i := 4) rfl)) (by decide) (g1 l Z a0 hw n0 [(own_ia Z .char [(nar .char (f1 x1 x2 (0 : Int32))), (nar .char (f1 x1 x2 (1 : Int32))), (0 : Int32), (0 : Int32)])] x1 x2 (2 : Int32)) (by rw [hml]; rfl) [(.int x1), (.int x2), (.int (2 : Int32))] rfl rfl pd__III_C rfl (W := 2) (by show 2 * 0 + _ ≤ _; exact Nat.le_of_eq rfl) (own_db hby at_31) (by decide) (by decide) (by decide) (by decide) ?_
  intro v19 i20 T22 hq21 A23
  obtain ⟨rfl, he24⟩ := hq21
  rw [he24] at A23
  replace A23 : own_at p l e _ s m _ below meth c n0 T22 1 4 [(own_ia Z .char [(nar .char (f1 x1 x2 (0 : Int32))), (nar .char (f1 x1 x2 (1 : Int32))), (0 : Int32), (0 : Int32)])] := A23
  show own_go _ _ _ _ _ _ _ (T22.setTop (mkF m 34 #[.val (.int x1), .val (.int x2), .val (.int x3), .val (.int x4), .val (.int x5), .val (.int x6), .val (.ref (n0 + 0)), .unset, .unset, .unset, .unset, .unset] [(.int (f1 x1 x2 (2 : Int32))), (.int (2 : Int32)), (.ref (n0 + 0))]))
  refine own_castore A23 hx hZ (i := 0) rfl (2) ⟨by decide, by decide, Nat.le_of_ble_eq_true rfl⟩ (own_db hby at_34) (its2 := [(own_ia Z .char [(nar .char (f1 x1 x2 (0 : Int32))), (nar .char (f1 x1 x2 (1 : Int32))), (nar .char (f1 x1 x2 (2 : Int32))), (0 : Int32)])]) rfl ?_
  intro T25 A26
  show own_go _ _ _ _ _ _ _ (T25.setTop (mkF m 35 #[.val (.int x1), .val (.int x2), .val (.int x3), .val (.int x4), .val (.int x5), .val (.int x6), .val (.ref (n0 + 0)), .unset, .unset, .unset, .unset, .unset] []))
  refine own_by (u' := T25.setTop (mkF m 37 #[.val (.int x1), .val (.int x2), .val (.int x3), .val (.int x4), .val (.int x5), .val (.int x6), .val (.ref (n0 + 0)), .unset, .unset, .unset, .unset, .unset] [(.ref (n0 + 0))])) (fun _ k => XS.aload A26.here hx rfl (own_db hby at_35) rfl rfl k) ?_
  refine own_by (u' := T25.setTop (mkF m 38 #[.val (.int x1), .val (.int x2), .val (.int x3), .val (.int x4), .val (.int x5), .val (.int x6), .val (.ref (n0 + 0)), .unset, .unset, .unset, .unset, .unset] [(.int (3 : Int32)), (.ref (n0 + 0))])) (fun _ k => XS.iconst A26.here hx rfl (own_db hby at_37) k) ?_
  refine own_by (u' := T25.setTop (mkF m 39 #[.val (.int x1), .val (.int x2), .val (.int x3), .val (.int x4), .val (.int x5), .val (.int x6), .val (.ref (n0 + 0)), .unset, .unset, .unset, .unset, .unset] [(.int x1), (.int (3 : Int32)), (.ref (n0 + 0))])) (fun _ k => XS.iloadN A26.here hx rfl (own_db hby at_38) rfl k) ?_
  refine own_by (u' := T25.setTop (mkF m 40 #[.val (.int x1), .val (.int x2), .val (.int x3), .val (.int x4), .val (.int x5), .val (.int x6), .val (.ref (n0 + 0)), .unset, .unset, .unset, .unset, .unset] [(.int x2), (.int x1), (.int (3 : Int32)), (.ref (n0 + 0))])) (fun _ k => XS.iloadN A26.here hx rfl (own_db hby at_39) rfl k) ?_
  refine own_by (u' := T25.setTop (mkF m 41 #[.val (.int x1), .val (.int x2), .val (.int x3), .val (.int x4), .val (.int x5), .val (.int x6), .val (.ref (n0 + 0)), .unset, .unset, .unset, .unset, .unset] [(.int (3 : Int32)), (.int x2), (.int x1), (.int (3 : Int32)), (.ref (n0 + 0))])) (fun _ k => XS.iconst A26.here hx rfl (own_db hby at_40) k) ?_
  refine own_callS (y := (⟨"com/example/oropendola/oropendola/format/xml/XmlTextLineAtPinLaw", "pick", "(III)C"⟩ : MethodName)) (rest := [(.int (3 : Int32)), (.ref (n0 + 0))]) A26 hx hZ hown (hw _ (List.mem_of_getElem? (i := 1) rfl)) (hw _ (List.mem_of_getElem? (i := 2) rfl)) (hw _ (List.mem_of_getElem? (i := 3) rfl)) (hw _ (List.mem_of_getElem? (i := 4) rfl)) (by decide) (g1 l Z a0 hw n0 [(own_ia Z .char [(nar .char (f1 x1 x2 (0 : Int32))), (nar .char (f1 x1 x2 (1 : Int32))), (nar .char (f1 x1 x2 (2 : Int32))), (0 : Int32)])] x1 x2 (3 : Int32)) (by rw [hml]; rfl) [(.int x1), (.int x2), (.int (3 : Int32))] rfl rfl pd__III_C rfl (W := 2) (by show 2 * 0 + _ ≤ _; exact Nat.le_of_eq rfl) (own_db hby at_41) (by decide) (by decide) (by decide) (by decide) ?_
  intro v27 i28 T30 hq29 A31
  obtain ⟨rfl, he32⟩ := hq29
  rw [he32] at A31
  replace A31 : own_at p l e _ s m _ below meth c n0 T30 1 4 [(own_ia Z .char [(nar .char (f1 x1 x2 (0 : Int32))), (nar .char (f1 x1 x2 (1 : Int32))), (nar .char (f1 x1 x2 (2 : Int32))), (0 : Int32)])] := A31
  show own_go _ _ _ _ _ _ _ (T30.setTop (mkF m 44 #[.val (.int x1), .val (.int x2), .val (.int x3), .val (.int x4), .val (.int x5), .val (.int x6), .val (.ref (n0 + 0)), .unset, .unset, .unset, .unset, .unset] [(.int (f1 x1 x2 (3 : Int32))), (.int (3 : Int32)), (.ref (n0 + 0))]))
  refine own_castore A31 hx hZ (i := 0) rfl (3) ⟨by decide, by decide, Nat.le_of_ble_eq_true rfl⟩ (own_db hby at_44) (its2 := [(own_ia Z .char [(nar .char (f1 x1 x2 (0 : Int32))), (nar .char (f1 x1 x2 (1 : Int32))), (nar .char (f1 x1 x2 (2 : Int32))), (nar .char (f1 x1 x2 (3 : Int32)))])]) rfl ?_
  intro T33 A34
  show own_go _ _ _ _ _ _ _ (T33.setTop (mkF m 45 #[.val (.int x1), .val (.int x2), .val (.int x3), .val (.int x4), .val (.int x5), .val (.int x6), .val (.ref (n0 + 0)), .unset, .unset, .unset, .unset, .unset] []))
  have J35 : ∀ (T36 : State)  (c0 : Int32) (c1 : Int32) (c2 : Int32) (c3 : Int32), own_at p l e room_1 s m #[(.int x1), (.int x2), (.int x3), (.int x4), (.int x5), (.int x6)] below meth c n0 T36 1 4 [(own_ia Z .char [c0, c1, c2, c3])] → own_go p e room_1 s below n0 (fun v _ => v = some (.int 1) ∧ True) (T36.setTop (mkF m 45 #[.val (.int x1), .val (.int x2), .val (.int x3), .val (.int x4), .val (.int x5), .val (.int x6), .val (.ref (n0 + 0)), .unset, .unset, .unset, .unset, .unset] [])) := by
    intro T36 c0 c1 c2 c3 A37 
    refine own_by (u' := T36.setTop (mkF m 46 #[.val (.int x1), .val (.int x2), .val (.int x3), .val (.int x4), .val (.int x5), .val (.int x6), .val (.ref (n0 + 0)), .unset, .unset, .unset, .unset, .unset] [(.int x3)])) (fun _ k => XS.iloadN A37.here hx rfl (own_db hby at_45) rfl k) ?_
    refine own_ldcI A37 hx hZ hown (hw _ (List.mem_of_getElem? (i := 5) rfl)) (own_db hby at_46) ?_
    show own_go _ _ _ _ _ _ _ (T36.setTop (mkF m 48 #[.val (.int x1), .val (.int x2), .val (.int x3), .val (.int x4), .val (.int x5), .val (.int x6), .val (.ref (n0 + 0)), .unset, .unset, .unset, .unset, .unset] [(.int (2147483647 : Int32)), (.int x3)]))
    refine own_by (u' := T36.setTop (mkF m 49 #[.val (.int x1), .val (.int x2), .val (.int x3), .val (.int x4), .val (.int x5), .val (.int x6), .val (.ref (n0 + 0)), .unset, .unset, .unset, .unset, .unset] [(.int (x3 &&& (2147483647 : Int32)))])) (fun _ k => XS.iand A37.here hx rfl (own_db hby at_48) rfl k) ?_
    refine own_by (u' := T36.setTop (mkF m 50 #[.val (.int x1), .val (.int x2), .val (.int x3), .val (.int x4), .val (.int x5), .val (.int x6), .val (.ref (n0 + 0)), .unset, .unset, .unset, .unset, .unset] [(.int (5 : Int32)), (.int (x3 &&& (2147483647 : Int32)))])) (fun _ k => XS.iconst A37.here hx rfl (own_db hby at_49) k) ?_
    refine own_irem A37 hx (by decide) (own_db hby at_50) ?_
    show own_go _ _ _ _ _ _ _ (T36.setTop (mkF m 51 #[.val (.int x1), .val (.int x2), .val (.int x3), .val (.int x4), .val (.int x5), .val (.int x6), .val (.ref (n0 + 0)), .unset, .unset, .unset, .unset, .unset] [(.int ((x3 &&& (2147483647 : Int32)) % (5 : Int32)))]))
    refine own_by (u' := T36.setTop (mkF m 53 #[.val (.int x1), .val (.int x2), .val (.int x3), .val (.int x4), .val (.int x5), .val (.int x6), .val (.ref (n0 + 0)), .val (.int ((x3 &&& (2147483647 : Int32)) % (5 : Int32))), .unset, .unset, .unset, .unset] [])) (fun _ k => XS.istore A37.here hx rfl (own_db hby at_51) rfl (l' := #[.val (.int x1), .val (.int x2), .val (.int x3), .val (.int x4), .val (.int x5), .val (.int x6), .val (.ref (n0 + 0)), .val (.int ((x3 &&& (2147483647 : Int32)) % (5 : Int32))), .unset, .unset, .unset, .unset]) rfl k) ?_
    have J38 : ∀ (T39 : State) (lm : Int32), own_at p l e room_1 s m #[(.int x1), (.int x2), (.int x3), (.int x4), (.int x5), (.int x6)] below meth c n0 T39 1 4 [(own_ia Z .char [c0, c1, c2, c3])] → (0 ≤ lm.toInt ∧ lm.toInt ≤ 4) → own_go p e room_1 s below n0 (fun v _ => v = some (.int 1) ∧ True) (T39.setTop (mkF m 53 #[.val (.int x1), .val (.int x2), .val (.int x3), .val (.int x4), .val (.int x5), .val (.int x6), .val (.ref (n0 + 0)), .val (.int lm), .unset, .unset, .unset, .unset] [])) := by
      intro T39 lm A40 hlm
      refine own_by (u' := T39.setTop (mkF m 55 #[.val (.int x1), .val (.int x2), .val (.int x3), .val (.int x4), .val (.int x5), .val (.int x6), .val (.ref (n0 + 0)), .val (.int lm), .unset, .unset, .unset, .unset] [(.int x5)])) (fun _ k => XS.iload A40.here hx rfl (own_db hby at_53) rfl k) ?_
      refine own_ldcI A40 hx hZ hown (hw _ (List.mem_of_getElem? (i := 5) rfl)) (own_db hby at_55) ?_
      show own_go _ _ _ _ _ _ _ (T39.setTop (mkF m 57 #[.val (.int x1), .val (.int x2), .val (.int x3), .val (.int x4), .val (.int x5), .val (.int x6), .val (.ref (n0 + 0)), .val (.int lm), .unset, .unset, .unset, .unset] [(.int (2147483647 : Int32)), (.int x5)]))
      refine own_by (u' := T39.setTop (mkF m 58 #[.val (.int x1), .val (.int x2), .val (.int x3), .val (.int x4), .val (.int x5), .val (.int x6), .val (.ref (n0 + 0)), .val (.int lm), .unset, .unset, .unset, .unset] [(.int (x5 &&& (2147483647 : Int32)))])) (fun _ k => XS.iand A40.here hx rfl (own_db hby at_57) rfl k) ?_
      refine own_by (u' := T39.setTop (mkF m 60 #[.val (.int x1), .val (.int x2), .val (.int x3), .val (.int x4), .val (.int x5), .val (.int x6), .val (.ref (n0 + 0)), .val (.int lm), .unset, .unset, .unset, .unset] [(.int lm), (.int (x5 &&& (2147483647 : Int32)))])) (fun _ k => XS.iload A40.here hx rfl (own_db hby at_58) rfl k) ?_
      refine own_by (u' := T39.setTop (mkF m 61 #[.val (.int x1), .val (.int x2), .val (.int x3), .val (.int x4), .val (.int x5), .val (.int x6), .val (.ref (n0 + 0)), .val (.int lm), .unset, .unset, .unset, .unset] [(.int (1 : Int32)), (.int lm), (.int (x5 &&& (2147483647 : Int32)))])) (fun _ k => XS.iconst A40.here hx rfl (own_db hby at_60) k) ?_
      refine own_by (u' := T39.setTop (mkF m 62 #[.val (.int x1), .val (.int x2), .val (.int x3), .val (.int x4), .val (.int x5), .val (.int x6), .val (.ref (n0 + 0)), .val (.int lm), .unset, .unset, .unset, .unset] [(.int (lm + (1 : Int32))), (.int (x5 &&& (2147483647 : Int32)))])) (fun _ k => XS.iadd A40.here hx rfl (own_db hby at_61) rfl k) ?_
      refine own_irem A40 hx (own_l1 hlm) (own_db hby at_62) ?_
      show own_go _ _ _ _ _ _ _ (T39.setTop (mkF m 63 #[.val (.int x1), .val (.int x2), .val (.int x3), .val (.int x4), .val (.int x5), .val (.int x6), .val (.ref (n0 + 0)), .val (.int lm), .unset, .unset, .unset, .unset] [(.int ((x5 &&& (2147483647 : Int32)) % (lm + (1 : Int32))))]))
      refine own_by (u' := T39.setTop (mkF m 65 #[.val (.int x1), .val (.int x2), .val (.int x3), .val (.int x4), .val (.int x5), .val (.int x6), .val (.ref (n0 + 0)), .val (.int lm), .val (.int ((x5 &&& (2147483647 : Int32)) % (lm + (1 : Int32)))), .unset, .unset, .unset] [])) (fun _ k => XS.istore A40.here hx rfl (own_db hby at_63) rfl (l' := #[.val (.int x1), .val (.int x2), .val (.int x3), .val (.int x4), .val (.int x5), .val (.int x6), .val (.ref (n0 + 0)), .val (.int lm), .val (.int ((x5 &&& (2147483647 : Int32)) % (lm + (1 : Int32)))), .unset, .unset, .unset]) rfl k) ?_
      refine own_by (u' := T39.setTop (mkF m 66 #[.val (.int x1), .val (.int x2), .val (.int x3), .val (.int x4), .val (.int x5), .val (.int x6), .val (.ref (n0 + 0)), .val (.int lm), .val (.int ((x5 &&& (2147483647 : Int32)) % (lm + (1 : Int32)))), .unset, .unset, .unset] [(.int x4)])) (fun _ k => XS.iloadN A40.here hx rfl (own_db hby at_65) rfl k) ?_
      refine own_ldcI A40 hx hZ hown (hw _ (List.mem_of_getElem? (i := 5) rfl)) (own_db hby at_66) ?_
      show own_go _ _ _ _ _ _ _ (T39.setTop (mkF m 68 #[.val (.int x1), .val (.int x2), .val (.int x3), .val (.int x4), .val (.int x5), .val (.int x6), .val (.ref (n0 + 0)), .val (.int lm), .val (.int ((x5 &&& (2147483647 : Int32)) % (lm + (1 : Int32)))), .unset, .unset, .unset] [(.int (2147483647 : Int32)), (.int x4)]))
      refine own_by (u' := T39.setTop (mkF m 69 #[.val (.int x1), .val (.int x2), .val (.int x3), .val (.int x4), .val (.int x5), .val (.int x6), .val (.ref (n0 + 0)), .val (.int lm), .val (.int ((x5 &&& (2147483647 : Int32)) % (lm + (1 : Int32)))), .unset, .unset, .unset] [(.int (x4 &&& (2147483647 : Int32)))])) (fun _ k => XS.iand A40.here hx rfl (own_db hby at_68) rfl k) ?_
      refine own_by (u' := T39.setTop (mkF m 71 #[.val (.int x1), .val (.int x2), .val (.int x3), .val (.int x4), .val (.int x5), .val (.int x6), .val (.ref (n0 + 0)), .val (.int lm), .val (.int ((x5 &&& (2147483647 : Int32)) % (lm + (1 : Int32)))), .unset, .unset, .unset] [(.int (6 : Int32)), (.int (x4 &&& (2147483647 : Int32)))])) (fun _ k => XS.bipush A40.here hx rfl (own_db hby at_69) k) ?_
      refine own_irem A40 hx (by decide) (own_db hby at_71) ?_
      show own_go _ _ _ _ _ _ _ (T39.setTop (mkF m 72 #[.val (.int x1), .val (.int x2), .val (.int x3), .val (.int x4), .val (.int x5), .val (.int x6), .val (.ref (n0 + 0)), .val (.int lm), .val (.int ((x5 &&& (2147483647 : Int32)) % (lm + (1 : Int32)))), .unset, .unset, .unset] [(.int ((x4 &&& (2147483647 : Int32)) % (6 : Int32)))]))
      refine own_by (u' := T39.setTop (mkF m 74 #[.val (.int x1), .val (.int x2), .val (.int x3), .val (.int x4), .val (.int x5), .val (.int x6), .val (.ref (n0 + 0)), .val (.int lm), .val (.int ((x5 &&& (2147483647 : Int32)) % (lm + (1 : Int32)))), .val (.int ((x4 &&& (2147483647 : Int32)) % (6 : Int32))), .unset, .unset] [])) (fun _ k => XS.istore A40.here hx rfl (own_db hby at_72) rfl (l' := #[.val (.int x1), .val (.int x2), .val (.int x3), .val (.int x4), .val (.int x5), .val (.int x6), .val (.ref (n0 + 0)), .val (.int lm), .val (.int ((x5 &&& (2147483647 : Int32)) % (lm + (1 : Int32)))), .val (.int ((x4 &&& (2147483647 : Int32)) % (6 : Int32))), .unset, .unset]) rfl k) ?_
      have J41 : ∀ (T42 : State) (en : Int32) (sr : Int32), own_at p l e room_1 s m #[(.int x1), (.int x2), (.int x3), (.int x4), (.int x5), (.int x6)] below meth c n0 T42 1 4 [(own_ia Z .char [c0, c1, c2, c3])] → (0 ≤ en.toInt ∧ en.toInt ≤ lm.toInt) → (0 ≤ sr.toInt ∧ sr.toInt ≤ 5) → own_go p e room_1 s below n0 (fun v _ => v = some (.int 1) ∧ True) (T42.setTop (mkF m 74 #[.val (.int x1), .val (.int x2), .val (.int x3), .val (.int x4), .val (.int x5), .val (.int x6), .val (.ref (n0 + 0)), .val (.int lm), .val (.int en), .val (.int sr), .unset, .unset] [])) := by
        intro T42 en sr A43 hen hsr
        refine own_by (u' := T42.setTop (mkF m 76 #[.val (.int x1), .val (.int x2), .val (.int x3), .val (.int x4), .val (.int x5), .val (.int x6), .val (.ref (n0 + 0)), .val (.int lm), .val (.int en), .val (.int sr), .unset, .unset] [(.int x6)])) (fun _ k => XS.iload A43.here hx rfl (own_db hby at_74) rfl k) ?_
        refine own_by (u' := T42.setTop (mkF m 78 #[.val (.int x1), .val (.int x2), .val (.int x3), .val (.int x4), .val (.int x5), .val (.int x6), .val (.ref (n0 + 0)), .val (.int lm), .val (.int en), .val (.int sr), .unset, .unset] [(.ref (n0 + 0)), (.int x6)])) (fun _ k => XS.aload A43.here hx rfl (own_db hby at_76) rfl rfl k) ?_
        refine own_by (u' := T42.setTop (mkF m 80 #[.val (.int x1), .val (.int x2), .val (.int x3), .val (.int x4), .val (.int x5), .val (.int x6), .val (.ref (n0 + 0)), .val (.int lm), .val (.int en), .val (.int sr), .unset, .unset] [(.int lm), (.ref (n0 + 0)), (.int x6)])) (fun _ k => XS.iload A43.here hx rfl (own_db hby at_78) rfl k) ?_
        refine own_by (u' := T42.setTop (mkF m 82 #[.val (.int x1), .val (.int x2), .val (.int x3), .val (.int x4), .val (.int x5), .val (.int x6), .val (.ref (n0 + 0)), .val (.int lm), .val (.int en), .val (.int sr), .unset, .unset] [(.int sr), (.int lm), (.ref (n0 + 0)), (.int x6)])) (fun _ k => XS.iload A43.here hx rfl (own_db hby at_80) rfl k) ?_
        refine own_by (u' := T42.setTop (mkF m 84 #[.val (.int x1), .val (.int x2), .val (.int x3), .val (.int x4), .val (.int x5), .val (.int x6), .val (.ref (n0 + 0)), .val (.int lm), .val (.int en), .val (.int sr), .unset, .unset] [(.int en), (.int sr), (.int lm), (.ref (n0 + 0)), (.int x6)])) (fun _ k => XS.iload A43.here hx rfl (own_db hby at_82) rfl k) ?_
        refine own_by (u' := T42.setTop (mkF m 85 #[.val (.int x1), .val (.int x2), .val (.int x3), .val (.int x4), .val (.int x5), .val (.int x6), .val (.ref (n0 + 0)), .val (.int lm), .val (.int en), .val (.int sr), .unset, .unset] [(.int (0 : Int32)), (.int en), (.int sr), (.int lm), (.ref (n0 + 0)), (.int x6)])) (fun _ k => XS.iconst A43.here hx rfl (own_db hby at_84) k) ?_
        refine own_callS (y := (⟨"com/example/oropendola/oropendola/format/xml/XmlTextLineAtPinLaw", "part", "([CIIII)I"⟩ : MethodName)) (rest := [(.int x6)]) A43 hx hZ hown (hw _ (List.mem_of_getElem? (i := 6) rfl)) (hw _ (List.mem_of_getElem? (i := 7) rfl)) (hw _ (List.mem_of_getElem? (i := 3) rfl)) (hw _ (List.mem_of_getElem? (i := 8) rfl)) (by decide) (g2 l Z a0 hw n0 [c0, c1, c2, c3] lm sr en (0 : Int32) rfl hlm.2 (by omega) (by decide)) (by rw [hml]; rfl) [(.ref (n0 + 0)), (.int lm), (.int sr), (.int en), (.int (0 : Int32))] rfl rfl pd___CIIII_I rfl (W := 1) (by show 2 * 0 + _ ≤ _; exact Nat.le_of_eq rfl) (own_db hby at_85) (by decide) (by decide) (by decide) (by decide) ?_
        intro v44 i45 T47 hq46 A48
        obtain ⟨rfl, he49⟩ := hq46
        rw [he49] at A48
        replace A48 : own_at p l e _ s m _ below meth c n0 T47 1 4 [(own_ia Z .char [c0, c1, c2, c3])] := A48
        show own_go _ _ _ _ _ _ _ (T47.setTop (mkF m 88 #[.val (.int x1), .val (.int x2), .val (.int x3), .val (.int x4), .val (.int x5), .val (.int x6), .val (.ref (n0 + 0)), .val (.int lm), .val (.int en), .val (.int sr), .unset, .unset] [(.int (f2 [c0, c1, c2, c3] lm sr en (0 : Int32))), (.int x6)]))
        refine own_by (u' := T47.setTop (mkF m 89 #[.val (.int x1), .val (.int x2), .val (.int x3), .val (.int x4), .val (.int x5), .val (.int x6), .val (.ref (n0 + 0)), .val (.int lm), .val (.int en), .val (.int sr), .unset, .unset] [(.int (x6 + (f2 [c0, c1, c2, c3] lm sr en (0 : Int32))))])) (fun _ k => XS.iadd A48.here hx rfl (own_db hby at_88) rfl k) ?_
        refine own_by (u' := T47.setTop (mkF m 91 #[.val (.int x1), .val (.int x2), .val (.int x3), .val (.int x4), .val (.int x5), .val (.int x6), .val (.ref (n0 + 0)), .val (.int lm), .val (.int en), .val (.int sr), .unset, .unset] [(.ref (n0 + 0)), (.int (x6 + (f2 [c0, c1, c2, c3] lm sr en (0 : Int32))))])) (fun _ k => XS.aload A48.here hx rfl (own_db hby at_89) rfl rfl k) ?_
        refine own_by (u' := T47.setTop (mkF m 93 #[.val (.int x1), .val (.int x2), .val (.int x3), .val (.int x4), .val (.int x5), .val (.int x6), .val (.ref (n0 + 0)), .val (.int lm), .val (.int en), .val (.int sr), .unset, .unset] [(.int lm), (.ref (n0 + 0)), (.int (x6 + (f2 [c0, c1, c2, c3] lm sr en (0 : Int32))))])) (fun _ k => XS.iload A48.here hx rfl (own_db hby at_91) rfl k) ?_
        refine own_by (u' := T47.setTop (mkF m 95 #[.val (.int x1), .val (.int x2), .val (.int x3), .val (.int x4), .val (.int x5), .val (.int x6), .val (.ref (n0 + 0)), .val (.int lm), .val (.int en), .val (.int sr), .unset, .unset] [(.int sr), (.int lm), (.ref (n0 + 0)), (.int (x6 + (f2 [c0, c1, c2, c3] lm sr en (0 : Int32))))])) (fun _ k => XS.iload A48.here hx rfl (own_db hby at_93) rfl k) ?_
        refine own_by (u' := T47.setTop (mkF m 97 #[.val (.int x1), .val (.int x2), .val (.int x3), .val (.int x4), .val (.int x5), .val (.int x6), .val (.ref (n0 + 0)), .val (.int lm), .val (.int en), .val (.int sr), .unset, .unset] [(.int en), (.int sr), (.int lm), (.ref (n0 + 0)), (.int (x6 + (f2 [c0, c1, c2, c3] lm sr en (0 : Int32))))])) (fun _ k => XS.iload A48.here hx rfl (own_db hby at_95) rfl k) ?_
        refine own_by (u' := T47.setTop (mkF m 98 #[.val (.int x1), .val (.int x2), .val (.int x3), .val (.int x4), .val (.int x5), .val (.int x6), .val (.ref (n0 + 0)), .val (.int lm), .val (.int en), .val (.int sr), .unset, .unset] [(.int (1 : Int32)), (.int en), (.int sr), (.int lm), (.ref (n0 + 0)), (.int (x6 + (f2 [c0, c1, c2, c3] lm sr en (0 : Int32))))])) (fun _ k => XS.iconst A48.here hx rfl (own_db hby at_97) k) ?_
        refine own_callS (y := (⟨"com/example/oropendola/oropendola/format/xml/XmlTextLineAtPinLaw", "part", "([CIIII)I"⟩ : MethodName)) (rest := [(.int (x6 + (f2 [c0, c1, c2, c3] lm sr en (0 : Int32))))]) A48 hx hZ hown (hw _ (List.mem_of_getElem? (i := 6) rfl)) (hw _ (List.mem_of_getElem? (i := 7) rfl)) (hw _ (List.mem_of_getElem? (i := 3) rfl)) (hw _ (List.mem_of_getElem? (i := 8) rfl)) (by decide) (g2 l Z a0 hw n0 [c0, c1, c2, c3] lm sr en (1 : Int32) rfl hlm.2 (by omega) (by decide)) (by rw [hml]; rfl) [(.ref (n0 + 0)), (.int lm), (.int sr), (.int en), (.int (1 : Int32))] rfl rfl pd___CIIII_I rfl (W := 1) (by show 2 * 0 + _ ≤ _; exact Nat.le_of_eq rfl) (own_db hby at_98) (by decide) (by decide) (by decide) (by decide) ?_
        intro v50 i51 T53 hq52 A54
        obtain ⟨rfl, he55⟩ := hq52
        rw [he55] at A54
        replace A54 : own_at p l e _ s m _ below meth c n0 T53 1 4 [(own_ia Z .char [c0, c1, c2, c3])] := A54
        show own_go _ _ _ _ _ _ _ (T53.setTop (mkF m 101 #[.val (.int x1), .val (.int x2), .val (.int x3), .val (.int x4), .val (.int x5), .val (.int x6), .val (.ref (n0 + 0)), .val (.int lm), .val (.int en), .val (.int sr), .unset, .unset] [(.int (f2 [c0, c1, c2, c3] lm sr en (1 : Int32))), (.int (x6 + (f2 [c0, c1, c2, c3] lm sr en (0 : Int32))))]))
        refine own_by (u' := T53.setTop (mkF m 102 #[.val (.int x1), .val (.int x2), .val (.int x3), .val (.int x4), .val (.int x5), .val (.int x6), .val (.ref (n0 + 0)), .val (.int lm), .val (.int en), .val (.int sr), .unset, .unset] [(.int ((x6 + (f2 [c0, c1, c2, c3] lm sr en (0 : Int32))) + (f2 [c0, c1, c2, c3] lm sr en (1 : Int32))))])) (fun _ k => XS.iadd A54.here hx rfl (own_db hby at_101) rfl k) ?_
        refine own_by (u' := T53.setTop (mkF m 104 #[.val (.int x1), .val (.int x2), .val (.int x3), .val (.int x4), .val (.int x5), .val (.int x6), .val (.ref (n0 + 0)), .val (.int lm), .val (.int en), .val (.int sr), .unset, .unset] [(.ref (n0 + 0)), (.int ((x6 + (f2 [c0, c1, c2, c3] lm sr en (0 : Int32))) + (f2 [c0, c1, c2, c3] lm sr en (1 : Int32))))])) (fun _ k => XS.aload A54.here hx rfl (own_db hby at_102) rfl rfl k) ?_
        refine own_by (u' := T53.setTop (mkF m 106 #[.val (.int x1), .val (.int x2), .val (.int x3), .val (.int x4), .val (.int x5), .val (.int x6), .val (.ref (n0 + 0)), .val (.int lm), .val (.int en), .val (.int sr), .unset, .unset] [(.int lm), (.ref (n0 + 0)), (.int ((x6 + (f2 [c0, c1, c2, c3] lm sr en (0 : Int32))) + (f2 [c0, c1, c2, c3] lm sr en (1 : Int32))))])) (fun _ k => XS.iload A54.here hx rfl (own_db hby at_104) rfl k) ?_
        refine own_by (u' := T53.setTop (mkF m 108 #[.val (.int x1), .val (.int x2), .val (.int x3), .val (.int x4), .val (.int x5), .val (.int x6), .val (.ref (n0 + 0)), .val (.int lm), .val (.int en), .val (.int sr), .unset, .unset] [(.int sr), (.int lm), (.ref (n0 + 0)), (.int ((x6 + (f2 [c0, c1, c2, c3] lm sr en (0 : Int32))) + (f2 [c0, c1, c2, c3] lm sr en (1 : Int32))))])) (fun _ k => XS.iload A54.here hx rfl (own_db hby at_106) rfl k) ?_
        refine own_by (u' := T53.setTop (mkF m 110 #[.val (.int x1), .val (.int x2), .val (.int x3), .val (.int x4), .val (.int x5), .val (.int x6), .val (.ref (n0 + 0)), .val (.int lm), .val (.int en), .val (.int sr), .unset, .unset] [(.int en), (.int sr), (.int lm), (.ref (n0 + 0)), (.int ((x6 + (f2 [c0, c1, c2, c3] lm sr en (0 : Int32))) + (f2 [c0, c1, c2, c3] lm sr en (1 : Int32))))])) (fun _ k => XS.iload A54.here hx rfl (own_db hby at_108) rfl k) ?_
        refine own_by (u' := T53.setTop (mkF m 111 #[.val (.int x1), .val (.int x2), .val (.int x3), .val (.int x4), .val (.int x5), .val (.int x6), .val (.ref (n0 + 0)), .val (.int lm), .val (.int en), .val (.int sr), .unset, .unset] [(.int (2 : Int32)), (.int en), (.int sr), (.int lm), (.ref (n0 + 0)), (.int ((x6 + (f2 [c0, c1, c2, c3] lm sr en (0 : Int32))) + (f2 [c0, c1, c2, c3] lm sr en (1 : Int32))))])) (fun _ k => XS.iconst A54.here hx rfl (own_db hby at_110) k) ?_
        refine own_callS (y := (⟨"com/example/oropendola/oropendola/format/xml/XmlTextLineAtPinLaw", "part", "([CIIII)I"⟩ : MethodName)) (rest := [(.int ((x6 + (f2 [c0, c1, c2, c3] lm sr en (0 : Int32))) + (f2 [c0, c1, c2, c3] lm sr en (1 : Int32))))]) A54 hx hZ hown (hw _ (List.mem_of_getElem? (i := 6) rfl)) (hw _ (List.mem_of_getElem? (i := 7) rfl)) (hw _ (List.mem_of_getElem? (i := 3) rfl)) (hw _ (List.mem_of_getElem? (i := 8) rfl)) (by decide) (g2 l Z a0 hw n0 [c0, c1, c2, c3] lm sr en (2 : Int32) rfl hlm.2 (by omega) (by decide)) (by rw [hml]; rfl) [(.ref (n0 + 0)), (.int lm), (.int sr), (.int en), (.int (2 : Int32))] rfl rfl pd___CIIII_I rfl (W := 1) (by show 2 * 0 + _ ≤ _; exact Nat.le_of_eq rfl) (own_db hby at_111) (by decide) (by decide) (by decide) (by decide) ?_
        intro v56 i57 T59 hq58 A60
        obtain ⟨rfl, he61⟩ := hq58
        rw [he61] at A60
        replace A60 : own_at p l e _ s m _ below meth c n0 T59 1 4 [(own_ia Z .char [c0, c1, c2, c3])] := A60
        show own_go _ _ _ _ _ _ _ (T59.setTop (mkF m 114 #[.val (.int x1), .val (.int x2), .val (.int x3), .val (.int x4), .val (.int x5), .val (.int x6), .val (.ref (n0 + 0)), .val (.int lm), .val (.int en), .val (.int sr), .unset, .unset] [(.int (f2 [c0, c1, c2, c3] lm sr en (2 : Int32))), (.int ((x6 + (f2 [c0, c1, c2, c3] lm sr en (0 : Int32))) + (f2 [c0, c1, c2, c3] lm sr en (1 : Int32))))]))
        refine own_by (u' := T59.setTop (mkF m 115 #[.val (.int x1), .val (.int x2), .val (.int x3), .val (.int x4), .val (.int x5), .val (.int x6), .val (.ref (n0 + 0)), .val (.int lm), .val (.int en), .val (.int sr), .unset, .unset] [(.int (((x6 + (f2 [c0, c1, c2, c3] lm sr en (0 : Int32))) + (f2 [c0, c1, c2, c3] lm sr en (1 : Int32))) + (f2 [c0, c1, c2, c3] lm sr en (2 : Int32))))])) (fun _ k => XS.iadd A60.here hx rfl (own_db hby at_114) rfl k) ?_
        refine own_by (u' := T59.setTop (mkF m 117 #[.val (.int x1), .val (.int x2), .val (.int x3), .val (.int x4), .val (.int x5), .val (.int x6), .val (.ref (n0 + 0)), .val (.int lm), .val (.int en), .val (.int sr), .unset, .unset] [(.ref (n0 + 0)), (.int (((x6 + (f2 [c0, c1, c2, c3] lm sr en (0 : Int32))) + (f2 [c0, c1, c2, c3] lm sr en (1 : Int32))) + (f2 [c0, c1, c2, c3] lm sr en (2 : Int32))))])) (fun _ k => XS.aload A60.here hx rfl (own_db hby at_115) rfl rfl k) ?_
        refine own_by (u' := T59.setTop (mkF m 119 #[.val (.int x1), .val (.int x2), .val (.int x3), .val (.int x4), .val (.int x5), .val (.int x6), .val (.ref (n0 + 0)), .val (.int lm), .val (.int en), .val (.int sr), .unset, .unset] [(.int lm), (.ref (n0 + 0)), (.int (((x6 + (f2 [c0, c1, c2, c3] lm sr en (0 : Int32))) + (f2 [c0, c1, c2, c3] lm sr en (1 : Int32))) + (f2 [c0, c1, c2, c3] lm sr en (2 : Int32))))])) (fun _ k => XS.iload A60.here hx rfl (own_db hby at_117) rfl k) ?_
        refine own_by (u' := T59.setTop (mkF m 121 #[.val (.int x1), .val (.int x2), .val (.int x3), .val (.int x4), .val (.int x5), .val (.int x6), .val (.ref (n0 + 0)), .val (.int lm), .val (.int en), .val (.int sr), .unset, .unset] [(.int sr), (.int lm), (.ref (n0 + 0)), (.int (((x6 + (f2 [c0, c1, c2, c3] lm sr en (0 : Int32))) + (f2 [c0, c1, c2, c3] lm sr en (1 : Int32))) + (f2 [c0, c1, c2, c3] lm sr en (2 : Int32))))])) (fun _ k => XS.iload A60.here hx rfl (own_db hby at_119) rfl k) ?_
        refine own_by (u' := T59.setTop (mkF m 123 #[.val (.int x1), .val (.int x2), .val (.int x3), .val (.int x4), .val (.int x5), .val (.int x6), .val (.ref (n0 + 0)), .val (.int lm), .val (.int en), .val (.int sr), .unset, .unset] [(.int en), (.int sr), (.int lm), (.ref (n0 + 0)), (.int (((x6 + (f2 [c0, c1, c2, c3] lm sr en (0 : Int32))) + (f2 [c0, c1, c2, c3] lm sr en (1 : Int32))) + (f2 [c0, c1, c2, c3] lm sr en (2 : Int32))))])) (fun _ k => XS.iload A60.here hx rfl (own_db hby at_121) rfl k) ?_
        refine own_by (u' := T59.setTop (mkF m 124 #[.val (.int x1), .val (.int x2), .val (.int x3), .val (.int x4), .val (.int x5), .val (.int x6), .val (.ref (n0 + 0)), .val (.int lm), .val (.int en), .val (.int sr), .unset, .unset] [(.int (3 : Int32)), (.int en), (.int sr), (.int lm), (.ref (n0 + 0)), (.int (((x6 + (f2 [c0, c1, c2, c3] lm sr en (0 : Int32))) + (f2 [c0, c1, c2, c3] lm sr en (1 : Int32))) + (f2 [c0, c1, c2, c3] lm sr en (2 : Int32))))])) (fun _ k => XS.iconst A60.here hx rfl (own_db hby at_123) k) ?_
        refine own_callS (y := (⟨"com/example/oropendola/oropendola/format/xml/XmlTextLineAtPinLaw", "part", "([CIIII)I"⟩ : MethodName)) (rest := [(.int (((x6 + (f2 [c0, c1, c2, c3] lm sr en (0 : Int32))) + (f2 [c0, c1, c2, c3] lm sr en (1 : Int32))) + (f2 [c0, c1, c2, c3] lm sr en (2 : Int32))))]) A60 hx hZ hown (hw _ (List.mem_of_getElem? (i := 6) rfl)) (hw _ (List.mem_of_getElem? (i := 7) rfl)) (hw _ (List.mem_of_getElem? (i := 3) rfl)) (hw _ (List.mem_of_getElem? (i := 8) rfl)) (by decide) (g2 l Z a0 hw n0 [c0, c1, c2, c3] lm sr en (3 : Int32) rfl hlm.2 (by omega) (by decide)) (by rw [hml]; rfl) [(.ref (n0 + 0)), (.int lm), (.int sr), (.int en), (.int (3 : Int32))] rfl rfl pd___CIIII_I rfl (W := 1) (by show 2 * 0 + _ ≤ _; exact Nat.le_of_eq rfl) (own_db hby at_124) (by decide) (by decide) (by decide) (by decide) ?_
        intro v62 i63 T65 hq64 A66
        obtain ⟨rfl, he67⟩ := hq64
        rw [he67] at A66
        replace A66 : own_at p l e _ s m _ below meth c n0 T65 1 4 [(own_ia Z .char [c0, c1, c2, c3])] := A66
        show own_go _ _ _ _ _ _ _ (T65.setTop (mkF m 127 #[.val (.int x1), .val (.int x2), .val (.int x3), .val (.int x4), .val (.int x5), .val (.int x6), .val (.ref (n0 + 0)), .val (.int lm), .val (.int en), .val (.int sr), .unset, .unset] [(.int (f2 [c0, c1, c2, c3] lm sr en (3 : Int32))), (.int (((x6 + (f2 [c0, c1, c2, c3] lm sr en (0 : Int32))) + (f2 [c0, c1, c2, c3] lm sr en (1 : Int32))) + (f2 [c0, c1, c2, c3] lm sr en (2 : Int32))))]))
        refine own_by (u' := T65.setTop (mkF m 128 #[.val (.int x1), .val (.int x2), .val (.int x3), .val (.int x4), .val (.int x5), .val (.int x6), .val (.ref (n0 + 0)), .val (.int lm), .val (.int en), .val (.int sr), .unset, .unset] [(.int ((((x6 + (f2 [c0, c1, c2, c3] lm sr en (0 : Int32))) + (f2 [c0, c1, c2, c3] lm sr en (1 : Int32))) + (f2 [c0, c1, c2, c3] lm sr en (2 : Int32))) + (f2 [c0, c1, c2, c3] lm sr en (3 : Int32))))])) (fun _ k => XS.iadd A66.here hx rfl (own_db hby at_127) rfl k) ?_
        refine own_by (u' := T65.setTop (mkF m 130 #[.val (.int x1), .val (.int x2), .val (.int x3), .val (.int x4), .val (.int x5), .val (.int x6), .val (.ref (n0 + 0)), .val (.int lm), .val (.int en), .val (.int sr), .val (.int ((((x6 + (f2 [c0, c1, c2, c3] lm sr en (0 : Int32))) + (f2 [c0, c1, c2, c3] lm sr en (1 : Int32))) + (f2 [c0, c1, c2, c3] lm sr en (2 : Int32))) + (f2 [c0, c1, c2, c3] lm sr en (3 : Int32)))), .unset] [])) (fun _ k => XS.istore A66.here hx rfl (own_db hby at_128) rfl (l' := #[.val (.int x1), .val (.int x2), .val (.int x3), .val (.int x4), .val (.int x5), .val (.int x6), .val (.ref (n0 + 0)), .val (.int lm), .val (.int en), .val (.int sr), .val (.int ((((x6 + (f2 [c0, c1, c2, c3] lm sr en (0 : Int32))) + (f2 [c0, c1, c2, c3] lm sr en (1 : Int32))) + (f2 [c0, c1, c2, c3] lm sr en (2 : Int32))) + (f2 [c0, c1, c2, c3] lm sr en (3 : Int32)))), .unset]) rfl k) ?_
        refine own_by (u' := T65.setTop (mkF m 132 #[.val (.int x1), .val (.int x2), .val (.int x3), .val (.int x4), .val (.int x5), .val (.int x6), .val (.ref (n0 + 0)), .val (.int lm), .val (.int en), .val (.int sr), .val (.int ((((x6 + (f2 [c0, c1, c2, c3] lm sr en (0 : Int32))) + (f2 [c0, c1, c2, c3] lm sr en (1 : Int32))) + (f2 [c0, c1, c2, c3] lm sr en (2 : Int32))) + (f2 [c0, c1, c2, c3] lm sr en (3 : Int32)))), .unset] [(.ref (n0 + 0))])) (fun _ k => XS.aload A66.here hx rfl (own_db hby at_130) rfl rfl k) ?_
        refine own_by (u' := T65.setTop (mkF m 134 #[.val (.int x1), .val (.int x2), .val (.int x3), .val (.int x4), .val (.int x5), .val (.int x6), .val (.ref (n0 + 0)), .val (.int lm), .val (.int en), .val (.int sr), .val (.int ((((x6 + (f2 [c0, c1, c2, c3] lm sr en (0 : Int32))) + (f2 [c0, c1, c2, c3] lm sr en (1 : Int32))) + (f2 [c0, c1, c2, c3] lm sr en (2 : Int32))) + (f2 [c0, c1, c2, c3] lm sr en (3 : Int32)))), .unset] [(.int lm), (.ref (n0 + 0))])) (fun _ k => XS.iload A66.here hx rfl (own_db hby at_132) rfl k) ?_
        refine own_by (u' := T65.setTop (mkF m 136 #[.val (.int x1), .val (.int x2), .val (.int x3), .val (.int x4), .val (.int x5), .val (.int x6), .val (.ref (n0 + 0)), .val (.int lm), .val (.int en), .val (.int sr), .val (.int ((((x6 + (f2 [c0, c1, c2, c3] lm sr en (0 : Int32))) + (f2 [c0, c1, c2, c3] lm sr en (1 : Int32))) + (f2 [c0, c1, c2, c3] lm sr en (2 : Int32))) + (f2 [c0, c1, c2, c3] lm sr en (3 : Int32)))), .unset] [(.int sr), (.int lm), (.ref (n0 + 0))])) (fun _ k => XS.iload A66.here hx rfl (own_db hby at_134) rfl k) ?_
        refine own_by (u' := T65.setTop (mkF m 138 #[.val (.int x1), .val (.int x2), .val (.int x3), .val (.int x4), .val (.int x5), .val (.int x6), .val (.ref (n0 + 0)), .val (.int lm), .val (.int en), .val (.int sr), .val (.int ((((x6 + (f2 [c0, c1, c2, c3] lm sr en (0 : Int32))) + (f2 [c0, c1, c2, c3] lm sr en (1 : Int32))) + (f2 [c0, c1, c2, c3] lm sr en (2 : Int32))) + (f2 [c0, c1, c2, c3] lm sr en (3 : Int32)))), .unset] [(.int en), (.int sr), (.int lm), (.ref (n0 + 0))])) (fun _ k => XS.iload A66.here hx rfl (own_db hby at_136) rfl k) ?_
        refine own_by (u' := T65.setTop (mkF m 140 #[.val (.int x1), .val (.int x2), .val (.int x3), .val (.int x4), .val (.int x5), .val (.int x6), .val (.ref (n0 + 0)), .val (.int lm), .val (.int en), .val (.int sr), .val (.int ((((x6 + (f2 [c0, c1, c2, c3] lm sr en (0 : Int32))) + (f2 [c0, c1, c2, c3] lm sr en (1 : Int32))) + (f2 [c0, c1, c2, c3] lm sr en (2 : Int32))) + (f2 [c0, c1, c2, c3] lm sr en (3 : Int32)))), .unset] [(.int x6), (.int en), (.int sr), (.int lm), (.ref (n0 + 0))])) (fun _ k => XS.iload A66.here hx rfl (own_db hby at_138) rfl k) ?_
        refine own_callS (y := (⟨"com/example/oropendola/oropendola/format/xml/XmlText", "lineAt", "([CIIII)I"⟩ : MethodName)) (rest := []) A66 hx hZ hown (hw _ (List.mem_of_getElem? (i := 9) rfl)) (hw _ (List.mem_of_getElem? (i := 10) rfl)) (hw _ (List.mem_of_getElem? (i := 11) rfl)) (hw _ (List.mem_of_getElem? (i := 12) rfl)) (by decide) (g3 l Z a0 hw n0 [c0, c1, c2, c3] lm sr en x6 rfl hlm.2 (by omega) hsr.1) (by rw [hml]; rfl) [(.ref (n0 + 0)), (.int lm), (.int sr), (.int en), (.int x6)] rfl rfl pd___CIIII_I rfl (W := 0) (by show 2 * 0 + _ ≤ _; exact Nat.le_of_eq rfl) (own_db hby at_140) (by decide) (by decide) (by decide) (by decide) ?_
        intro v68 i69 T71 hq70 A72
        obtain ⟨rfl, he73⟩ := hq70
        rw [he73] at A72
        replace A72 : own_at p l e _ s m _ below meth c n0 T71 1 4 [(own_ia Z .char [c0, c1, c2, c3])] := A72
        show own_go _ _ _ _ _ _ _ (T71.setTop (mkF m 143 #[.val (.int x1), .val (.int x2), .val (.int x3), .val (.int x4), .val (.int x5), .val (.int x6), .val (.ref (n0 + 0)), .val (.int lm), .val (.int en), .val (.int sr), .val (.int ((((x6 + (f2 [c0, c1, c2, c3] lm sr en (0 : Int32))) + (f2 [c0, c1, c2, c3] lm sr en (1 : Int32))) + (f2 [c0, c1, c2, c3] lm sr en (2 : Int32))) + (f2 [c0, c1, c2, c3] lm sr en (3 : Int32)))), .unset] [(.int (own_run [c0, c1, c2, c3] lm (en.toInt - sr.toInt).toNat sr x6))]))
        refine own_by (u' := T71.setTop (mkF m 145 #[.val (.int x1), .val (.int x2), .val (.int x3), .val (.int x4), .val (.int x5), .val (.int x6), .val (.ref (n0 + 0)), .val (.int lm), .val (.int en), .val (.int sr), .val (.int ((((x6 + (f2 [c0, c1, c2, c3] lm sr en (0 : Int32))) + (f2 [c0, c1, c2, c3] lm sr en (1 : Int32))) + (f2 [c0, c1, c2, c3] lm sr en (2 : Int32))) + (f2 [c0, c1, c2, c3] lm sr en (3 : Int32)))), .val (.int (own_run [c0, c1, c2, c3] lm (en.toInt - sr.toInt).toNat sr x6))] [])) (fun _ k => XS.istore A72.here hx rfl (own_db hby at_143) rfl (l' := #[.val (.int x1), .val (.int x2), .val (.int x3), .val (.int x4), .val (.int x5), .val (.int x6), .val (.ref (n0 + 0)), .val (.int lm), .val (.int en), .val (.int sr), .val (.int ((((x6 + (f2 [c0, c1, c2, c3] lm sr en (0 : Int32))) + (f2 [c0, c1, c2, c3] lm sr en (1 : Int32))) + (f2 [c0, c1, c2, c3] lm sr en (2 : Int32))) + (f2 [c0, c1, c2, c3] lm sr en (3 : Int32)))), .val (.int (own_run [c0, c1, c2, c3] lm (en.toInt - sr.toInt).toNat sr x6))]) rfl k) ?_
        refine own_by (u' := T71.setTop (mkF m 147 #[.val (.int x1), .val (.int x2), .val (.int x3), .val (.int x4), .val (.int x5), .val (.int x6), .val (.ref (n0 + 0)), .val (.int lm), .val (.int en), .val (.int sr), .val (.int ((((x6 + (f2 [c0, c1, c2, c3] lm sr en (0 : Int32))) + (f2 [c0, c1, c2, c3] lm sr en (1 : Int32))) + (f2 [c0, c1, c2, c3] lm sr en (2 : Int32))) + (f2 [c0, c1, c2, c3] lm sr en (3 : Int32)))), .val (.int (own_run [c0, c1, c2, c3] lm (en.toInt - sr.toInt).toNat sr x6))] [(.int (own_run [c0, c1, c2, c3] lm (en.toInt - sr.toInt).toNat sr x6))])) (fun _ k => XS.iload A72.here hx rfl (own_db hby at_145) rfl k) ?_
        refine own_by (u' := T71.setTop (mkF m 149 #[.val (.int x1), .val (.int x2), .val (.int x3), .val (.int x4), .val (.int x5), .val (.int x6), .val (.ref (n0 + 0)), .val (.int lm), .val (.int en), .val (.int sr), .val (.int ((((x6 + (f2 [c0, c1, c2, c3] lm sr en (0 : Int32))) + (f2 [c0, c1, c2, c3] lm sr en (1 : Int32))) + (f2 [c0, c1, c2, c3] lm sr en (2 : Int32))) + (f2 [c0, c1, c2, c3] lm sr en (3 : Int32)))), .val (.int (own_run [c0, c1, c2, c3] lm (en.toInt - sr.toInt).toNat sr x6))] [(.int ((((x6 + (f2 [c0, c1, c2, c3] lm sr en (0 : Int32))) + (f2 [c0, c1, c2, c3] lm sr en (1 : Int32))) + (f2 [c0, c1, c2, c3] lm sr en (2 : Int32))) + (f2 [c0, c1, c2, c3] lm sr en (3 : Int32)))), (.int (own_run [c0, c1, c2, c3] lm (en.toInt - sr.toInt).toNat sr x6))])) (fun _ k => XS.iload A72.here hx rfl (own_db hby at_147) rfl k) ?_
        refine own_by (u' := T71.setTop (mkF m 152 #[.val (.int x1), .val (.int x2), .val (.int x3), .val (.int x4), .val (.int x5), .val (.int x6), .val (.ref (n0 + 0)), .val (.int lm), .val (.int en), .val (.int sr), .val (.int ((((x6 + (f2 [c0, c1, c2, c3] lm sr en (0 : Int32))) + (f2 [c0, c1, c2, c3] lm sr en (1 : Int32))) + (f2 [c0, c1, c2, c3] lm sr en (2 : Int32))) + (f2 [c0, c1, c2, c3] lm sr en (3 : Int32)))), .val (.int (own_run [c0, c1, c2, c3] lm (en.toInt - sr.toInt).toNat sr x6))] [])) (fun _ k => XS.icmpNo A72.here hx rfl (own_db hby at_149) rfl (teq (own_tot _ _ _ _ _ hsr ⟨hen.1, by omega⟩)).2 k) ?_
        refine own_by (u' := T71.setTop (mkF m 153 #[.val (.int x1), .val (.int x2), .val (.int x3), .val (.int x4), .val (.int x5), .val (.int x6), .val (.ref (n0 + 0)), .val (.int lm), .val (.int en), .val (.int sr), .val (.int ((((x6 + (f2 [c0, c1, c2, c3] lm sr en (0 : Int32))) + (f2 [c0, c1, c2, c3] lm sr en (1 : Int32))) + (f2 [c0, c1, c2, c3] lm sr en (2 : Int32))) + (f2 [c0, c1, c2, c3] lm sr en (3 : Int32)))), .val (.int (own_run [c0, c1, c2, c3] lm (en.toInt - sr.toInt).toNat sr x6))] [(.int (1 : Int32))])) (fun _ k => XS.iconst A72.here hx rfl (own_db hby at_152) k) ?_
        refine own_by (u' := T71.setTop (mkF m 157 #[.val (.int x1), .val (.int x2), .val (.int x3), .val (.int x4), .val (.int x5), .val (.int x6), .val (.ref (n0 + 0)), .val (.int lm), .val (.int en), .val (.int sr), .val (.int ((((x6 + (f2 [c0, c1, c2, c3] lm sr en (0 : Int32))) + (f2 [c0, c1, c2, c3] lm sr en (1 : Int32))) + (f2 [c0, c1, c2, c3] lm sr en (2 : Int32))) + (f2 [c0, c1, c2, c3] lm sr en (3 : Int32)))), .val (.int (own_run [c0, c1, c2, c3] lm (en.toInt - sr.toInt).toNat sr x6))] [(.int (1 : Int32))])) (fun _ k => XS.goto A72.here hx rfl (pc0 := 153) (pc' := 157) rfl (own_db hby at_153) (by decide) (by decide) k) ?_
        exact own_retN A72 hx hlk (t := .boolean) (by simp) hret (own_db hby at_157) (by decide) (by decide) ⟨rfl, trivial⟩
      exact J41 _ ((x5 &&& (2147483647 : Int32)) % (lm + (1 : Int32))) ((x4 &&& (2147483647 : Int32)) % (6 : Int32)) (A40) (own_re _ hlm) (own_r6 _)
    exact J38 _ ((x3 &&& (2147483647 : Int32)) % (5 : Int32)) (A37) (own_r5 _)
  exact J35 _ ((nar .char (f1 x1 x2 (0 : Int32)))) ((nar .char (f1 x1 x2 (1 : Int32)))) ((nar .char (f1 x1 x2 (2 : Int32)))) ((nar .char (f1 x1 x2 (3 : Int32)))) (A34)
set_option maxRecDepth 65536 in
set_option maxHeartbeats 40000000 in
theorem comes_1 {Post : Tables → Env → Array Value → State → Outcome → State → Prop} (hpost : ∀ tb e args s v u, (limb_1_1.after args s (.returned v) u = true ∧ limb_1_2.after args s (.returned v) u = true ∧ True) → FrameEnd s (.returned v) u (Jvm.fieldLocs frame_1_writes args s ++ Jvm.arrayLocs frame_1_arrays args s ++ Jvm.staticLocs frame_1_statics s) 16 128 → Post tb e args s (.returned v) u) :
    ArmFor flags0 classFile x code maxLocals ret World_1 tables_1 room_1 Calls_1 rest_1 Pre_1 Post := by
  intro l hfl _ _ p e ha hc hk s m args below hf hA hF happ hP
  obtain ⟨hcalls, hrest, hpre⟩ := hP
  obtain ⟨-, -, -, hnamed, -, -, -, hat⟩ := (Spec.applies_iff hf).mp happ
  obtain ⟨hg, hn⟩ := and_e (Cond.before_iff.mp (show (Jvm.Cond.and given_1 narrow_1).before args s = true from hpre))
  obtain ⟨h1, k0⟩ := and_e hg
  obtain ⟨j0, k1⟩ := and_e k0
  obtain ⟨j1, k2⟩ := and_e k1
  obtain ⟨j2, k3⟩ := and_e k2
  obtain ⟨j3, k4⟩ := and_e k3
  obtain ⟨j4, k5⟩ := and_e k4
  obtain ⟨w0, w1, w2, w3, w4, w5, rfl⟩ : ∃ w0 w1 w2 w3 w4 w5 : Value, args = #[w0, w1, w2, w3, w4, w5] := by
    have hs : args.size = 6 := by simpa [Cond.value, given_1] using h1
    obtain ⟨L⟩ := args
    match L, hs with
    | [w0, w1, w2, w3, w4, w5], _ => exact ⟨w0, w1, w2, w3, w4, w5, rfl⟩
  have hw := fun d (hd : d ∈ tables_1) => atoms_spec (ws := Jvm.Cond.code x code maxLocals ret :: tables_1) hat d (List.mem_cons_of_mem _ hd)
  obtain ⟨i0, ei0⟩ := is_v j0
  obtain rfl : w0 = (.int i0) := Option.some.inj ei0
  obtain ⟨i1, ei1⟩ := is_v j1
  obtain rfl : w1 = (.int i1) := Option.some.inj ei1
  obtain ⟨i2, ei2⟩ := is_v j2
  obtain rfl : w2 = (.int i2) := Option.some.inj ei2
  obtain ⟨i3, ei3⟩ := is_v j3
  obtain rfl : w3 = (.int i3) := Option.some.inj ei3
  obtain ⟨i4, ei4⟩ := is_v j4
  obtain rfl : w4 = (.int i4) := Option.some.inj ei4
  obtain ⟨i5, ei5⟩ := is_v k5
  obtain rfl : w5 = (.int i5) := Option.some.inj ei5
  obtain ⟨n, o, h1, h2, h3, v, L, rfl, ⟨N, its', ⟨rfl, -⟩, -⟩, hq⟩ := g0 l s _ hw s.heap.size i0 i1 i2 i3 i4 i5 s.heap tables_1 ⟨rfl, fun i P q => nomatch q⟩ p e ha hc hk s m _ below hf ((Spec.applies_iff_loose hf).mp happ).1 ⟨rfl, State.Warmed39.refl s, rfl⟩ trivial
  refine ⟨n, _, h1, h2, h3, hpost _ _ _ _ _ _ ⟨Cond.after_iff.mpr rfl, Cond.after_iff.mpr (eq_i res_at (Term.int_eval (1)) rfl), trivial⟩ ⟨hq.1, hq.2.1, (hq.2.2.sift fun y hy => Or.inr (N y hy)).mono (by decide) (by decide)⟩⟩
theorem main_1_1 : Claimed_1_1 := comes_1 fun _ _ _ _ _ _ h hF => ⟨h.1, hF⟩
theorem main_1_2 : Claimed_1_2 := comes_1 fun _ _ _ _ _ _ h hF => ⟨h.2.1, hF⟩
end Jvm.Pilot.@@N@@
namespace Jvm.Pilot.@@N@@
open Jvm Jvm.ClassFile Sem Op Lib Jvm.Free Jvm.Stand Jvm.Pilot.@@N@@.Jvm.D
/-! MADE BY PROGRAM (witnessworld.py) out of the Statement's table words and the real class files: 11 classes; the members and pool entries that the words name. The judged class is class 1, her method 3. -/
namespace start1
open Jvm.ClassFile
def u (s : String) : CpInfo := .utf8 (stringToUtf16 s)
/-- a pool by its gaps: so many unusable entries, then the entry; so many at the end -/
def gap : Nat → List CpInfo → List CpInfo
  | 0, r => r
  | n + 1, r => .unusable :: gap n r
def poolList (es : List (Nat × CpInfo)) (last : Nat) : List CpInfo := es.foldr (fun e r => gap e.1 (e.2 :: r)) (gap last [])
def pool (es : List (Nat × CpInfo)) (last : Nat) : Array CpInfo := ⟨poolList es last⟩
def fileOf (pool : Array CpInfo) (this : Nat) (attrs : Array Attribute := #[]) (ms : Array MethodInfo := #[]) (fl : Nat := 33) (sup : Nat := 0) (ifs : Array Nat := #[]) (fds : Array FieldInfo := #[]) : ClassFile where
  minorVersion := 0
  majorVersion := 65
  constantPool := pool
  accessFlags := fl
  thisClass := this
  superClass := sup
  interfaces := ifs
  fields := fds
  methods := ms
  attributes := attrs
def plain (name : String) (sup : Option ClassId) : Class where
  name := name
  kind := .ordinary
  loader := none
  accessFlags := 33
  super := sup
  interfaces := #[]
  cf := none
  fields := #[]
  methods := #[]
  instanceTypes := #[]
  staticTypes := #[]
  resolved := #[]
  callSites := []
  init := .initialized
  statics := none
  mirror := none

def pool0 : Array CpInfo := pool [(5, u "<init>"), (0, u "()V"), (1, .class_ 10), (1, u "java/lang/Object")] 113

def k0m0 : Method := { name := "<init>", desc := "()V", sig := { parameters := [], returnType := none }, accessFlags := 1, code := none }
/-- java/lang/Object -/
def k0 : Class := { plain "java/lang/Object" none with
  accessFlags := 33
  interfaces := #[]
  cf := some (fileOf pool0 8 #[] #[{ accessFlags := 1, nameIndex := 5, descriptorIndex := 6, attributes := #[] }] 33 0 #[] #[])
  fields := #[]
  methods := #[k0m0]
  instanceTypes := #[]
  staticTypes := #[]
  resolved := Array.replicate 124 none
  statics := none }

def pool1 : Array CpInfo := pool [(2, .class_ 4), (1, u "java/lang/Object"), (0, u "<init>"), (0, u "()V"), (0, .methodref 8 9), (0, .class_ 10), (0, .nameAndType 11 12), (0, u "com/example/oropendola/oropendola/format/xml/XmlTextLineAtPinLaw"), (0, u "pick"), (0, u "(III)C"), (0, .integer 2147483647), (0, .methodref 8 15), (0, .nameAndType 16 17), (0, u "part"), (0, u "([CIIII)I"), (0, .methodref 19 20), (0, .class_ 21), (0, .nameAndType 22 17), (0, u "com/example/oropendola/oropendola/format/xml/XmlText"), (0, u "lineAt"), (3, u "law"), (0, u "(IIIIII)Z")] 4

def k1m0 : Method := { name := "<init>", desc := "()V", sig := { parameters := [], returnType := none }, accessFlags := 2, code := none }
def k1c1 : Code := { maxStack := 3, maxLocals := 4, code := method_2_code, exceptionTable := #[], attributes := #[] }
def k1m1 : Method := { name := "pick", desc := "(III)C", sig := { parameters := [.int, .int, .int], returnType := some .char }, accessFlags := 10, code := some k1c1 }
def k1c2 : Code := { maxStack := 3, maxLocals := 6, code := method_3_code, exceptionTable := #[], attributes := #[] }
def k1m2 : Method := { name := "part", desc := "([CIIII)I", sig := { parameters := [(.array .char), .int, .int, .int, .int], returnType := some .int }, accessFlags := 10, code := some k1c2 }
def k1c3 : Code := { maxStack := 6, maxLocals := 12, code := code, exceptionTable := #[], attributes := #[] }
def k1m3 : Method := { name := "law", desc := "(IIIIII)Z", sig := { parameters := [.int, .int, .int, .int, .int, .int], returnType := some .boolean }, accessFlags := 9, code := some k1c3 }
/-- com/example/oropendola/oropendola/format/xml/XmlTextLineAtPinLaw -/
def k1 : Class := { plain "com/example/oropendola/oropendola/format/xml/XmlTextLineAtPinLaw" (some 0) with
  accessFlags := 49
  interfaces := #[]
  cf := some (fileOf pool1 8 #[] #[{ accessFlags := 2, nameIndex := 5, descriptorIndex := 6, attributes := #[] }, { accessFlags := 10, nameIndex := 11, descriptorIndex := 12, attributes := #[] }, { accessFlags := 10, nameIndex := 16, descriptorIndex := 17, attributes := #[] }, { accessFlags := 9, nameIndex := 26, descriptorIndex := 27, attributes := #[] }] 49 2 #[] #[])
  fields := #[]
  methods := #[k1m0, k1m1, k1m2, k1m3]
  instanceTypes := #[]
  staticTypes := #[]
  resolved := Array.replicate 32 none
  statics := none }

def pool2 : Array CpInfo := pool [(5, u "chars"), (0, u "[C"), (2, u "limit"), (0, u "I"), (1, .class_ 14), (1, u "com/example/oropendola/oropendola/format/xml/XmlText"), (3, .class_ 20), (1, u "java/lang/Object"), (3, u "token"), (2, u "window"), (0, u "Lcom/example/oropendola/oropendola/format/xml/CharWindow;"), (4, u "source"), (0, u "Ljava/lang/String;"), (2, u "line"), (2, u "countsLines"), (0, u "Z"), (2, u "quotable"), (2, u "counted"), (0, u "Lcom/example/oropendola/oropendola/format/xml/XmlText$Budget;"), (2, u "holding"), (2, u "position"), (14, u "lineAt"), (0, u "([CIIII)I"), (36, .class_ 109), (1, u "com/example/oropendola/oropendola/format/xml/XmlText$Budget"), (4, u "released"), (0, u "J"), (128, .class_ 246), (1, u "com/example/oropendola/oropendola/format/xml/XmlText$Unclosed"), (48, u "EXPANSION_LIMIT"), (2, u "RESERVED_TARGET")] 56

def k2c0 : Code := { maxStack := 3, maxLocals := 9, code := prog_134_method_20_code, exceptionTable := #[], attributes := #[] }
def k2m0 : Method := { name := "lineAt", desc := "([CIIII)I", sig := { parameters := [(.array .char), .int, .int, .int, .int], returnType := some .int }, accessFlags := 8, code := some k2c0 }
/-- com/example/oropendola/oropendola/format/xml/XmlText -/
def k2 : Class := { plain "com/example/oropendola/oropendola/format/xml/XmlText" (some 0) with
  accessFlags := 48
  interfaces := #[]
  cf := some (fileOf pool2 12 #[.nestMembers #[107, 244]] #[{ accessFlags := 8, nameIndex := 69, descriptorIndex := 70, attributes := #[] }] 48 18 #[] #[{ accessFlags := 24, nameIndex := 295, descriptorIndex := 10, attributes := #[] }, { accessFlags := 26, nameIndex := 298, descriptorIndex := 34, attributes := #[] }, { accessFlags := 18, nameIndex := 27, descriptorIndex := 28, attributes := #[] }, { accessFlags := 18, nameIndex := 40, descriptorIndex := 41, attributes := #[] }, { accessFlags := 2, nameIndex := 47, descriptorIndex := 48, attributes := #[] }, { accessFlags := 2, nameIndex := 51, descriptorIndex := 41, attributes := #[] }, { accessFlags := 0, nameIndex := 5, descriptorIndex := 6, attributes := #[] }, { accessFlags := 0, nameIndex := 9, descriptorIndex := 10, attributes := #[] }, { accessFlags := 0, nameIndex := 54, descriptorIndex := 10, attributes := #[] }, { accessFlags := 0, nameIndex := 24, descriptorIndex := 10, attributes := #[] }, { accessFlags := 0, nameIndex := 114, descriptorIndex := 115, attributes := #[] }, { accessFlags := 16, nameIndex := 33, descriptorIndex := 34, attributes := #[] }, { accessFlags := 0, nameIndex := 37, descriptorIndex := 10, attributes := #[] }, { accessFlags := 16, nameIndex := 44, descriptorIndex := 41, attributes := #[] }])
  fields := #[{ name := "EXPANSION_LIMIT", type := .int, accessFlags := 24, slot := 0, constantValue := 0 }, { name := "RESERVED_TARGET", type := (.object "java/lang/String"), accessFlags := 26, slot := 1, constantValue := 0 }, { name := "window", type := (.object "com/example/oropendola/oropendola/format/xml/CharWindow"), accessFlags := 18, slot := 0, constantValue := 0 }, { name := "countsLines", type := .boolean, accessFlags := 18, slot := 1, constantValue := 0 }, { name := "counted", type := (.object "com/example/oropendola/oropendola/format/xml/XmlText$Budget"), accessFlags := 2, slot := 2, constantValue := 0 }, { name := "holding", type := .boolean, accessFlags := 2, slot := 3, constantValue := 0 }, { name := "chars", type := (.array .char), accessFlags := 0, slot := 4, constantValue := 0 }, { name := "limit", type := .int, accessFlags := 0, slot := 5, constantValue := 0 }, { name := "position", type := .int, accessFlags := 0, slot := 6, constantValue := 0 }, { name := "token", type := .int, accessFlags := 0, slot := 7, constantValue := 0 }, { name := "released", type := .long, accessFlags := 0, slot := 8, constantValue := 0 }, { name := "source", type := (.object "java/lang/String"), accessFlags := 16, slot := 9, constantValue := 0 }, { name := "line", type := .int, accessFlags := 0, slot := 10, constantValue := 0 }, { name := "quotable", type := .boolean, accessFlags := 16, slot := 11, constantValue := 0 }]
  methods := #[k2m0]
  instanceTypes := #[(.object "com/example/oropendola/oropendola/format/xml/CharWindow"), .boolean, (.object "com/example/oropendola/oropendola/format/xml/XmlText$Budget"), .boolean, (.array .char), .int, .int, .int, .long, (.object "java/lang/String"), .int, .boolean]
  staticTypes := #[.int, (.object "java/lang/String")]
  resolved := Array.replicate 355 none
  statics := none }

def pool3 : Array CpInfo := pool [(1, u "java/lang/Cloneable"), (0, .class_ 1), (0, u "java/lang/Object"), (0, .class_ 3)] 3

/-- java/lang/Cloneable -/
def k3 : Class := { plain "java/lang/Cloneable" (some 0) with
  accessFlags := 1537
  interfaces := #[]
  cf := some (fileOf pool3 2 #[] #[] 1537 4 #[] #[])
  fields := #[]
  methods := #[]
  instanceTypes := #[]
  staticTypes := #[]
  resolved := Array.replicate 8 none
  statics := none }

def pool4 : Array CpInfo := pool [(1, u "java/io/Serializable"), (0, .class_ 1), (0, u "java/lang/Object"), (0, .class_ 3)] 3

/-- java/io/Serializable -/
def k4 : Class := { plain "java/io/Serializable" (some 0) with
  accessFlags := 1537
  interfaces := #[]
  cf := some (fileOf pool4 2 #[] #[] 1537 4 #[] #[])
  fields := #[]
  methods := #[]
  instanceTypes := #[]
  staticTypes := #[]
  resolved := Array.replicate 8 none
  statics := none }

/-- the primitive byte -/
def k5 : Class := { plain "byte" none with kind := .primitive 'B', accessFlags := 0x411 }
/-- [B -/
def k6 : Class := { plain "[B" (some 0) with kind := .array 5 .byte, interfaces := #[3, 4], accessFlags := 1041 }

/-- the primitive char -/
def k7 : Class := { plain "char" none with kind := .primitive 'C', accessFlags := 0x411 }
/-- [C -/
def k8 : Class := { plain "[C" (some 0) with kind := .array 7 .char, interfaces := #[3, 4], accessFlags := 1041 }

/-- the primitive int -/
def k9 : Class := { plain "int" none with kind := .primitive 'I', accessFlags := 0x411 }
/-- [I -/
def k10 : Class := { plain "[I" (some 0) with kind := .array 9 .int, interfaces := #[3, 4], accessFlags := 1041 }

def heap : Heap := #[]
def classes : Array Class := #[k0, k1, k2, k3, k4, k5, k6, k7, k8, k9, k10]
def interned : List (Array UInt16 × Addr) := []
def slotsUsed : Nat := 0
def theMethod : MethodId := ⟨1, 3⟩
def args0 : Array Value := #[.int 5, .int 6, .int 7, .int 8, .int 9, .int 10]
def aboutOver (below : List Frame) : State where
  vm := { classes := classes, interned := interned.toArray }
  heap := heap
  slotsUsed := slotsUsed
  threads := #[{ frames := .invoking theMethod args0 :: below }]
def below0 : List Frame := [.native { method := ⟨0, 0⟩, args := #[] }]
def about1 : State := aboutOver below0
def p0 : Program := .bare "" "" ""
def e0 : Env := launch0.env 0 0 0
theorem w_frames : about1.frames = Frame.invoking theMethod args0 :: below0 := rfl
set_option maxRecDepth 65536 in
theorem w_args : argsFit about1.vm theMethod args0 = true := by decide +kernel
set_option maxRecDepth 65536 in
theorem w_heap : heapFits about1 = true := by decide +kernel
set_option maxRecDepth 65536 in
theorem w_runnable : about1.curStatus? = some .runnable := by decide +kernel
set_option maxRecDepth 65536 in
theorem w_alone : about1.alone = true := by decide +kernel
set_option maxRecDepth 65536 in
theorem w_named : about1.methodNamed? x = some theMethod := by decide +kernel
set_option maxRecDepth 65536 in
theorem w_hears : about1.hears theMethod below0 = true := by decide +kernel
set_option maxRecDepth 65536 in
theorem w_ripe : about1.ripe theMethod args0 below0 = true := by decide +kernel
theorem w_running : about1.status = .running := rfl
set_option maxRecDepth 65536 in
theorem w_room : about1.hasRoom e0.platform room_1 = true :=
  launch0.hasRoom_least _ room_1 (by decide +kernel) (by decide +kernel) (by decide +kernel) (by decide +kernel) (by decide +kernel) (by decide +kernel)
theorem allAtoms_all (ts : List Jvm.Cond) (a : Array Jvm.Value) (st : Jvm.State) : (allAtoms ts).before a st = ts.all (fun c => c.before a st) := by
  induction ts with
  | nil => rfl
  | cons c t ih =>
    show (Jvm.Cond.and c (allAtoms t)).before a st = _
    rw [Jvm.Cond.before_and, ih, List.all_cons]
def words1 : List Jvm.Cond := Jvm.Cond.code x code maxLocals ret :: tables_1
/-- a 'code' word, met by the world's own term for the bytes: nothing is compared byte by byte -/
theorem code_word {y : MethodName} {bytes : ByteArray} {mx : Nat} {rt : Option FieldType} {a : Array Value} {s : State} {m : MethodId} {meth : Method} {c : Code} (h1 : s.methodNamed? y = some m) (h2 : s.vm.method? m = some meth) (h3 : meth.code = some c) (h4 : c.code = bytes)
    (h5 : (c.maxLocals == mx && c.exceptionTable.isEmpty && decide (c.maxStack ≤ mostOperands) && decide (meth.sig.returnType = rt) && !meth.locks && decide (parseMethodDescriptor y.desc = some meth.sig)) = true) : (Jvm.Cond.code y bytes mx rt).before a s = true := by
  simp only [Bool.and_eq_true, beq_iff_eq, Bool.not_eq_true', decide_eq_true_eq] at h5
  obtain ⟨⟨⟨⟨⟨g1, g2⟩, g3⟩, g4⟩, g5⟩, g6⟩ := h5
  simp [Cond.before, Cond.holds, Cond.value, h1, h2, h3, h4, g1, g2, g3, g4, g5, g6]
def isCode : Jvm.Cond → Bool
  | .code _ _ _ _ => true
  | _ => false
theorem all_split {L : List Jvm.Cond} {P : Jvm.Cond → Bool} (h1 : L.all (fun c => isCode c || P c) = true) (h2 : ∀ c ∈ L.filter isCode, P c = true) : L.all P = true := by
  refine List.all_eq_true.mpr fun c hc => ?_
  have h := List.all_eq_true.mp h1 c hc
  rcases Bool.eq_false_or_eq_true (isCode c) with hi | hi
  · exact h2 c (List.mem_filter.mpr ⟨hc, hi⟩)
  · simpa [hi] using h
set_option maxRecDepth 65536 in
theorem w_c0 : (Jvm.Cond.code x code maxLocals ret).before args0 about1 = true := code_word (m := ⟨1, 3⟩) (meth := k1m3) (c := k1c3) (by decide +kernel) rfl rfl rfl (by decide +kernel)
set_option maxRecDepth 65536 in
theorem w_c1 : (Jvm.Cond.code ({ cls := "com/example/oropendola/oropendola/format/xml/XmlTextLineAtPinLaw", name := "pick", desc := "(III)C" } : Jvm.MethodName) method_2_code (4 : Nat) (Option.some Jvm.ClassFile.FieldType.char)).before args0 about1 = true := code_word (m := ⟨1, 1⟩) (meth := k1m1) (c := k1c1) (by decide +kernel) rfl rfl rfl (by decide +kernel)
set_option maxRecDepth 65536 in
theorem w_c2 : (Jvm.Cond.code ({ cls := "com/example/oropendola/oropendola/format/xml/XmlTextLineAtPinLaw", name := "part", desc := "([CIIII)I" } : Jvm.MethodName) method_3_code (6 : Nat) (Option.some Jvm.ClassFile.FieldType.int)).before args0 about1 = true := code_word (m := ⟨1, 2⟩) (meth := k1m2) (c := k1c2) (by decide +kernel) rfl rfl rfl (by decide +kernel)
set_option maxRecDepth 65536 in
theorem w_c3 : (Jvm.Cond.code ({ cls := "com/example/oropendola/oropendola/format/xml/XmlText", name := "lineAt", desc := "([CIIII)I" } : Jvm.MethodName) prog_134_method_20_code (9 : Nat) (Option.some Jvm.ClassFile.FieldType.int)).before args0 about1 = true := code_word (m := ⟨2, 0⟩) (meth := k2m0) (c := k2c0) (by decide +kernel) rfl rfl rfl (by decide +kernel)
def codes1 : List Jvm.Cond := [Jvm.Cond.code x code maxLocals ret, Jvm.Cond.code ({ cls := "com/example/oropendola/oropendola/format/xml/XmlTextLineAtPinLaw", name := "pick", desc := "(III)C" } : Jvm.MethodName) method_2_code (4 : Nat) (Option.some Jvm.ClassFile.FieldType.char), Jvm.Cond.code ({ cls := "com/example/oropendola/oropendola/format/xml/XmlTextLineAtPinLaw", name := "part", desc := "([CIIII)I" } : Jvm.MethodName) method_3_code (6 : Nat) (Option.some Jvm.ClassFile.FieldType.int), Jvm.Cond.code ({ cls := "com/example/oropendola/oropendola/format/xml/XmlText", name := "lineAt", desc := "([CIIII)I" } : Jvm.MethodName) prog_134_method_20_code (9 : Nat) (Option.some Jvm.ClassFile.FieldType.int)]
set_option maxRecDepth 65536 in
theorem codes_eq : words1.filter isCode = codes1 := rfl
theorem w_codes : ∀ c ∈ words1.filter isCode, c.before args0 about1 = true := by
  rw [codes_eq]
  intro c hc
  simp only [codes1, List.mem_cons, List.not_mem_nil, or_false] at hc
  rcases hc with rfl | rfl | rfl | rfl
  · exact w_c0
  · exact w_c1
  · exact w_c2
  · exact w_c3
set_option maxRecDepth 65536 in
theorem w_t1 : words1.all (fun c => isCode c || c.before args0 about1) = true := by decide +kernel
theorem w_tables : (allAtoms (Jvm.Cond.code x code maxLocals ret :: tables_1)).before args0 about1 = true := by
  rw [allAtoms_all]
  show words1.all (fun c => c.before args0 about1) = true
  refine all_split ?_ w_codes
  rw [w_t1]
set_option maxRecDepth 65536 in
theorem w_case : (Jvm.Cond.and given_1 narrow_1).before args0 about1 = true := by decide +kernel
theorem w_applies : (headSpec (Jvm.Cond.code x code maxLocals ret :: tables_1) room_1).applies x e0.platform about1 = true :=
  (Spec.applies_iff w_frames).mpr ⟨w_running, w_runnable, w_alone, w_named, w_hears, w_ripe, w_room, w_tables⟩
theorem atStart : AtStart classFile x code maxLocals ret World_1 tables_1 room_1 Calls_1 rest_1 Pre_1 launch0 p0 e0 about1 theMethod args0 below0 :=
  ⟨lists_1, trivial, launch0.admits_env _ _ _, launch0.least_env, fairChoices_fair.cas, fairChoices_fair.clock, w_frames, w_args, w_heap, w_applies, trivial, trivial, w_case⟩
end start1
theorem witness_1 : WitnessClaimed_1 := ⟨start1.p0, start1.e0, start1.about1, start1.theMethod, start1.args0, start1.below0, start1.atStart⟩
end Jvm.Pilot.@@N@@
