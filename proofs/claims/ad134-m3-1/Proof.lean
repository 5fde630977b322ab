import JvmDerived
import JvmDerived.Pilot.@@N@@Statement
import JvmDerived.Pilot.@@N@@Code
set_option linter.unusedVariables false
set_option linter.unusedSimpArgs false
namespace Jvm.RoadKit
open Sem ClassFile Op Lib Jvm.Stand Jvm.Free Jvm.LawKit
section OwnKit
/-- what stands at a point of the walk: the law's Stand, its written places all new, the heap named; w: may have interned -/
abbrev own_W := (Vm → Prop) × (Vm → Prop)
def own_X (J : Vm → Prop) (p : Program) (l : Launch) (e : Env) (R : Room) (s : State) (m : MethodId) (args : Array Value) (below : List Frame) (meth : Method) (c : Code) (Z : State) (T : State) (h : Heap) (k n : Nat) : Prop :=
  ∃ (L : List Loc) (vm : Vm), Stand p l e R (s.setVm vm) m args below meth c T L k n ∧ Fr Z.heap.size L ∧ T.heap = h ∧ J vm ∧ s.Since vm h.size
def own_Cx (p : Program) (s : State) (m : MethodId) (meth : Method) (c : Code) (Z : State) (own nm : String) (bytes : ByteArray) (maxL : Nat) (ret : Option FieldType) : Prop :=
  p.tables.exec = Jvm.exec ∧ c.code = bytes ∧ c.maxLocals = maxL ∧ meth.sig.returnType = ret ∧ meth.locks = false ∧ Z.Warmed39 s.vm ∧ s.vm.findClass own = some m.cls ∧ meth.name = nm
def own_Go (J : Vm → Prop) (p : Program) (l : Launch) (e : Env) (R : Room) (s : State) (m : MethodId) (args : Array Value) (below : List Frame) (meth : Method) (c : Code) (Z : State) (Q : Option Value → Heap → Prop) (T : State) (g : JFrame) : Prop :=
  ∃ (T' : State) (v : Option Value) (h' : Heap) (k' n' : Nat), own_X J p l e R s m args below meth c Z T' h' k' n' ∧ k' ≤ R.cells ∧ n' ≤ R.slots ∧ (meth.sig.returnType = none → v = none) ∧ Q v h' ∧
    ∀ fs, (∀ (f : JFrame) (acts : List Action), f.method = m → f.locked = none → f.entered = [] → (doReturn e (T'.setTop f) acts v).1 = T'.setFrames fs) → Steps p.tables e below (T.setTop g) (T'.setFrames fs)
/-- from the frame g, over the heap h, with k cells and n slots made, the walk comes to a return of which Q holds -/
def own_G (w : own_W) (p : Program) (l : Launch) (e : Env) (R : Room) (s : State) (m : MethodId) (args : Array Value) (below : List Frame) (meth : Method) (c : Code) (Z : State) (Q : Option Value → Heap → Prop) (h : Heap) (k n : Nat) (g : JFrame) : Prop :=
  ∀ T, own_X w.1 p l e R s m args below meth c Z T h k n → own_Go w.2 p l e R s m args below meth c Z Q T g
def own_D (bytes : ByteArray) (pc : Nat) (i : Instr) (len pc' : Nat) : Prop := decode bytes pc = .ok (i, len) ∧ pc' = pc + len
def own_B (bytes : ByteArray) (pc : Nat) (i : Instr) (off : Int) (pcF pcT : Nat) : Prop := decode bytes pc = .ok (i, 3) ∧ pcF = pc + 3 ∧ 0 ≤ (pc : Int) + off ∧ ((pc : Int) + off).toNat = pcT
def own_Met (t : Option (List String × List String)) (l : Launch) (Z : State) (y : MethodName) (bytes : ByteArray) (maxL : Nat) (ret : Option FieldType) (ws : List Cond) (rm : Room) (as' : Array Value) (h : Heap) (Q : Option Value → Heap → Prop) : Prop :=
  match t with
  | none => MetFree l y (head1 (Cond.code y bytes maxL ret :: ws) rm) (fun a U => a = as' ∧ Z.Warmed39 U.vm ∧ U.heap = h) (fun _ _ _ _ _ => True)
    (fun _ U o U' => ∃ v L, o = .returned v ∧ (Q v U'.heap ∧ Fr Z.heap.size L ∧ h.size ≤ U'.heap.size) ∧ FrameEnd U o U' L rm.cells rm.slots)
  | some t => MetFree l y (head1 (Cond.code y bytes maxL ret :: ws) rm) (fun a U => a = as' ∧ Z.Warmed39 U.vm ∧ U.heap = h ∧ IB Z U.vm t.1) (fun _ _ _ _ _ => True)
    (fun _ U o U' => ∃ v L, o = .returned v ∧ (Q v U'.heap ∧ Fr Z.heap.size L ∧ h.size ≤ U'.heap.size ∧ IB Z U'.vm t.2) ∧ ReturnedEndW U o U' L rm.cells rm.slots)
/-! ## heap -/
abbrev own_O := Addr × String × List (String × String × String × Value)
abbrev own_A := Addr × FieldType × String × List Value
def own_OK (Z : State) (h : Heap) (o : own_O) : Prop := Exa Z h o.1 o.2.1 ∧ (∀ f ∈ o.2.2, Fld Z h o.1 f.1 f.2.1 f.2.2.1 f.2.2.2) ∧ o.2.2.Pairwise (fun f g => slotOf Z f.1 f.2.1 f.2.2.1 ≠ slotOf Z g.1 g.2.1 g.2.2.1)
def own_AK (Z : State) (h : Heap) (a : own_A) : Prop := ∃ cl : Cell, Arr Z h a.1 cl a.2.1 ∧ cl.slots.toList = a.2.2.2 ∧ (∀ v ∈ a.2.2.2, fits a.2.1 v = true) ∧ (a.2.2.1 ≠ "" → Exa Z h a.1 a.2.2.1) ∧ (∀ C, a.2.1 = .object C → a.2.2.1 ≠ "" → Ovr Z cl.cls C)
/-- the heap h: what stood at the law's start Z stands; the objects os and the arrays as, all new, all apart -/
def own_ro (o : own_O) : Bool := match o.2.2 with | f :: _ => f.2.1 == "coder" | [] => false
def own_k (o : own_O) : Addr × Bool := (o.1, own_ro o)
def own_ka (a : own_A) : Addr × Bool := (a.1, decide (a.2.2.1 = ""))
def own_ap (x y : Addr × Bool) : Prop := (x.2 = true ∧ y.2 = true) ∨ x.1 ≠ y.1
def own_H (Z : State) (h : Heap) (os : List own_O) (as : List own_A) : Prop :=
  Ext Z.heap h ∧ (∀ o ∈ os, (own_ro o = false → Z.heap.size ≤ o.1) ∧ own_OK Z h o) ∧ (∀ a ∈ as, (a.2.2.1 ≠ "" → Z.heap.size ≤ a.1) ∧ own_AK Z h a) ∧ (os.map own_k ++ as.map own_ka).Pairwise own_ap
variable {w : own_W} {p : Program} {l : Launch} {e : Env} {R : Room} {s : State} {m : MethodId} {args : Array Value} {below : List Frame} {meth : Method} {c : Code} {Z : State} {a0 : Array Value} {own nm : String} {bytes : ByteArray} {maxL : Nat} {ret : Option FieldType} {Q : Option Value → Heap → Prop} {h h' : Heap} {k n k' n' : Nat} {pc pc' pcT : Nat} {Ls Ls' : Array Slot} {st rest : List Value} {os os' : List own_O} {as as' : List own_A} {g g' : JFrame} {tyR : FieldType}
theorem own_H.start (Z : State) : own_H Z Z.heap [] [] := ⟨⟨Nat.le_refl _, fun _ _ q => q⟩, fun _ q => (nomatch q), fun _ q => (nomatch q), List.Pairwise.nil⟩
theorem own_OK.ext {o : own_O} (E : Ext h h') (F : own_OK Z h o) : own_OK Z h' o := ⟨F.1.ext E, fun f hf => (F.2.1 f hf).ext E, F.2.2⟩
theorem own_AK.ext {a : own_A} (E : Ext h h') (F : own_AK Z h a) : own_AK Z h' a := by
  obtain ⟨cl, h1, h2, h3, h4, h5⟩ := F; exact ⟨cl, h1.ext E, h2, h3, fun q => (h4 q).ext E, h5⟩
theorem own_H.ext (H : own_H Z h os as) (E : Ext h h') : own_H Z h' os as :=
  ⟨⟨Nat.le_trans H.1.1 E.1, fun a c q => E.2 a c (H.1.2 a c q)⟩, fun o ho => ⟨(H.2.1 o ho).1, (H.2.1 o ho).2.ext E⟩, fun a ha => ⟨(H.2.2.1 a ha).1, (H.2.2.1 a ha).2.ext E⟩, H.2.2.2⟩
theorem own_H.ltO (H : own_H Z h os as) {o : own_O} (ho : o ∈ os) : o.1 < h.size := (H.2.1 o ho).2.1.lt
theorem own_H.ltA (H : own_H Z h os as) {a : own_A} (ha : a ∈ as) : a.1 < h.size := by obtain ⟨-, cl, h1, -⟩ := H.2.2.1 a ha; exact h1.lt
theorem own_ap.symm {x y : Addr × Bool} (q : own_ap x y) : own_ap y x := q.imp And.symm Ne.symm
theorem own_H.fresh (H : own_H Z h os as) : ∀ y ∈ os.map own_k ++ as.map own_ka, y.1 < h.size := fun y q => by
  rcases List.mem_append.mp q with q | q
  · obtain ⟨o, ho, rfl⟩ := List.mem_map.mp q; exact H.ltO ho
  · obtain ⟨o, ho, rfl⟩ := List.mem_map.mp q; exact H.ltA ho
theorem own_H.consO (H : own_H Z h os as) (E : Ext h h') {o : own_O} (F : own_OK Z h' o) (hb : own_ro o = false → Z.heap.size ≤ o.1) (hn : ∀ y ∈ os.map own_k ++ as.map own_ka, own_ap (own_k o) y) : own_H Z h' (o :: os) as := by
  have H' := H.ext E
  refine ⟨H'.1, fun x hx => ?_, H'.2.2.1, List.pairwise_cons.mpr ⟨hn, H.2.2.2⟩⟩
  rcases List.mem_cons.mp hx with rfl | hx
  · exact ⟨hb, F⟩
  · exact H'.2.1 x hx
theorem own_H.consA (H : own_H Z h os as) (E : Ext h h') {a : own_A} (F : own_AK Z h' a) (hb : a.2.2.1 ≠ "" → Z.heap.size ≤ a.1) (hn : ∀ y ∈ os.map own_k ++ as.map own_ka, own_ap (own_ka a) y) : own_H Z h' os (a :: as) := by
  have H' := H.ext E
  refine ⟨H'.1, H'.2.1, fun x hx => ?_, ?_⟩
  · rcases List.mem_cons.mp hx with rfl | hx
    · exact ⟨hb, F⟩
    · exact H'.2.2.1 x hx
  · have q2 := List.pairwise_append.mp H.2.2.2
    refine List.pairwise_append.mpr ⟨q2.1, List.pairwise_cons.mpr ⟨fun y hy => hn y (List.mem_append_right _ hy), q2.2.1⟩, fun x hx y hy => ?_⟩
    rcases List.mem_cons.mp hy with rfl | hy
    · exact (hn x (List.mem_append_left _ hx)).symm
    · exact q2.2.2 x hx y hy
theorem own_H.addO (H : own_H Z h os as) (E : Ext h h') {C : String} {fs : List (String × String × String × Value)} (F : own_OK Z h' (h.size, C, fs)) : own_H Z h' ((h.size, C, fs) :: os) as :=
  H.consO E F (fun _ => H.1.1) fun y hy => Or.inr fun q => Nat.lt_irrefl h.size ((show h.size = y.1 from q) ▸ H.fresh y hy)
theorem own_H.addA (H : own_H Z h os as) (E : Ext h h') {ty : FieldType} {ad : String} {vs : List Value} (F : own_AK Z h' (h.size, ty, ad, vs)) : own_H Z h' os ((h.size, ty, ad, vs) :: as) :=
  H.consA E F (fun _ => H.1.1) fun y hy => Or.inr fun q => Nat.lt_irrefl h.size ((show h.size = y.1 from q) ▸ H.fresh y hy)
theorem own_H.tailO {o : own_O} (H : own_H Z h (o :: os) as) : own_H Z h os as := ⟨H.1, fun x hx => H.2.1 x (List.mem_cons_of_mem _ hx), H.2.2.1, (List.pairwise_cons.mp H.2.2.2).2⟩
theorem own_mem {α : Type} {L : List α} {i : Nat} {x : α} (hx : L[i]? = some x) : x ∈ L := List.mem_of_getElem? hx
theorem own_H.atO (H : own_H Z h os as) {i : Nat} {a : Addr} {C : String} {fs : List (String × String × String × Value)} (ho : os[i]? = some (a, C, fs)) : Exa Z h a C := (H.2.1 _ (own_mem ho)).2.1
theorem own_H.newO (H : own_H Z h os as) {i : Nat} {a : Addr} {C : String} {fs : List (String × String × String × Value)} (ho : os[i]? = some (a, C, fs)) (hro : own_ro (a, C, fs) = false) : Z.heap.size ≤ a := (H.2.1 _ (own_mem ho)).1 hro
theorem own_H.fld (H : own_H Z h os as) {i q : Nat} {a : Addr} {C O f d : String} {v : Value} {fs : List (String × String × String × Value)} (ho : os[i]? = some (a, C, fs)) (hf : fs[q]? = some (O, f, d, v)) : Fld Z h a O f d v := (H.2.1 _ (own_mem ho)).2.2.1 _ (own_mem hf)
theorem own_pws {α : Type} {R : α → α → Prop} {L : List α} (P : L.Pairwise R) (S : ∀ {x y}, R x y → R y x) {i j : Nat} {x y : α} (hx : L[i]? = some x) (hy : L[j]? = some y) (ij : i ≠ j) : R x y := by
  obtain ⟨h1, rfl⟩ := List.getElem?_eq_some_iff.mp hx
  obtain ⟨h2, rfl⟩ := List.getElem?_eq_some_iff.mp hy
  rcases Nat.lt_or_gt_of_ne ij with lt | lt
  · exact List.pairwise_iff_getElem.mp P i j h1 h2 lt
  · exact S (List.pairwise_iff_getElem.mp P j i h2 h1 lt)
theorem own_H.neOO (H : own_H Z h os as) {i j : Nat} {x y : own_O} (hx : os[i]? = some x) (hy : os[j]? = some y) (ij : i ≠ j) (hro : own_ro y = false) : x.1 ≠ y.1 := by
  have h1 : (os.map own_k)[i]? = some (own_k x) := by rw [List.getElem?_map, hx]; rfl
  have h2 : (os.map own_k)[j]? = some (own_k y) := by rw [List.getElem?_map, hy]; rfl
  rcases own_pws (List.pairwise_append.mp H.2.2.2).1 own_ap.symm h1 h2 ij with ⟨-, q⟩ | q
  · rw [show (own_k y).2 = own_ro y from rfl, hro] at q; cases q
  · exact q
theorem own_H.neAA (H : own_H Z h os as) {i j : Nat} {x y : own_A} (hx : as[i]? = some x) (hy : as[j]? = some y) (ij : i ≠ j) (had : y.2.2.1 ≠ "") : x.1 ≠ y.1 := by
  have h1 : (as.map own_ka)[i]? = some (own_ka x) := by rw [List.getElem?_map, hx]; rfl
  have h2 : (as.map own_ka)[j]? = some (own_ka y) := by rw [List.getElem?_map, hy]; rfl
  rcases own_pws (List.pairwise_append.mp H.2.2.2).2.1 own_ap.symm h1 h2 ij with ⟨-, q⟩ | q
  · exact absurd (of_decide_eq_true q) had
  · exact q
theorem own_H.neOA (H : own_H Z h os as) {x : own_O} {y : own_A} (hx : x ∈ os) (hy : y ∈ as) (hr : own_ro x = false ∨ y.2.2.1 ≠ "") : x.1 ≠ y.1 := by
  rcases (List.pairwise_append.mp H.2.2.2).2.2 _ (List.mem_map.mpr ⟨x, hx, rfl⟩) _ (List.mem_map.mpr ⟨y, hy, rfl⟩) with ⟨q1, q2⟩ | q
  · rcases hr with hr | hr
    · rw [show (own_k x).2 = own_ro x from rfl, hr] at q1; cases q1
    · exact absurd (of_decide_eq_true q2) hr
  · exact q
theorem own_ro_set {a : Addr} {C O f d : String} {v v0 : Value} {fs : List (String × String × String × Value)} {q : Nat} (hf : fs[q]? = some (O, f, d, v0)) : own_ro (a, C, fs.set q (O, f, d, v)) = own_ro (a, C, fs) := by
  cases fs with
  | nil => cases hf
  | cons x fs =>
    cases q with
    | zero => cases hf; rfl
    | succ q => rfl
theorem own_set_map {α β : Type} {L : List α} {f : α → β} {i : Nat} {x x' : α} (hx : L[i]? = some x) (e : f x' = f x) : (L.set i x').map f = L.map f := by
  apply List.ext_getElem?
  intro j
  rw [List.getElem?_map, List.getElem?_map, List.getElem?_set]
  by_cases ij : i = j
  · subst ij; rw [hx]; have := (List.getElem?_eq_some_iff.mp hx).1; simp [this, e]
  · simp [ij]
theorem own_H.wrO (H : own_H Z h os as) {i q : Nat} {a : Addr} {C O f d : String} {v v0 : Value} {fs : List (String × String × String × Value)} (hro : own_ro (a, C, fs) = false) (ho : os[i]? = some (a, C, fs)) (hf : fs[q]? = some (O, f, d, v0)) (W : Wr h h' a (slotOf Z O f d) v) :
    own_H Z h' (os.set i (a, C, fs.set q (O, f, d, v))) as := by
  have na := H.newO ho hro
  have hlen := (List.getElem?_eq_some_iff.mp ho).1
  have hql := (List.getElem?_eq_some_iff.mp hf).1
  refine ⟨?_, fun x hx => ?_, fun y hy => ?_, ?_⟩
  · refine ⟨by rw [Wr.size W]; exact H.1.1, fun b cb hb => ?_⟩
    obtain ⟨cb', e1, -, -, -, e5, -⟩ := wr_at W (H.1.2 b cb hb)
    have : b ≠ a := Nat.ne_of_lt (Nat.lt_of_lt_of_le (Array.getElem?_eq_some_iff.mp hb).1 na)
    rw [← e5 this]; exact e1
  · obtain ⟨j, hj⟩ := List.mem_iff_getElem?.mp hx
    rw [List.getElem?_set] at hj
    by_cases ij : i = j
    · subst ij
      rw [if_pos rfl, if_pos hlen] at hj
      obtain rfl := Option.some.inj hj
      obtain ⟨n1, E, F, Pw⟩ := H.2.1 _ (own_mem ho)
      refine ⟨fun _ => na, E.wr W, fun z hz => ?_, ?_⟩
      · obtain ⟨r, hr⟩ := List.mem_iff_getElem?.mp hz
        rw [List.getElem?_set] at hr
        by_cases qr : q = r
        · subst qr
          rw [if_pos rfl, if_pos hql] at hr
          obtain rfl := Option.some.inj hr
          exact Fld.same (w := v0) W (F _ (own_mem (show (a, C, fs).2.2[q]? = some (O, f, d, v0) from hf)))
        · rw [if_neg qr] at hr
          refine Fld.other W (F _ (own_mem hr)) (Or.inr fun e => ?_)
          have P2 : ∀ i j : Nat, i < j → ∀ x y, fs[i]? = some x → fs[j]? = some y → slotOf Z x.1 x.2.1 x.2.2.1 ≠ slotOf Z y.1 y.2.1 y.2.2.1 := fun i j ij x y hx hy => by
            obtain ⟨h1, rfl⟩ := List.getElem?_eq_some_iff.mp hx
            obtain ⟨h2, rfl⟩ := List.getElem?_eq_some_iff.mp hy
            exact List.pairwise_iff_getElem.mp Pw i j h1 h2 ij
          rcases Nat.lt_or_gt_of_ne qr with lt | lt
          · exact P2 q r lt _ _ hf hr e.symm
          · exact P2 r q lt _ _ hr hf e
      · have hm : (fs.set q (O, f, d, v)).map (fun f => slotOf Z f.1 f.2.1 f.2.2.1) = fs.map (fun f => slotOf Z f.1 f.2.1 f.2.2.1) := own_set_map hf rfl
        have t := List.pairwise_map.mpr Pw
        rw [← hm] at t
        exact List.pairwise_map.mp t
    · rw [if_neg ij] at hj
      obtain ⟨n1, E, F, Pw⟩ := H.2.1 _ (own_mem hj)
      exact ⟨n1, E.wr W, fun z hz => Fld.other W (F z hz) (Or.inl (H.neOO hj ho (Ne.symm ij) hro)), Pw⟩
  · obtain ⟨n1, cl, h1, h2, h3, h4, h5⟩ := H.2.2.1 y hy
    exact ⟨n1, cl, h1.other W (Ne.symm (H.neOA (own_mem ho) hy (Or.inl hro))), h2, h3, fun q => (h4 q).wr W, h5⟩
  · rw [own_set_map (f := own_k) (x' := (a, C, fs.set q (O, f, d, v))) ho (congrArg (Prod.mk a) (own_ro_set hf))]; exact H.2.2.2
theorem own_H.wrA (H : own_H Z h os as) {i q : Nat} {a : Addr} {ty : FieldType} {ad : String} {v : Value} {vs : List Value} (had : ad ≠ "") (ha : as[i]? = some (a, ty, ad, vs)) (hq : q < vs.length) (hv : fits ty v = true) (W : Wr h h' a q v) :
    own_H Z h' os (as.set i (a, ty, ad, vs.set q v)) := by
  have na := (H.2.2.1 _ (own_mem ha)).1 had
  have hlen := (List.getElem?_eq_some_iff.mp ha).1
  refine ⟨?_, fun x hx => ?_, fun y hy => ?_, ?_⟩
  · refine ⟨by rw [Wr.size W]; exact H.1.1, fun b cb hb => ?_⟩
    obtain ⟨cb', e1, -, -, -, e5, -⟩ := wr_at W (H.1.2 b cb hb)
    have : b ≠ a := Nat.ne_of_lt (Nat.lt_of_lt_of_le (Array.getElem?_eq_some_iff.mp hb).1 na)
    rw [← e5 this]; exact e1
  · obtain ⟨n1, E, F, Pw⟩ := H.2.1 _ hx
    exact ⟨n1, E.wr W, fun z hz => Fld.other W (F z hz) (Or.inl (H.neOA hx (own_mem ha) (Or.inr had))), Pw⟩
  · obtain ⟨j, hj⟩ := List.mem_iff_getElem?.mp hy
    rw [List.getElem?_set] at hj
    by_cases ij : i = j
    · subst ij
      rw [if_pos rfl, if_pos hlen] at hj
      obtain rfl := Option.some.inj hj
      obtain ⟨n1, cl, h1, h2, h3, h4, h5⟩ := H.2.2.1 _ (own_mem ha)
      refine ⟨n1, _, h1.same W, ?_, fun z hz => ?_, fun q => (h4 q).wr W, h5⟩
      · show (cl.setSlot q v).slots.toList = vs.set q v
        rw [show (cl.setSlot q v).slots = cl.slots.setIfInBounds q v from rfl, Array.toList_setIfInBounds, show cl.slots.toList = vs from h2]
      · rcases List.mem_or_eq_of_mem_set hz with hz | rfl
        · exact h3 z hz
        · exact hv
    · rw [if_neg ij] at hj
      obtain ⟨n1, cl, h1, h2, h3, h4, h5⟩ := H.2.2.1 _ (own_mem hj)
      exact ⟨n1, cl, h1.other W (H.neAA hj ha (Ne.symm ij) had), h2, h3, fun q => (h4 q).wr W, h5⟩
  · rw [own_set_map (f := own_ka) (x' := (a, ty, ad, vs.set q v)) ha rfl]; exact H.2.2.2
theorem own_le {a b : Nat} (h : Nat.ble a b = true) : a ≤ b := Nat.le_of_ble_eq_true h
theorem own_idx {j : Int32} {q : Nat} (hj : j.toInt = (q : Int)) : j.toNatClampNeg = q := by simp only [Int32.toNatClampNeg, hj]; rfl
theorem own_in {j : Int32} {q N : Nat} (hj : j.toInt = (q : Int)) (hq : q < N) : ¬ (j < 0 ∨ N ≤ j.toNatClampNeg) := by
  rw [own_idx hj, Int32.lt_iff_toInt_lt, hj, show (0 : Int32).toInt = 0 from rfl]; omega
theorem own_len {N : Int32} {q : Nat} (hN : N.toInt = (q : Int)) : q.toInt32 = N := by
  have := Int32.toInt_lt N
  exact Int32.toInt_inj.mp ((len_toInt (by omega)).trans hN.symm)
/-! ## steps -/
theorem own_zw {vm : Vm} (hZ : Z.Warmed39 s.vm) {q : Nat} (hS : s.Since vm q) : Z.Warmed39 (s.setVm vm).vm := State.Warmed39.trans (t := s) hZ hS.1
theorem own_pure (K : own_Cx p s m meth c Z own nm bytes maxL ret)
    (f : ∀ {T : State} {L : List Loc} {vm : Vm}, Stand p l e R (s.setVm vm) m args below meth c T L k n → Z.Warmed39 (s.setVm vm).vm → (s.setVm vm).vm.findClass own = some m.cls → T.heap = h → ∀ target, Steps p.tables e below (T.setTop g') target → Steps p.tables e below (T.setTop g) target)
    (hr : own_G w p l e R s m args below meth c Z Q h k n g') : own_G w p l e R s m args below meth c Z Q h k n g := by
  intro T hX
  obtain ⟨T', v, h', k', n', hX', r1, r2, r3, r4, r5⟩ := hr T hX
  obtain ⟨L, vm, X, -, eT, -, hS⟩ := hX
  exact ⟨T', v, h', k', n', hX', r1, r2, r3, r4, fun fs q => f X (own_zw K.2.2.2.2.2.1 hS) (by rw [show (s.setVm vm).vm = vm from rfl, hS.1.alike.findClass]; exact K.2.2.2.2.2.2.1) eT _ (r5 fs q)⟩
theorem own_since {vm : Vm} {q q' : Nat} (hS : s.Since vm q) (hq : q ≤ q') : s.Since vm q' := ⟨hS.1, hS.2.mono hq⟩
theorem own_step {P : Heap → Prop} (K : own_Cx p s m meth c Z own nm bytes maxL ret)
    (f : ∀ {T : State} {L : List Loc} {vm : Vm}, Stand p l e R (s.setVm vm) m args below meth c T L k n → Z.Warmed39 (s.setVm vm).vm → (s.setVm vm).vm.findClass own = some m.cls → T.heap = h → Fr Z.heap.size L →
      ∃ (T' : State) (h' : Heap) (L' : List Loc), Stand p l e R (s.setVm vm) m args below meth c T' L' k' n' ∧ Fr Z.heap.size L' ∧ T'.heap = h' ∧ h.size ≤ h'.size ∧ P h' ∧ ∀ target, Steps p.tables e below (T'.setTop g') target → Steps p.tables e below (T.setTop g) target)
    (hr : ∀ h', P h' → own_G w p l e R s m args below meth c Z Q h' k' n' g') : own_G w p l e R s m args below meth c Z Q h k n g := by
  intro T hX
  obtain ⟨L, vm, X, N, eT, hw, hS⟩ := hX
  obtain ⟨T1, h1, L1, X1, N1, e1, z1, P1, st⟩ := f X (own_zw K.2.2.2.2.2.1 hS) (by rw [show (s.setVm vm).vm = vm from rfl, hS.1.alike.findClass]; exact K.2.2.2.2.2.2.1) eT N
  obtain ⟨T', v, h', k', n', hX', r1, r2, r3, r4, r5⟩ := hr h1 P1 T1 ⟨L1, vm, X1, N1, e1, hw, own_since hS z1⟩
  exact ⟨T', v, h', k', n', hX', r1, r2, r3, r4, fun fs q => st _ (r5 fs q)⟩
theorem own_iload (K : own_Cx p s m meth c Z own nm bytes maxL ret) {kk : Nat} {v : Int32} (hd : own_D bytes pc (.iload kk) 2 pc') (hl : Ls[kk]? = some (.val (.int v))) (hr : own_G w p l e R s m args below meth c Z Q h k n (mkF m pc' Ls (.int v :: st))) : own_G w p l e R s m args below meth c Z Q h k n (mkF m pc Ls (st)) := by
  obtain ⟨hd, rfl⟩ := hd
  exact own_pure K (fun X _ _ _ _ q => XS.iload X.here K.1 rfl (hb K.2.1 hd) hl q) hr
theorem own_iloadN (K : own_Cx p s m meth c Z own nm bytes maxL ret) {kk : Fin 4} {v : Int32} (hd : own_D bytes pc (.iload_n kk) 1 pc') (hl : Ls[kk.val]? = some (.val (.int v))) (hr : own_G w p l e R s m args below meth c Z Q h k n (mkF m pc' Ls (.int v :: st))) : own_G w p l e R s m args below meth c Z Q h k n (mkF m pc Ls (st)) := by
  obtain ⟨hd, rfl⟩ := hd
  exact own_pure K (fun X _ _ _ _ q => XS.iloadN X.here K.1 rfl (hb K.2.1 hd) hl q) hr
theorem own_istore (K : own_Cx p s m meth c Z own nm bytes maxL ret) {kk : Nat} {v : Int32} (hd : own_D bytes pc (.istore kk) 2 pc') (hl : storeLocals Ls kk (.int v) = some Ls') (hr : own_G w p l e R s m args below meth c Z Q h k n (mkF m pc' Ls' (st))) : own_G w p l e R s m args below meth c Z Q h k n (mkF m pc Ls (.int v :: st)) := by
  obtain ⟨hd, rfl⟩ := hd
  exact own_pure K (fun X _ _ _ _ q => XS.istore X.here K.1 rfl (hb K.2.1 hd) rfl hl q) hr
theorem own_istoreN (K : own_Cx p s m meth c Z own nm bytes maxL ret) {kk : Fin 4} {v : Int32} (hd : own_D bytes pc (.istore_n kk) 1 pc') (hl : storeLocals Ls kk.val (.int v) = some Ls') (hr : own_G w p l e R s m args below meth c Z Q h k n (mkF m pc' Ls' (st))) : own_G w p l e R s m args below meth c Z Q h k n (mkF m pc Ls (.int v :: st)) := by
  obtain ⟨hd, rfl⟩ := hd
  exact own_pure K (fun X _ _ _ _ q => XS.istoreN X.here K.1 rfl (hb K.2.1 hd) rfl hl q) hr
theorem own_lload (K : own_Cx p s m meth c Z own nm bytes maxL ret) {kk : Nat} {v : Int64} (hd : own_D bytes pc (.lload kk) 2 pc') (hl : Ls[kk]? = some (.val (.long v))) (hr : own_G w p l e R s m args below meth c Z Q h k n (mkF m pc' Ls (.long v :: st))) : own_G w p l e R s m args below meth c Z Q h k n (mkF m pc Ls (st)) := by
  obtain ⟨hd, rfl⟩ := hd
  exact own_pure K (fun X _ _ _ _ q => XT.lload X.here K.1 rfl (hb K.2.1 hd) hl q) hr
theorem own_lloadN (K : own_Cx p s m meth c Z own nm bytes maxL ret) {kk : Fin 4} {v : Int64} (hd : own_D bytes pc (.lload_n kk) 1 pc') (hl : Ls[kk.val]? = some (.val (.long v))) (hr : own_G w p l e R s m args below meth c Z Q h k n (mkF m pc' Ls (.long v :: st))) : own_G w p l e R s m args below meth c Z Q h k n (mkF m pc Ls (st)) := by
  obtain ⟨hd, rfl⟩ := hd
  exact own_pure K (fun X _ _ _ _ q => XT.lloadN X.here K.1 rfl (hb K.2.1 hd) hl q) hr
theorem own_lstore (K : own_Cx p s m meth c Z own nm bytes maxL ret) {kk : Nat} {v : Int64} (hd : own_D bytes pc (.lstore kk) 2 pc') (hl : storeLocals Ls kk (.long v) = some Ls') (hr : own_G w p l e R s m args below meth c Z Q h k n (mkF m pc' Ls' (st))) : own_G w p l e R s m args below meth c Z Q h k n (mkF m pc Ls (.long v :: st)) := by
  obtain ⟨hd, rfl⟩ := hd
  exact own_pure K (fun X _ _ _ _ q => XT.lstore X.here K.1 rfl (hb K.2.1 hd) rfl hl q) hr
theorem own_lstoreN (K : own_Cx p s m meth c Z own nm bytes maxL ret) {kk : Fin 4} {v : Int64} (hd : own_D bytes pc (.lstore_n kk) 1 pc') (hl : storeLocals Ls kk.val (.long v) = some Ls') (hr : own_G w p l e R s m args below meth c Z Q h k n (mkF m pc' Ls' (st))) : own_G w p l e R s m args below meth c Z Q h k n (mkF m pc Ls (.long v :: st)) := by
  obtain ⟨hd, rfl⟩ := hd
  exact own_pure K (fun X _ _ _ _ q => XT.lstoreN X.here K.1 rfl (hb K.2.1 hd) rfl hl q) hr
theorem own_dload (K : own_Cx p s m meth c Z own nm bytes maxL ret) {kk : Nat} {v : UInt64} (hd : own_D bytes pc (.dload kk) 2 pc') (hl : Ls[kk]? = some (.val (.double v))) (hr : own_G w p l e R s m args below meth c Z Q h k n (mkF m pc' Ls (.double v :: st))) : own_G w p l e R s m args below meth c Z Q h k n (mkF m pc Ls (st)) := by
  obtain ⟨hd, rfl⟩ := hd
  exact own_pure K (fun X _ _ _ _ q => XS.dload X.here K.1 rfl (hb K.2.1 hd) hl q) hr
theorem own_dloadN (K : own_Cx p s m meth c Z own nm bytes maxL ret) {kk : Fin 4} {v : UInt64} (hd : own_D bytes pc (.dload_n kk) 1 pc') (hl : Ls[kk.val]? = some (.val (.double v))) (hr : own_G w p l e R s m args below meth c Z Q h k n (mkF m pc' Ls (.double v :: st))) : own_G w p l e R s m args below meth c Z Q h k n (mkF m pc Ls (st)) := by
  obtain ⟨hd, rfl⟩ := hd
  exact own_pure K (fun X _ _ _ _ q => XS.dloadN X.here K.1 rfl (hb K.2.1 hd) hl q) hr
theorem own_dstore (K : own_Cx p s m meth c Z own nm bytes maxL ret) {kk : Nat} {v : UInt64} (hd : own_D bytes pc (.dstore kk) 2 pc') (hl : storeLocals Ls kk (.double v) = some Ls') (hr : own_G w p l e R s m args below meth c Z Q h k n (mkF m pc' Ls' (st))) : own_G w p l e R s m args below meth c Z Q h k n (mkF m pc Ls (.double v :: st)) := by
  obtain ⟨hd, rfl⟩ := hd
  exact own_pure K (fun X _ _ _ _ q => XS.dstore X.here K.1 rfl (hb K.2.1 hd) rfl hl q) hr
theorem own_dstoreN (K : own_Cx p s m meth c Z own nm bytes maxL ret) {kk : Fin 4} {v : UInt64} (hd : own_D bytes pc (.dstore_n kk) 1 pc') (hl : storeLocals Ls kk.val (.double v) = some Ls') (hr : own_G w p l e R s m args below meth c Z Q h k n (mkF m pc' Ls' (st))) : own_G w p l e R s m args below meth c Z Q h k n (mkF m pc Ls (.double v :: st)) := by
  obtain ⟨hd, rfl⟩ := hd
  exact own_pure K (fun X _ _ _ _ q => XS.dstoreN X.here K.1 rfl (hb K.2.1 hd) rfl hl q) hr
theorem own_aload (K : own_Cx p s m meth c Z own nm bytes maxL ret) {kk : Nat} {v : Value} (hd : own_D bytes pc (.aload kk) 2 pc') (hl : Ls[kk]? = some (.val v)) (hv : v.isRef = true) (hr : own_G w p l e R s m args below meth c Z Q h k n (mkF m pc' Ls (v :: st))) : own_G w p l e R s m args below meth c Z Q h k n (mkF m pc Ls (st)) := by
  obtain ⟨hd, rfl⟩ := hd
  exact own_pure K (fun X _ _ _ _ q => XS.aload X.here K.1 rfl (hb K.2.1 hd) hl hv q) hr
theorem own_aloadN (K : own_Cx p s m meth c Z own nm bytes maxL ret) {kk : Fin 4} {v : Value} (hd : own_D bytes pc (.aload_n kk) 1 pc') (hl : Ls[kk.val]? = some (.val v)) (hv : v.isRef = true) (hr : own_G w p l e R s m args below meth c Z Q h k n (mkF m pc' Ls (v :: st))) : own_G w p l e R s m args below meth c Z Q h k n (mkF m pc Ls (st)) := by
  obtain ⟨hd, rfl⟩ := hd
  exact own_pure K (fun X _ _ _ _ q => XS.aloadN X.here K.1 rfl (hb K.2.1 hd) hl hv q) hr
theorem own_astore (K : own_Cx p s m meth c Z own nm bytes maxL ret) {kk : Nat} {v : Value} (hd : own_D bytes pc (.astore kk) 2 pc') (hv : v.isRef = true) (hl : storeLocals Ls kk v = some Ls') (hr : own_G w p l e R s m args below meth c Z Q h k n (mkF m pc' Ls' (st))) : own_G w p l e R s m args below meth c Z Q h k n (mkF m pc Ls (v :: st)) := by
  obtain ⟨hd, rfl⟩ := hd
  exact own_pure K (fun X _ _ _ _ q => XS.astore X.here K.1 rfl (hb K.2.1 hd) rfl hv hl q) hr
theorem own_astoreN (K : own_Cx p s m meth c Z own nm bytes maxL ret) {kk : Fin 4} {v : Value} (hd : own_D bytes pc (.astore_n kk) 1 pc') (hv : v.isRef = true) (hl : storeLocals Ls kk.val v = some Ls') (hr : own_G w p l e R s m args below meth c Z Q h k n (mkF m pc' Ls' (st))) : own_G w p l e R s m args below meth c Z Q h k n (mkF m pc Ls (v :: st)) := by
  obtain ⟨hd, rfl⟩ := hd
  exact own_pure K (fun X _ _ _ _ q => XS.astoreN X.here K.1 rfl (hb K.2.1 hd) rfl hv hl q) hr
theorem own_iconst (K : own_Cx p s m meth c Z own nm bytes maxL ret) {i : Int} {v : Int32} (hd : own_D bytes pc (.iconst i) 1 pc') (hv : Int32.ofInt i = v) (hr : own_G w p l e R s m args below meth c Z Q h k n (mkF m pc' Ls (.int v :: st))) : own_G w p l e R s m args below meth c Z Q h k n (mkF m pc Ls st) := by
  obtain ⟨hd, rfl⟩ := hd
  subst hv
  exact own_pure K (fun X _ _ _ _ q => XS.iconst X.here K.1 rfl (hb K.2.1 hd) q) hr
theorem own_bipush (K : own_Cx p s m meth c Z own nm bytes maxL ret) {i : Int} {v : Int32} (hd : own_D bytes pc (.bipush i) 2 pc') (hv : (Int8.ofInt i).toInt32 = v) (hr : own_G w p l e R s m args below meth c Z Q h k n (mkF m pc' Ls (.int v :: st))) : own_G w p l e R s m args below meth c Z Q h k n (mkF m pc Ls st) := by
  obtain ⟨hd, rfl⟩ := hd
  subst hv
  exact own_pure K (fun X _ _ _ _ q => XS.bipush X.here K.1 rfl (hb K.2.1 hd) q) hr
theorem own_sipush (K : own_Cx p s m meth c Z own nm bytes maxL ret) {i : Int} {v : Int32} (hd : own_D bytes pc (.sipush i) 3 pc') (hv : (Int16.ofInt i).toInt32 = v) (hr : own_G w p l e R s m args below meth c Z Q h k n (mkF m pc' Ls (.int v :: st))) : own_G w p l e R s m args below meth c Z Q h k n (mkF m pc Ls st) := by
  obtain ⟨hd, rfl⟩ := hd
  subst hv
  exact own_pure K (fun X _ _ _ _ q => XS.sipush X.here K.1 rfl (hb K.2.1 hd) q) hr
theorem own_lconst (K : own_Cx p s m meth c Z own nm bytes maxL ret) {i : Fin 2} {v : Int64} (hd : own_D bytes pc (.lconst i) 1 pc') (hv : Int64.ofNat i = v) (hr : own_G w p l e R s m args below meth c Z Q h k n (mkF m pc' Ls (.long v :: st))) : own_G w p l e R s m args below meth c Z Q h k n (mkF m pc Ls st) := by
  obtain ⟨hd, rfl⟩ := hd
  subst hv
  exact own_pure K (fun X _ _ _ _ q => XT.lconst X.here K.1 rfl (hb K.2.1 hd) q) hr
theorem own_dconst0 (K : own_Cx p s m meth c Z own nm bytes maxL ret) {v : UInt64} (hd : own_D bytes pc (.dconst 0) 1 pc') (hv : FP.dconst0 = v) (hr : own_G w p l e R s m args below meth c Z Q h k n (mkF m pc' Ls (.double v :: st))) : own_G w p l e R s m args below meth c Z Q h k n (mkF m pc Ls st) := by
  obtain ⟨hd, rfl⟩ := hd
  exact own_pure K (fun X _ _ _ _ q => XS.dconst0 X.here K.1 rfl (hb K.2.1 hd) hv q) hr
theorem own_dconst1 (K : own_Cx p s m meth c Z own nm bytes maxL ret) {v : UInt64} (hd : own_D bytes pc (.dconst 1) 1 pc') (hv : FP.dconst1 = v) (hr : own_G w p l e R s m args below meth c Z Q h k n (mkF m pc' Ls (.double v :: st))) : own_G w p l e R s m args below meth c Z Q h k n (mkF m pc Ls st) := by
  obtain ⟨hd, rfl⟩ := hd
  exact own_pure K (fun X _ _ _ _ q => XS.dconst1 X.here K.1 rfl (hb K.2.1 hd) hv q) hr
theorem own_aconstNull (K : own_Cx p s m meth c Z own nm bytes maxL ret)  (hd : own_D bytes pc (.aconst_null) 1 pc') (hr : own_G w p l e R s m args below meth c Z Q h k n (mkF m pc' Ls (.null :: st))) : own_G w p l e R s m args below meth c Z Q h k n (mkF m pc Ls (st)) := by
  obtain ⟨hd, rfl⟩ := hd
  exact own_pure K (fun X _ _ _ _ q => XS.aconstNull X.here K.1 rfl (hb K.2.1 hd)  q) hr
theorem own_iadd (K : own_Cx p s m meth c Z own nm bytes maxL ret) {x y : Int32} (hd : own_D bytes pc (.iadd) 1 pc') (hr : own_G w p l e R s m args below meth c Z Q h k n (mkF m pc' Ls (.int (x + y) :: st))) : own_G w p l e R s m args below meth c Z Q h k n (mkF m pc Ls (.int y :: .int x :: st)) := by
  obtain ⟨hd, rfl⟩ := hd
  exact own_pure K (fun X _ _ _ _ q => XS.iadd X.here K.1 rfl (hb K.2.1 hd) rfl q) hr
theorem own_isub (K : own_Cx p s m meth c Z own nm bytes maxL ret) {x y : Int32} (hd : own_D bytes pc (.isub) 1 pc') (hr : own_G w p l e R s m args below meth c Z Q h k n (mkF m pc' Ls (.int (x - y) :: st))) : own_G w p l e R s m args below meth c Z Q h k n (mkF m pc Ls (.int y :: .int x :: st)) := by
  obtain ⟨hd, rfl⟩ := hd
  exact own_pure K (fun X _ _ _ _ q => XS.isub X.here K.1 rfl (hb K.2.1 hd) rfl q) hr
theorem own_iand (K : own_Cx p s m meth c Z own nm bytes maxL ret) {x y : Int32} (hd : own_D bytes pc (.iand) 1 pc') (hr : own_G w p l e R s m args below meth c Z Q h k n (mkF m pc' Ls (.int (x &&& y) :: st))) : own_G w p l e R s m args below meth c Z Q h k n (mkF m pc Ls (.int y :: .int x :: st)) := by
  obtain ⟨hd, rfl⟩ := hd
  exact own_pure K (fun X _ _ _ _ q => XS.iand X.here K.1 rfl (hb K.2.1 hd) rfl q) hr
theorem own_imul (K : own_Cx p s m meth c Z own nm bytes maxL ret) {x y : Int32} (hd : own_D bytes pc (.imul) 1 pc') (hr : own_G w p l e R s m args below meth c Z Q h k n (mkF m pc' Ls (.int (x * y) :: st))) : own_G w p l e R s m args below meth c Z Q h k n (mkF m pc Ls (.int y :: .int x :: st)) := by
  obtain ⟨hd, rfl⟩ := hd
  exact own_pure K (fun X _ _ _ _ q => XS.imul X.here K.1 rfl (hb K.2.1 hd) rfl q) hr
theorem own_ixor (K : own_Cx p s m meth c Z own nm bytes maxL ret) {x y : Int32} (hd : own_D bytes pc (.ixor) 1 pc') (hr : own_G w p l e R s m args below meth c Z Q h k n (mkF m pc' Ls (.int (x ^^^ y) :: st))) : own_G w p l e R s m args below meth c Z Q h k n (mkF m pc Ls (.int y :: .int x :: st)) := by
  obtain ⟨hd, rfl⟩ := hd
  exact own_pure K (fun X _ _ _ _ q => XT.ixor X.here K.1 rfl (hb K.2.1 hd) rfl q) hr
theorem own_ior (K : own_Cx p s m meth c Z own nm bytes maxL ret) {x y : Int32} (hd : own_D bytes pc (.ior) 1 pc') (hr : own_G w p l e R s m args below meth c Z Q h k n (mkF m pc' Ls (.int (x ||| y) :: st))) : own_G w p l e R s m args below meth c Z Q h k n (mkF m pc Ls (.int y :: .int x :: st)) := by
  obtain ⟨hd, rfl⟩ := hd
  exact own_pure K (fun X _ _ _ _ q => XT.ior X.here K.1 rfl (hb K.2.1 hd) rfl q) hr
theorem own_ishl (K : own_Cx p s m meth c Z own nm bytes maxL ret) {x y : Int32} (hd : own_D bytes pc (.ishl) 1 pc') (hr : own_G w p l e R s m args below meth c Z Q h k n (mkF m pc' Ls (.int (x <<< (y &&& 31)) :: st))) : own_G w p l e R s m args below meth c Z Q h k n (mkF m pc Ls (.int y :: .int x :: st)) := by
  obtain ⟨hd, rfl⟩ := hd
  exact own_pure K (fun X _ _ _ _ q => XT.ishl X.here K.1 rfl (hb K.2.1 hd) rfl q) hr
theorem own_ishr (K : own_Cx p s m meth c Z own nm bytes maxL ret) {x y : Int32} (hd : own_D bytes pc (.ishr) 1 pc') (hr : own_G w p l e R s m args below meth c Z Q h k n (mkF m pc' Ls (.int (x >>> (y &&& 31)) :: st))) : own_G w p l e R s m args below meth c Z Q h k n (mkF m pc Ls (.int y :: .int x :: st)) := by
  obtain ⟨hd, rfl⟩ := hd
  exact own_pure K (fun X _ _ _ _ q => XT.ishr X.here K.1 rfl (hb K.2.1 hd) rfl q) hr
theorem own_iushr (K : own_Cx p s m meth c Z own nm bytes maxL ret) {x y : Int32} (hd : own_D bytes pc (.iushr) 1 pc') (hr : own_G w p l e R s m args below meth c Z Q h k n (mkF m pc' Ls (.int (XT.ushr x y) :: st))) : own_G w p l e R s m args below meth c Z Q h k n (mkF m pc Ls (.int y :: .int x :: st)) := by
  obtain ⟨hd, rfl⟩ := hd
  exact own_pure K (fun X _ _ _ _ q => XT.iushr X.here K.1 rfl (hb K.2.1 hd) rfl q) hr
theorem own_ladd (K : own_Cx p s m meth c Z own nm bytes maxL ret) {x y : Int64} (hd : own_D bytes pc (.ladd) 1 pc') (hr : own_G w p l e R s m args below meth c Z Q h k n (mkF m pc' Ls (.long (x + y) :: st))) : own_G w p l e R s m args below meth c Z Q h k n (mkF m pc Ls (.long y :: .long x :: st)) := by
  obtain ⟨hd, rfl⟩ := hd
  exact own_pure K (fun X _ _ _ _ q => XT.ladd X.here K.1 rfl (hb K.2.1 hd) rfl q) hr
theorem own_lsub (K : own_Cx p s m meth c Z own nm bytes maxL ret) {x y : Int64} (hd : own_D bytes pc (.lsub) 1 pc') (hr : own_G w p l e R s m args below meth c Z Q h k n (mkF m pc' Ls (.long (x - y) :: st))) : own_G w p l e R s m args below meth c Z Q h k n (mkF m pc Ls (.long y :: .long x :: st)) := by
  obtain ⟨hd, rfl⟩ := hd
  exact own_pure K (fun X _ _ _ _ q => XT.lsub X.here K.1 rfl (hb K.2.1 hd) rfl q) hr
theorem own_lmul (K : own_Cx p s m meth c Z own nm bytes maxL ret) {x y : Int64} (hd : own_D bytes pc (.lmul) 1 pc') (hr : own_G w p l e R s m args below meth c Z Q h k n (mkF m pc' Ls (.long (x * y) :: st))) : own_G w p l e R s m args below meth c Z Q h k n (mkF m pc Ls (.long y :: .long x :: st)) := by
  obtain ⟨hd, rfl⟩ := hd
  exact own_pure K (fun X _ _ _ _ q => XT.lmul X.here K.1 rfl (hb K.2.1 hd) rfl q) hr
theorem own_land (K : own_Cx p s m meth c Z own nm bytes maxL ret) {x y : Int64} (hd : own_D bytes pc (.land) 1 pc') (hr : own_G w p l e R s m args below meth c Z Q h k n (mkF m pc' Ls (.long (x &&& y) :: st))) : own_G w p l e R s m args below meth c Z Q h k n (mkF m pc Ls (.long y :: .long x :: st)) := by
  obtain ⟨hd, rfl⟩ := hd
  exact own_pure K (fun X _ _ _ _ q => XT.land X.here K.1 rfl (hb K.2.1 hd) rfl q) hr
theorem own_lor (K : own_Cx p s m meth c Z own nm bytes maxL ret) {x y : Int64} (hd : own_D bytes pc (.lor) 1 pc') (hr : own_G w p l e R s m args below meth c Z Q h k n (mkF m pc' Ls (.long (x ||| y) :: st))) : own_G w p l e R s m args below meth c Z Q h k n (mkF m pc Ls (.long y :: .long x :: st)) := by
  obtain ⟨hd, rfl⟩ := hd
  exact own_pure K (fun X _ _ _ _ q => XT.lor X.here K.1 rfl (hb K.2.1 hd) rfl q) hr
theorem own_lxor (K : own_Cx p s m meth c Z own nm bytes maxL ret) {x y : Int64} (hd : own_D bytes pc (.lxor) 1 pc') (hr : own_G w p l e R s m args below meth c Z Q h k n (mkF m pc' Ls (.long (x ^^^ y) :: st))) : own_G w p l e R s m args below meth c Z Q h k n (mkF m pc Ls (.long y :: .long x :: st)) := by
  obtain ⟨hd, rfl⟩ := hd
  exact own_pure K (fun X _ _ _ _ q => XT.lxor X.here K.1 rfl (hb K.2.1 hd) rfl q) hr
theorem own_lshl (K : own_Cx p s m meth c Z own nm bytes maxL ret) {x : Int64} {y : Int32} (hd : own_D bytes pc (.lshl) 1 pc') (hr : own_G w p l e R s m args below meth c Z Q h k n (mkF m pc' Ls (.long (x <<< (y.toInt64 &&& 63)) :: st))) : own_G w p l e R s m args below meth c Z Q h k n (mkF m pc Ls (.int y :: .long x :: st)) := by
  obtain ⟨hd, rfl⟩ := hd
  exact own_pure K (fun X _ _ _ _ q => XT.lshl X.here K.1 rfl (hb K.2.1 hd) rfl q) hr
theorem own_lshr (K : own_Cx p s m meth c Z own nm bytes maxL ret) {x : Int64} {y : Int32} (hd : own_D bytes pc (.lshr) 1 pc') (hr : own_G w p l e R s m args below meth c Z Q h k n (mkF m pc' Ls (.long (x >>> (y.toInt64 &&& 63)) :: st))) : own_G w p l e R s m args below meth c Z Q h k n (mkF m pc Ls (.int y :: .long x :: st)) := by
  obtain ⟨hd, rfl⟩ := hd
  exact own_pure K (fun X _ _ _ _ q => XT.lshr X.here K.1 rfl (hb K.2.1 hd) rfl q) hr
theorem own_lushr (K : own_Cx p s m meth c Z own nm bytes maxL ret) {x : Int64} {y : Int32} (hd : own_D bytes pc (.lushr) 1 pc') (hr : own_G w p l e R s m args below meth c Z Q h k n (mkF m pc' Ls (.long (XT.ushrL x y) :: st))) : own_G w p l e R s m args below meth c Z Q h k n (mkF m pc Ls (.int y :: .long x :: st)) := by
  obtain ⟨hd, rfl⟩ := hd
  exact own_pure K (fun X _ _ _ _ q => XT.lushr X.here K.1 rfl (hb K.2.1 hd) rfl q) hr
theorem own_lcmp (K : own_Cx p s m meth c Z own nm bytes maxL ret) {x y : Int64} (hd : own_D bytes pc (.lcmp) 1 pc') (hr : own_G w p l e R s m args below meth c Z Q h k n (mkF m pc' Ls (.int (XT.cmpL x y) :: st))) : own_G w p l e R s m args below meth c Z Q h k n (mkF m pc Ls (.long y :: .long x :: st)) := by
  obtain ⟨hd, rfl⟩ := hd
  exact own_pure K (fun X _ _ _ _ q => XT.lcmp X.here K.1 rfl (hb K.2.1 hd) rfl q) hr
theorem own_idiv (K : own_Cx p s m meth c Z own nm bytes maxL ret) {x y : Int32} (hd : own_D bytes pc (.idiv) 1 pc') (hy : y ≠ 0) (hr : own_G w p l e R s m args below meth c Z Q h k n (mkF m pc' Ls (.int (x / y) :: st))) : own_G w p l e R s m args below meth c Z Q h k n (mkF m pc Ls (.int y :: .int x :: st)) := by
  obtain ⟨hd, rfl⟩ := hd
  exact own_pure K (fun X _ _ _ _ q => XS.idiv X.here K.1 rfl (hb K.2.1 hd) rfl hy q) hr
theorem own_ldiv (K : own_Cx p s m meth c Z own nm bytes maxL ret) {x y : Int64} (hd : own_D bytes pc (.ldiv) 1 pc') (hy : y ≠ 0) (hr : own_G w p l e R s m args below meth c Z Q h k n (mkF m pc' Ls (.long (x / y) :: st))) : own_G w p l e R s m args below meth c Z Q h k n (mkF m pc Ls (.long y :: .long x :: st)) := by
  obtain ⟨hd, rfl⟩ := hd
  exact own_pure K (fun X _ _ _ _ q => XT.ldiv X.here K.1 rfl (hb K.2.1 hd) rfl hy q) hr
theorem own_irem (K : own_Cx p s m meth c Z own nm bytes maxL ret) {x y : Int32} (hd : own_D bytes pc .irem 1 pc') (hy : y ≠ 0) (hr : own_G w p l e R s m args below meth c Z Q h k n (mkF m pc' Ls (.int (x % y) :: st))) : own_G w p l e R s m args below meth c Z Q h k n (mkF m pc Ls (.int y :: .int x :: st)) := by
  obtain ⟨hd, rfl⟩ := hd
  exact own_pure K (fun X _ _ _ _ q => iremM X K.1 rfl (hb K.2.1 hd) rfl hy q) hr
theorem own_ineg (K : own_Cx p s m meth c Z own nm bytes maxL ret) {x : Int32} (hd : own_D bytes pc (.ineg) 1 pc') (hr : own_G w p l e R s m args below meth c Z Q h k n (mkF m pc' Ls (.int (-x) :: st))) : own_G w p l e R s m args below meth c Z Q h k n (mkF m pc Ls (.int x :: st)) := by
  obtain ⟨hd, rfl⟩ := hd
  exact own_pure K (fun X _ _ _ _ q => XS.ineg X.here K.1 rfl (hb K.2.1 hd) rfl q) hr
theorem own_lneg (K : own_Cx p s m meth c Z own nm bytes maxL ret) {x : Int64} (hd : own_D bytes pc (.lneg) 1 pc') (hr : own_G w p l e R s m args below meth c Z Q h k n (mkF m pc' Ls (.long (-x) :: st))) : own_G w p l e R s m args below meth c Z Q h k n (mkF m pc Ls (.long x :: st)) := by
  obtain ⟨hd, rfl⟩ := hd
  exact own_pure K (fun X _ _ _ _ q => XT.lneg X.here K.1 rfl (hb K.2.1 hd) rfl q) hr
theorem own_i2l (K : own_Cx p s m meth c Z own nm bytes maxL ret) {x : Int32} (hd : own_D bytes pc (.i2l) 1 pc') (hr : own_G w p l e R s m args below meth c Z Q h k n (mkF m pc' Ls (.long (x.toInt64) :: st))) : own_G w p l e R s m args below meth c Z Q h k n (mkF m pc Ls (.int x :: st)) := by
  obtain ⟨hd, rfl⟩ := hd
  exact own_pure K (fun X _ _ _ _ q => XT.i2l X.here K.1 rfl (hb K.2.1 hd) rfl q) hr
theorem own_l2i (K : own_Cx p s m meth c Z own nm bytes maxL ret) {x : Int64} (hd : own_D bytes pc (.l2i) 1 pc') (hr : own_G w p l e R s m args below meth c Z Q h k n (mkF m pc' Ls (.int (x.toInt32) :: st))) : own_G w p l e R s m args below meth c Z Q h k n (mkF m pc Ls (.long x :: st)) := by
  obtain ⟨hd, rfl⟩ := hd
  exact own_pure K (fun X _ _ _ _ q => XT.l2i X.here K.1 rfl (hb K.2.1 hd) rfl q) hr
theorem own_i2b (K : own_Cx p s m meth c Z own nm bytes maxL ret) {x : Int32} (hd : own_D bytes pc (.i2b) 1 pc') (hr : own_G w p l e R s m args below meth c Z Q h k n (mkF m pc' Ls (.int (x.toInt8.toInt32) :: st))) : own_G w p l e R s m args below meth c Z Q h k n (mkF m pc Ls (.int x :: st)) := by
  obtain ⟨hd, rfl⟩ := hd
  exact own_pure K (fun X _ _ _ _ q => XT.i2b X.here K.1 rfl (hb K.2.1 hd) rfl q) hr
theorem own_i2c (K : own_Cx p s m meth c Z own nm bytes maxL ret) {x : Int32} (hd : own_D bytes pc (.i2c) 1 pc') (hr : own_G w p l e R s m args below meth c Z Q h k n (mkF m pc' Ls (.int (x.toUInt32.toUInt16.toUInt32.toInt32) :: st))) : own_G w p l e R s m args below meth c Z Q h k n (mkF m pc Ls (.int x :: st)) := by
  obtain ⟨hd, rfl⟩ := hd
  exact own_pure K (fun X _ _ _ _ q => XT.i2c X.here K.1 rfl (hb K.2.1 hd) rfl q) hr
theorem own_i2s (K : own_Cx p s m meth c Z own nm bytes maxL ret) {x : Int32} (hd : own_D bytes pc (.i2s) 1 pc') (hr : own_G w p l e R s m args below meth c Z Q h k n (mkF m pc' Ls (.int (x.toInt16.toInt32) :: st))) : own_G w p l e R s m args below meth c Z Q h k n (mkF m pc Ls (.int x :: st)) := by
  obtain ⟨hd, rfl⟩ := hd
  exact own_pure K (fun X _ _ _ _ q => XT.i2s X.here K.1 rfl (hb K.2.1 hd) rfl q) hr
theorem own_i2d (K : own_Cx p s m meth c Z own nm bytes maxL ret) {x : Int32} (hd : own_D bytes pc (.i2d) 1 pc') (hr : own_G w p l e R s m args below meth c Z Q h k n (mkF m pc' Ls (.double (FP.i2d x) :: st))) : own_G w p l e R s m args below meth c Z Q h k n (mkF m pc Ls (.int x :: st)) := by
  obtain ⟨hd, rfl⟩ := hd
  exact own_pure K (fun X _ _ _ _ q => XS.i2dS X.here K.1 rfl (hb K.2.1 hd) rfl rfl q) hr
theorem own_l2d (K : own_Cx p s m meth c Z own nm bytes maxL ret) {x : Int64} (hd : own_D bytes pc (.l2d) 1 pc') (hr : own_G w p l e R s m args below meth c Z Q h k n (mkF m pc' Ls (.double (FP.l2d x) :: st))) : own_G w p l e R s m args below meth c Z Q h k n (mkF m pc Ls (.long x :: st)) := by
  obtain ⟨hd, rfl⟩ := hd
  exact own_pure K (fun X _ _ _ _ q => XS.l2dS X.here K.1 rfl (hb K.2.1 hd) rfl rfl q) hr
theorem own_dneg (K : own_Cx p s m meth c Z own nm bytes maxL ret) {x : UInt64} (hd : own_D bytes pc (.dneg) 1 pc') (hr : own_G w p l e R s m args below meth c Z Q h k n (mkF m pc' Ls (.double (FP.dneg x) :: st))) : own_G w p l e R s m args below meth c Z Q h k n (mkF m pc Ls (.double x :: st)) := by
  obtain ⟨hd, rfl⟩ := hd
  exact own_pure K (fun X _ _ _ _ q => XS.dnegS X.here K.1 rfl (hb K.2.1 hd) rfl rfl q) hr
theorem own_dcmp (K : own_Cx p s m meth c Z own nm bytes maxL ret) {oo : CmpOp} {x y : UInt64} (hd : own_D bytes pc (.dcmp oo) 1 pc') (hr : own_G w p l e R s m args below meth c Z Q h k n (mkF m pc' Ls (.int (cmpValue (FP.dcmp x y) oo) :: st))) : own_G w p l e R s m args below meth c Z Q h k n (mkF m pc Ls (.double y :: .double x :: st)) := by
  obtain ⟨hd, rfl⟩ := hd
  exact own_pure K (fun X _ _ _ _ q => XS.dcmpS X.here K.1 rfl (hb K.2.1 hd) rfl rfl q) hr
theorem own_dadd (K : own_Cx p s m meth c Z own nm bytes maxL ret) {x y : UInt64} (hd : own_D bytes pc (.dadd) 1 pc') (hn : Jvm.Free.Fl.NoNaN64 (FP.dadd x y)) (hr : own_G w p l e R s m args below meth c Z Q h k n (mkF m pc' Ls (.double (FP.dadd x y) :: st))) : own_G w p l e R s m args below meth c Z Q h k n (mkF m pc Ls (.double y :: .double x :: st)) := by
  obtain ⟨hd, rfl⟩ := hd
  exact own_pure K (fun X _ _ _ _ q => XS.daddS X.here K.1 rfl (hb K.2.1 hd) rfl hn rfl q) hr
theorem own_dsub (K : own_Cx p s m meth c Z own nm bytes maxL ret) {x y : UInt64} (hd : own_D bytes pc (.dsub) 1 pc') (hn : Jvm.Free.Fl.NoNaN64 (FP.dsub x y)) (hr : own_G w p l e R s m args below meth c Z Q h k n (mkF m pc' Ls (.double (FP.dsub x y) :: st))) : own_G w p l e R s m args below meth c Z Q h k n (mkF m pc Ls (.double y :: .double x :: st)) := by
  obtain ⟨hd, rfl⟩ := hd
  exact own_pure K (fun X _ _ _ _ q => XS.dsubS X.here K.1 rfl (hb K.2.1 hd) rfl hn rfl q) hr
theorem own_dmul (K : own_Cx p s m meth c Z own nm bytes maxL ret) {x y : UInt64} (hd : own_D bytes pc (.dmul) 1 pc') (hn : Jvm.Free.Fl.NoNaN64 (FP.dmul x y)) (hr : own_G w p l e R s m args below meth c Z Q h k n (mkF m pc' Ls (.double (FP.dmul x y) :: st))) : own_G w p l e R s m args below meth c Z Q h k n (mkF m pc Ls (.double y :: .double x :: st)) := by
  obtain ⟨hd, rfl⟩ := hd
  exact own_pure K (fun X _ _ _ _ q => XS.dmulS X.here K.1 rfl (hb K.2.1 hd) rfl hn rfl q) hr
theorem own_ddiv (K : own_Cx p s m meth c Z own nm bytes maxL ret) {x y : UInt64} (hd : own_D bytes pc (.ddiv) 1 pc') (hn : Jvm.Free.Fl.NoNaN64 (FP.ddiv x y)) (hr : own_G w p l e R s m args below meth c Z Q h k n (mkF m pc' Ls (.double (FP.ddiv x y) :: st))) : own_G w p l e R s m args below meth c Z Q h k n (mkF m pc Ls (.double y :: .double x :: st)) := by
  obtain ⟨hd, rfl⟩ := hd
  exact own_pure K (fun X _ _ _ _ q => XS.ddivS X.here K.1 rfl (hb K.2.1 hd) rfl hn rfl q) hr
theorem own_dup (K : own_Cx p s m meth c Z own nm bytes maxL ret) {x : Value} (hd : own_D bytes pc (.dup) 1 pc') (hc : x.category = 1) (hr : own_G w p l e R s m args below meth c Z Q h k n (mkF m pc' Ls (x :: x :: st))) : own_G w p l e R s m args below meth c Z Q h k n (mkF m pc Ls (x :: st)) := by
  obtain ⟨hd, rfl⟩ := hd
  exact own_pure K (fun X _ _ _ _ q => XS.dup X.here K.1 rfl (hb K.2.1 hd) rfl hc q) hr
theorem own_pop (K : own_Cx p s m meth c Z own nm bytes maxL ret) {x : Value} (hd : own_D bytes pc (.pop) 1 pc') (hc : x.category = 1) (hr : own_G w p l e R s m args below meth c Z Q h k n (mkF m pc' Ls (st))) : own_G w p l e R s m args below meth c Z Q h k n (mkF m pc Ls (x :: st)) := by
  obtain ⟨hd, rfl⟩ := hd
  exact own_pure K (fun X _ _ _ _ q => XT.pop X.here K.1 rfl (hb K.2.1 hd) rfl hc q) hr
theorem own_dupX1 (K : own_Cx p s m meth c Z own nm bytes maxL ret) {x y : Value} (hd : own_D bytes pc (.dup_x1) 1 pc') (hc : x.category = 1) (hc' : y.category = 1) (hr : own_G w p l e R s m args below meth c Z Q h k n (mkF m pc' Ls (x :: y :: x :: st))) : own_G w p l e R s m args below meth c Z Q h k n (mkF m pc Ls (x :: y :: st)) := by
  obtain ⟨hd, rfl⟩ := hd
  exact own_pure K (fun X _ _ _ _ q => XT.dupX1 X.here K.1 rfl (hb K.2.1 hd) rfl hc hc' q) hr
theorem own_dup2 (K : own_Cx p s m meth c Z own nm bytes maxL ret) {x y : Value} (hd : own_D bytes pc (.dup2) 1 pc') (hc : x.category = 1) (hc' : y.category = 1) (hr : own_G w p l e R s m args below meth c Z Q h k n (mkF m pc' Ls (x :: y :: x :: y :: st))) : own_G w p l e R s m args below meth c Z Q h k n (mkF m pc Ls (x :: y :: st)) := by
  obtain ⟨hd, rfl⟩ := hd
  exact own_pure K (fun X _ _ _ _ q => XT.dup2 X.here K.1 rfl (hb K.2.1 hd) rfl hc hc' q) hr
theorem own_iinc (K : own_Cx p s m meth c Z own nm bytes maxL ret) {kk : Nat} {cst : Int} {x y : Int32} (hd : own_D bytes pc (.iinc kk cst) 3 pc') (hl : Ls[kk]? = some (.val (.int x))) (hy : x + Int32.ofInt cst = y) (hl' : storeLocals Ls kk (.int y) = some Ls') (hr : own_G w p l e R s m args below meth c Z Q h k n (mkF m pc' Ls' st)) : own_G w p l e R s m args below meth c Z Q h k n (mkF m pc Ls st) := by
  obtain ⟨hd, rfl⟩ := hd
  subst hy
  exact own_pure K (fun X _ _ _ _ q => XS.iinc X.here K.1 rfl (hb K.2.1 hd) hl hl' q) hr
theorem own_goto (K : own_Cx p s m meth c Z own nm bytes maxL ret) {off : Int} {pcF : Nat} (hd : own_B bytes pc (.goto off) off pcF pcT) (hr : own_G w p l e R s m args below meth c Z Q h k n (mkF m pcT Ls st)) : own_G w p l e R s m args below meth c Z Q h k n (mkF m pc Ls st) := by
  obtain ⟨hd, -, h1, h2⟩ := hd
  exact own_pure K (fun X _ _ _ _ q => XS.goto X.here K.1 rfl rfl (hb K.2.1 hd) h1 h2 q) hr
theorem own_ldcI (K : own_Cx p s m meth c Z own nm bytes maxL ret) {i : Nat} {v : Int32} (hd : own_D bytes pc (.ldc i) 2 pc') (wc : (Cond.constant own i v).before a0 Z = true) (hr : own_G w p l e R s m args below meth c Z Q h k n (mkF m pc' Ls (.int v :: st))) : own_G w p l e R s m args below meth c Z Q h k n (mkF m pc Ls st) := by
  obtain ⟨hd, rfl⟩ := hd
  exact own_pure K (fun X hZ ho _ _ q => X.ldcI K.1 ho (mvT hZ wc) rfl (hb K.2.1 hd) q) hr
theorem own_ldc2J (K : own_Cx p s m meth c Z own nm bytes maxL ret) {i : Nat} {v : Int64} (hd : own_D bytes pc (.ldc2_w i) 3 pc') (wc : (Cond.constantLong own i v).before a0 Z = true) (hr : own_G w p l e R s m args below meth c Z Q h k n (mkF m pc' Ls (.long v :: st))) : own_G w p l e R s m args below meth c Z Q h k n (mkF m pc Ls st) := by
  obtain ⟨hd, rfl⟩ := hd
  exact own_pure K (fun X hZ ho _ _ q => X.ldc2J K.1 ho (mvT hZ wc) rfl (hb K.2.1 hd) q) hr
theorem own_ldc2D (K : own_Cx p s m meth c Z own nm bytes maxL ret) {i : Nat} {v : UInt64} (hd : own_D bytes pc (.ldc2_w i) 3 pc') (wc : (Cond.constantDouble own i v).before a0 Z = true) (hr : own_G w p l e R s m args below meth c Z Q h k n (mkF m pc' Ls (.double v :: st))) : own_G w p l e R s m args below meth c Z Q h k n (mkF m pc Ls st) := by
  obtain ⟨hd, rfl⟩ := hd
  exact own_pure K (fun X hZ ho _ _ q => X.ldc2DoubleC K.1 ho (mvT hZ wc) (g := mkF m pc Ls st) rfl (hb K.2.1 hd) _ q) hr
theorem own_i0_eq (x : Int32) : (ifCond.holds .eq x = true) = (x = 0) := by simp [ifCond.holds, Int32.lt_iff_toInt_lt, Int32.le_iff_toInt_le]
theorem own_ii_eq (x y : Int32) : (if_icmp.holds .eq x y = true) = (x = y) := by simp [if_icmp.holds, Int32.lt_iff_toInt_lt, Int32.le_iff_toInt_le]
theorem own_ifeq (K : own_Cx p s m meth c Z own nm bytes maxL ret) {off : Int} {pcF : Nat} {x : Int32} (hd : own_B bytes pc (.ifCond .eq off) off pcF pcT) (hT : (x = 0) → own_G w p l e R s m args below meth c Z Q h k n (mkF m pcT Ls st)) (hF : ¬ (x = 0) → own_G w p l e R s m args below meth c Z Q h k n (mkF m pcF Ls st)) : own_G w p l e R s m args below meth c Z Q h k n (mkF m pc Ls (.int x :: st)) := by
  obtain ⟨hd, rfl, h1, h2⟩ := hd
  by_cases q : ifCond.holds .eq x = true
  · exact own_pure K (fun X _ _ _ _ r => XS.ifYes X.here K.1 rfl rfl (hb K.2.1 hd) rfl q h1 h2 r) (hT ((own_i0_eq x).mp q))
  · exact own_pure K (fun X _ _ _ _ r => XS.ifNo X.here K.1 rfl (hb K.2.1 hd) rfl (Bool.eq_false_iff.mpr q) r) (hF fun z => q ((own_i0_eq x).mpr z))
theorem own_icmpeq (K : own_Cx p s m meth c Z own nm bytes maxL ret) {off : Int} {pcF : Nat} {x y : Int32} (hd : own_B bytes pc (.if_icmp .eq off) off pcF pcT) (hT : (x = y) → own_G w p l e R s m args below meth c Z Q h k n (mkF m pcT Ls st)) (hF : ¬ (x = y) → own_G w p l e R s m args below meth c Z Q h k n (mkF m pcF Ls st)) : own_G w p l e R s m args below meth c Z Q h k n (mkF m pc Ls (.int y :: .int x :: st)) := by
  obtain ⟨hd, rfl, h1, h2⟩ := hd
  by_cases q : if_icmp.holds .eq x y = true
  · exact own_pure K (fun X _ _ _ _ r => XS.icmpYes X.here K.1 rfl rfl (hb K.2.1 hd) rfl q h1 h2 r) (hT ((own_ii_eq x y).mp q))
  · exact own_pure K (fun X _ _ _ _ r => XS.icmpNo X.here K.1 rfl (hb K.2.1 hd) rfl (Bool.eq_false_iff.mpr q) r) (hF fun z => q ((own_ii_eq x y).mpr z))
theorem own_i0_ne (x : Int32) : (ifCond.holds .ne x = true) = (x ≠ 0) := by simp [ifCond.holds, Int32.lt_iff_toInt_lt, Int32.le_iff_toInt_le]
theorem own_ii_ne (x y : Int32) : (if_icmp.holds .ne x y = true) = (x ≠ y) := by simp [if_icmp.holds, Int32.lt_iff_toInt_lt, Int32.le_iff_toInt_le]
theorem own_ifne (K : own_Cx p s m meth c Z own nm bytes maxL ret) {off : Int} {pcF : Nat} {x : Int32} (hd : own_B bytes pc (.ifCond .ne off) off pcF pcT) (hT : (x ≠ 0) → own_G w p l e R s m args below meth c Z Q h k n (mkF m pcT Ls st)) (hF : ¬ (x ≠ 0) → own_G w p l e R s m args below meth c Z Q h k n (mkF m pcF Ls st)) : own_G w p l e R s m args below meth c Z Q h k n (mkF m pc Ls (.int x :: st)) := by
  obtain ⟨hd, rfl, h1, h2⟩ := hd
  by_cases q : ifCond.holds .ne x = true
  · exact own_pure K (fun X _ _ _ _ r => XS.ifYes X.here K.1 rfl rfl (hb K.2.1 hd) rfl q h1 h2 r) (hT ((own_i0_ne x).mp q))
  · exact own_pure K (fun X _ _ _ _ r => XS.ifNo X.here K.1 rfl (hb K.2.1 hd) rfl (Bool.eq_false_iff.mpr q) r) (hF fun z => q ((own_i0_ne x).mpr z))
theorem own_icmpne (K : own_Cx p s m meth c Z own nm bytes maxL ret) {off : Int} {pcF : Nat} {x y : Int32} (hd : own_B bytes pc (.if_icmp .ne off) off pcF pcT) (hT : (x ≠ y) → own_G w p l e R s m args below meth c Z Q h k n (mkF m pcT Ls st)) (hF : ¬ (x ≠ y) → own_G w p l e R s m args below meth c Z Q h k n (mkF m pcF Ls st)) : own_G w p l e R s m args below meth c Z Q h k n (mkF m pc Ls (.int y :: .int x :: st)) := by
  obtain ⟨hd, rfl, h1, h2⟩ := hd
  by_cases q : if_icmp.holds .ne x y = true
  · exact own_pure K (fun X _ _ _ _ r => XS.icmpYes X.here K.1 rfl rfl (hb K.2.1 hd) rfl q h1 h2 r) (hT ((own_ii_ne x y).mp q))
  · exact own_pure K (fun X _ _ _ _ r => XS.icmpNo X.here K.1 rfl (hb K.2.1 hd) rfl (Bool.eq_false_iff.mpr q) r) (hF fun z => q ((own_ii_ne x y).mpr z))
theorem own_i0_lt (x : Int32) : (ifCond.holds .lt x = true) = (x.toInt < 0) := by simp [ifCond.holds, Int32.lt_iff_toInt_lt, Int32.le_iff_toInt_le]
theorem own_ii_lt (x y : Int32) : (if_icmp.holds .lt x y = true) = (x.toInt < y.toInt) := by simp [if_icmp.holds, Int32.lt_iff_toInt_lt, Int32.le_iff_toInt_le]
theorem own_iflt (K : own_Cx p s m meth c Z own nm bytes maxL ret) {off : Int} {pcF : Nat} {x : Int32} (hd : own_B bytes pc (.ifCond .lt off) off pcF pcT) (hT : (x.toInt < 0) → own_G w p l e R s m args below meth c Z Q h k n (mkF m pcT Ls st)) (hF : ¬ (x.toInt < 0) → own_G w p l e R s m args below meth c Z Q h k n (mkF m pcF Ls st)) : own_G w p l e R s m args below meth c Z Q h k n (mkF m pc Ls (.int x :: st)) := by
  obtain ⟨hd, rfl, h1, h2⟩ := hd
  by_cases q : ifCond.holds .lt x = true
  · exact own_pure K (fun X _ _ _ _ r => XS.ifYes X.here K.1 rfl rfl (hb K.2.1 hd) rfl q h1 h2 r) (hT ((own_i0_lt x).mp q))
  · exact own_pure K (fun X _ _ _ _ r => XS.ifNo X.here K.1 rfl (hb K.2.1 hd) rfl (Bool.eq_false_iff.mpr q) r) (hF fun z => q ((own_i0_lt x).mpr z))
theorem own_icmplt (K : own_Cx p s m meth c Z own nm bytes maxL ret) {off : Int} {pcF : Nat} {x y : Int32} (hd : own_B bytes pc (.if_icmp .lt off) off pcF pcT) (hT : (x.toInt < y.toInt) → own_G w p l e R s m args below meth c Z Q h k n (mkF m pcT Ls st)) (hF : ¬ (x.toInt < y.toInt) → own_G w p l e R s m args below meth c Z Q h k n (mkF m pcF Ls st)) : own_G w p l e R s m args below meth c Z Q h k n (mkF m pc Ls (.int y :: .int x :: st)) := by
  obtain ⟨hd, rfl, h1, h2⟩ := hd
  by_cases q : if_icmp.holds .lt x y = true
  · exact own_pure K (fun X _ _ _ _ r => XS.icmpYes X.here K.1 rfl rfl (hb K.2.1 hd) rfl q h1 h2 r) (hT ((own_ii_lt x y).mp q))
  · exact own_pure K (fun X _ _ _ _ r => XS.icmpNo X.here K.1 rfl (hb K.2.1 hd) rfl (Bool.eq_false_iff.mpr q) r) (hF fun z => q ((own_ii_lt x y).mpr z))
theorem own_i0_ge (x : Int32) : (ifCond.holds .ge x = true) = (0 ≤ x.toInt) := by simp [ifCond.holds, Int32.lt_iff_toInt_lt, Int32.le_iff_toInt_le]
theorem own_ii_ge (x y : Int32) : (if_icmp.holds .ge x y = true) = (y.toInt ≤ x.toInt) := by simp [if_icmp.holds, Int32.lt_iff_toInt_lt, Int32.le_iff_toInt_le]
theorem own_ifge (K : own_Cx p s m meth c Z own nm bytes maxL ret) {off : Int} {pcF : Nat} {x : Int32} (hd : own_B bytes pc (.ifCond .ge off) off pcF pcT) (hT : (0 ≤ x.toInt) → own_G w p l e R s m args below meth c Z Q h k n (mkF m pcT Ls st)) (hF : ¬ (0 ≤ x.toInt) → own_G w p l e R s m args below meth c Z Q h k n (mkF m pcF Ls st)) : own_G w p l e R s m args below meth c Z Q h k n (mkF m pc Ls (.int x :: st)) := by
  obtain ⟨hd, rfl, h1, h2⟩ := hd
  by_cases q : ifCond.holds .ge x = true
  · exact own_pure K (fun X _ _ _ _ r => XS.ifYes X.here K.1 rfl rfl (hb K.2.1 hd) rfl q h1 h2 r) (hT ((own_i0_ge x).mp q))
  · exact own_pure K (fun X _ _ _ _ r => XS.ifNo X.here K.1 rfl (hb K.2.1 hd) rfl (Bool.eq_false_iff.mpr q) r) (hF fun z => q ((own_i0_ge x).mpr z))
theorem own_icmpge (K : own_Cx p s m meth c Z own nm bytes maxL ret) {off : Int} {pcF : Nat} {x y : Int32} (hd : own_B bytes pc (.if_icmp .ge off) off pcF pcT) (hT : (y.toInt ≤ x.toInt) → own_G w p l e R s m args below meth c Z Q h k n (mkF m pcT Ls st)) (hF : ¬ (y.toInt ≤ x.toInt) → own_G w p l e R s m args below meth c Z Q h k n (mkF m pcF Ls st)) : own_G w p l e R s m args below meth c Z Q h k n (mkF m pc Ls (.int y :: .int x :: st)) := by
  obtain ⟨hd, rfl, h1, h2⟩ := hd
  by_cases q : if_icmp.holds .ge x y = true
  · exact own_pure K (fun X _ _ _ _ r => XS.icmpYes X.here K.1 rfl rfl (hb K.2.1 hd) rfl q h1 h2 r) (hT ((own_ii_ge x y).mp q))
  · exact own_pure K (fun X _ _ _ _ r => XS.icmpNo X.here K.1 rfl (hb K.2.1 hd) rfl (Bool.eq_false_iff.mpr q) r) (hF fun z => q ((own_ii_ge x y).mpr z))
theorem own_i0_gt (x : Int32) : (ifCond.holds .gt x = true) = (0 < x.toInt) := by simp [ifCond.holds, Int32.lt_iff_toInt_lt, Int32.le_iff_toInt_le]
theorem own_ii_gt (x y : Int32) : (if_icmp.holds .gt x y = true) = (y.toInt < x.toInt) := by simp [if_icmp.holds, Int32.lt_iff_toInt_lt, Int32.le_iff_toInt_le]
theorem own_ifgt (K : own_Cx p s m meth c Z own nm bytes maxL ret) {off : Int} {pcF : Nat} {x : Int32} (hd : own_B bytes pc (.ifCond .gt off) off pcF pcT) (hT : (0 < x.toInt) → own_G w p l e R s m args below meth c Z Q h k n (mkF m pcT Ls st)) (hF : ¬ (0 < x.toInt) → own_G w p l e R s m args below meth c Z Q h k n (mkF m pcF Ls st)) : own_G w p l e R s m args below meth c Z Q h k n (mkF m pc Ls (.int x :: st)) := by
  obtain ⟨hd, rfl, h1, h2⟩ := hd
  by_cases q : ifCond.holds .gt x = true
  · exact own_pure K (fun X _ _ _ _ r => XS.ifYes X.here K.1 rfl rfl (hb K.2.1 hd) rfl q h1 h2 r) (hT ((own_i0_gt x).mp q))
  · exact own_pure K (fun X _ _ _ _ r => XS.ifNo X.here K.1 rfl (hb K.2.1 hd) rfl (Bool.eq_false_iff.mpr q) r) (hF fun z => q ((own_i0_gt x).mpr z))
theorem own_icmpgt (K : own_Cx p s m meth c Z own nm bytes maxL ret) {off : Int} {pcF : Nat} {x y : Int32} (hd : own_B bytes pc (.if_icmp .gt off) off pcF pcT) (hT : (y.toInt < x.toInt) → own_G w p l e R s m args below meth c Z Q h k n (mkF m pcT Ls st)) (hF : ¬ (y.toInt < x.toInt) → own_G w p l e R s m args below meth c Z Q h k n (mkF m pcF Ls st)) : own_G w p l e R s m args below meth c Z Q h k n (mkF m pc Ls (.int y :: .int x :: st)) := by
  obtain ⟨hd, rfl, h1, h2⟩ := hd
  by_cases q : if_icmp.holds .gt x y = true
  · exact own_pure K (fun X _ _ _ _ r => XS.icmpYes X.here K.1 rfl rfl (hb K.2.1 hd) rfl q h1 h2 r) (hT ((own_ii_gt x y).mp q))
  · exact own_pure K (fun X _ _ _ _ r => XS.icmpNo X.here K.1 rfl (hb K.2.1 hd) rfl (Bool.eq_false_iff.mpr q) r) (hF fun z => q ((own_ii_gt x y).mpr z))
theorem own_i0_le (x : Int32) : (ifCond.holds .le x = true) = (x.toInt ≤ 0) := by simp [ifCond.holds, Int32.lt_iff_toInt_lt, Int32.le_iff_toInt_le]
theorem own_ii_le (x y : Int32) : (if_icmp.holds .le x y = true) = (x.toInt ≤ y.toInt) := by simp [if_icmp.holds, Int32.lt_iff_toInt_lt, Int32.le_iff_toInt_le]
theorem own_ifle (K : own_Cx p s m meth c Z own nm bytes maxL ret) {off : Int} {pcF : Nat} {x : Int32} (hd : own_B bytes pc (.ifCond .le off) off pcF pcT) (hT : (x.toInt ≤ 0) → own_G w p l e R s m args below meth c Z Q h k n (mkF m pcT Ls st)) (hF : ¬ (x.toInt ≤ 0) → own_G w p l e R s m args below meth c Z Q h k n (mkF m pcF Ls st)) : own_G w p l e R s m args below meth c Z Q h k n (mkF m pc Ls (.int x :: st)) := by
  obtain ⟨hd, rfl, h1, h2⟩ := hd
  by_cases q : ifCond.holds .le x = true
  · exact own_pure K (fun X _ _ _ _ r => XS.ifYes X.here K.1 rfl rfl (hb K.2.1 hd) rfl q h1 h2 r) (hT ((own_i0_le x).mp q))
  · exact own_pure K (fun X _ _ _ _ r => XS.ifNo X.here K.1 rfl (hb K.2.1 hd) rfl (Bool.eq_false_iff.mpr q) r) (hF fun z => q ((own_i0_le x).mpr z))
theorem own_icmple (K : own_Cx p s m meth c Z own nm bytes maxL ret) {off : Int} {pcF : Nat} {x y : Int32} (hd : own_B bytes pc (.if_icmp .le off) off pcF pcT) (hT : (x.toInt ≤ y.toInt) → own_G w p l e R s m args below meth c Z Q h k n (mkF m pcT Ls st)) (hF : ¬ (x.toInt ≤ y.toInt) → own_G w p l e R s m args below meth c Z Q h k n (mkF m pcF Ls st)) : own_G w p l e R s m args below meth c Z Q h k n (mkF m pc Ls (.int y :: .int x :: st)) := by
  obtain ⟨hd, rfl, h1, h2⟩ := hd
  by_cases q : if_icmp.holds .le x y = true
  · exact own_pure K (fun X _ _ _ _ r => XS.icmpYes X.here K.1 rfl rfl (hb K.2.1 hd) rfl q h1 h2 r) (hT ((own_ii_le x y).mp q))
  · exact own_pure K (fun X _ _ _ _ r => XS.icmpNo X.here K.1 rfl (hb K.2.1 hd) rfl (Bool.eq_false_iff.mpr q) r) (hF fun z => q ((own_ii_le x y).mpr z))
theorem own_ifnullN (K : own_Cx p s m meth c Z own nm bytes maxL ret) {off : Int} {pcF : Nat} (hd : own_B bytes pc (.ifnull off) off pcF pcT) (hr : own_G w p l e R s m args below meth c Z Q h k n (mkF m pcT Ls st)) : own_G w p l e R s m args below meth c Z Q h k n (mkF m pc Ls (.null :: st)) := by
  obtain ⟨hd, rfl, h1, h2⟩ := hd
  exact own_pure K (fun X _ _ _ _ r => XS.ifnullYes X.here K.1 rfl rfl (hb K.2.1 hd) rfl h1 h2 r) hr
theorem own_ifnullR (K : own_Cx p s m meth c Z own nm bytes maxL ret) {off : Int} {pcF : Nat} {b : Addr} (hd : own_B bytes pc (.ifnull off) off pcF pcT) (hr : own_G w p l e R s m args below meth c Z Q h k n (mkF m pcF Ls st)) : own_G w p l e R s m args below meth c Z Q h k n (mkF m pc Ls (.ref b :: st)) := by
  obtain ⟨hd, rfl, h1, h2⟩ := hd
  exact own_pure K (fun X _ _ _ _ r => XS.ifnullNo X.here K.1 rfl (hb K.2.1 hd) rfl r) hr
theorem own_ifnonnullN (K : own_Cx p s m meth c Z own nm bytes maxL ret) {off : Int} {pcF : Nat} (hd : own_B bytes pc (.ifnonnull off) off pcF pcT) (hr : own_G w p l e R s m args below meth c Z Q h k n (mkF m pcF Ls st)) : own_G w p l e R s m args below meth c Z Q h k n (mkF m pc Ls (.null :: st)) := by
  obtain ⟨hd, rfl, h1, h2⟩ := hd
  exact own_pure K (fun X _ _ _ _ r => XT.ifnonnullNo X.here K.1 rfl (hb K.2.1 hd) rfl r) hr
theorem own_ifnonnullR (K : own_Cx p s m meth c Z own nm bytes maxL ret) {off : Int} {pcF : Nat} {b : Addr} (hd : own_B bytes pc (.ifnonnull off) off pcF pcT) (hr : own_G w p l e R s m args below meth c Z Q h k n (mkF m pcT Ls st)) : own_G w p l e R s m args below meth c Z Q h k n (mkF m pc Ls (.ref b :: st)) := by
  obtain ⟨hd, rfl, h1, h2⟩ := hd
  exact own_pure K (fun X _ _ _ _ r => XT.ifnonnullYes X.here K.1 rfl rfl (hb K.2.1 hd) rfl h1 h2 r) hr
theorem own_acmpeq (K : own_Cx p s m meth c Z own nm bytes maxL ret) {off : Int} {pcF : Nat} {x y : Value} (hd : own_B bytes pc (.if_acmp .eq off) off pcF pcT) (h1' : x.isRef = true) (h2' : y.isRef = true) (hT : (x = y) → own_G w p l e R s m args below meth c Z Q h k n (mkF m pcT Ls st)) (hF : ¬ (x = y) → own_G w p l e R s m args below meth c Z Q h k n (mkF m pcF Ls st)) : own_G w p l e R s m args below meth c Z Q h k n (mkF m pc Ls (y :: x :: st)) := by
  obtain ⟨hd, rfl, h1, h2⟩ := hd
  by_cases q : x = y
  · exact own_pure K (fun X _ _ _ _ r => XT.acmpYes X.here K.1 rfl rfl (hb K.2.1 hd) rfl h1' h2' (decide_eq_true q) h1 h2 r) (hT q)
  · exact own_pure K (fun X _ _ _ _ r => XT.acmpNo X.here K.1 rfl (hb K.2.1 hd) rfl h1' h2' (decide_eq_false q) r) (hF q)
theorem own_acmpne (K : own_Cx p s m meth c Z own nm bytes maxL ret) {off : Int} {pcF : Nat} {x y : Value} (hd : own_B bytes pc (.if_acmp .ne off) off pcF pcT) (h1' : x.isRef = true) (h2' : y.isRef = true) (hT : (x ≠ y) → own_G w p l e R s m args below meth c Z Q h k n (mkF m pcT Ls st)) (hF : ¬ (x ≠ y) → own_G w p l e R s m args below meth c Z Q h k n (mkF m pcF Ls st)) : own_G w p l e R s m args below meth c Z Q h k n (mkF m pc Ls (y :: x :: st)) := by
  obtain ⟨hd, rfl, h1, h2⟩ := hd
  by_cases q : x ≠ y
  · exact own_pure K (fun X _ _ _ _ r => XT.acmpYes X.here K.1 rfl rfl (hb K.2.1 hd) rfl h1' h2' (decide_eq_true q) h1 h2 r) (hT q)
  · exact own_pure K (fun X _ _ _ _ r => XT.acmpNo X.here K.1 rfl (hb K.2.1 hd) rfl h1' h2' (decide_eq_false q) r) (hF q)
theorem own_getfield (K : own_Cx p s m meth c Z own nm bytes maxL ret) {i j q : Nat} {R0 O f d host C : String} {v : Value} {a : Addr} {fs : List (String × String × String × Value)} (hd : own_D bytes pc (.getfield i) 3 pc') (wl : (Cond.fieldLink own i R0 f d).before a0 Z = true ∨ (Cond.fieldLinkNest own i R0 f d host).before a0 Z = true) (via : Via Z R0 O f d) (H : own_H Z h os as) (ho : os[j]? = some (a, C, fs)) (hf : fs[q]? = some (O, f, d, v)) (hr : own_G w p l e R s m args below meth c Z Q h k n (mkF m pc' Ls (v :: st))) : own_G w p l e R s m args below meth c Z Q h k n (mkF m pc Ls (.ref a :: st)) := by
  obtain ⟨hd, rfl⟩ := hd
  refine own_step K (P := fun h' => h' = h) (fun X hZ hw eT N => ?_) (fun h' e => by subst e; exact hr)
  obtain ⟨T', X', e', st⟩ := getF X K.1 hZ hw wl via eT (H.fld ho hf) (g := mkF m pc Ls (.ref a :: st)) rfl rfl (hb K.2.1 hd)
  exact ⟨T', _, _, X', N, e', Nat.le_refl _, rfl, st⟩
theorem own_putfield (K : own_Cx p s m meth c Z own nm bytes maxL ret) {i j q kk : Nat} {R0 O f d host C : String} {v v0 : Value} {a : Addr} {fs : List (String × String × String × Value)} {ty : FieldType} (hd : own_D bytes pc (.putfield i) 3 pc') (wl : (Cond.fieldLink own i R0 f d).before a0 Z = true ∨ (Cond.fieldLinkNest own i R0 f d host).before a0 Z = true) (via : Via Z R0 O f d) (H : own_H Z h os as) (ho : os[j]? = some (a, C, fs)) (hf : fs[q]? = some (O, f, d, v0))
    (L : (Cond.lays C O f d).before a0 Z = true ∨ ((Cond.laysFinal C O f d).before a0 Z = true ∧ own = O ∧ nm = "<init>")) (wi : (Cond.instantiable C kk).before a0 Z = true) (hty : parseFieldDescriptor d = some ty) (hn : narrow ty v = v) (hfit : fits ty v = true) (hr : ∀ h', own_H Z h' (os.set j (a, C, fs.set q (O, f, d, v))) as → own_G w p l e R s m args below meth c Z Q h' k n (mkF m pc' Ls st)) (hro : own_ro (a, C, fs) = false := by rfl) : own_G w p l e R s m args below meth c Z Q h k n (mkF m pc Ls (v :: .ref a :: st)) := by
  obtain ⟨hd, rfl⟩ := hd
  refine own_step K (P := fun h' => own_H Z h' (os.set j (a, C, fs.set q (O, f, d, v))) as) (fun X hZ hw eT N => ?_) hr
  obtain ⟨T', h', X', e', W, st⟩ := putF X K.1 hZ hw wl via eT (H.fld ho hf) (H.atO ho) (L.imp id (fun z => ⟨z.1, z.2.1, K.2.2.2.2.2.2.2.trans z.2.2⟩)) wi hty hn hfit (g := mkF m pc Ls (v :: .ref a :: st)) rfl rfl (hb K.2.1 hd)
  exact ⟨T', h', _, X', Fr.snoc X' N (H.newO ho hro), e', Nat.le_of_eq (Wr.size W).symm, H.wrO hro ho hf W, st⟩
theorem own_new (K : own_Cx p s m meth c Z own nm bytes maxL ret) {i kk : Nat} {C : String} {fs : List (String × String × String × Value)} (hd : own_D bytes pc (.new i) 3 pc') (w1 : (Cond.classLink own i C).before a0 Z = true) (w2 : (Cond.instantiable C kk).before a0 Z = true) (w3 : (Cond.initialized C).before a0 Z = true) (H : own_H Z h os as)
    (hF : ∀ f ∈ fs, Laid Z a0 C f.1 f.2.1 f.2.2.1 ∧ ∃ ty, parseFieldDescriptor f.2.2.1 = some ty ∧ f.2.2.2 = defaultValue ty) (hP : fs.Pairwise (fun f g => slotOf Z f.1 f.2.1 f.2.2.1 ≠ slotOf Z g.1 g.2.1 g.2.2.1)) (hc : k + 1 ≤ R.cells) (hl : n + kk ≤ R.slots)
    (hr : ∀ h' a, own_H Z h' ((a, C, fs) :: os) as → own_G w p l e R s m args below meth c Z Q h' (k + 1) (n + kk) (mkF m pc' Ls (.ref a :: st))) : own_G w p l e R s m args below meth c Z Q h k n (mkF m pc Ls st) := by
  obtain ⟨hd, rfl⟩ := hd
  refine own_step K (P := fun h' => own_H Z h' ((h.size, C, fs) :: os) as) (fun X hZ hw eT N => ?_) (fun h' H' => hr h' _ H')
  obtain ⟨T', h', X', e', E, A, D, -, st⟩ := newO X K.1 hZ hw w1 w2 w3 eT (g := mkF m pc Ls st) rfl (hb K.2.1 hd) hc hl
  exact ⟨T', h', _, X', N, e', E.1, H.addO E ⟨A, fun f hf => by obtain ⟨hL, ty, t1, t2⟩ := hF f hf; show Fld Z h' h.size f.1 f.2.1 f.2.2.1 f.2.2.2; rw [t2]; exact D hL t1, hP⟩, st⟩
theorem own_newarray (K : own_Cx p s m meth c Z own nm bytes maxL ret) {aty : ArrayType} {ty : FieldType} {N : Int32} {q : Nat} {ad : String} {vs : List Value} (hd : own_D bytes pc (.newarray aty) 2 pc') (hty : newarray.typeOf aty = ty) (w1 : (Cond.arrayClass ty).before a0 Z = true) (H : own_H Z h os as) (hN : N.toInt = (q : Int)) (had : "[" ++ ty.toString = ad) (hvs : vs = List.replicate q (defaultValue ty)) (hq : q * 8 ≤ 536870912) (hc : k + 1 ≤ R.cells) (hl : n + q ≤ R.slots)
    (hr : ∀ h' a, own_H Z h' os ((a, ty, ad, vs) :: as) → own_G w p l e R s m args below meth c Z Q h' (k + 1) (n + q) (mkF m pc' Ls (.ref a :: st))) : own_G w p l e R s m args below meth c Z Q h k n (mkF m pc Ls (.int N :: st)) := by
  obtain ⟨hd, rfl⟩ := hd
  subst hty
  refine own_step K (P := fun h' => own_H Z h' os ((h.size, newarray.typeOf aty, ad, vs) :: as)) (fun X hZ hw eT N => ?_) (fun h' H' => hr h' _ H')
  have hNq := own_idx hN
  obtain ⟨T', h', cA, X', e', E, A, Ex, st⟩ := newPE X K.1 hZ w1 eT (g := mkF m pc Ls (.int _ :: st)) rfl (hb K.2.1 hd) rfl (by rw [Int32.lt_iff_toInt_lt, hN, show (0 : Int32).toInt = 0 from rfl]; omega) (cap := q) (Nat.le_of_eq hNq) hq hc hl had
  refine ⟨T', h', _, X', N, e', E.1, H.addA E ⟨_, A, ?_, ?_, fun _ => Ex, fun C hC => ?_⟩, st⟩
  · show (newA cA (newarray.typeOf aty) _).slots.toList = vs
    simp [newA, hNq, hvs]
  · intro v hv
    rw [show v = defaultValue (newarray.typeOf aty) from List.eq_of_mem_replicate (hvs ▸ hv)]
    cases aty <;> rfl
  · cases aty <;> cases hC
theorem own_iaload (K : own_Cx p s m meth c Z own nm bytes maxL ret) {i q : Nat} {a : Addr} {ad : String} {vs : List Value} {v : Value} {j : Int32} (hd : own_D bytes pc .iaload 1 pc') (H : own_H Z h os as) (ha : as[i]? = some (a, .int, ad, vs)) (hj : j.toInt = (q : Int)) (hv : vs[q]? = some v) (hr : own_G w p l e R s m args below meth c Z Q h k n (mkF m pc' Ls (v :: st))) : own_G w p l e R s m args below meth c Z Q h k n (mkF m pc Ls (.int j :: .ref a :: st)) := by
  obtain ⟨hd, rfl⟩ := hd
  obtain ⟨-, cl, A, e1, -⟩ := H.2.2.1 _ (own_mem ha)
  have hq := (List.getElem?_eq_some_iff.mp hv).1
  have hsz : cl.slots.size = vs.length := by rw [← Array.length_toList]; exact congrArg List.length e1
  exact own_pure K (fun X hZ _ eT _ r => X.iaload K.1 (by rw [eT]; exact A.1) (State.isArrayOf_alike hZ.alike A.2.1) A.2.2 (by rw [hsz]; exact own_in hj hq) (by rw [own_idx hj, ← Array.getElem?_toList]; exact (show cl.slots.toList = vs from e1) ▸ hv) (g := mkF m pc Ls (.int j :: .ref a :: st)) rfl rfl (hb K.2.1 hd) _ r) hr
theorem own_laload (K : own_Cx p s m meth c Z own nm bytes maxL ret) {i q : Nat} {a : Addr} {ad : String} {vs : List Value} {v : Value} {j : Int32} (hd : own_D bytes pc .laload 1 pc') (H : own_H Z h os as) (ha : as[i]? = some (a, .long, ad, vs)) (hj : j.toInt = (q : Int)) (hv : vs[q]? = some v) (hr : own_G w p l e R s m args below meth c Z Q h k n (mkF m pc' Ls (v :: st))) : own_G w p l e R s m args below meth c Z Q h k n (mkF m pc Ls (.int j :: .ref a :: st)) := by
  obtain ⟨hd, rfl⟩ := hd
  obtain ⟨-, cl, A, e1, -⟩ := H.2.2.1 _ (own_mem ha)
  have hq := (List.getElem?_eq_some_iff.mp hv).1
  have hsz : cl.slots.size = vs.length := by rw [← Array.length_toList]; exact congrArg List.length e1
  exact own_pure K (fun X hZ _ eT _ r => X.laload K.1 (by rw [eT]; exact A.1) (State.isArrayOf_alike hZ.alike A.2.1) A.2.2 (by rw [hsz]; exact own_in hj hq) (by rw [own_idx hj, ← Array.getElem?_toList]; exact (show cl.slots.toList = vs from e1) ▸ hv) (g := mkF m pc Ls (.int j :: .ref a :: st)) rfl rfl (hb K.2.1 hd) _ r) hr
theorem own_daload (K : own_Cx p s m meth c Z own nm bytes maxL ret) {i q : Nat} {a : Addr} {ad : String} {vs : List Value} {v : Value} {j : Int32} (hd : own_D bytes pc .daload 1 pc') (H : own_H Z h os as) (ha : as[i]? = some (a, .double, ad, vs)) (hj : j.toInt = (q : Int)) (hv : vs[q]? = some v) (hr : own_G w p l e R s m args below meth c Z Q h k n (mkF m pc' Ls (v :: st))) : own_G w p l e R s m args below meth c Z Q h k n (mkF m pc Ls (.int j :: .ref a :: st)) := by
  obtain ⟨hd, rfl⟩ := hd
  obtain ⟨-, cl, A, e1, -⟩ := H.2.2.1 _ (own_mem ha)
  have hq := (List.getElem?_eq_some_iff.mp hv).1
  have hsz : cl.slots.size = vs.length := by rw [← Array.length_toList]; exact congrArg List.length e1
  exact own_pure K (fun X hZ _ eT _ r => X.daload K.1 (by rw [eT]; exact A.1) (State.isArrayOf_alike hZ.alike A.2.1) A.2.2 (by rw [hsz]; exact own_in hj hq) (by rw [own_idx hj, ← Array.getElem?_toList]; exact (show cl.slots.toList = vs from e1) ▸ hv) (g := mkF m pc Ls (.int j :: .ref a :: st)) rfl rfl (hb K.2.1 hd) _ r) hr
theorem own_caload (K : own_Cx p s m meth c Z own nm bytes maxL ret) {i q : Nat} {a : Addr} {ad : String} {vs : List Value} {v : Value} {j : Int32} (hd : own_D bytes pc .caload 1 pc') (H : own_H Z h os as) (ha : as[i]? = some (a, .char, ad, vs)) (hj : j.toInt = (q : Int)) (hv : vs[q]? = some v) (hr : own_G w p l e R s m args below meth c Z Q h k n (mkF m pc' Ls (v :: st))) : own_G w p l e R s m args below meth c Z Q h k n (mkF m pc Ls (.int j :: .ref a :: st)) := by
  obtain ⟨hd, rfl⟩ := hd
  obtain ⟨-, cl, A, e1, -⟩ := H.2.2.1 _ (own_mem ha)
  have hq := (List.getElem?_eq_some_iff.mp hv).1
  have hsz : cl.slots.size = vs.length := by rw [← Array.length_toList]; exact congrArg List.length e1
  exact own_pure K (fun X hZ _ eT _ r => X.caload K.1 (by rw [eT]; exact A.1) (State.isArrayOf_alike hZ.alike A.2.1) A.2.2 (by rw [hsz]; exact own_in hj hq) (by rw [own_idx hj, ← Array.getElem?_toList]; exact (show cl.slots.toList = vs from e1) ▸ hv) (g := mkF m pc Ls (.int j :: .ref a :: st)) rfl rfl (hb K.2.1 hd) _ r) hr
theorem own_baload (K : own_Cx p s m meth c Z own nm bytes maxL ret) {i q : Nat} {a : Addr} {ad : String} {vs : List Value} {v : Value} {j : Int32} (hd : own_D bytes pc .baload 1 pc') (H : own_H Z h os as) (ha : as[i]? = some (a, .byte, ad, vs)) (hj : j.toInt = (q : Int)) (hv : vs[q]? = some v) (hr : own_G w p l e R s m args below meth c Z Q h k n (mkF m pc' Ls (v :: st))) : own_G w p l e R s m args below meth c Z Q h k n (mkF m pc Ls (.int j :: .ref a :: st)) := by
  obtain ⟨hd, rfl⟩ := hd
  obtain ⟨-, cl, A, e1, -⟩ := H.2.2.1 _ (own_mem ha)
  have hq := (List.getElem?_eq_some_iff.mp hv).1
  have hsz : cl.slots.size = vs.length := by rw [← Array.length_toList]; exact congrArg List.length e1
  exact own_pure K (fun X hZ _ eT _ r => X.baloadBytes K.1 (by rw [eT]; exact A.1) (State.isArrayOf_alike hZ.alike A.2.1) A.2.2 (by rw [hsz]; exact own_in hj hq) (by rw [own_idx hj, ← Array.getElem?_toList]; exact (show cl.slots.toList = vs from e1) ▸ hv) (g := mkF m pc Ls (.int j :: .ref a :: st)) rfl rfl (hb K.2.1 hd) _ r) hr
theorem own_aaload (K : own_Cx p s m meth c Z own nm bytes maxL ret) {i q : Nat} {a : Addr} {ad : String} {ty : FieldType} {vs : List Value} {v : Value} {j : Int32} (hd : own_D bytes pc .aaload 1 pc') (H : own_H Z h os as) (ha : as[i]? = some (a, ty, ad, vs)) (hty : ty.isReference = true) (hj : j.toInt = (q : Int)) (hv : vs[q]? = some v) (hr : own_G w p l e R s m args below meth c Z Q h k n (mkF m pc' Ls (v :: st))) : own_G w p l e R s m args below meth c Z Q h k n (mkF m pc Ls (.int j :: .ref a :: st)) := by
  obtain ⟨hd, rfl⟩ := hd
  obtain ⟨-, cl, A, e1, -⟩ := H.2.2.1 _ (own_mem ha)
  have hq := (List.getElem?_eq_some_iff.mp hv).1
  have hsz : cl.slots.size = vs.length := by rw [← Array.length_toList]; exact congrArg List.length e1
  exact own_pure K (fun X hZ _ eT _ r => X.aaload K.1 (by rw [eT]; exact A.1) (State.isArrayOf_alike hZ.alike A.2.1) hty A.2.2 (by rw [hsz]; exact own_in hj hq) (by rw [own_idx hj, ← Array.getElem?_toList]; exact (show cl.slots.toList = vs from e1) ▸ hv) (g := mkF m pc Ls (.int j :: .ref a :: st)) rfl rfl (hb K.2.1 hd) _ r) hr
theorem own_iastore (K : own_Cx p s m meth c Z own nm bytes maxL ret) {i q : Nat} {a : Addr} {ad : String} {vs : List Value} {j : Int32} {x : Int32} (hd : own_D bytes pc .iastore 1 pc') (H : own_H Z h os as) (ha : as[i]? = some (a, .int, ad, vs)) (hj : j.toInt = (q : Int)) (hq : q < vs.length) (hr : ∀ h', own_H Z h' os (as.set i (a, .int, ad, vs.set q (.int x))) → own_G w p l e R s m args below meth c Z Q h' k n (mkF m pc' Ls st)) (had : ad ≠ "" := by decide) : own_G w p l e R s m args below meth c Z Q h k n (mkF m pc Ls (.int x :: .int j :: .ref a :: st)) := by
  obtain ⟨hd, rfl⟩ := hd
  obtain ⟨na, cl, A, e1, -⟩ := H.2.2.1 _ (own_mem ha)
  have hsz : cl.slots.size = vs.length := by rw [← Array.length_toList]; exact congrArg List.length e1
  refine own_step K (P := fun h' => own_H Z h' os (as.set i (a, .int, ad, vs.set q (.int x)))) (fun X hZ _ eT N => ?_) hr
  obtain ⟨T', h', X', e', W, st⟩ := stI X K.1 hZ eT A (by rw [hsz]; exact own_in hj hq) (g := mkF m pc Ls (.int x :: .int j :: .ref a :: st)) rfl rfl (hb K.2.1 hd)
  exact ⟨T', h', _, X', Fr.snoc X' N (na had), e', Nat.le_of_eq (Wr.size W).symm, H.wrA had ha hq (rfl) (by rw [own_idx hj] at W; exact W), st⟩
theorem own_lastore (K : own_Cx p s m meth c Z own nm bytes maxL ret) {i q : Nat} {a : Addr} {ad : String} {vs : List Value} {j : Int32} {x : Int64} (hd : own_D bytes pc .lastore 1 pc') (H : own_H Z h os as) (ha : as[i]? = some (a, .long, ad, vs)) (hj : j.toInt = (q : Int)) (hq : q < vs.length) (hr : ∀ h', own_H Z h' os (as.set i (a, .long, ad, vs.set q (.long x))) → own_G w p l e R s m args below meth c Z Q h' k n (mkF m pc' Ls st)) (had : ad ≠ "" := by decide) : own_G w p l e R s m args below meth c Z Q h k n (mkF m pc Ls (.long x :: .int j :: .ref a :: st)) := by
  obtain ⟨hd, rfl⟩ := hd
  obtain ⟨na, cl, A, e1, -⟩ := H.2.2.1 _ (own_mem ha)
  have hsz : cl.slots.size = vs.length := by rw [← Array.length_toList]; exact congrArg List.length e1
  refine own_step K (P := fun h' => own_H Z h' os (as.set i (a, .long, ad, vs.set q (.long x)))) (fun X hZ _ eT N => ?_) hr
  obtain ⟨T', h', X', e', W, st⟩ := stJ X K.1 hZ eT A (by rw [hsz]; exact own_in hj hq) (g := mkF m pc Ls (.long x :: .int j :: .ref a :: st)) rfl rfl (hb K.2.1 hd)
  exact ⟨T', h', _, X', Fr.snoc X' N (na had), e', Nat.le_of_eq (Wr.size W).symm, H.wrA had ha hq (rfl) (by rw [own_idx hj] at W; exact W), st⟩
theorem own_dastore (K : own_Cx p s m meth c Z own nm bytes maxL ret) {i q : Nat} {a : Addr} {ad : String} {vs : List Value} {j : Int32} {x : UInt64} (hd : own_D bytes pc .dastore 1 pc') (H : own_H Z h os as) (ha : as[i]? = some (a, .double, ad, vs)) (hj : j.toInt = (q : Int)) (hq : q < vs.length) (hr : ∀ h', own_H Z h' os (as.set i (a, .double, ad, vs.set q (.double x))) → own_G w p l e R s m args below meth c Z Q h' k n (mkF m pc' Ls st)) (had : ad ≠ "" := by decide) : own_G w p l e R s m args below meth c Z Q h k n (mkF m pc Ls (.double x :: .int j :: .ref a :: st)) := by
  obtain ⟨hd, rfl⟩ := hd
  obtain ⟨na, cl, A, e1, -⟩ := H.2.2.1 _ (own_mem ha)
  have hsz : cl.slots.size = vs.length := by rw [← Array.length_toList]; exact congrArg List.length e1
  refine own_step K (P := fun h' => own_H Z h' os (as.set i (a, .double, ad, vs.set q (.double x)))) (fun X hZ _ eT N => ?_) hr
  obtain ⟨T', h', X', e', W, st⟩ := stD X K.1 hZ eT A (by rw [hsz]; exact own_in hj hq) (g := mkF m pc Ls (.double x :: .int j :: .ref a :: st)) rfl rfl (hb K.2.1 hd)
  exact ⟨T', h', _, X', Fr.snoc X' N (na had), e', Nat.le_of_eq (Wr.size W).symm, H.wrA had ha hq (rfl) (by rw [own_idx hj] at W; exact W), st⟩
theorem own_castore (K : own_Cx p s m meth c Z own nm bytes maxL ret) {i q : Nat} {a : Addr} {ad : String} {vs : List Value} {j : Int32} {x : Int32} (hd : own_D bytes pc .castore 1 pc') (H : own_H Z h os as) (ha : as[i]? = some (a, .char, ad, vs)) (hj : j.toInt = (q : Int)) (hq : q < vs.length) (hr : ∀ h', own_H Z h' os (as.set i (a, .char, ad, vs.set q (.int (nar .char x)))) → own_G w p l e R s m args below meth c Z Q h' k n (mkF m pc' Ls st)) (had : ad ≠ "" := by decide) : own_G w p l e R s m args below meth c Z Q h k n (mkF m pc Ls (.int x :: .int j :: .ref a :: st)) := by
  obtain ⟨hd, rfl⟩ := hd
  obtain ⟨na, cl, A, e1, -⟩ := H.2.2.1 _ (own_mem ha)
  have hsz : cl.slots.size = vs.length := by rw [← Array.length_toList]; exact congrArg List.length e1
  refine own_step K (P := fun h' => own_H Z h' os (as.set i (a, .char, ad, vs.set q (.int (nar .char x))))) (fun X hZ _ eT N => ?_) hr
  obtain ⟨T', h', X', e', W, st⟩ := stC X K.1 hZ eT A (by rw [hsz]; exact own_in hj hq) (g := mkF m pc Ls (.int x :: .int j :: .ref a :: st)) rfl rfl (hb K.2.1 hd)
  exact ⟨T', h', _, X', Fr.snoc X' N (na had), e', Nat.le_of_eq (Wr.size W).symm, H.wrA had ha hq (by first | exact fits_nar_char _ | exact fits_nar_char | (simp [fits_nar_char]; done)) (by rw [own_idx hj] at W; exact W), st⟩
theorem own_bastore (K : own_Cx p s m meth c Z own nm bytes maxL ret) {i q : Nat} {a : Addr} {ad : String} {vs : List Value} {j : Int32} {x : Int32} (hd : own_D bytes pc .bastore 1 pc') (H : own_H Z h os as) (ha : as[i]? = some (a, .byte, ad, vs)) (hj : j.toInt = (q : Int)) (hq : q < vs.length) (hr : ∀ h', own_H Z h' os (as.set i (a, .byte, ad, vs.set q (.int (nar .byte x)))) → own_G w p l e R s m args below meth c Z Q h' k n (mkF m pc' Ls st)) (had : ad ≠ "" := by decide) : own_G w p l e R s m args below meth c Z Q h k n (mkF m pc Ls (.int x :: .int j :: .ref a :: st)) := by
  obtain ⟨hd, rfl⟩ := hd
  obtain ⟨na, cl, A, e1, -⟩ := H.2.2.1 _ (own_mem ha)
  have hsz : cl.slots.size = vs.length := by rw [← Array.length_toList]; exact congrArg List.length e1
  refine own_step K (P := fun h' => own_H Z h' os (as.set i (a, .byte, ad, vs.set q (.int (nar .byte x))))) (fun X hZ _ eT N => ?_) hr
  obtain ⟨T', h', X', e', W, st⟩ := stB X K.1 hZ eT A (by rw [hsz]; exact own_in hj hq) (g := mkF m pc Ls (.int x :: .int j :: .ref a :: st)) rfl rfl (hb K.2.1 hd)
  exact ⟨T', h', _, X', Fr.snoc X' N (na had), e', Nat.le_of_eq (Wr.size W).symm, H.wrA had ha hq (by first | exact fits_nar_byte _ | exact fits_nar_byte | (simp [fits_nar_byte]; done)) (by rw [own_idx hj] at W; exact W), st⟩
theorem own_arraylength (K : own_Cx p s m meth c Z own nm bytes maxL ret) {i : Nat} {a : Addr} {ad : String} {ty : FieldType} {vs : List Value} {N : Int32} (hd : own_D bytes pc .arraylength 1 pc') (H : own_H Z h os as) (ha : as[i]? = some (a, ty, ad, vs)) (hN : N.toInt = (vs.length : Int)) (hr : own_G w p l e R s m args below meth c Z Q h k n (mkF m pc' Ls (.int N :: st))) : own_G w p l e R s m args below meth c Z Q h k n (mkF m pc Ls (.ref a :: st)) := by
  obtain ⟨hd, rfl⟩ := hd
  obtain ⟨-, cl, A, e1, -⟩ := H.2.2.1 _ (own_mem ha)
  have hsz : cl.slots.size = vs.length := by rw [← Array.length_toList]; exact congrArg List.length e1
  have e2 : cl.slots.size.toInt32 = N := by rw [hsz]; exact own_len hN
  exact own_pure K (fun X hZ _ eT _ r => X.arraylength K.1 (by rw [eT]; exact A.1) (State.isArrayOf_alike hZ.alike A.2.1) (g := mkF m pc Ls (.ref a :: st)) rfl rfl (hb K.2.1 hd) _ (by rw [e2]; exact r)) hr
theorem own_checkcast (K : own_Cx p s m meth c Z own nm bytes maxL ret) {i : Nat} {a : Addr} {Kn : String} (hd : own_D bytes pc (.checkcast i) 3 pc') (w1 : (Cond.classLink own i Kn).before a0 Z = true) (I : Ins Z h a Kn true) (hr : own_G w p l e R s m args below meth c Z Q h k n (mkF m pc' Ls (.ref a :: st))) : own_G w p l e R s m args below meth c Z Q h k n (mkF m pc Ls (.ref a :: st)) := by
  obtain ⟨hd, rfl⟩ := hd
  refine own_step K (P := fun h' => h' = h) (fun X hZ hw eT N => ?_) (fun h' e => by subst e; exact hr)
  obtain ⟨T', X', e', st⟩ := castY X K.1 hZ hw w1 eT I (g := mkF m pc Ls (.ref a :: st)) rfl rfl (hb K.2.1 hd)
  exact ⟨T', _, _, X', N, e', Nat.le_refl _, rfl, st⟩
theorem own_H.exaA (H : own_H Z h os as) {i : Nat} {a : Addr} {ty : FieldType} {ad : String} {vs : List Value} (ha : as[i]? = some (a, ty, ad, vs)) (hn : ad ≠ "") : Exa Z h a ad := by
  obtain ⟨-, cl, -, -, -, h4, -⟩ := H.2.2.1 _ (own_mem ha); exact h4 hn
theorem own_clone (K : own_Cx p s m meth c Z own nm bytes maxL ret) {i j : Nat} {a : Addr} {ty : FieldType} {ad : String} {vs : List Value} (hd : own_D bytes pc (.invokevirtual i) 3 pc') (w1 : (Cond.methodLink own i ⟨ad, "clone", "()Ljava/lang/Object;"⟩).before a0 Z = true) (w2 : (Cond.sameMethod ad "java/lang/Object" "clone" "()Ljava/lang/Object;").before a0 Z = true) (w3 : (Cond.native ⟨"java/lang/Object", "clone", "()Ljava/lang/Object;"⟩).before a0 Z = true)
    (w4 : (Cond.instanceMethod ⟨"java/lang/Object", "clone", "()Ljava/lang/Object;"⟩).before a0 Z = true) (w5 : (Cond.selects ad ⟨ad, "clone", "()Ljava/lang/Object;"⟩ ⟨"java/lang/Object", "clone", "()Ljava/lang/Object;"⟩).before a0 Z = true) (w6 : (Cond.castable ad "java/lang/Cloneable").before a0 Z = true)
    (H : own_H Z h os as) (ha : as[j]? = some (a, ty, ad, vs)) (hn : ad ≠ "") (hsz : Ls.size = maxL) (hf : 1 ≤ R.frames) {W : Nat} (hW : (st.map fun v => v.category).sum ≤ W) (hl : W + 14 ≤ R.locals) (hc : k + 1 ≤ R.cells) (hsl : n + vs.length ≤ R.slots)
    (hr : ∀ h' b, own_H Z h' os ((b, ty, ad, vs) :: as) → own_G w p l e R s m args below meth c Z Q h' (k + 1) (n + vs.length) (mkF m pc' Ls (.ref b :: st))) : own_G w p l e R s m args below meth c Z Q h k n (mkF m pc Ls (.ref a :: st)) := by
  obtain ⟨hd, rfl⟩ := hd
  obtain ⟨-, cl, A, e1, e3, e4, e5⟩ := H.2.2.1 _ (own_mem ha)
  have hsz' : cl.slots.size = vs.length := by rw [← Array.length_toList]; exact congrArg List.length e1
  have F : FitC Z cl := fun i v hv => by
    obtain ⟨hs, k, hk, comp, hkind⟩ := A.2.1
    have hm : v ∈ vs := by
      have : cl.slots.toList[i]? = some v := by rw [Array.getElem?_toList]; exact hv
      exact (show cl.slots.toList = vs from e1) ▸ own_mem this
    simp [State.fitsSlot, State.slotType?, hk, hkind, show fits ty v = true from e3 v hm]
  refine own_step K (P := fun h' => own_H Z h' os ((h.size, ty, ad, vs) :: as)) (fun X hZ hw eT N => ?_) (fun h' H' => hr h' _ H')
  obtain ⟨T', h', X', e', E, A', Ex, st⟩ := cloneA X K.1 hZ hw w1 w2 w3 w4 w5 w6 eT A (e4 hn) F (g := mkF m pc Ls (.ref a :: st)) rfl (hsz.trans K.2.2.1.symm) rfl (hb K.2.1 hd) hf (W := W) (by show 2 * 0 + _ ≤ W; simpa using hW) hl (cap := vs.length) (Nat.le_of_eq hsz') hc hsl
  exact ⟨T', h', _, X', N, e', E.1, H.addA E ⟨_, A', e1, e3, fun _ => Ex, e5⟩, st⟩
theorem own_initO (K : own_Cx p s m meth c Z own nm bytes maxL ret) {i : Nat} {a : Addr} (hd : own_D bytes pc (.invokespecial i) 3 pc') (w1 : (Cond.methodLink own i Lib.objectInit).before a0 Z = true) (w2 : (Cond.instanceMethod Lib.objectInit).before a0 Z = true) (w3 : (Cond.code Lib.objectInit ⟨#[0xb1]⟩ 1 none).before a0 Z = true) (hsz : Ls.size = maxL) (hf : 1 ≤ R.frames) {W : Nat} (hW : (st.map fun v => v.category).sum ≤ W) (hl : W + 12 ≤ R.locals) (hr : own_G w p l e R s m args below meth c Z Q h k n (mkF m pc' Ls st)) : own_G w p l e R s m args below meth c Z Q h k n (mkF m pc Ls (.ref a :: st)) := by
  obtain ⟨hd, rfl⟩ := hd
  refine own_step K (P := fun h' => h' = h) (fun X hZ hw eT N => ?_) (fun h' e => by subst e; exact hr)
  obtain ⟨T', X', e', st⟩ := initO X K.1 hZ hw w1 w2 w3 eT (g := mkF m pc Ls (.ref a :: st)) rfl (hsz.trans K.2.2.1.symm) rfl (hb K.2.1 hd) hf (W := W) (by show 2 * 0 + _ ≤ W; simpa using hW) hl
  exact ⟨T', _, _, X', N, e', Nat.le_refl _, rfl, st⟩
theorem own_static (K : own_Cx p s m meth c Z own nm bytes maxL ret) {i ml W : Nat} {y : MethodName} {b : ByteArray} {rt : Option FieldType} {rm : Room} {argsL : List Value} {Qc : Option Value → Heap → Prop} {ps : List FieldType} {r : Option FieldType} (hd : own_D bytes pc (.invokestatic i) 3 pc') (w1 : (Cond.methodLink own i y).before a0 Z = true) (w2 : (Cond.static y).before a0 Z = true) (w3 : (Cond.initialized y.cls).before a0 Z = true) (w4 : (Cond.code y b ml rt).before a0 Z = true)
    (hM : own_Met none l Z y b ml rt [] rm argsL.toArray h Qc) (hp : parseMethodDescriptor y.desc = some ⟨ps, r⟩) (hlen : argsL.length = ps.length) (hst : st = argsL.reverse ++ rest) (hsz : Ls.size = maxL) (hy : y.cls ≠ "java/lang/invoke/MethodHandle" ∧ y.cls ≠ "java/lang/invoke/VarHandle") (hW : (rest.map fun v => v.category).sum ≤ W) (hf : rm.frames + 1 ≤ R.frames) (hl : W + (ml + 11) + rm.locals ≤ R.locals) (hc : k + rm.cells ≤ R.cells) (hs : n + rm.slots ≤ R.slots)
    (hr : ∀ v h', Qc v h' → own_G w p l e R s m args below meth c Z Q h' (k + rm.cells) (n + rm.slots) (mkF m (pc') Ls (v.toList ++ rest))) : own_G w p l e R s m args below meth c Z Q h k n (mkF m pc Ls st) := by
  obtain ⟨hd, rfl⟩ := hd
  intro T hX
  obtain ⟨L, vm, X, N, eT, hw, hS⟩ := hX
  have hZ := own_zw K.2.2.2.2.2.1 hS
  have hown : (s.setVm vm).vm.findClass own = some m.cls := by rw [show (s.setVm vm).vm = vm from rfl, hS.1.alike.findClass]; exact K.2.2.2.2.2.2.1
  obtain ⟨v, vm1, ⟨T1, L1, k1, n1⟩, -, X1, ⟨Lc, ⟨hQ, N1, z1⟩, l1, y1, x1⟩, st1⟩ := Jvm.LawKit.callS X K.1 (y := y) hown (mvT hZ w1) (mvT hZ w2) (mvT hZ w3) (mvT hZ w4) hy (backOf (W := W) (Q := fun v h'' L => Qc v h'' ∧ Fr Z.heap.size L ∧ h.size ≤ h''.size) (show MetFree _ _ _ _ _ _ from hM) hZ w4 w3 hf hl) (g := mkF m pc Ls st) rfl (hsz.trans K.2.2.1.symm) (argsL := argsL) (rest := rest) (lenOf hp hlen) hst (by show 2 * 0 + _ ≤ W; simpa using hW) (hb K.2.1 hd) (fun _ _ => ⟨rfl, eT, hc, hs⟩)
  dsimp only [Pt.U, Pt.locs, Pt.cells, Pt.slots] at X1 l1 y1 x1 st1 hQ z1
  subst l1 y1 x1
  obtain ⟨T', v', h', k', n', hX', r1, r2, r3, r4, r5⟩ := hr v T1.heap hQ T1 ⟨_, vm, X1, N.app N1, rfl, hw, own_since hS z1⟩
  exact ⟨T', v', h', k', n', hX', r1, r2, r3, r4, fun fs q => st1 _ (r5 fs q)⟩
theorem own_special (K : own_Cx p s m meth c Z own nm bytes maxL ret) {i ml W : Nat} {y : MethodName} {b : ByteArray} {rm : Room} {a : Addr} {argsL : List Value} {Qc : Option Value → Heap → Prop} {ps : List FieldType} {r : Option FieldType} (hd : own_D bytes pc (.invokespecial i) 3 pc') (hy1 : y.name = "<init>") (w1 : (Cond.methodLink own i y).before a0 Z = true) (w2 : (Cond.instanceMethod y).before a0 Z = true) (w3 : (Cond.initialized y.cls).before a0 Z = true) (w4 : (Cond.code y b ml none).before a0 Z = true)
    (hM : own_Met none l Z y b ml none [] rm (.ref a :: argsL).toArray h Qc) (hp : parseMethodDescriptor y.desc = some ⟨ps, r⟩) (hlen : argsL.length = ps.length) (hst : st = argsL.reverse ++ .ref a :: rest) (hsz : Ls.size = maxL) (hy : y.cls ≠ "java/lang/invoke/MethodHandle" ∧ y.cls ≠ "java/lang/invoke/VarHandle") (hW : (rest.map fun v => v.category).sum ≤ W) (hf : rm.frames + 1 ≤ R.frames) (hl : W + (ml + 11) + rm.locals ≤ R.locals) (hc : k + rm.cells ≤ R.cells) (hs : n + rm.slots ≤ R.slots)
    (hr : ∀ v h', Qc v h' → own_G w p l e R s m args below meth c Z Q h' (k + rm.cells) (n + rm.slots) (mkF m (pc') Ls (v.toList ++ rest))) : own_G w p l e R s m args below meth c Z Q h k n (mkF m pc Ls st) := by
  obtain ⟨hd, rfl⟩ := hd
  intro T hX
  obtain ⟨L, vm, X, N, eT, hw, hS⟩ := hX
  have hZ := own_zw K.2.2.2.2.2.1 hS
  have hown : (s.setVm vm).vm.findClass own = some m.cls := by rw [show (s.setVm vm).vm = vm from rfl, hS.1.alike.findClass]; exact K.2.2.2.2.2.2.1
  obtain ⟨v, vm1, ⟨T1, L1, k1, n1⟩, -, X1, ⟨Lc, ⟨hQ, N1, z1⟩, l1, y1, x1⟩, st1⟩ := X.specialBack K.1 (y := y) hy1 hown (mvT hZ w1) (mvT hZ w2) (mvT hZ w4) hy (backOf (W := W) (Q := fun v h'' L => Qc v h'' ∧ Fr Z.heap.size L ∧ h.size ≤ h''.size) (show MetFree _ _ _ _ _ _ from hM) hZ w4 w3 hf hl) (g := mkF m pc Ls st) rfl (hsz.trans K.2.2.1.symm) (Steps.refl _) (a := a) (argsL := argsL) (rest := rest) (lenOf hp hlen) hst (by show 2 * 0 + _ ≤ W; simpa using hW) (hb K.2.1 hd) (fun _ _ => ⟨rfl, eT, hc, hs⟩)
  dsimp only [Pt.U, Pt.locs, Pt.cells, Pt.slots] at X1 l1 y1 x1 st1 hQ z1
  subst l1 y1 x1
  obtain ⟨T', v', h', k', n', hX', r1, r2, r3, r4, r5⟩ := hr v T1.heap hQ T1 ⟨_, vm, X1, N.app N1, rfl, hw, own_since hS z1⟩
  exact ⟨T', v', h', k', n', hX', r1, r2, r3, r4, fun fs q => st1.trans (r5 fs q)⟩
theorem own_virtual (K : own_Cx p s m meth c Z own nm bytes maxL ret) {i ml W : Nat} {y : MethodName} {C : String} {b : ByteArray} {rt : Option FieldType} {rm : Room} {a : Addr} {argsL : List Value} {Qc : Option Value → Heap → Prop} {ps : List FieldType} {r : Option FieldType} (hd : own_D bytes pc (.invokevirtual i) 3 pc') (w1 : (Cond.methodLink own i y).before a0 Z = true) (w2 : (Cond.declares y).before a0 Z = true) (w5 : (Cond.selects C y y).before a0 Z = true) (w6 : (Cond.instanceMethod y).before a0 Z = true) (w3 : (Cond.initialized y.cls).before a0 Z = true) (w4 : (Cond.code y b ml rt).before a0 Z = true)
    (E : Exa Z h a C) (hM : own_Met none l Z y b ml rt [] rm (.ref a :: argsL).toArray h Qc) (hp : parseMethodDescriptor y.desc = some ⟨ps, r⟩) (hlen : argsL.length = ps.length) (hst : st = argsL.reverse ++ .ref a :: rest) (hsz : Ls.size = maxL) (hy : y.cls ≠ "java/lang/invoke/MethodHandle" ∧ y.cls ≠ "java/lang/invoke/VarHandle") (hW : (rest.map fun v => v.category).sum ≤ W) (hf : rm.frames + 1 ≤ R.frames) (hl : W + (ml + 11) + rm.locals ≤ R.locals) (hc : k + rm.cells ≤ R.cells) (hs : n + rm.slots ≤ R.slots)
    (hr : ∀ v h', Qc v h' → own_G w p l e R s m args below meth c Z Q h' (k + rm.cells) (n + rm.slots) (mkF m (pc') Ls (v.toList ++ rest))) : own_G w p l e R s m args below meth c Z Q h k n (mkF m pc Ls st) := by
  obtain ⟨hd, rfl⟩ := hd
  intro T hX
  obtain ⟨L, vm, X, N, eT, hw, hS⟩ := hX
  have hZ := own_zw K.2.2.2.2.2.1 hS
  have hown : (s.setVm vm).vm.findClass own = some m.cls := by rw [show (s.setVm vm).vm = vm from rfl, hS.1.alike.findClass]; exact K.2.2.2.2.2.2.1
  obtain ⟨cq, kq, qa, qb, qc⟩ := isOf (s := s.setVm vm) hZ eT E
  obtain ⟨v, vm1, ⟨T1, L1, k1, n1⟩, -, X1, ⟨Lc, ⟨hQ, N1, z1⟩, l1, y1, x1⟩, st1⟩ := X.virtualBack K.1 (y := y) (z := y) hown (mvT hZ w1) (mvT hZ w2) (notFace_of_selects (C := C) (args := #[]) (mvT hZ w5)) (mvT hZ w5) (mvT hZ w6) hy (backOf (W := W) (Q := fun v h'' L => Qc v h'' ∧ Fr Z.heap.size L ∧ h.size ≤ h''.size) (show MetFree _ _ _ _ _ _ from hM) hZ w4 w3 hf hl) qa qc (g := mkF m pc Ls st) rfl (hsz.trans K.2.2.1.symm) (Steps.refl _) (argsL := argsL) (rest := rest) (lenOf hp hlen) hst (by show 2 * 0 + _ ≤ W; simpa using hW) (hb K.2.1 hd) (fun _ _ => ⟨rfl, eT, hc, hs⟩)
  dsimp only [Pt.U, Pt.locs, Pt.cells, Pt.slots] at X1 l1 y1 x1 st1 hQ z1
  subst l1 y1 x1
  obtain ⟨T', v', h', k', n', hX', r1, r2, r3, r4, r5⟩ := hr v T1.heap hQ T1 ⟨_, vm, X1, N.app N1, rfl, hw, own_since hS z1⟩
  exact ⟨T', v', h', k', n', hX', r1, r2, r3, r4, fun fs q => st1.trans (r5 fs q)⟩
theorem own_virtualZ (K : own_Cx p s m meth c Z own nm bytes maxL ret) {i ml W : Nat} {y z : MethodName} {C : String} {b : ByteArray} {rt : Option FieldType} {rm : Room} {a : Addr} {argsL : List Value} {Qc : Option Value → Heap → Prop} {ps : List FieldType} {r : Option FieldType} (hd : own_D bytes pc (.invokevirtual i) 3 pc') (w1 : (Cond.methodLink own i y).before a0 Z = true) (w2 : (Cond.declares y).before a0 Z = true) (w5 : (Cond.selects C y z).before a0 Z = true) (w6 : (Cond.instanceMethod z).before a0 Z = true) (w3 : (Cond.initialized z.cls).before a0 Z = true) (w4 : (Cond.code z b ml rt).before a0 Z = true)
    (E : Exa Z h a C) (hnf : ∀ vm, s.Warmed39 vm → NotFace (s.setVm vm) y) (hM : own_Met none l Z z b ml rt [] rm (.ref a :: argsL).toArray h Qc) (hp : parseMethodDescriptor y.desc = some ⟨ps, r⟩) (hlen : argsL.length = ps.length) (hst : st = argsL.reverse ++ .ref a :: rest) (hsz : Ls.size = maxL) (hy : y.cls ≠ "java/lang/invoke/MethodHandle" ∧ y.cls ≠ "java/lang/invoke/VarHandle") (hW : (rest.map fun v => v.category).sum ≤ W) (hf : rm.frames + 1 ≤ R.frames) (hl : W + (ml + 11) + rm.locals ≤ R.locals) (hc : k + rm.cells ≤ R.cells) (hs : n + rm.slots ≤ R.slots)
    (hr : ∀ v h', Qc v h' → own_G w p l e R s m args below meth c Z Q h' (k + rm.cells) (n + rm.slots) (mkF m (pc') Ls (v.toList ++ rest))) : own_G w p l e R s m args below meth c Z Q h k n (mkF m pc Ls st) := by
  obtain ⟨hd, rfl⟩ := hd
  intro T hX
  obtain ⟨L, vm, X, N, eT, hw, hS⟩ := hX
  have hZ := own_zw K.2.2.2.2.2.1 hS
  have hown : (s.setVm vm).vm.findClass own = some m.cls := by rw [show (s.setVm vm).vm = vm from rfl, hS.1.alike.findClass]; exact K.2.2.2.2.2.2.1
  obtain ⟨cq, kq, qa, qb, qc⟩ := isOf (s := s.setVm vm) hZ eT E
  obtain ⟨v, vm1, ⟨T1, L1, k1, n1⟩, -, X1, ⟨Lc, ⟨hQ, N1, z1⟩, l1, y1, x1⟩, st1⟩ := X.virtualBack K.1 (y := y) (z := z) hown (mvT hZ w1) (mvT hZ w2) (hnf vm hS.1) (mvT hZ w5) (mvT hZ w6) hy (backOf (W := W) (Q := fun v h'' L => Qc v h'' ∧ Fr Z.heap.size L ∧ h.size ≤ h''.size) (show MetFree _ _ _ _ _ _ from hM) hZ w4 w3 hf hl) qa qc (g := mkF m pc Ls st) rfl (hsz.trans K.2.2.1.symm) (Steps.refl _) (argsL := argsL) (rest := rest) (lenOf hp hlen) hst (by show 2 * 0 + _ ≤ W; simpa using hW) (hb K.2.1 hd) (fun _ _ => ⟨rfl, eT, hc, hs⟩)
  dsimp only [Pt.U, Pt.locs, Pt.cells, Pt.slots] at X1 l1 y1 x1 st1 hQ z1
  subst l1 y1 x1
  obtain ⟨T', v', h', k', n', hX', r1, r2, r3, r4, r5⟩ := hr v T1.heap hQ T1 ⟨_, vm, X1, N.app N1, rfl, hw, own_since hS z1⟩
  exact ⟨T', v', h', k', n', hX', r1, r2, r3, r4, fun fs q => st1.trans (r5 fs q)⟩
theorem own_retI (K : own_Cx p s m meth c Z own nm bytes maxL (some .int)) (hJ : ∀ vm, w.1 vm → w.2 vm) {z : Int32} (hd : own_D bytes pc .ireturn 1 pc') (hk : k ≤ R.cells) (hn : n ≤ R.slots) (hQ : Q (some (.int z)) h) : own_G w p l e R s m args below meth c Z Q h k n (mkF m pc Ls (.int z :: st)) := by
  obtain ⟨hd, -⟩ := hd
  intro T hX
  obtain ⟨L, vm, X, N, eT, hw, hS⟩ := hX
  exact ⟨T, some (.int z), h, k, n, ⟨L, vm, X, N, eT, hJ vm hw, hS⟩, hk, hn, (fun q => by rw [K.2.2.2.1] at q; cases q), hQ, fun fs q => retOut X K.1 K.2.2.2.1 (rfl) (Or.inl ⟨rfl, Or.inl rfl, z, rfl⟩) (hb K.2.1 hd) q⟩
theorem own_retZ (K : own_Cx p s m meth c Z own nm bytes maxL (some .boolean)) (hJ : ∀ vm, w.1 vm → w.2 vm) {z : Int32} (hz : z = 0 ∨ z = 1) (hd : own_D bytes pc .ireturn 1 pc') (hk : k ≤ R.cells) (hn : n ≤ R.slots) (hQ : Q (some (.int z)) h) : own_G w p l e R s m args below meth c Z Q h k n (mkF m pc Ls (.int z :: st)) := by
  obtain ⟨hd, -⟩ := hd
  intro T hX
  obtain ⟨L, vm, X, N, eT, hw, hS⟩ := hX
  exact ⟨T, some (.int z), h, k, n, ⟨L, vm, X, N, eT, hJ vm hw, hS⟩, hk, hn, (fun q => by rw [K.2.2.2.1] at q; cases q), hQ, fun fs q => retOut X K.1 K.2.2.2.1 (by rcases hz with rfl | rfl <;> decide) (Or.inl ⟨rfl, Or.inr (Or.inl rfl), z, rfl⟩) (hb K.2.1 hd) q⟩
theorem own_retC (K : own_Cx p s m meth c Z own nm bytes maxL (some .char)) (hJ : ∀ vm, w.1 vm → w.2 vm) {z : Int32} (hz : narrow .char (.int z) = .int z) (hd : own_D bytes pc .ireturn 1 pc') (hk : k ≤ R.cells) (hn : n ≤ R.slots) (hQ : Q (some (.int z)) h) : own_G w p l e R s m args below meth c Z Q h k n (mkF m pc Ls (.int z :: st)) := by
  obtain ⟨hd, -⟩ := hd
  intro T hX
  obtain ⟨L, vm, X, N, eT, hw, hS⟩ := hX
  exact ⟨T, some (.int z), h, k, n, ⟨L, vm, X, N, eT, hJ vm hw, hS⟩, hk, hn, (fun q => by rw [K.2.2.2.1] at q; cases q), hQ, fun fs q => retOut X K.1 K.2.2.2.1 (hz) (Or.inl ⟨rfl, Or.inr (Or.inr (Or.inr (Or.inl rfl))), z, rfl⟩) (hb K.2.1 hd) q⟩
theorem own_retBy (K : own_Cx p s m meth c Z own nm bytes maxL (some .byte)) (hJ : ∀ vm, w.1 vm → w.2 vm) {z : Int32} (hz : narrow .byte (.int z) = .int z) (hd : own_D bytes pc .ireturn 1 pc') (hk : k ≤ R.cells) (hn : n ≤ R.slots) (hQ : Q (some (.int z)) h) : own_G w p l e R s m args below meth c Z Q h k n (mkF m pc Ls (.int z :: st)) := by
  obtain ⟨hd, -⟩ := hd
  intro T hX
  obtain ⟨L, vm, X, N, eT, hw, hS⟩ := hX
  exact ⟨T, some (.int z), h, k, n, ⟨L, vm, X, N, eT, hJ vm hw, hS⟩, hk, hn, (fun q => by rw [K.2.2.2.1] at q; cases q), hQ, fun fs q => retOut X K.1 K.2.2.2.1 (hz) (Or.inl ⟨rfl, Or.inr (Or.inr (Or.inl rfl)), z, rfl⟩) (hb K.2.1 hd) q⟩
theorem own_retL (K : own_Cx p s m meth c Z own nm bytes maxL (some .long)) (hJ : ∀ vm, w.1 vm → w.2 vm) {z : Int64} (hd : own_D bytes pc .lreturn 1 pc') (hk : k ≤ R.cells) (hn : n ≤ R.slots) (hQ : Q (some (.long z)) h) : own_G w p l e R s m args below meth c Z Q h k n (mkF m pc Ls (.long z :: st)) := by
  obtain ⟨hd, -⟩ := hd
  intro T hX
  obtain ⟨L, vm, X, N, eT, hw, hS⟩ := hX
  exact ⟨T, some (.long z), h, k, n, ⟨L, vm, X, N, eT, hJ vm hw, hS⟩, hk, hn, (fun q => by rw [K.2.2.2.1] at q; cases q), hQ, fun fs q => retOut X K.1 K.2.2.2.1 (rfl) (Or.inr (Or.inl ⟨rfl, rfl, z, rfl⟩)) (hb K.2.1 hd) q⟩
theorem own_retD (K : own_Cx p s m meth c Z own nm bytes maxL (some .double)) (hJ : ∀ vm, w.1 vm → w.2 vm) {z : UInt64} (hd : own_D bytes pc .dreturn 1 pc') (hk : k ≤ R.cells) (hn : n ≤ R.slots) (hQ : Q (some (.double z)) h) : own_G w p l e R s m args below meth c Z Q h k n (mkF m pc Ls (.double z :: st)) := by
  obtain ⟨hd, -⟩ := hd
  intro T hX
  obtain ⟨L, vm, X, N, eT, hw, hS⟩ := hX
  exact ⟨T, some (.double z), h, k, n, ⟨L, vm, X, N, eT, hJ vm hw, hS⟩, hk, hn, (fun q => by rw [K.2.2.2.1] at q; cases q), hQ, fun fs q => retOut X K.1 K.2.2.2.1 (rfl) (Or.inr (Or.inr (Or.inl ⟨rfl, rfl, z, rfl⟩))) (hb K.2.1 hd) q⟩
theorem own_retA (K : own_Cx p s m meth c Z own nm bytes maxL (some tyR)) (hJ : ∀ vm, w.1 vm → w.2 vm) {v : Value} (hty : tyR.isReference = true) (hv : v.isRef = true) (hd : own_D bytes pc .areturn 1 pc') (hk : k ≤ R.cells) (hn : n ≤ R.slots) (hQ : Q (some (v)) h) : own_G w p l e R s m args below meth c Z Q h k n (mkF m pc Ls (v :: st)) := by
  obtain ⟨hd, -⟩ := hd
  intro T hX
  obtain ⟨L, vm, X, N, eT, hw, hS⟩ := hX
  exact ⟨T, some (v), h, k, n, ⟨L, vm, X, N, eT, hJ vm hw, hS⟩, hk, hn, (fun q => by rw [K.2.2.2.1] at q; cases q), hQ, fun fs q => retOut X K.1 K.2.2.2.1 (by rcases ref_cases hv with rfl | ⟨a, rfl⟩ <;> cases tyR <;> first | rfl | cases hty) (Or.inr (Or.inr (Or.inr (Or.inr ⟨rfl, hty, hv⟩)))) (hb K.2.1 hd) q⟩
theorem own_retV (K : own_Cx p s m meth c Z own nm bytes maxL none) (hJ : ∀ vm, w.1 vm → w.2 vm) (hd : own_D bytes pc .return_ 1 pc') (hk : k ≤ R.cells) (hn : n ≤ R.slots) (hQ : Q none h) : own_G w p l e R s m args below meth c Z Q h k n (mkF m pc Ls []) := by
  obtain ⟨hd, -⟩ := hd
  intro T hX
  obtain ⟨L, vm, X, N, eT, hw, hS⟩ := hX
  exact ⟨T, none, h, k, n, ⟨L, vm, X, N, eT, hJ vm hw, hS⟩, hk, hn, (fun _ => rfl), hQ, fun fs q => X.returnOut K.1 K.2.2.2.1 (hb K.2.1 hd) q⟩
theorem own_met {y : MethodName} {ws : List Cond} {rm : Room} {as' : Array Value} (hpn : plainFor y = true)
    (body : ∀ (p : Program) (e : Env) (s : State) (m : MethodId) (below : List Frame) (meth : Method) (c : Code), own_Cx p s m meth c Z y.cls y.name bytes maxL ret → own_G (fun vm => vm = s.vm, fun vm => vm = s.vm) p l e rm s m as' below meth c Z Q h 0 0 (entryFrame m as' maxL)) :
    own_Met none l Z y bytes maxL ret ws rm as' h Q := by
  unfold own_Met; dsimp only
  refine MetFree.of_bodySF hpn hisR ?_
  intro p e s m args below meth c s₁ Bd hml0 hP hK
  obtain ⟨rfl, hZ, hh⟩ := hP
  have X0 : Stand p l e rm s m args below meth c s₁ [] 0 0 := Stand.of_body Bd
  have e0 : s₁.heap = h := by rw [← hh, Bd.state]; rfl
  have hlk : meth.locks = false := BodyLoose.notSynchronized Bd
  obtain ⟨T', v, h', k', n', ⟨L, vm, X, N, eT, hw, hS⟩, r1, r2, r3, r4, r5⟩ := body p e s m below meth c ⟨Bd.exec, Bd.bytes, hml0, Bd.returns, hlk, hZ, findClass_of_methodNamed Bd.named, (name_of_methodNamed Bd.named Bd.method).1⟩ s₁
    ⟨[], s.vm, X0, Fr.nil _, e0, rfl, (State.WarmedH.refl s).since _⟩
  have hgr : h.size ≤ h'.size := by rw [← eT, ← hh]; exact X.same.2.1
  obtain rfl : vm = s.vm := hw
  obtain ⟨fs, hr, hrun, hended, hW, hsame⟩ := Stand.leave (s := s) X r3
  exact ⟨_, _, r5 fs hr, hrun, hended, v, L, rfl, ⟨by show Q v T'.heap; rw [eT]; exact r4, N, by show h.size ≤ T'.heap.size; rw [eT]; exact hgr⟩, ⟨_, rfl⟩, hW, hsame.mono r1 r2⟩
theorem own_metW {t : List String × List String} {y : MethodName} {ws : List Cond} {rm : Room} {as' : Array Value} (hpn : plainFor y = true)
    (body : ∀ (p : Program) (e : Env) (s : State) (m : MethodId) (below : List Frame) (meth : Method) (c : Code), own_Cx p s m meth c Z y.cls y.name bytes maxL ret → IB Z s.vm t.1 → own_G (fun vm => vm = s.vm, fun vm => IB Z vm t.2) p l e rm s m as' below meth c Z Q h 0 0 (entryFrame m as' maxL)) :
    own_Met (some t) l Z y bytes maxL ret ws rm as' h Q := by
  unfold own_Met; dsimp only
  refine MetFree.of_bodySF hpn hisR ?_
  intro p e s m args below meth c s₁ Bd hml0 hP hK
  obtain ⟨rfl, hZ, hh, hI⟩ := hP
  have X0 : Stand p l e rm s m args below meth c s₁ [] 0 0 := Stand.of_body Bd
  have e0 : s₁.heap = h := by rw [← hh, Bd.state]; rfl
  have hlk : meth.locks = false := BodyLoose.notSynchronized Bd
  obtain ⟨T', v, h', k', n', ⟨L, vm, X, N, eT, hw, hS⟩, r1, r2, r3, r4, r5⟩ := body p e s m below meth c ⟨Bd.exec, Bd.bytes, hml0, Bd.returns, hlk, hZ, findClass_of_methodNamed Bd.named, (name_of_methodNamed Bd.named Bd.method).1⟩ hI s₁
    ⟨[], s.vm, X0, Fr.nil _, e0, rfl, (State.WarmedH.refl s).since _⟩
  have hgr : h.size ≤ h'.size := by rw [← eT, ← hh]; exact X.same.2.1
  have hTi : T'.vm.interned = vm.interned := X.warmed.interned_eq
  have hIe : IB Z T'.vm t.2 := by obtain ⟨more, q1, q2⟩ := hw; exact ⟨more, hTi.trans q1, q2⟩
  obtain ⟨fs, hr, hrun, hended, q1, q2, q3, q4⟩ := Stand.leaveW X hS (Nat.le_of_eq (congrArg Array.size eT.symm)) r3
  exact ⟨_, _, r5 fs hr, hrun, hended, v, L, rfl, ⟨by show Q v T'.heap; rw [eT]; exact r4, N, by show h.size ≤ T'.heap.size; rw [eT]; exact hgr, hIe⟩, q1, q2, q3, q4.mono r1 r2⟩
theorem own_list_getD {vs : List Value} {cl : Cell} (e : cl.slots.toList = vs) (d : Value) {i : Nat} (hi : i < cl.slots.size) : cl.slots[i]? = some (vs.getD i d) := by
  subst e
  rw [List.getD_eq_getElem?_getD, Array.getElem?_toList, Array.getElem?_eq_getElem hi]; rfl
theorem own_arv {a : Addr} {ty : FieldType} {ad : String} {vs : List Value} (F : own_AK Z h (a, ty, ad, vs)) (hl : vs.length < 2147483648) : ∃ (kc : ClassId) (z : Int32), z.toNatClampNeg = vs.length ∧ ¬ z < 0 ∧ Arv Z h a kc ty z vs .null := by
  obtain ⟨cl, A, e1, e3, -, -⟩ := F
  have e1' : cl.slots.toList = vs := e1
  have hsz : cl.slots.size = vs.length := by rw [← Array.length_toList, e1']
  have q := len_toInt (n := vs.length) (by omega)
  have z0 : ¬ vs.length.toInt32 < 0 := by rw [Int32.lt_iff_toInt_lt, q, show (0 : Int32).toInt = 0 from rfl]; omega
  have zc : vs.length.toInt32.toNatClampNeg = vs.length := by simp only [Int32.toNatClampNeg, q]; rfl
  refine ⟨cl.cls, vs.length.toInt32, zc, z0, cl, A, rfl, by rw [zc]; exact hsz, z0, fun i hi => own_list_getD e1' _ hi, fun i hi => ?_⟩
  have hi' : i < vs.length := by omega
  rw [List.getD_eq_getElem?_getD, List.getElem?_eq_getElem hi']
  exact e3 _ (List.getElem_mem hi')
theorem own_of_arv {a : Addr} {ty : FieldType} {vs : List Value} {kc : ClassId} {z : Int32} {d : Value} (F : Arv Z h a kc ty z vs d) (hz : z.toNatClampNeg = vs.length) : ∃ cl : Cell, Arr Z h a cl ty ∧ cl.cls = kc ∧ cl.slots.toList = vs ∧ ∀ v ∈ vs, fits ty v = true := by
  obtain ⟨cl, A, e1, e2, -, H, G⟩ := F
  have hsz : cl.slots.size = vs.length := e2.trans hz
  refine ⟨cl, A, e1, ?_, fun v hv => ?_⟩
  · apply List.ext_getElem?
    intro i
    rw [Array.getElem?_toList]
    by_cases hi : i < cl.slots.size
    · rw [H i hi, List.getD_eq_getElem?_getD, List.getElem?_eq_getElem (by omega)]; rfl
    · rw [Array.getElem?_eq_none (by omega), List.getElem?_eq_none (by omega)]
  · obtain ⟨i, hi, rfl⟩ := List.getElem_of_mem hv
    have := G i (by omega)
    rw [List.getD_eq_getElem?_getD, List.getElem?_eq_getElem hi] at this
    exact this
theorem own_H.keepA (H : own_H Z h os as) {b : Addr} {ty : FieldType} {ad : String} {vd vd' : List Value} {i : Nat} (had : ad ≠ "") (hb : as[i]? = some (b, ty, ad, vd)) (Kp : Keep h h' [b]) (F : ∃ cl : Cell, Arr Z h' b cl ty ∧ cl.slots.toList = vd' ∧ ∀ v ∈ vd', fits ty v = true) (hty : ∀ C, ty ≠ .object C) : own_H Z h' os (as.set i (b, ty, ad, vd')) := by
  have nb := (H.2.2.1 _ (own_mem hb)).1 had
  have hlen := (List.getElem?_eq_some_iff.mp hb).1
  refine ⟨⟨Nat.le_trans H.1.1 Kp.1, fun x cx hx => Kp.2.1 x cx (H.1.2 x cx hx) fun q => ?_⟩, fun o ho => ?_, fun y hy => ?_, ?_⟩
  · cases List.mem_singleton.mp q; exact absurd (Array.getElem?_eq_some_iff.mp hx).1 (Nat.not_lt.mpr nb)
  · obtain ⟨n1, E, F', Pw⟩ := H.2.1 o ho
    exact ⟨n1, E.keep Kp, fun f hf => (F' f hf).keep Kp fun q => H.neOA ho (own_mem hb) (Or.inr had) (List.mem_singleton.mp q), Pw⟩
  · obtain ⟨j, hj⟩ := List.mem_iff_getElem?.mp hy
    rw [List.getElem?_set] at hj
    by_cases ij : i = j
    · subst ij
      rw [if_pos rfl, if_pos hlen] at hj
      obtain rfl := Option.some.inj hj
      obtain ⟨cl, A, e1, e2⟩ := F
      obtain ⟨-, cl0, -, -, -, e4, -⟩ := H.2.2.1 _ (own_mem hb)
      exact ⟨fun _ => nb, cl, A, e1, e2, fun q => (e4 q).keep Kp, fun C hC => absurd hC (hty C)⟩
    · rw [if_neg ij] at hj
      obtain ⟨n1, cl, h1, h2, h3, h4, h5⟩ := H.2.2.1 _ (own_mem hj)
      exact ⟨n1, cl, ⟨Kp.2.1 _ _ h1.1 fun q => H.neAA hj hb (Ne.symm ij) had (List.mem_singleton.mp q), h1.2⟩, h2, h3, fun q => (h4 q).keep Kp, h5⟩
  · rw [own_set_map (f := own_ka) (x' := (b, ty, ad, vd')) hb rfl]; exact H.2.2.2
theorem own_range_take {vs : List Value} {sq nq : Nat} {d : Value} (hq : sq + nq ≤ vs.length) : (vs.drop sq).take nq = (List.range nq).map fun i => vs.getD (sq + i) d := by
  apply List.ext_getElem?
  intro i
  by_cases hi : i < nq
  · rw [List.getElem?_take_of_lt hi, List.getElem?_drop, List.getElem?_map, List.getElem?_range hi, Option.map_some, List.getD_eq_getElem?_getD, List.getElem?_eq_getElem (by omega)]; rfl
  · rw [List.getElem?_eq_none (by simp; omega), List.getElem?_eq_none (by simp; omega)]
theorem own_arraycopy (K : own_Cx p s m meth c Z own nm bytes maxL ret) {i ia ib : Nat} {a b : Addr} {ty : FieldType} {ada adb : String} {vs vd : List Value} {sp dp nn : Int32} {sq dq nq : Nat} (hd : own_D bytes pc (.invokestatic i) 3 pc') (w1 : (Cond.methodLink own i Jvm.Stand.acN).before a0 Z = true) (w2 : (Cond.native Jvm.Stand.acN).before a0 Z = true) (w3 : (Cond.static Jvm.Stand.acN).before a0 Z = true) (w4 : (Cond.initialized "java/lang/System").before a0 Z = true) (H : own_H Z h os as)
    (ha : as[ia]? = some (a, ty, ada, vs)) (hb' : as[ib]? = some (b, ty, adb, vd)) (hty : refKind ty = false) (hto : ∀ C, ty ≠ .object C) (hsp : sp.toInt = (sq : Int)) (hdp : dp.toInt = (dq : Int)) (hnn : nn.toInt = (nq : Int)) (h4 : sq + nq ≤ vs.length) (h5 : dq + nq ≤ vd.length) (hvl : vs.length < 2147483648) (hvd : vd.length < 2147483648) (hsz : Ls.size = maxL) (hf : 1 ≤ R.frames) {W : Nat} (hW : (st.map fun v => v.category).sum ≤ W) (hlo : W + (nativeFrameWords "java/lang/System" "arraycopy" 5 + 11) ≤ R.locals)
    (hr : ∀ h', own_H Z h' os (as.set ib (b, ty, adb, vd.take dq ++ (vs.drop sq).take nq ++ vd.drop (dq + nq))) → own_G w p l e R s m args below meth c Z Q h' k n (mkF m pc' Ls st)) (hadb : adb ≠ "" := by decide) : own_G w p l e R s m args below meth c Z Q h k n (mkF m pc Ls (.int nn :: .int dp :: .ref b :: .int sp :: .ref a :: st)) := by
  obtain ⟨hd, rfl⟩ := hd
  refine own_step K (P := fun h' => own_H Z h' os (as.set ib (b, ty, adb, vd.take dq ++ (vs.drop sq).take nq ++ vd.drop (dq + nq)))) (fun X hZ hw eT N => ?_) hr
  obtain ⟨ka, za, qa1, qa2, A⟩ := own_arv (H.2.2.1 _ (own_mem ha)).2 hvl
  obtain ⟨kb, zb, qb1, qb2, B⟩ := own_arv (H.2.2.1 _ (own_mem hb')).2 hvd
  have i1 := own_idx hsp
  have i2 := own_idx hdp
  have i3 := own_idx hnn
  have neg : ∀ {x : Int32} {q : Nat}, x.toInt = (q : Int) → ¬ x < 0 := fun {x q} e => by rw [Int32.lt_iff_toInt_lt, e, show (0 : Int32).toInt = 0 from rfl]; omega
  obtain ⟨T', h', L, X', e', N', Kp, A', st⟩ := cpA X K.1 hZ hw w1 w2 w3 w4 eT A B (Or.inl ⟨rfl, hty⟩) (neg hsp) (neg hdp) (neg hnn) (by rw [i1, i3, qa1]; exact h4) (by rw [i2, i3, qb1]; exact h5) (by rw [i1, i3]) (by rw [i2, i3]; exact h5) N ((H.2.2.1 _ (own_mem hb')).1 hadb) (g := mkF m pc Ls (.int nn :: .int dp :: .ref b :: .int sp :: .ref a :: st)) rfl (hsz.trans K.2.2.1.symm) rfl (hb K.2.1 hd) hf (W := W) (by show 2 * 0 + _ ≤ W; simpa using hW) hlo
  rw [i2, i3, ← own_range_take h4] at A'
  obtain ⟨cl, c1, -, c3, c4⟩ := own_of_arv A' (by rw [qb1]; simp; omega)
  exact ⟨T', h', L, X', N', e', Kp.1, H.keepA hadb hb' Kp ⟨cl, c1, c3, c4⟩ hto, st⟩
theorem own_cast {g g' : JFrame} (q : g = g') (hr : own_G w p l e R s m args below meth c Z Q h k n g') : own_G w p l e R s m args below meth c Z Q h k n g := q ▸ hr
theorem own_topI {x x' : Int32} (q : x = x') (hr : own_G w p l e R s m args below meth c Z Q h k n (mkF m pc Ls (.int x' :: st))) : own_G w p l e R s m args below meth c Z Q h k n (mkF m pc Ls (.int x :: st)) := q ▸ hr
theorem own_topL {x x' : Int64} (q : x = x') (hr : own_G w p l e R s m args below meth c Z Q h k n (mkF m pc Ls (.long x' :: st))) : own_G w p l e R s m args below meth c Z Q h k n (mkF m pc Ls (.long x :: st)) := q ▸ hr
theorem own_topD {x x' : UInt64} (q : x = x') (hr : own_G w p l e R s m args below meth c Z Q h k n (mkF m pc Ls (.double x' :: st))) : own_G w p l e R s m args below meth c Z Q h k n (mkF m pc Ls (.double x :: st)) := q ▸ hr
theorem own_H.perm (H : own_H Z h os as) (po : os.Perm os') (pa : as.Perm as') : own_H Z h os' as' :=
  ⟨H.1, fun o ho => H.2.1 o (po.mem_iff.mpr ho), fun a ha => H.2.2.1 a (pa.mem_iff.mpr ha), (((po.map _).append (pa.map _)).pairwise_iff own_ap.symm).mp H.2.2.2⟩
theorem own_front {α : Type} {L : List α} {x : α} : ∀ {i : Nat}, L[i]? = some x → L.Perm (x :: L.eraseIdx i) := by
  induction L with
  | nil => intro i hx; cases hx
  | cons y L ih =>
    intro i hx
    cases i with
    | zero => cases hx; exact List.Perm.refl _
    | succ i =>
      have q := ih (i := i) (by simpa using hx)
      exact ((q.cons y).trans (List.Perm.swap x y _))
theorem own_H.frontO (H : own_H Z h os as) (i : Nat) {x : own_O} (hx : os[i]? = some x) : own_H Z h (x :: os.eraseIdx i) as := H.perm (own_front hx) (List.Perm.refl _)
theorem own_H.frontA (H : own_H Z h os as) (i : Nat) {x : own_A} (hx : as[i]? = some x) : own_H Z h os (x :: as.eraseIdx i) := H.perm (List.Perm.refl _) (own_front hx)
end OwnKit
end Jvm.RoadKit
namespace Jvm.RoadKit
open Sem ClassFile Op Lib Bundle Jvm.Stand Jvm.Free Jvm.LawKit Jvm.Free.SB Jvm.Free.SBG
section OwnLit
variable {w : own_W} {p : Program} {l : Launch} {e : Env} {R : Room} {s : State} {m : MethodId} {args : Array Value} {below : List Frame} {meth : Method} {c : Code} {Z : State} {a0 : Array Value} {own nm : String} {bytes : ByteArray} {maxL : Nat} {ret : Option FieldType} {Q : Option Value → Heap → Prop} {h h' : Heap} {k n k' n' : Nat} {pc pc' pcT : Nat} {Ls Ls' : Array Slot} {st rest : List Value} {os os' : List own_O} {as as' : List own_A} {g g' : JFrame} {vm vm0 vm1 : Vm} {Ts : List String} {text : String} {i : Nat}
theorem own_IB (q : vm1.interned = vm0.interned) (I : IB Z vm0 Ts) : IB Z vm1 Ts := by obtain ⟨more, e1, e2⟩ := I; exact ⟨more, q.trans e1, e2⟩
theorem own_weak {J' : Vm → Prop} (hJ : ∀ vm, w.1 vm → J' vm) (hr : own_G (J', w.2) p l e R s m args below meth c Z Q h k n g) : own_G w p l e R s m args below meth c Z Q h k n g := fun T hX => by
  obtain ⟨L, vm, X, N, eT, hw, hS⟩ := hX
  exact hr T ⟨L, vm, X, N, eT, hJ vm hw, hS⟩
theorem own_join {g1 : JFrame} (hs : own_G w p l e R s m args below meth c Z Q h k n g1) (hr : own_G w p l e R s m args below meth c Z Q h k n g1 → own_G w p l e R s m args below meth c Z Q h k n g) : own_G w p l e R s m args below meth c Z Q h k n g := hr hs
theorem own_joinB {F : Bool → JFrame} (hs : ∀ b, own_G w p l e R s m args below meth c Z Q h k n (F b)) (hr : (∀ b, own_G w p l e R s m args below meth c Z Q h k n (F b)) → own_G w p l e R s m args below meth c Z Q h k n g) : own_G w p l e R s m args below meth c Z Q h k n g := hr hs
theorem own_joinP {g1 : JFrame} (P : Prop) (hs : P → own_G w p l e R s m args below meth c Z Q h k n g1) (hr : (P → own_G w p l e R s m args below meth c Z Q h k n g1) → own_G w p l e R s m args below meth c Z Q h k n g) : own_G w p l e R s m args below meth c Z Q h k n g := hr hs
theorem own_rec {F : Nat → JFrame} {N : Nat} (I : Nat → Prop) (hs : ∀ i, i ≤ N → I i → (∀ i', i < i' → i' ≤ N → I i' → own_G w p l e R s m args below meth c Z Q h k n (F i')) → own_G w p l e R s m args below meth c Z Q h k n (F i)) (i : Nat) (hi : i ≤ N) (hI : I i) : own_G w p l e R s m args below meth c Z Q h k n (F i) := by
  have key : ∀ d i, i ≤ N → N - i ≤ d → I i → own_G w p l e R s m args below meth c Z Q h k n (F i) := by
    intro d
    induction d with
    | zero => intro i hi hd hI; exact hs i hi hI fun i' h1 h2 _ => absurd h1 (by omega)
    | succ d ih => intro i hi hd hI; exact hs i hi hI fun i' h1 h2 h3 => ih i' h2 (by omega) h3
  exact key _ i hi (Nat.le_refl _) hI
abbrev own_SR (a : Addr) (f0 f1 : Value) : own_O := (a, "java/lang/String", [("java/lang/String", "coder", "B", f0), ("java/lang/String", "value", "[B", f1)])
theorem own_IBm (I : IB Z vm []) : IB Z vm Ts := by obtain ⟨more, e1, e2⟩ := I; exact ⟨more, e1, fun q hq => by obtain ⟨t, ht, -⟩ := e2 q hq; cases ht⟩
/-- a field that the later tables find is the start's field -/
theorem own_upF (al : Z.vm.Alike vm) {a : Addr} {cell : Cell} {C n d : String} {v : Value} {f : Field} (hc : h[a]? = some cell) (hu : cell.vm ≠ .unknown) (ho : cell.vm.isStatics = false) (hf : ∃ cf kf ix, (Wst Z vm h).fieldFound? C n d = some (cf, kf, ix, f) ∧ vm.assignable cell.cls cf = true) (hs : f.isStatic = false) (hv : cell.slots[f.slot]? = some v) : Fld Z h a C n d v := by
  obtain ⟨cf, kf, ix, e1, e2⟩ := hf
  obtain ⟨kZ, eZ⟩ := ff_back (U := Wst Z vm h) al e1
  exact ⟨cell, cf, kZ, ix, f, hc, eZ, hs, hu, ho, by rw [← al.assignable]; exact e2, hv⟩
/-- a class that the later tables find is the start's, its record but for what warms -/
theorem own_upC (al : Z.vm.Alike vm) {C : String} {ci : ClassId} {kc : Class} (hf : vm.findClass C = some ci) (hk : vm.classes[ci]? = some kc) : Z.vm.findClass C = some ci ∧ ∃ kZ : Class, Z.vm.classes[ci]? = some kZ ∧ kZ.kind = kc.kind ∧ kZ.instanceTypes = kc.instanceTypes := by
  have fZ : Z.vm.findClass C = some ci := by rw [← al.findClass]; exact hf
  obtain ⟨kZ, hZ, -⟩ := Vm.findClass_spec fZ
  obtain ⟨k', h1, h2⟩ := al.2.2 _ _ hZ
  obtain rfl : k' = kc := Option.some.inj (h1.symm.trans hk)
  exact ⟨fZ, kZ, hZ, (congrArg Class.kind h2).symm, (congrArg Class.instanceTypes h2).symm⟩
theorem own_unpack {units : Array UInt16} {vs : List Value} (hZ : Z.Warmed39 vm) (htext : utf16ToString? units = some text) (ht : (∀ c ∈ text.toList, c.toNat < 256) ∧ text.toList.map (fun c => Value.int (Jvm.Lit.byteI c.toNat.toUInt16)) = vs)
    (hP : slotOf Z "java/lang/String" "coder" "B" ≠ slotOf Z "java/lang/String" "value" "[B") {q : SQ} (F : SlB (Wst Z vm h) q units) : own_OK Z h (own_SR q.sa (.int (0 : Int32)) (.ref q.sd)) ∧ own_AK Z h (q.sd, .byte, "", vs) := by
  have al := hZ.alike
  obtain ⟨cS, ⟨S, hfS, hcS⟩, ⟨kS, hkS, -, hlen⟩, hB, hby⟩ := F
  subst hcS
  obtain ⟨fS, kZ, hkZ, -, hty⟩ := own_upC al (show vm.findClass "java/lang/String" = some q.sC.cls from hfS) hkS
  obtain ⟨hcell, hunk, hobj, ⟨c1, k1, i1, v1, w1⟩, ⟨c2, k2, i2, v2, w2⟩, stV, stC, slV, slC, harr, ⟨nst, kA, hkA, comp, hkind⟩, aunk, -, -, -, hfit⟩ := S
  obtain ⟨-, kB, hkB, hkd, -⟩ := own_upC al (show vm.findClass "[B" = some q.SA.cls from hB) hkA
  have bytes : q.SA.slots.toList = vs := by
    rw [hby, SBG.stringBytes_lat (Jvm.ClassFile.lat_of_text htext ht.1), ← ht.2, Array.toList_map, Jvm.ClassFile.units_of_text htext ht.1, List.map_map]; rfl
  have coder := own_upF al (v := .int 0) hcell hunk hobj ⟨c2, k2, i2, v2, w2⟩ stC slC
  have value := own_upF al (v := .ref q.sd) hcell hunk hobj ⟨c1, k1, i1, v1, w1⟩ stV slV
  refine ⟨⟨⟨q.sC, kZ, hcell, fS, hkZ, hobj, fun _ => hlen.trans (congrArg Array.size hty).symm⟩, fun f hf => ?_, ?_⟩, q.SA, ⟨harr, ⟨nst, kB, hkB, comp, hkd.trans hkind⟩, aunk⟩, bytes, fun v hv => ?_, fun z => absurd rfl z, fun C hC => by cases hC⟩
  · simp only [List.mem_cons, List.not_mem_nil, or_false] at hf
    rcases hf with rfl | rfl
    · exact coder
    · exact value
  · exact List.pairwise_cons.mpr ⟨fun y hy => by obtain rfl := List.mem_singleton.mp hy; exact hP, List.pairwise_singleton _ _⟩
  · rw [← bytes] at hv
    obtain ⟨j, hj, rfl⟩ := List.getElem_of_mem hv
    rw [Array.length_toList] at hj
    have z := hfit j hj
    rw [Array.getD_eq_getD_getElem?, Array.getElem?_eq_getElem hj] at z
    simpa using z
theorem own_atoms {s : State} (hZ : Z.Warmed39 s.vm) (wS : ∀ a ∈ Bundle.stringAtoms, a.before a0 Z = true) : ∀ a ∈ Bundle.stringAtoms, a.before args s = true := fun d hd => by
  have q := wS d hd
  simp only [Bundle.stringAtoms, List.mem_cons, List.not_mem_nil, or_false] at hd
  rcases hd with rfl | rfl | rfl | rfl | rfl | rfl | rfl
  case inr.inr.inl => exact mvA hZ q
  all_goals exact mv hZ q
theorem own_heldC (hZ : Z.Warmed39 vm) (ws : (Cond.stringLink own i text).before a0 Z = true) (wS : ∀ a ∈ Bundle.stringAtoms, a.before a0 Z = true) (I : IB Z vm Ts) (hnot : text ∉ Ts) (hh : Jvm.Lit.constHeld Z own i) (hcw : Jvm.Lit.compactW.before a0 Z = true) (ht : ∀ c ∈ text.toList, c.toNat < 256) (E : Ext Z.heap h) :
    CHv Z [(own, i)] vm h ∧ ∀ x, Z.heap.size ≤ x → Safe Z [(own, i)] vm h x := by
  have wi : (Cond.instantiable "java/lang/String" 4).before a0 Z = true := wS _ (by simp [Bundle.stringAtoms, Bundle.sN])
  have wa : (Cond.arrayClass .byte).before a0 Z = true := wS _ (by simp [Bundle.stringAtoms])
  have h0 := heldStart hh ws ht hcw wa wi
  have h1 : ConstHeldL (Wst Z vm h) own i := heldCarry (s := { Z with heap := h }) hZ ws I hnot (fun b cl q => E.2 b cl q) h0
  have h2 : ConstHeldL (Z.setVm vm) own i := heldCarry (s := Z) hZ ws I hnot (fun b cl q => q) h0
  refine ⟨fun p hp u a hb => ?_, fun x hx B => ?_⟩
  · obtain rfl := List.mem_singleton.mp hp
    obtain ⟨c, k, cf, j, q1, q2, q3, q4, q5, q6⟩ := hb
    exact h1 c k cf j u a q1 q2 q3 q4 q5 q6
  · obtain ⟨p, hp, u, a, hb, q, hq, F, hy⟩ := B
    obtain rfl := List.mem_singleton.mp hp
    obtain ⟨c, k, cf, j, q1, q2, q3, q4, q5, q6⟩ := hb
    obtain ⟨q', hq', F'⟩ := SlB.of (h2 c k cf j u a q1 q2 q3 q4 q5 q6)
    have e1 : q'.sa = q.sa := hq'.trans hq.symm
    have e2 : q'.sC = q.sC := by
      have t := E.2 _ _ (show Z.heap[q'.sa]? = some q'.sC from F'.ha)
      rw [e1] at t
      exact Option.some.inj (t.symm.trans F.ha)
    have e3 : q'.sd = q.sd := F.same F' (Vm.Alike.refl _) e1 e2
    have l1 : q'.sa < Z.heap.size := (Array.getElem?_eq_some_iff.mp (show Z.heap[q'.sa]? = some q'.sC from F'.ha)).1
    have l2 : q'.sd < Z.heap.size := (Array.getElem?_eq_some_iff.mp (show Z.heap[q'.sd]? = some q'.SA from F'.hd)).1
    rw [e1] at l1; rw [e3] at l2
    rcases hy with rfl | rfl
    · exact absurd hx (Nat.not_le.mpr l1)
    · exact absurd hx (Nat.not_le.mpr l2)
/-- a literal whose text matters -/
theorem own_ldcL (K : own_Cx p s m meth c Z own nm bytes maxL ret) {nn : Nat} (hd : own_D bytes pc (.ldc i) 2 pc') (ws : (Cond.stringLink own i text).before a0 Z = true) (wS : ∀ a ∈ Bundle.stringAtoms, a.before a0 Z = true) (hI : ∀ vm, w.1 vm → IB Z vm Ts) (hnot : text ∉ Ts) (hh : Jvm.Lit.constHeld Z own i) (hcw : Jvm.Lit.compactW.before a0 Z = true) {vs : List Value} (ht : (∀ c ∈ text.toList, c.toNat < 256) ∧ text.toList.map (fun c => Value.int (Jvm.Lit.byteI c.toNat.toUInt16)) = vs) (hP : slotOf Z "java/lang/String" "coder" "B" ≠ slotOf Z "java/lang/String" "value" "[B") (H : own_H Z h os as) (hn : 4 * text.toList.length ≤ nn) (hbig : nn ≤ 536870912) (hc : k + 2 ≤ R.cells) (hl : n + (nn + 4) ≤ R.slots)
    (hr : ∀ h' a b, own_H Z h' (own_SR a (.int (0 : Int32)) (.ref b) :: os) ((b, .byte, "", vs) :: as) → own_G (fun vm => IB Z vm (text :: Ts) ∧ Lit (s.setVm vm) own i a, w.2) p l e R s m args below meth c Z Q h' (k + 2) (n + (nn + 4)) (mkF m pc' Ls (.ref a :: st))) : own_G w p l e R s m args below meth c Z Q h k n (mkF m pc Ls st) := by
  obtain ⟨hd, rfl⟩ := hd
  intro T hX
  obtain ⟨L, vm, X, N, eT, hw, hS⟩ := hX
  have hZ := own_zw K.2.2.2.2.2.1 hS
  have hown : vm.findClass own = some m.cls := by rw [hS.1.alike.findClass]; exact K.2.2.2.2.2.2.1
  obtain ⟨a, T1, X1, hS1, ⟨kk, hkk, hrr⟩, hkeep, hTW, hint, st1⟩ := X.ldcColdN K.1 (own := own) hown (mvS hZ ws) (own_atoms (s := s.setVm vm) hZ wS) (g := mkF m pc Ls st) rfl (hb K.2.1 hd) hn hbig hc hl
  subst eT
  have E := ext_of hkeep
  have hf : T1.vm.findClass own = some m.cls := by rw [hS1.1.alike.findClass]; exact hown
  have hS2 : s.Since T1.vm T1.heap.size := hS.trans hS1 E.1
  have hTi : T.vm.interned = vm.interned := X.warmed.interned_eq
  have I1 : IB Z T1.vm (text :: Ts) := (hI vm hw).step (hint.imp (fun q => q.trans hTi) fun ⟨us, q1, q2, _⟩ => ⟨us, a, q1, by rw [← hTi]; exact q2⟩)
  have hL : Lit (s.setVm T1.vm) own i a := by simp [Lit, State.resolvedAt?, hf, hkk, hrr]
  obtain ⟨hC, hSf⟩ := own_heldC hZ ws wS (hI vm hw) hnot hh hcw ht.1 H.1
  have hEL : EW Z a0 [(own, i)] := EW.cons ws ht.1 EW.nil
  have A := CHv.at X hZ hEL hC
  have hZT : Z.Warmed39 T.vm := wtrans (s := s.setVm vm) hZ X.warmed
  have B := CHv.later (vm := T.vm) (vm1 := T1.vm) hZT (show (Wst Z T.vm T.heap).Warmed39 T1.vm from hTW) hEL E (hint.imp id fun ⟨us, _, q1, q2, q3⟩ => ⟨us, a, q1, q2, fun hl => by
    obtain ⟨q, cS, hq, r1, r2, r3, r4, r5⟩ := q3 hl
    have F : SlB T1 q us := ⟨cS, r1, r2, r3, r4⟩
    refine ⟨q, hq, F.carry (V := Wst Z T1.vm T1.heap) (Vm.Alike.refl _) F.ha F.hd, ?_⟩
    rcases r5 with ⟨z, -⟩ | z
    · exact absurd z (Nat.not_lt_zero _)
    · exact z⟩) A.1
  have hZ1 : Z.Warmed39 T1.vm := State.Warmed39.trans (t := s.setVm vm) hZ hS1.1
  have w2 : (Cond.stringLink own i text).before a0 (Wst Z T1.vm T1.heap) = true := mvS (s := { Z with heap := T1.heap }) hZ1 ws
  obtain ⟨k0', cf, j, units, hkx, hcf, hp, hu, -, htext, -⟩ := Cond.stringLink_spec (s := Wst Z T1.vm T1.heap) hf w2
  have hkx : T1.vm.classes[m.cls]? = some k0' := hkx
  have ekk : k0' = kk := Option.some.inj (hkx.symm.trans hkk)
  have hB0 : Booksv T1.vm own i units a := ⟨m.cls, k0', cf, j, hf, hkx, hcf, hp, hu, Or.inl (by rw [ekk]; exact hrr)⟩
  obtain ⟨q, hqa, F⟩ := SlB.of (B.1 _ (List.mem_singleton.mpr rfl) units a hB0)
  have hne : ∀ x, Z.heap.size ≤ x → x < T.heap.size → x ≠ q.sa ∧ x ≠ q.sd := fun x hx hlt => by
    have S1 : Safe Z [(own, i)] T1.vm T1.heap x := (A.trans ⟨B.1, E.1, B.2⟩).safe hlt (hSf x hx)
    exact ⟨fun e1 => S1 ⟨_, List.mem_singleton.mpr rfl, units, a, hB0, q, hqa, F, Or.inl e1⟩, fun e1 => S1 ⟨_, List.mem_singleton.mpr rfl, units, a, hB0, q, hqa, F, Or.inr e1⟩⟩
  obtain ⟨U1, U2⟩ := own_unpack hZ1 htext ht hP F
  have hap : ∀ y ∈ os.map own_k ++ as.map own_ka, own_ap (q.sa, true) y ∧ own_ap (q.sd, true) y := fun y hy => by
    have lt := H.fresh y hy
    rcases Bool.eq_false_or_eq_true y.2 with t | t
    · exact ⟨Or.inl ⟨rfl, t⟩, Or.inl ⟨rfl, t⟩⟩
    · have hx : Z.heap.size ≤ y.1 := by
        rcases List.mem_append.mp hy with hy | hy
        · obtain ⟨o, ho, rfl⟩ := List.mem_map.mp hy; exact (H.2.1 o ho).1 t
        · obtain ⟨o, ho, rfl⟩ := List.mem_map.mp hy; exact (H.2.2.1 o ho).1 (of_decide_eq_false t)
      have z := hne y.1 hx lt
      exact ⟨Or.inr z.1.symm, Or.inr z.2.symm⟩
  subst hqa
  have H1 : own_H Z T1.heap (own_SR q.sa (.int (0 : Int32)) (.ref q.sd) :: os) as := H.consO E U1 (fun z => by cases z) fun y hy => (hap y hy).1
  have H2 : own_H Z T1.heap (own_SR q.sa (.int (0 : Int32)) (.ref q.sd) :: os) ((q.sd, .byte, "", vs) :: as) := H1.consA ⟨Nat.le_refl _, fun _ _ q => q⟩ U2 (fun z => absurd rfl z) fun y hy => by
    rcases List.mem_cons.mp hy with rfl | hy
    · exact Or.inl ⟨rfl, rfl⟩
    · exact (hap y hy).2
  obtain ⟨T', v', h', k', n', hX', r1, r2, r3, r4, r5⟩ := hr T1.heap q.sa q.sd H2 T1 ⟨_, T1.vm, X1, N, rfl, ⟨I1, hL⟩, hS2⟩
  exact ⟨T', v', h', k', n', hX', r1, r2, r3, r4, fun fs q => st1 _ (r5 fs q)⟩
/-- a literal whose text does not matter -/
theorem own_ldcO (K : own_Cx p s m meth c Z own nm bytes maxL ret) {nn : Nat} (hd : own_D bytes pc (.ldc i) 2 pc') (ws : (Cond.stringLink own i text).before a0 Z = true) (wS : ∀ a ∈ Bundle.stringAtoms, a.before a0 Z = true) (hI : ∀ vm, w.1 vm → IB Z vm Ts) (H : own_H Z h os as) (hn : 4 * text.toList.length ≤ nn) (hbig : nn ≤ 536870912) (hc : k + 2 ≤ R.cells) (hl : n + (nn + 4) ≤ R.slots)
    (hr : ∀ h' a, own_H Z h' os as → own_G (fun vm => IB Z vm (text :: Ts), w.2) p l e R s m args below meth c Z Q h' (k + 2) (n + (nn + 4)) (mkF m pc' Ls (.ref a :: st))) : own_G w p l e R s m args below meth c Z Q h k n (mkF m pc Ls st) := by
  obtain ⟨hd, rfl⟩ := hd
  intro T hX
  obtain ⟨L, vm, X, N, eT, hw, hS⟩ := hX
  have hZ := own_zw K.2.2.2.2.2.1 hS
  have hown : vm.findClass own = some m.cls := by rw [hS.1.alike.findClass]; exact K.2.2.2.2.2.2.1
  obtain ⟨a, T1, X1, hS1, ⟨kk, hkk, hrr⟩, hkeep, hTW, hint, st1⟩ := X.ldcColdN K.1 (own := own) hown (mvS hZ ws) (own_atoms (s := s.setVm vm) hZ wS) (g := mkF m pc Ls st) rfl (hb K.2.1 hd) hn hbig hc hl
  subst eT
  have E := ext_of hkeep
  have hf : T1.vm.findClass own = some m.cls := by rw [hS1.1.alike.findClass]; exact hown
  have hS2 : s.Since T1.vm T1.heap.size := hS.trans hS1 E.1
  have hTi : T.vm.interned = vm.interned := X.warmed.interned_eq
  have I1 : IB Z T1.vm (text :: Ts) := (hI vm hw).step (hint.imp (fun q => q.trans hTi) fun ⟨us, q1, q2, _⟩ => ⟨us, a, q1, by rw [← hTi]; exact q2⟩)
  have hL : Lit (s.setVm T1.vm) own i a := by simp [Lit, State.resolvedAt?, hf, hkk, hrr]
  obtain ⟨T', v', h', k', n', hX', r1, r2, r3, r4, r5⟩ := hr T1.heap a (H.ext E) T1 ⟨_, T1.vm, X1, N, rfl, I1, hS2⟩
  exact ⟨T', v', h', k', n', hX', r1, r2, r3, r4, fun fs q => st1 _ (r5 fs q)⟩
/-- an entry that this walk has loaded -/
theorem own_ldcA (K : own_Cx p s m meth c Z own nm bytes maxL ret) {a : Addr} (hd : own_D bytes pc (.ldc i) 2 pc') (ws : (Cond.stringLink own i text).before a0 Z = true) (hL : ∀ vm, w.1 vm → Lit (s.setVm vm) own i a)
    (hr : own_G w p l e R s m args below meth c Z Q h k n (mkF m pc' Ls (.ref a :: st))) : own_G w p l e R s m args below meth c Z Q h k n (mkF m pc Ls st) := by
  obtain ⟨hd, rfl⟩ := hd
  intro T hX
  obtain ⟨L, vm, X, N, eT, hw, hS⟩ := hX
  have hZ := own_zw K.2.2.2.2.2.1 hS
  have hown : vm.findClass own = some m.cls := by rw [hS.1.alike.findClass]; exact K.2.2.2.2.2.2.1
  obtain ⟨T', v', h', k', n', hX', r1, r2, r3, r4, r5⟩ := hr T ⟨L, vm, X, N, eT, hw, hS⟩
  exact ⟨T', v', h', k', n', hX', r1, r2, r3, r4, fun fs q => ldcAgain X K.1 hZ hown ws (hL vm hw) (g := mkF m pc Ls st) rfl (hb K.2.1 hd) _ (r5 fs q)⟩
theorem own_back {y : MethodName} {b : ByteArray} {ml : Nat} {rt : Option FieldType} {rm : Room} {len W : Nat} {as' : Array Value} {t : List String × List String} {Qc : Option Value → Heap → Prop} (hM : own_Met (some t) l Z y b ml rt [] rm as' h Qc) (hZ : Z.Warmed39 vm) (hI : IB Z vm t.1)
    (wc : (Cond.code y b ml rt).before a0 Z = true) (wz : (Cond.initialized y.cls).before a0 Z = true) (hf : rm.frames + 1 ≤ R.frames) (hl : W + (ml + 11) + rm.locals ≤ R.locals) :
    BackS l R p e below (s.setVm vm) args y len W (fun A a => a = as' ∧ A.U.heap = h ∧ A.cells + rm.cells ≤ R.cells ∧ A.slots + rm.slots ≤ R.slots)
      (fun A _ v B => ∃ L, (Qc v B.U.heap ∧ Fr Z.heap.size L ∧ h.size ≤ B.U.heap.size ∧ IB Z B.U.vm t.2) ∧ B.locs = A.locs ++ L ∧ B.cells = A.cells + rm.cells ∧ B.slots = A.slots + rm.slots) :=
  BackS.of_freeW (bytes := b) (maxL := ml) (ret := rt) (E := fun _ _ o t' L k n => k = rm.cells ∧ n = rm.slots ∧ ∃ v, o = .returned v ∧ Qc v t'.heap ∧ Fr Z.heap.size L ∧ h.size ≤ t'.heap.size ∧ IB Z t'.vm t.2) (show MetFree l y (head1 (Cond.code y b ml rt :: []) rm) (fun a U => a = as' ∧ Z.Warmed39 U.vm ∧ U.heap = h ∧ IB Z U.vm t.1) (fun _ _ _ _ _ => True) (fun _ U o U' => ∃ v L, o = .returned v ∧ (Qc v U'.heap ∧ Fr Z.heap.size L ∧ h.size ≤ U'.heap.size ∧ IB Z U'.vm t.2) ∧ ReturnedEndW U o U' L rm.cells rm.slots) from hM) hf hl
    (fun m meth c A a Y hp => have hU : Z.Warmed39 A.U.vm := wtrans (s := s.setVm vm) hZ Y.warmed
      ⟨by show (Cond.and _ .tt).before a A.U = true; rw [Cond.before_and, mv hU wc]; rfl, mv hU wc, mv hU wz, hp.2.2.1, hp.2.2.2⟩)
    (fun m meth c A a g mk Y hp => ⟨hp.1, wtrans (s := s.setVm vm) hZ Y.warmed, hp.2.1, own_IB (vm0 := vm) Y.warmed.interned_eq hI⟩) (fun _ _ _ _ _ _ _ _ _ => trivial)
    (fun _ _ _ _ ⟨v, L, h1, h2, h3⟩ => ⟨L, _, _, h3, rfl, rfl, v, h1, h2⟩)
    (fun m meth c A a g mk v t' L k n Y hp _ _ ⟨e1, e2, v', e3, e4⟩ => by cases e3; subst e1 e2; exact ⟨L, e4, rfl, rfl, rfl⟩)
theorem own_staticW (K : own_Cx p s m meth c Z own nm bytes maxL ret) {i ml W : Nat} {y : MethodName} {b : ByteArray} {rt : Option FieldType} {rm : Room} {argsL : List Value} {t : List String × List String} {Qc : Option Value → Heap → Prop} {ps : List FieldType} {r : Option FieldType} (hI : ∀ vm, w.1 vm → IB Z vm t.1) (hd : own_D bytes pc (.invokestatic i) 3 pc') (w1 : (Cond.methodLink own i y).before a0 Z = true) (w2 : (Cond.static y).before a0 Z = true) (w3 : (Cond.initialized y.cls).before a0 Z = true) (w4 : (Cond.code y b ml rt).before a0 Z = true)
    (hM : own_Met (some t) l Z y b ml rt [] rm argsL.toArray h Qc) (hp : parseMethodDescriptor y.desc = some ⟨ps, r⟩) (hlen : argsL.length = ps.length) (hst : st = argsL.reverse ++ rest) (hsz : Ls.size = maxL) (hy : y.cls ≠ "java/lang/invoke/MethodHandle" ∧ y.cls ≠ "java/lang/invoke/VarHandle") (hW : (rest.map fun v => v.category).sum ≤ W) (hf : rm.frames + 1 ≤ R.frames) (hl : W + (ml + 11) + rm.locals ≤ R.locals) (hc : k + rm.cells ≤ R.cells) (hs : n + rm.slots ≤ R.slots)
    (hr : ∀ v h', Qc v h' → own_G (fun vm => IB Z vm t.2, w.2) p l e R s m args below meth c Z Q h' (k + rm.cells) (n + rm.slots) (mkF m (pc') Ls (v.toList ++ rest))) : own_G w p l e R s m args below meth c Z Q h k n (mkF m pc Ls st) := by
  obtain ⟨hd, rfl⟩ := hd
  intro T hX
  obtain ⟨L, vm, X, N, eT, hw, hS⟩ := hX
  have hZ := own_zw K.2.2.2.2.2.1 hS
  have hown : (s.setVm vm).vm.findClass own = some m.cls := by rw [show (s.setVm vm).vm = vm from rfl, hS.1.alike.findClass]; exact K.2.2.2.2.2.2.1
  obtain ⟨v, vm1, ⟨T1, L1, k1, n1⟩, -, X1, hS1, hg1, ⟨Lc, ⟨hQ, N1, z1, I1⟩, l1, y1, x1⟩, st1⟩ := callSS X K.1 (y := y) hown (mvT hZ w1) (mvT hZ w2) (mvT hZ w3) (mvT hZ w4) hy (own_back (W := W) hM hZ (hI vm hw) w4 w3 hf hl) (g := mkF m pc Ls st) rfl (hsz.trans K.2.2.1.symm) (argsL := argsL) (rest := rest) (lenOf hp hlen) hst (by show 2 * 0 + _ ≤ W; simpa using hW) (hb K.2.1 hd) (fun _ _ => ⟨rfl, eT, hc, hs⟩)
  dsimp only [Pt.U, Pt.locs, Pt.cells, Pt.slots] at X1 l1 y1 x1 st1 hQ z1 hS1 hg1 I1
  subst l1 y1 x1
  have hS2 : s.Since T1.vm T1.heap.size := hS.trans hS1 (by rw [← eT]; exact hg1)
  obtain ⟨T', v', h', k', n', hX', r1, r2, r3, r4, r5⟩ := hr v T1.heap hQ T1 ⟨_, T1.vm, X1, N.app N1, rfl, I1, hS2⟩
  exact ⟨T', v', h', k', n', hX', r1, r2, r3, r4, fun fs q => st1.trans (r5 fs q)⟩
theorem own_specialW (K : own_Cx p s m meth c Z own nm bytes maxL ret) {i ml W : Nat} {y : MethodName} {b : ByteArray} {rm : Room} {a : Addr} {argsL : List Value} {t : List String × List String} {Qc : Option Value → Heap → Prop} {ps : List FieldType} {r : Option FieldType} (hI : ∀ vm, w.1 vm → IB Z vm t.1) (hd : own_D bytes pc (.invokespecial i) 3 pc') (hy1 : y.name = "<init>") (w1 : (Cond.methodLink own i y).before a0 Z = true) (w2 : (Cond.instanceMethod y).before a0 Z = true) (w3 : (Cond.initialized y.cls).before a0 Z = true) (w4 : (Cond.code y b ml none).before a0 Z = true)
    (hM : own_Met (some t) l Z y b ml none [] rm (.ref a :: argsL).toArray h Qc) (hp : parseMethodDescriptor y.desc = some ⟨ps, r⟩) (hlen : argsL.length = ps.length) (hst : st = argsL.reverse ++ .ref a :: rest) (hsz : Ls.size = maxL) (hy : y.cls ≠ "java/lang/invoke/MethodHandle" ∧ y.cls ≠ "java/lang/invoke/VarHandle") (hW : (rest.map fun v => v.category).sum ≤ W) (hf : rm.frames + 1 ≤ R.frames) (hl : W + (ml + 11) + rm.locals ≤ R.locals) (hc : k + rm.cells ≤ R.cells) (hs : n + rm.slots ≤ R.slots)
    (hr : ∀ v h', Qc v h' → own_G (fun vm => IB Z vm t.2, w.2) p l e R s m args below meth c Z Q h' (k + rm.cells) (n + rm.slots) (mkF m (pc') Ls (v.toList ++ rest))) : own_G w p l e R s m args below meth c Z Q h k n (mkF m pc Ls st) := by
  obtain ⟨hd, rfl⟩ := hd
  intro T hX
  obtain ⟨L, vm, X, N, eT, hw, hS⟩ := hX
  have hZ := own_zw K.2.2.2.2.2.1 hS
  have hown : (s.setVm vm).vm.findClass own = some m.cls := by rw [show (s.setVm vm).vm = vm from rfl, hS.1.alike.findClass]; exact K.2.2.2.2.2.2.1
  obtain ⟨v, vm1, ⟨T1, L1, k1, n1⟩, -, X1, hS1, hg1, ⟨Lc, ⟨hQ, N1, z1, I1⟩, l1, y1, x1⟩, st1⟩ := X.specialBackS K.1 (y := y) hy1 hown (mvT hZ w1) (mvT hZ w2) (mvT hZ w4) hy (own_back (W := W) hM hZ (hI vm hw) w4 w3 hf hl) (g := mkF m pc Ls st) rfl (hsz.trans K.2.2.1.symm) (Steps.refl _) (a := a) (argsL := argsL) (rest := rest) (lenOf hp hlen) hst (by show 2 * 0 + _ ≤ W; simpa using hW) (hb K.2.1 hd) (fun _ _ => ⟨rfl, eT, hc, hs⟩)
  dsimp only [Pt.U, Pt.locs, Pt.cells, Pt.slots] at X1 l1 y1 x1 st1 hQ z1 hS1 hg1 I1
  subst l1 y1 x1
  have hS2 : s.Since T1.vm T1.heap.size := hS.trans hS1 (by rw [← eT]; exact hg1)
  obtain ⟨T', v', h', k', n', hX', r1, r2, r3, r4, r5⟩ := hr v T1.heap hQ T1 ⟨_, T1.vm, X1, N.app N1, rfl, I1, hS2⟩
  exact ⟨T', v', h', k', n', hX', r1, r2, r3, r4, fun fs q => st1.trans (r5 fs q)⟩
theorem own_virtualW (K : own_Cx p s m meth c Z own nm bytes maxL ret) {i ml W : Nat} {y : MethodName} {C : String} {b : ByteArray} {rt : Option FieldType} {rm : Room} {a : Addr} {argsL : List Value} {t : List String × List String} {Qc : Option Value → Heap → Prop} {ps : List FieldType} {r : Option FieldType} (hI : ∀ vm, w.1 vm → IB Z vm t.1) (hd : own_D bytes pc (.invokevirtual i) 3 pc') (w1 : (Cond.methodLink own i y).before a0 Z = true) (w2 : (Cond.declares y).before a0 Z = true) (w5 : (Cond.selects C y y).before a0 Z = true) (w6 : (Cond.instanceMethod y).before a0 Z = true) (w3 : (Cond.initialized y.cls).before a0 Z = true) (w4 : (Cond.code y b ml rt).before a0 Z = true)
    (E : Exa Z h a C) (hM : own_Met (some t) l Z y b ml rt [] rm (.ref a :: argsL).toArray h Qc) (hp : parseMethodDescriptor y.desc = some ⟨ps, r⟩) (hlen : argsL.length = ps.length) (hst : st = argsL.reverse ++ .ref a :: rest) (hsz : Ls.size = maxL) (hy : y.cls ≠ "java/lang/invoke/MethodHandle" ∧ y.cls ≠ "java/lang/invoke/VarHandle") (hW : (rest.map fun v => v.category).sum ≤ W) (hf : rm.frames + 1 ≤ R.frames) (hl : W + (ml + 11) + rm.locals ≤ R.locals) (hc : k + rm.cells ≤ R.cells) (hs : n + rm.slots ≤ R.slots)
    (hr : ∀ v h', Qc v h' → own_G (fun vm => IB Z vm t.2, w.2) p l e R s m args below meth c Z Q h' (k + rm.cells) (n + rm.slots) (mkF m (pc') Ls (v.toList ++ rest))) : own_G w p l e R s m args below meth c Z Q h k n (mkF m pc Ls st) := by
  obtain ⟨hd, rfl⟩ := hd
  intro T hX
  obtain ⟨L, vm, X, N, eT, hw, hS⟩ := hX
  have hZ := own_zw K.2.2.2.2.2.1 hS
  have hown : (s.setVm vm).vm.findClass own = some m.cls := by rw [show (s.setVm vm).vm = vm from rfl, hS.1.alike.findClass]; exact K.2.2.2.2.2.2.1
  obtain ⟨cq, kq, qa, qb, qc⟩ := isOf (s := s.setVm vm) hZ eT E
  obtain ⟨v, vm1, ⟨T1, L1, k1, n1⟩, -, X1, hS1, hg1, ⟨Lc, ⟨hQ, N1, z1, I1⟩, l1, y1, x1⟩, st1⟩ := X.virtualBackS K.1 (y := y) (z := y) hown (mvT hZ w1) (mvT hZ w2) (notFace_of_selects (C := C) (args := #[]) (mvT hZ w5)) (mvT hZ w5) (mvT hZ w6) hy (own_back (W := W) hM hZ (hI vm hw) w4 w3 hf hl) qa qc (g := mkF m pc Ls st) rfl (hsz.trans K.2.2.1.symm) (Steps.refl _) (argsL := argsL) (rest := rest) (lenOf hp hlen) hst (by show 2 * 0 + _ ≤ W; simpa using hW) (hb K.2.1 hd) (fun _ _ => ⟨rfl, eT, hc, hs⟩)
  dsimp only [Pt.U, Pt.locs, Pt.cells, Pt.slots] at X1 l1 y1 x1 st1 hQ z1 hS1 hg1 I1
  subst l1 y1 x1
  have hS2 : s.Since T1.vm T1.heap.size := hS.trans hS1 (by rw [← eT]; exact hg1)
  obtain ⟨T', v', h', k', n', hX', r1, r2, r3, r4, r5⟩ := hr v T1.heap hQ T1 ⟨_, T1.vm, X1, N.app N1, rfl, I1, hS2⟩
  exact ⟨T', v', h', k', n', hX', r1, r2, r3, r4, fun fs q => st1.trans (r5 fs q)⟩
end OwnLit
end Jvm.RoadKit
namespace Jvm.RoadKit
open Sem ClassFile Op Lib Jvm.Stand Jvm.Free Jvm.LawKit
section OwnSta
variable {w : own_W} {p : Program} {l : Launch} {e : Env} {R : Room} {s : State} {m : MethodId} {args : Array Value} {below : List Frame} {meth : Method} {c : Code} {Z : State} {a0 : Array Value} {own nm : String} {bytes : ByteArray} {maxL : Nat} {ret : Option FieldType} {Q : Option Value → Heap → Prop} {h h' : Heap} {k n k' n' : Nat} {pc pc' pcT : Nat} {Ls Ls' : Array Slot} {st rest : List Value} {os os' : List own_O} {as as' : List own_A} {g g' : JFrame} {tyR : FieldType}
theorem own_ldcF (K : own_Cx p s m meth c Z own nm bytes maxL ret) {i : Nat} {v : UInt32} (hd : own_D bytes pc (.ldc i) 2 pc') (wc : (Cond.constantFloat own i v).before a0 Z = true) (hr : own_G w p l e R s m args below meth c Z Q h k n (mkF m pc' Ls (.float v :: st))) : own_G w p l e R s m args below meth c Z Q h k n (mkF m pc Ls st) := by
  obtain ⟨hd, rfl⟩ := hd
  exact own_pure K (fun X hZ ho _ _ q => X.ldcFloatC K.1 ho (mvT hZ wc) (g := mkF m pc Ls st) rfl (hb K.2.1 hd) _ q) hr
theorem own_getstatic (K : own_Cx p s m meth c Z own nm bytes maxL ret) {i : Nat} {R0 O f d : String} {v : Value} (hd : own_D bytes pc (.getstatic i) 3 pc') (wl : (Cond.fieldLink own i R0 f d).before a0 Z = true) (via : Via Z R0 O f d) (F : Sta Z h O f d v) (hr : own_G w p l e R s m args below meth c Z Q h k n (mkF m pc' Ls (v :: st))) : own_G w p l e R s m args below meth c Z Q h k n (mkF m pc Ls st) := by
  obtain ⟨hd, rfl⟩ := hd
  refine own_step K (P := fun h' => h' = h) (fun X hZ hw eT N => ?_) (fun h' e => by subst e; exact hr)
  obtain ⟨T', X', e', st⟩ := getS X K.1 hZ hw wl via eT F (host := "") (g := mkF m pc Ls st) rfl (hb K.2.1 hd)
  exact ⟨T', _, _, X', N, e', Nat.le_refl _, rfl, st⟩
theorem own_ialoadZ (K : own_Cx p s m meth c Z own nm bytes maxL ret) {q : Nat} {a : Addr} {cl : Cell} {v : Value} {j : Int32} (hd : own_D bytes pc .iaload 1 pc') (A : Arr Z h a cl .int) (hj : j.toInt = (q : Int)) (hv : cl.slots[q]? = some v) (hr : own_G w p l e R s m args below meth c Z Q h k n (mkF m pc' Ls (v :: st))) : own_G w p l e R s m args below meth c Z Q h k n (mkF m pc Ls (.int j :: .ref a :: st)) := by
  obtain ⟨hd, rfl⟩ := hd
  have hq := (Array.getElem?_eq_some_iff.mp hv).1
  exact own_pure K (fun X hZ _ eT _ r => X.iaload K.1 (by rw [eT]; exact A.1) (State.isArrayOf_alike hZ.alike A.2.1) A.2.2 (own_in hj hq) (by rw [own_idx hj]; exact hv) (g := mkF m pc Ls (.int j :: .ref a :: st)) rfl rfl (hb K.2.1 hd) _ r) hr
theorem own_private (K : own_Cx p s m meth c Z own nm bytes maxL ret) {i ml W : Nat} {y : MethodName} {C : String} {b : ByteArray} {rt : Option FieldType} {rm : Room} {a : Addr} {argsL : List Value} {Qc : Option Value → Heap → Prop} {ps : List FieldType} {r : Option FieldType} (hd : own_D bytes pc (.invokevirtual i) 3 pc') (w1 : (Cond.methodLink own i y).before a0 Z = true) (w2 : (Cond.privateMethod y).before a0 Z = true) (w5 : (Cond.selects y.cls y y).before a0 Z = true) (w6 : (Cond.instanceMethod y).before a0 Z = true) (w3 : (Cond.initialized y.cls).before a0 Z = true) (w4 : (Cond.code y b ml rt).before a0 Z = true)
    (E : Exa Z h a C) (hM : own_Met none l Z y b ml rt [] rm (.ref a :: argsL).toArray h Qc) (hp : parseMethodDescriptor y.desc = some ⟨ps, r⟩) (hlen : argsL.length = ps.length) (hst : st = argsL.reverse ++ .ref a :: rest) (hsz : Ls.size = maxL) (hy : y.cls ≠ "java/lang/invoke/MethodHandle" ∧ y.cls ≠ "java/lang/invoke/VarHandle") (hW : (rest.map fun v => v.category).sum ≤ W) (hf : rm.frames + 1 ≤ R.frames) (hl : W + (ml + 11) + rm.locals ≤ R.locals) (hc : k + rm.cells ≤ R.cells) (hs : n + rm.slots ≤ R.slots)
    (hr : ∀ v h', Qc v h' → own_G w p l e R s m args below meth c Z Q h' (k + rm.cells) (n + rm.slots) (mkF m (pc') Ls (v.toList ++ rest))) : own_G w p l e R s m args below meth c Z Q h k n (mkF m pc Ls st) := by
  obtain ⟨hd, rfl⟩ := hd
  intro T hX
  obtain ⟨L, vm, X, N, eT, hw, hS⟩ := hX
  have hZ := own_zw K.2.2.2.2.2.1 hS
  have hown : (s.setVm vm).vm.findClass own = some m.cls := by rw [show (s.setVm vm).vm = vm from rfl, hS.1.alike.findClass]; exact K.2.2.2.2.2.2.1
  obtain ⟨cell, kc, x1, x2, x3, x4, x5⟩ := E
  obtain ⟨v, vm1, ⟨T1, L1, k1, n1⟩, -, X1, ⟨Lc, ⟨hQ, N1, z1⟩, l1, y1, x1⟩, st1⟩ := X.privateBack K.1 (y := y) hown (mvT hZ w1) (mvT hZ w6) (mvT hZ w5) (Cond.privateMethod_at (args := args) (mvT hZ w2)) (mvT hZ w4) hy (backOf (W := W) (Q := fun v h'' L => Qc v h'' ∧ Fr Z.heap.size L ∧ h.size ≤ h''.size) (show MetFree _ _ _ _ _ _ from hM) hZ w4 w3 hf hl) (g := mkF m pc Ls st) rfl (hsz.trans K.2.2.1.symm) (Steps.refl _) (a := a) (cell := cell) (by rw [eT]; exact x1) (fun q z => by rw [z] at x4; cases x4) (argsL := argsL) (rest := rest) (lenOf hp hlen) hst (by show 2 * 0 + _ ≤ W; simpa using hW) (hb K.2.1 hd) (fun _ _ => ⟨rfl, eT, hc, hs⟩)
  dsimp only [Pt.U, Pt.locs, Pt.cells, Pt.slots] at X1 l1 y1 x1 st1 hQ z1
  subst l1 y1 x1
  obtain ⟨T', v', h', k', n', hX', r1, r2, r3, r4, r5⟩ := hr v T1.heap hQ T1 ⟨_, vm, X1, N.app N1, rfl, hw, own_since hS z1⟩
  exact ⟨T', v', h', k', n', hX', r1, r2, r3, r4, fun fs q => st1.trans (r5 fs q)⟩
end OwnSta
end Jvm.RoadKit
namespace Jvm.Pilot.@@N@@
open Jvm Jvm.ClassFile Sem Op Lib Jvm.Free Jvm.Stand Jvm.LawKit Jvm.RoadKit Bundle Jvm.Pilot.@@N@@.Jvm.D
def own_Z (Z : State) (a0 : Array Value) : Prop := ∀ d ∈ tables_1, d.before a0 Z = true
theorem own_w0 {Z : State} {a0 : Array Value} (hw : own_Z Z a0) : (Jvm.Cond.methodLink "com/example/wary_loader/waryloader/dn/DnParserTakeAlonePinLaw" (7 : Nat) ({ cls := "com/example/wary_loader/waryloader/dn/DnParserTakeAlonePinLaw", name := "drawn", desc := "(I)C" } : Jvm.MethodName)).before a0 Z = true := hw _ (List.mem_of_getElem? (i := 0) rfl)
theorem own_w1 {Z : State} {a0 : Array Value} (hw : own_Z Z a0) : (Jvm.Cond.static ({ cls := "com/example/wary_loader/waryloader/dn/DnParserTakeAlonePinLaw", name := "drawn", desc := "(I)C" } : Jvm.MethodName)).before a0 Z = true := hw _ (List.mem_of_getElem? (i := 1) rfl)
theorem own_w2 {Z : State} {a0 : Array Value} (hw : own_Z Z a0) : (Jvm.Cond.initialized "com/example/wary_loader/waryloader/dn/DnParserTakeAlonePinLaw").before a0 Z = true := hw _ (List.mem_of_getElem? (i := 2) rfl)
theorem own_w3 {Z : State} {a0 : Array Value} (hw : own_Z Z a0) : (Jvm.Cond.code ({ cls := "com/example/wary_loader/waryloader/dn/DnParserTakeAlonePinLaw", name := "drawn", desc := "(I)C" } : Jvm.MethodName) method_3_code (2 : Nat) (Option.some Jvm.ClassFile.FieldType.char)).before a0 Z = true := hw _ (List.mem_of_getElem? (i := 3) rfl)
theorem own_w4 {Z : State} {a0 : Array Value} (hw : own_Z Z a0) : (Jvm.Cond.arrayClass Jvm.ClassFile.FieldType.char).before a0 Z = true := hw _ (List.mem_of_getElem? (i := 4) rfl)
theorem own_w5 {Z : State} {a0 : Array Value} (hw : own_Z Z a0) : (Jvm.Cond.methodLink "com/example/wary_loader/waryloader/dn/DnParserTakeAlonePinLaw" (13 : Nat) ({ cls := "com/example/wary_loader/waryloader/dn/DnParserTakeAlonePinLaw", name := "pick", desc := "(IICC)C" } : Jvm.MethodName)).before a0 Z = true := hw _ (List.mem_of_getElem? (i := 5) rfl)
theorem own_w6 {Z : State} {a0 : Array Value} (hw : own_Z Z a0) : (Jvm.Cond.static ({ cls := "com/example/wary_loader/waryloader/dn/DnParserTakeAlonePinLaw", name := "pick", desc := "(IICC)C" } : Jvm.MethodName)).before a0 Z = true := hw _ (List.mem_of_getElem? (i := 6) rfl)
theorem own_w7 {Z : State} {a0 : Array Value} (hw : own_Z Z a0) : (Jvm.Cond.code ({ cls := "com/example/wary_loader/waryloader/dn/DnParserTakeAlonePinLaw", name := "pick", desc := "(IICC)C" } : Jvm.MethodName) method_4_code (4 : Nat) (Option.some Jvm.ClassFile.FieldType.char)).before a0 Z = true := hw _ (List.mem_of_getElem? (i := 7) rfl)
theorem own_w8 {Z : State} {a0 : Array Value} (hw : own_Z Z a0) : (Jvm.Cond.methodLink "com/example/wary_loader/waryloader/dn/DnParserTakeAlonePinLaw" (17 : Nat) ({ cls := "com/example/wary_loader/waryloader/dn/DnParserTakeAlonePinLaw", name := "text", desc := "([CI)Ljava/lang/String;" } : Jvm.MethodName)).before a0 Z = true := hw _ (List.mem_of_getElem? (i := 8) rfl)
theorem own_w9 {Z : State} {a0 : Array Value} (hw : own_Z Z a0) : (Jvm.Cond.static ({ cls := "com/example/wary_loader/waryloader/dn/DnParserTakeAlonePinLaw", name := "text", desc := "([CI)Ljava/lang/String;" } : Jvm.MethodName)).before a0 Z = true := hw _ (List.mem_of_getElem? (i := 9) rfl)
theorem own_w10 {Z : State} {a0 : Array Value} (hw : own_Z Z a0) : (Jvm.Cond.code ({ cls := "com/example/wary_loader/waryloader/dn/DnParserTakeAlonePinLaw", name := "text", desc := "([CI)Ljava/lang/String;" } : Jvm.MethodName) method_5_code (2 : Nat) (Option.some (Jvm.ClassFile.FieldType.object "java/lang/String"))).before a0 Z = true := hw _ (List.mem_of_getElem? (i := 10) rfl)
theorem own_w11 {Z : State} {a0 : Array Value} (hw : own_Z Z a0) : (Jvm.Cond.classLink "com/example/wary_loader/waryloader/dn/DnParserTakeAlonePinLaw" (44 : Nat) "java/lang/String").before a0 Z = true := hw _ (List.mem_of_getElem? (i := 11) rfl)
theorem own_w12 {Z : State} {a0 : Array Value} (hw : own_Z Z a0) : (Jvm.Cond.instantiable "java/lang/String" (4 : Nat)).before a0 Z = true := hw _ (List.mem_of_getElem? (i := 12) rfl)
theorem own_w13 {Z : State} {a0 : Array Value} (hw : own_Z Z a0) : (Jvm.Cond.initialized "java/lang/String").before a0 Z = true := hw _ (List.mem_of_getElem? (i := 13) rfl)
theorem own_w14 {Z : State} {a0 : Array Value} (hw : own_Z Z a0) : (Jvm.Cond.methodLink "com/example/wary_loader/waryloader/dn/DnParserTakeAlonePinLaw" (46 : Nat) ({ cls := "java/lang/String", name := "<init>", desc := "([C)V" } : Jvm.MethodName)).before a0 Z = true := hw _ (List.mem_of_getElem? (i := 14) rfl)
theorem own_w15 {Z : State} {a0 : Array Value} (hw : own_Z Z a0) : (Jvm.Cond.instanceMethod ({ cls := "java/lang/String", name := "<init>", desc := "([C)V" } : Jvm.MethodName)).before a0 Z = true := hw _ (List.mem_of_getElem? (i := 15) rfl)
theorem own_w16 {Z : State} {a0 : Array Value} (hw : own_Z Z a0) : (Jvm.Cond.code ({ cls := "java/lang/String", name := "<init>", desc := "([C)V" } : Jvm.MethodName) jdk_42_method_3_code (2 : Nat) (Option.none : Option Jvm.ClassFile.FieldType)).before a0 Z = true := hw _ (List.mem_of_getElem? (i := 16) rfl)
theorem own_w17 {Z : State} {a0 : Array Value} (hw : own_Z Z a0) : (Jvm.Cond.methodLink "java/lang/String" (27 : Nat) ({ cls := "java/lang/String", name := "<init>", desc := "([CIILjava/lang/Void;)V" } : Jvm.MethodName)).before a0 Z = true := hw _ (List.mem_of_getElem? (i := 17) rfl)
theorem own_w18 {Z : State} {a0 : Array Value} (hw : own_Z Z a0) : (Jvm.Cond.instanceMethod ({ cls := "java/lang/String", name := "<init>", desc := "([CIILjava/lang/Void;)V" } : Jvm.MethodName)).before a0 Z = true := hw _ (List.mem_of_getElem? (i := 18) rfl)
theorem own_w20 {Z : State} {a0 : Array Value} (hw : own_Z Z a0) : (Jvm.Cond.code ({ cls := "java/lang/String", name := "<init>", desc := "([CIILjava/lang/Void;)V" } : Jvm.MethodName) jdk_42_method_149_code (6 : Nat) (Option.none : Option Jvm.ClassFile.FieldType)).before a0 Z = true := hw _ (List.mem_of_getElem? (i := 20) rfl)
theorem own_w21 {Z : State} {a0 : Array Value} (hw : own_Z Z a0) : (Jvm.Cond.methodLink "java/lang/String" (1 : Nat) ({ cls := "java/lang/Object", name := "<init>", desc := "()V" } : Jvm.MethodName)).before a0 Z = true := hw _ (List.mem_of_getElem? (i := 21) rfl)
theorem own_w22 {Z : State} {a0 : Array Value} (hw : own_Z Z a0) : (Jvm.Cond.instanceMethod ({ cls := "java/lang/Object", name := "<init>", desc := "()V" } : Jvm.MethodName)).before a0 Z = true := hw _ (List.mem_of_getElem? (i := 22) rfl)
theorem own_w23 {Z : State} {a0 : Array Value} (hw : own_Z Z a0) : (Jvm.Cond.code ({ cls := "java/lang/Object", name := "<init>", desc := "()V" } : Jvm.MethodName) object_method_1_code (1 : Nat) (Option.none : Option Jvm.ClassFile.FieldType)).before a0 Z = true := hw _ (List.mem_of_getElem? (i := 23) rfl)
theorem own_w24 {Z : State} {a0 : Array Value} (hw : own_Z Z a0) : (Jvm.Cond.stringLink "java/lang/String" (7 : Nat) "").before a0 Z = true := hw _ (List.mem_of_getElem? (i := 24) rfl)
theorem own_w25 {Z : State} {a0 : Array Value} (hw : own_Z Z a0) : (Jvm.Cond.arrayClass Jvm.ClassFile.FieldType.byte).before a0 Z = true := hw _ (List.mem_of_getElem? (i := 25) rfl)
theorem own_w26 {Z : State} {a0 : Array Value} (hw : own_Z Z a0) : (Jvm.Cond.laysFinal "java/lang/String" "java/lang/String" "value" "[B").before a0 Z = true := hw _ (List.mem_of_getElem? (i := 26) rfl)
theorem own_w27 {Z : State} {a0 : Array Value} (hw : own_Z Z a0) : (Jvm.Cond.laysFinal "java/lang/String" "java/lang/String" "coder" "B").before a0 Z = true := hw _ (List.mem_of_getElem? (i := 27) rfl)
theorem own_w28 {Z : State} {a0 : Array Value} (hw : own_Z Z a0) : (Jvm.Cond.soleField "java/lang/String" "value").before a0 Z = true := hw _ (List.mem_of_getElem? (i := 28) rfl)
theorem own_w29 {Z : State} {a0 : Array Value} (hw : own_Z Z a0) : (Jvm.Cond.soleField "java/lang/String" "coder").before a0 Z = true := hw _ (List.mem_of_getElem? (i := 29) rfl)
theorem own_w30 {Z : State} {a0 : Array Value} (hw : own_Z Z a0) : (Jvm.Cond.fieldLink "java/lang/String" (9 : Nat) "java/lang/String" "value" "[B").before a0 Z = true := hw _ (List.mem_of_getElem? (i := 30) rfl)
theorem own_w31 {Z : State} {a0 : Array Value} (hw : own_Z Z a0) : (Jvm.Cond.fieldLink "java/lang/String" (15 : Nat) "java/lang/String" "coder" "B").before a0 Z = true := hw _ (List.mem_of_getElem? (i := 31) rfl)
theorem own_w32 {Z : State} {a0 : Array Value} (hw : own_Z Z a0) : (Jvm.Cond.classLink "com/example/wary_loader/waryloader/dn/DnParserTakeAlonePinLaw" (21 : Nat) "com/example/wary_loader/waryloader/dn/DnParser").before a0 Z = true := hw _ (List.mem_of_getElem? (i := 32) rfl)
theorem own_w33 {Z : State} {a0 : Array Value} (hw : own_Z Z a0) : (Jvm.Cond.instantiable "com/example/wary_loader/waryloader/dn/DnParser" (3 : Nat)).before a0 Z = true := hw _ (List.mem_of_getElem? (i := 33) rfl)
theorem own_w34 {Z : State} {a0 : Array Value} (hw : own_Z Z a0) : (Jvm.Cond.initialized "com/example/wary_loader/waryloader/dn/DnParser").before a0 Z = true := hw _ (List.mem_of_getElem? (i := 34) rfl)
theorem own_w35 {Z : State} {a0 : Array Value} (hw : own_Z Z a0) : (Jvm.Cond.methodLink "com/example/wary_loader/waryloader/dn/DnParserTakeAlonePinLaw" (23 : Nat) ({ cls := "com/example/wary_loader/waryloader/dn/DnParser", name := "<init>", desc := "(Ljava/lang/String;Z)V" } : Jvm.MethodName)).before a0 Z = true := hw _ (List.mem_of_getElem? (i := 35) rfl)
theorem own_w36 {Z : State} {a0 : Array Value} (hw : own_Z Z a0) : (Jvm.Cond.instanceMethod ({ cls := "com/example/wary_loader/waryloader/dn/DnParser", name := "<init>", desc := "(Ljava/lang/String;Z)V" } : Jvm.MethodName)).before a0 Z = true := hw _ (List.mem_of_getElem? (i := 36) rfl)
theorem own_w37 {Z : State} {a0 : Array Value} (hw : own_Z Z a0) : (Jvm.Cond.code ({ cls := "com/example/wary_loader/waryloader/dn/DnParser", name := "<init>", desc := "(Ljava/lang/String;Z)V" } : Jvm.MethodName) prog_15_method_1_code (3 : Nat) (Option.none : Option Jvm.ClassFile.FieldType)).before a0 Z = true := hw _ (List.mem_of_getElem? (i := 37) rfl)
theorem own_w38 {Z : State} {a0 : Array Value} (hw : own_Z Z a0) : (Jvm.Cond.methodLink "com/example/wary_loader/waryloader/dn/DnParser" (1 : Nat) ({ cls := "java/lang/Object", name := "<init>", desc := "()V" } : Jvm.MethodName)).before a0 Z = true := hw _ (List.mem_of_getElem? (i := 38) rfl)
theorem own_w39 {Z : State} {a0 : Array Value} (hw : own_Z Z a0) : (Jvm.Cond.fieldLink "com/example/wary_loader/waryloader/dn/DnParser" (7 : Nat) "com/example/wary_loader/waryloader/dn/DnParser" "text" "Ljava/lang/String;").before a0 Z = true := hw _ (List.mem_of_getElem? (i := 39) rfl)
theorem own_w40 {Z : State} {a0 : Array Value} (hw : own_Z Z a0) : (Jvm.Cond.laysFinal "com/example/wary_loader/waryloader/dn/DnParser" "com/example/wary_loader/waryloader/dn/DnParser" "text" "Ljava/lang/String;").before a0 Z = true := hw _ (List.mem_of_getElem? (i := 40) rfl)
theorem own_w41 {Z : State} {a0 : Array Value} (hw : own_Z Z a0) : (Jvm.Cond.fieldLink "com/example/wary_loader/waryloader/dn/DnParser" (13 : Nat) "com/example/wary_loader/waryloader/dn/DnParser" "pattern" "Z").before a0 Z = true := hw _ (List.mem_of_getElem? (i := 41) rfl)
theorem own_w42 {Z : State} {a0 : Array Value} (hw : own_Z Z a0) : (Jvm.Cond.laysFinal "com/example/wary_loader/waryloader/dn/DnParser" "com/example/wary_loader/waryloader/dn/DnParser" "pattern" "Z").before a0 Z = true := hw _ (List.mem_of_getElem? (i := 42) rfl)
theorem own_w43 {Z : State} {a0 : Array Value} (hw : own_Z Z a0) : (Jvm.Cond.methodLink "com/example/wary_loader/waryloader/dn/DnParserTakeAlonePinLaw" (26 : Nat) ({ cls := "com/example/wary_loader/waryloader/dn/DnParser", name := "takeAlone", desc := "(C)Z" } : Jvm.MethodName)).before a0 Z = true := hw _ (List.mem_of_getElem? (i := 43) rfl)
theorem own_w44 {Z : State} {a0 : Array Value} (hw : own_Z Z a0) : (Jvm.Cond.declares ({ cls := "com/example/wary_loader/waryloader/dn/DnParser", name := "takeAlone", desc := "(C)Z" } : Jvm.MethodName)).before a0 Z = true := hw _ (List.mem_of_getElem? (i := 44) rfl)
theorem own_w45 {Z : State} {a0 : Array Value} (hw : own_Z Z a0) : (Jvm.Cond.instanceMethod ({ cls := "com/example/wary_loader/waryloader/dn/DnParser", name := "takeAlone", desc := "(C)Z" } : Jvm.MethodName)).before a0 Z = true := hw _ (List.mem_of_getElem? (i := 45) rfl)
theorem own_w46 {Z : State} {a0 : Array Value} (hw : own_Z Z a0) : (Jvm.Cond.selects "com/example/wary_loader/waryloader/dn/DnParser" ({ cls := "com/example/wary_loader/waryloader/dn/DnParser", name := "takeAlone", desc := "(C)Z" } : Jvm.MethodName) ({ cls := "com/example/wary_loader/waryloader/dn/DnParser", name := "takeAlone", desc := "(C)Z" } : Jvm.MethodName)).before a0 Z = true := hw _ (List.mem_of_getElem? (i := 46) rfl)
theorem own_w47 {Z : State} {a0 : Array Value} (hw : own_Z Z a0) : (Jvm.Cond.code ({ cls := "com/example/wary_loader/waryloader/dn/DnParser", name := "takeAlone", desc := "(C)Z" } : Jvm.MethodName) prog_15_method_3_code (5 : Nat) (Option.some Jvm.ClassFile.FieldType.boolean)).before a0 Z = true := hw _ (List.mem_of_getElem? (i := 47) rfl)
theorem own_w48 {Z : State} {a0 : Array Value} (hw : own_Z Z a0) : (Jvm.Cond.fieldLink "com/example/wary_loader/waryloader/dn/DnParser" (39 : Nat) "com/example/wary_loader/waryloader/dn/DnParser" "index" "I").before a0 Z = true := hw _ (List.mem_of_getElem? (i := 48) rfl)
theorem own_w49 {Z : State} {a0 : Array Value} (hw : own_Z Z a0) : (Jvm.Cond.lays "com/example/wary_loader/waryloader/dn/DnParser" "com/example/wary_loader/waryloader/dn/DnParser" "index" "I").before a0 Z = true := hw _ (List.mem_of_getElem? (i := 49) rfl)
theorem own_w50 {Z : State} {a0 : Array Value} (hw : own_Z Z a0) : (Jvm.Cond.methodLink "com/example/wary_loader/waryloader/dn/DnParser" (43 : Nat) ({ cls := "com/example/wary_loader/waryloader/dn/DnParser", name := "spacesFrom", desc := "(I)I" } : Jvm.MethodName)).before a0 Z = true := hw _ (List.mem_of_getElem? (i := 50) rfl)
theorem own_w51 {Z : State} {a0 : Array Value} (hw : own_Z Z a0) : (Jvm.Cond.instanceMethod ({ cls := "com/example/wary_loader/waryloader/dn/DnParser", name := "spacesFrom", desc := "(I)I" } : Jvm.MethodName)).before a0 Z = true := hw _ (List.mem_of_getElem? (i := 51) rfl)
theorem own_w52 {Z : State} {a0 : Array Value} (hw : own_Z Z a0) : (Jvm.Cond.privateMethod ({ cls := "com/example/wary_loader/waryloader/dn/DnParser", name := "spacesFrom", desc := "(I)I" } : Jvm.MethodName)).before a0 Z = true := hw _ (List.mem_of_getElem? (i := 52) rfl)
theorem own_w53 {Z : State} {a0 : Array Value} (hw : own_Z Z a0) : (Jvm.Cond.code ({ cls := "com/example/wary_loader/waryloader/dn/DnParser", name := "spacesFrom", desc := "(I)I" } : Jvm.MethodName) prog_15_method_11_code (3 : Nat) (Option.some Jvm.ClassFile.FieldType.int)).before a0 Z = true := hw _ (List.mem_of_getElem? (i := 53) rfl)
theorem own_w54 {Z : State} {a0 : Array Value} (hw : own_Z Z a0) : (Jvm.Cond.methodLink "com/example/wary_loader/waryloader/dn/DnParser" (47 : Nat) ({ cls := "java/lang/String", name := "length", desc := "()I" } : Jvm.MethodName)).before a0 Z = true := hw _ (List.mem_of_getElem? (i := 54) rfl)
theorem own_w55 {Z : State} {a0 : Array Value} (hw : own_Z Z a0) : (Jvm.Cond.declares ({ cls := "java/lang/String", name := "length", desc := "()I" } : Jvm.MethodName)).before a0 Z = true := hw _ (List.mem_of_getElem? (i := 55) rfl)
theorem own_w56 {Z : State} {a0 : Array Value} (hw : own_Z Z a0) : (Jvm.Cond.instanceMethod ({ cls := "java/lang/String", name := "length", desc := "()I" } : Jvm.MethodName)).before a0 Z = true := hw _ (List.mem_of_getElem? (i := 56) rfl)
theorem own_w57 {Z : State} {a0 : Array Value} (hw : own_Z Z a0) : (Jvm.Cond.selects "java/lang/String" ({ cls := "java/lang/String", name := "length", desc := "()I" } : Jvm.MethodName) ({ cls := "java/lang/String", name := "length", desc := "()I" } : Jvm.MethodName)).before a0 Z = true := hw _ (List.mem_of_getElem? (i := 57) rfl)
theorem own_w58 {Z : State} {a0 : Array Value} (hw : own_Z Z a0) : (Jvm.Cond.code ({ cls := "java/lang/String", name := "length", desc := "()I" } : Jvm.MethodName) jdk_42_method_54_code (1 : Nat) (Option.some Jvm.ClassFile.FieldType.int)).before a0 Z = true := hw _ (List.mem_of_getElem? (i := 58) rfl)
theorem own_w59 {Z : State} {a0 : Array Value} (hw : own_Z Z a0) : (Jvm.Cond.methodLink "java/lang/String" (335 : Nat) ({ cls := "java/lang/String", name := "coder", desc := "()B" } : Jvm.MethodName)).before a0 Z = true := hw _ (List.mem_of_getElem? (i := 59) rfl)
theorem own_w60 {Z : State} {a0 : Array Value} (hw : own_Z Z a0) : (Jvm.Cond.declares ({ cls := "java/lang/String", name := "coder", desc := "()B" } : Jvm.MethodName)).before a0 Z = true := hw _ (List.mem_of_getElem? (i := 60) rfl)
theorem own_w61 {Z : State} {a0 : Array Value} (hw : own_Z Z a0) : (Jvm.Cond.instanceMethod ({ cls := "java/lang/String", name := "coder", desc := "()B" } : Jvm.MethodName)).before a0 Z = true := hw _ (List.mem_of_getElem? (i := 61) rfl)
theorem own_w62 {Z : State} {a0 : Array Value} (hw : own_Z Z a0) : (Jvm.Cond.selects "java/lang/String" ({ cls := "java/lang/String", name := "coder", desc := "()B" } : Jvm.MethodName) ({ cls := "java/lang/String", name := "coder", desc := "()B" } : Jvm.MethodName)).before a0 Z = true := hw _ (List.mem_of_getElem? (i := 62) rfl)
theorem own_w63 {Z : State} {a0 : Array Value} (hw : own_Z Z a0) : (Jvm.Cond.code ({ cls := "java/lang/String", name := "coder", desc := "()B" } : Jvm.MethodName) jdk_42_method_152_code (1 : Nat) (Option.some Jvm.ClassFile.FieldType.byte)).before a0 Z = true := hw _ (List.mem_of_getElem? (i := 63) rfl)
theorem own_w64 {Z : State} {a0 : Array Value} (hw : own_Z Z a0) : (Jvm.Cond.fieldLink "java/lang/String" (38 : Nat) "java/lang/String" "COMPACT_STRINGS" "Z").before a0 Z = true := hw _ (List.mem_of_getElem? (i := 64) rfl)
theorem own_w65 {Z : State} {a0 : Array Value} (hw : own_Z Z a0) : (Jvm.Cond.methodLink "com/example/wary_loader/waryloader/dn/DnParserTakeAlonePinLaw" (30 : Nat) ({ cls := "com/example/wary_loader/waryloader/dn/DnParser", name := "take", desc := "(C)Z" } : Jvm.MethodName)).before a0 Z = true := hw _ (List.mem_of_getElem? (i := 65) rfl)
theorem own_w66 {Z : State} {a0 : Array Value} (hw : own_Z Z a0) : (Jvm.Cond.declares ({ cls := "com/example/wary_loader/waryloader/dn/DnParser", name := "take", desc := "(C)Z" } : Jvm.MethodName)).before a0 Z = true := hw _ (List.mem_of_getElem? (i := 66) rfl)
theorem own_w67 {Z : State} {a0 : Array Value} (hw : own_Z Z a0) : (Jvm.Cond.instanceMethod ({ cls := "com/example/wary_loader/waryloader/dn/DnParser", name := "take", desc := "(C)Z" } : Jvm.MethodName)).before a0 Z = true := hw _ (List.mem_of_getElem? (i := 67) rfl)
theorem own_w68 {Z : State} {a0 : Array Value} (hw : own_Z Z a0) : (Jvm.Cond.selects "com/example/wary_loader/waryloader/dn/DnParser" ({ cls := "com/example/wary_loader/waryloader/dn/DnParser", name := "take", desc := "(C)Z" } : Jvm.MethodName) ({ cls := "com/example/wary_loader/waryloader/dn/DnParser", name := "take", desc := "(C)Z" } : Jvm.MethodName)).before a0 Z = true := hw _ (List.mem_of_getElem? (i := 68) rfl)
theorem own_w69 {Z : State} {a0 : Array Value} (hw : own_Z Z a0) : (Jvm.Cond.code ({ cls := "com/example/wary_loader/waryloader/dn/DnParser", name := "take", desc := "(C)Z" } : Jvm.MethodName) prog_15_method_5_code (3 : Nat) (Option.some Jvm.ClassFile.FieldType.boolean)).before a0 Z = true := hw _ (List.mem_of_getElem? (i := 69) rfl)
theorem own_w70 {Z : State} {a0 : Array Value} (hw : own_Z Z a0) : (Jvm.Cond.methodLink "com/example/wary_loader/waryloader/dn/DnParserTakeAlonePinLaw" (33 : Nat) ({ cls := "com/example/wary_loader/waryloader/dn/DnParserTakeAlonePinLaw", name := "end", desc := "([CII)I" } : Jvm.MethodName)).before a0 Z = true := hw _ (List.mem_of_getElem? (i := 70) rfl)
theorem own_w71 {Z : State} {a0 : Array Value} (hw : own_Z Z a0) : (Jvm.Cond.static ({ cls := "com/example/wary_loader/waryloader/dn/DnParserTakeAlonePinLaw", name := "end", desc := "([CII)I" } : Jvm.MethodName)).before a0 Z = true := hw _ (List.mem_of_getElem? (i := 71) rfl)
theorem own_w72 {Z : State} {a0 : Array Value} (hw : own_Z Z a0) : (Jvm.Cond.code ({ cls := "com/example/wary_loader/waryloader/dn/DnParserTakeAlonePinLaw", name := "end", desc := "([CII)I" } : Jvm.MethodName) method_6_code (3 : Nat) (Option.some Jvm.ClassFile.FieldType.int)).before a0 Z = true := hw _ (List.mem_of_getElem? (i := 72) rfl)
theorem own_w73 {Z : State} {a0 : Array Value} (hw : own_Z Z a0) : (Jvm.Cond.methodLink "com/example/wary_loader/waryloader/dn/DnParserTakeAlonePinLaw" (37 : Nat) ({ cls := "com/example/wary_loader/waryloader/dn/DnParserTakeAlonePinLaw", name := "alone", desc := "([CIIC)Z" } : Jvm.MethodName)).before a0 Z = true := hw _ (List.mem_of_getElem? (i := 73) rfl)
theorem own_w74 {Z : State} {a0 : Array Value} (hw : own_Z Z a0) : (Jvm.Cond.static ({ cls := "com/example/wary_loader/waryloader/dn/DnParserTakeAlonePinLaw", name := "alone", desc := "([CIIC)Z" } : Jvm.MethodName)).before a0 Z = true := hw _ (List.mem_of_getElem? (i := 74) rfl)
theorem own_w75 {Z : State} {a0 : Array Value} (hw : own_Z Z a0) : (Jvm.Cond.code ({ cls := "com/example/wary_loader/waryloader/dn/DnParserTakeAlonePinLaw", name := "alone", desc := "([CIIC)Z" } : Jvm.MethodName) method_10_code (5 : Nat) (Option.some Jvm.ClassFile.FieldType.boolean)).before a0 Z = true := hw _ (List.mem_of_getElem? (i := 75) rfl)
theorem own_w76 {Z : State} {a0 : Array Value} (hw : own_Z Z a0) : (Jvm.Cond.methodLink "com/example/wary_loader/waryloader/dn/DnParserTakeAlonePinLaw" (53 : Nat) ({ cls := "com/example/wary_loader/waryloader/dn/DnParserTakeAlonePinLaw", name := "oc", desc := "([CIIIC)I" } : Jvm.MethodName)).before a0 Z = true := hw _ (List.mem_of_getElem? (i := 76) rfl)
theorem own_w77 {Z : State} {a0 : Array Value} (hw : own_Z Z a0) : (Jvm.Cond.static ({ cls := "com/example/wary_loader/waryloader/dn/DnParserTakeAlonePinLaw", name := "oc", desc := "([CIIIC)I" } : Jvm.MethodName)).before a0 Z = true := hw _ (List.mem_of_getElem? (i := 77) rfl)
theorem own_w78 {Z : State} {a0 : Array Value} (hw : own_Z Z a0) : (Jvm.Cond.code ({ cls := "com/example/wary_loader/waryloader/dn/DnParserTakeAlonePinLaw", name := "oc", desc := "([CIIIC)I" } : Jvm.MethodName) method_9_code (5 : Nat) (Option.some Jvm.ClassFile.FieldType.int)).before a0 Z = true := hw _ (List.mem_of_getElem? (i := 78) rfl)
theorem own_w79 {Z : State} {a0 : Array Value} (hw : own_Z Z a0) : (Jvm.Cond.methodLink "com/example/wary_loader/waryloader/dn/DnParserTakeAlonePinLaw" (41 : Nat) ({ cls := "com/example/wary_loader/waryloader/dn/DnParserTakeAlonePinLaw", name := "nonSpace", desc := "([CII)I" } : Jvm.MethodName)).before a0 Z = true := hw _ (List.mem_of_getElem? (i := 79) rfl)
theorem own_w80 {Z : State} {a0 : Array Value} (hw : own_Z Z a0) : (Jvm.Cond.static ({ cls := "com/example/wary_loader/waryloader/dn/DnParserTakeAlonePinLaw", name := "nonSpace", desc := "([CII)I" } : Jvm.MethodName)).before a0 Z = true := hw _ (List.mem_of_getElem? (i := 80) rfl)
theorem own_w81 {Z : State} {a0 : Array Value} (hw : own_Z Z a0) : (Jvm.Cond.code ({ cls := "com/example/wary_loader/waryloader/dn/DnParserTakeAlonePinLaw", name := "nonSpace", desc := "([CII)I" } : Jvm.MethodName) method_8_code (3 : Nat) (Option.some Jvm.ClassFile.FieldType.int)).before a0 Z = true := hw _ (List.mem_of_getElem? (i := 81) rfl)
theorem own_w82 {Z : State} {a0 : Array Value} (hw : own_Z Z a0) : (Jvm.Cond.methodLink "com/example/wary_loader/waryloader/dn/DnParserTakeAlonePinLaw" (49 : Nat) ({ cls := "com/example/wary_loader/waryloader/dn/DnParserTakeAlonePinLaw", name := "ns", desc := "([CIII)I" } : Jvm.MethodName)).before a0 Z = true := hw _ (List.mem_of_getElem? (i := 82) rfl)
theorem own_w83 {Z : State} {a0 : Array Value} (hw : own_Z Z a0) : (Jvm.Cond.static ({ cls := "com/example/wary_loader/waryloader/dn/DnParserTakeAlonePinLaw", name := "ns", desc := "([CIII)I" } : Jvm.MethodName)).before a0 Z = true := hw _ (List.mem_of_getElem? (i := 83) rfl)
theorem own_w84 {Z : State} {a0 : Array Value} (hw : own_Z Z a0) : (Jvm.Cond.code ({ cls := "com/example/wary_loader/waryloader/dn/DnParserTakeAlonePinLaw", name := "ns", desc := "([CIII)I" } : Jvm.MethodName) method_7_code (4 : Nat) (Option.some Jvm.ClassFile.FieldType.int)).before a0 Z = true := hw _ (List.mem_of_getElem? (i := 84) rfl)
theorem own_w85 {Z : State} {a0 : Array Value} (hw : own_Z Z a0) : (Jvm.Cond.methodLink "java/lang/String" (177 : Nat) ({ cls := "java/lang/StringUTF16", name := "compress", desc := "([CII)[B" } : Jvm.MethodName)).before a0 Z = true := hw _ (List.mem_of_getElem? (i := 85) rfl)
theorem own_w86 {Z : State} {a0 : Array Value} (hw : own_Z Z a0) : (Jvm.Cond.static ({ cls := "java/lang/StringUTF16", name := "compress", desc := "([CII)[B" } : Jvm.MethodName)).before a0 Z = true := hw _ (List.mem_of_getElem? (i := 86) rfl)
theorem own_w87 {Z : State} {a0 : Array Value} (hw : own_Z Z a0) : (Jvm.Cond.initialized "java/lang/StringUTF16").before a0 Z = true := hw _ (List.mem_of_getElem? (i := 87) rfl)
theorem own_w88 {Z : State} {a0 : Array Value} (hw : own_Z Z a0) : (Jvm.Cond.code ({ cls := "java/lang/StringUTF16", name := "compress", desc := "([CII)[B" } : Jvm.MethodName) jdk_52_method_16_code (6 : Nat) (Option.some (Jvm.ClassFile.FieldType.array Jvm.ClassFile.FieldType.byte))).before a0 Z = true := hw _ (List.mem_of_getElem? (i := 88) rfl)
theorem own_w89 {Z : State} {a0 : Array Value} (hw : own_Z Z a0) : (Jvm.Cond.methodLink "java/lang/StringUTF16" (115 : Nat) ({ cls := "java/lang/StringUTF16", name := "compress", desc := "([CI[BII)I" } : Jvm.MethodName)).before a0 Z = true := hw _ (List.mem_of_getElem? (i := 89) rfl)
theorem own_w90 {Z : State} {a0 : Array Value} (hw : own_Z Z a0) : (Jvm.Cond.static ({ cls := "java/lang/StringUTF16", name := "compress", desc := "([CI[BII)I" } : Jvm.MethodName)).before a0 Z = true := hw _ (List.mem_of_getElem? (i := 90) rfl)
theorem own_w91 {Z : State} {a0 : Array Value} (hw : own_Z Z a0) : (Jvm.Cond.code ({ cls := "java/lang/StringUTF16", name := "compress", desc := "([CI[BII)I" } : Jvm.MethodName) jdk_52_method_21_code (7 : Nat) (Option.some Jvm.ClassFile.FieldType.int)).before a0 Z = true := hw _ (List.mem_of_getElem? (i := 91) rfl)
theorem own_w92 {Z : State} {a0 : Array Value} (hw : own_Z Z a0) : (Jvm.Cond.methodLink "java/lang/String" (47 : Nat) ({ cls := "java/lang/StringUTF16", name := "coderFromArrayLen", desc := "([BI)B" } : Jvm.MethodName)).before a0 Z = true := hw _ (List.mem_of_getElem? (i := 92) rfl)
theorem own_w93 {Z : State} {a0 : Array Value} (hw : own_Z Z a0) : (Jvm.Cond.static ({ cls := "java/lang/StringUTF16", name := "coderFromArrayLen", desc := "([BI)B" } : Jvm.MethodName)).before a0 Z = true := hw _ (List.mem_of_getElem? (i := 93) rfl)
theorem own_w94 {Z : State} {a0 : Array Value} (hw : own_Z Z a0) : (Jvm.Cond.code ({ cls := "java/lang/StringUTF16", name := "coderFromArrayLen", desc := "([BI)B" } : Jvm.MethodName) jdk_52_method_15_code (2 : Nat) (Option.some Jvm.ClassFile.FieldType.byte)).before a0 Z = true := hw _ (List.mem_of_getElem? (i := 94) rfl)
theorem own_w95 {Z : State} {a0 : Array Value} (hw : own_Z Z a0) : (Jvm.Cond.methodLink "com/example/wary_loader/waryloader/dn/DnParser" (53 : Nat) ({ cls := "java/lang/String", name := "charAt", desc := "(I)C" } : Jvm.MethodName)).before a0 Z = true := hw _ (List.mem_of_getElem? (i := 95) rfl)
theorem own_w96 {Z : State} {a0 : Array Value} (hw : own_Z Z a0) : (Jvm.Cond.declares ({ cls := "java/lang/String", name := "charAt", desc := "(I)C" } : Jvm.MethodName)).before a0 Z = true := hw _ (List.mem_of_getElem? (i := 96) rfl)
theorem own_w97 {Z : State} {a0 : Array Value} (hw : own_Z Z a0) : (Jvm.Cond.instanceMethod ({ cls := "java/lang/String", name := "charAt", desc := "(I)C" } : Jvm.MethodName)).before a0 Z = true := hw _ (List.mem_of_getElem? (i := 97) rfl)
theorem own_w98 {Z : State} {a0 : Array Value} (hw : own_Z Z a0) : (Jvm.Cond.selects "java/lang/String" ({ cls := "java/lang/String", name := "charAt", desc := "(I)C" } : Jvm.MethodName) ({ cls := "java/lang/String", name := "charAt", desc := "(I)C" } : Jvm.MethodName)).before a0 Z = true := hw _ (List.mem_of_getElem? (i := 98) rfl)
theorem own_w99 {Z : State} {a0 : Array Value} (hw : own_Z Z a0) : (Jvm.Cond.code ({ cls := "java/lang/String", name := "charAt", desc := "(I)C" } : Jvm.MethodName) jdk_42_method_56_code (2 : Nat) (Option.some Jvm.ClassFile.FieldType.char)).before a0 Z = true := hw _ (List.mem_of_getElem? (i := 99) rfl)
theorem own_w100 {Z : State} {a0 : Array Value} (hw : own_Z Z a0) : (Jvm.Cond.methodLink "java/lang/String" (492 : Nat) ({ cls := "java/lang/String", name := "isLatin1", desc := "()Z" } : Jvm.MethodName)).before a0 Z = true := hw _ (List.mem_of_getElem? (i := 100) rfl)
theorem own_w101 {Z : State} {a0 : Array Value} (hw : own_Z Z a0) : (Jvm.Cond.declares ({ cls := "java/lang/String", name := "isLatin1", desc := "()Z" } : Jvm.MethodName)).before a0 Z = true := hw _ (List.mem_of_getElem? (i := 101) rfl)
theorem own_w102 {Z : State} {a0 : Array Value} (hw : own_Z Z a0) : (Jvm.Cond.instanceMethod ({ cls := "java/lang/String", name := "isLatin1", desc := "()Z" } : Jvm.MethodName)).before a0 Z = true := hw _ (List.mem_of_getElem? (i := 102) rfl)
theorem own_w103 {Z : State} {a0 : Array Value} (hw : own_Z Z a0) : (Jvm.Cond.selects "java/lang/String" ({ cls := "java/lang/String", name := "isLatin1", desc := "()Z" } : Jvm.MethodName) ({ cls := "java/lang/String", name := "isLatin1", desc := "()Z" } : Jvm.MethodName)).before a0 Z = true := hw _ (List.mem_of_getElem? (i := 103) rfl)
theorem own_w104 {Z : State} {a0 : Array Value} (hw : own_Z Z a0) : (Jvm.Cond.code ({ cls := "java/lang/String", name := "isLatin1", desc := "()Z" } : Jvm.MethodName) jdk_42_method_154_code (1 : Nat) (Option.some Jvm.ClassFile.FieldType.boolean)).before a0 Z = true := hw _ (List.mem_of_getElem? (i := 104) rfl)
theorem own_w105 {Z : State} {a0 : Array Value} (hw : own_Z Z a0) : (Jvm.Cond.methodLink "java/lang/String" (495 : Nat) ({ cls := "java/lang/StringLatin1", name := "charAt", desc := "([BI)C" } : Jvm.MethodName)).before a0 Z = true := hw _ (List.mem_of_getElem? (i := 105) rfl)
theorem own_w106 {Z : State} {a0 : Array Value} (hw : own_Z Z a0) : (Jvm.Cond.static ({ cls := "java/lang/StringLatin1", name := "charAt", desc := "([BI)C" } : Jvm.MethodName)).before a0 Z = true := hw _ (List.mem_of_getElem? (i := 106) rfl)
theorem own_w107 {Z : State} {a0 : Array Value} (hw : own_Z Z a0) : (Jvm.Cond.initialized "java/lang/StringLatin1").before a0 Z = true := hw _ (List.mem_of_getElem? (i := 107) rfl)
theorem own_w108 {Z : State} {a0 : Array Value} (hw : own_Z Z a0) : (Jvm.Cond.code ({ cls := "java/lang/StringLatin1", name := "charAt", desc := "([BI)C" } : Jvm.MethodName) jdk_43_method_2_code (2 : Nat) (Option.some Jvm.ClassFile.FieldType.char)).before a0 Z = true := hw _ (List.mem_of_getElem? (i := 108) rfl)
theorem own_w109 {Z : State} {a0 : Array Value} (hw : own_Z Z a0) : (Jvm.Cond.methodLink "java/lang/StringLatin1" (9 : Nat) ({ cls := "java/lang/String", name := "checkIndex", desc := "(II)V" } : Jvm.MethodName)).before a0 Z = true := hw _ (List.mem_of_getElem? (i := 109) rfl)
theorem own_w110 {Z : State} {a0 : Array Value} (hw : own_Z Z a0) : (Jvm.Cond.static ({ cls := "java/lang/String", name := "checkIndex", desc := "(II)V" } : Jvm.MethodName)).before a0 Z = true := hw _ (List.mem_of_getElem? (i := 110) rfl)
theorem own_w111 {Z : State} {a0 : Array Value} (hw : own_Z Z a0) : (Jvm.Cond.code ({ cls := "java/lang/String", name := "checkIndex", desc := "(II)V" } : Jvm.MethodName) jdk_42_method_155_code (2 : Nat) (Option.none : Option Jvm.ClassFile.FieldType)).before a0 Z = true := hw _ (List.mem_of_getElem? (i := 111) rfl)
theorem own_w112 {Z : State} {a0 : Array Value} (hw : own_Z Z a0) : (Jvm.Cond.fieldLink "java/lang/String" (1053 : Nat) "jdk/internal/util/Preconditions" "SIOOBE_FORMATTER" "Ljava/util/function/BiFunction;").before a0 Z = true := hw _ (List.mem_of_getElem? (i := 112) rfl)
theorem own_w113 {Z : State} {a0 : Array Value} (hw : own_Z Z a0) : (Jvm.Cond.initialized "jdk/internal/util/Preconditions").before a0 Z = true := hw _ (List.mem_of_getElem? (i := 113) rfl)
theorem own_w114 {Z : State} {a0 : Array Value} (hw : own_Z Z a0) : (Jvm.Cond.methodLink "java/lang/String" (1059 : Nat) ({ cls := "jdk/internal/util/Preconditions", name := "checkIndex", desc := "(IILjava/util/function/BiFunction;)I" } : Jvm.MethodName)).before a0 Z = true := hw _ (List.mem_of_getElem? (i := 114) rfl)
theorem own_w115 {Z : State} {a0 : Array Value} (hw : own_Z Z a0) : (Jvm.Cond.static ({ cls := "jdk/internal/util/Preconditions", name := "checkIndex", desc := "(IILjava/util/function/BiFunction;)I" } : Jvm.MethodName)).before a0 Z = true := hw _ (List.mem_of_getElem? (i := 115) rfl)
theorem own_w116 {Z : State} {a0 : Array Value} (hw : own_Z Z a0) : (Jvm.Cond.code ({ cls := "jdk/internal/util/Preconditions", name := "checkIndex", desc := "(IILjava/util/function/BiFunction;)I" } : Jvm.MethodName) jdk_41_method_11_code (3 : Nat) (Option.some Jvm.ClassFile.FieldType.int)).before a0 Z = true := hw _ (List.mem_of_getElem? (i := 116) rfl)
theorem own_selp0 {Z : State} {a0 : Array Value} (hw : own_Z Z a0) : (Jvm.Cond.selects "com/example/wary_loader/waryloader/dn/DnParser" ({ cls := "com/example/wary_loader/waryloader/dn/DnParser", name := "spacesFrom", desc := "(I)I" } : Jvm.MethodName) ({ cls := "com/example/wary_loader/waryloader/dn/DnParser", name := "spacesFrom", desc := "(I)I" } : Jvm.MethodName)).before a0 Z = true := by
  obtain ⟨c, k, h1, h2, -, h4, -⟩ := Cond.instantiable_spec (own_w33 hw)
  exact Jvm.Stand.selects_self_of_private (y := ({ cls := "com/example/wary_loader/waryloader/dn/DnParser", name := "spacesFrom", desc := "(I)I" } : Jvm.MethodName)) h1 h2 (Bool.or_eq_false_iff.mp h4).1 (Cond.privateMethod_at (own_w52 hw)) (own_w51 hw) (by decide)
theorem own_d0_0 : own_D jdk_42_method_149_code 0 (.aload_n 0) 1 1 := ⟨by decide +kernel, rfl⟩
theorem own_d0_1 : own_D jdk_42_method_149_code 1 (.invokespecial 1) 3 4 := ⟨by decide +kernel, rfl⟩
theorem own_d0_4 : own_D jdk_42_method_149_code 4 (.iload_n 3) 1 5 := ⟨by decide +kernel, rfl⟩
theorem own_d0_5 : own_B jdk_42_method_149_code 5 (.ifCond .ne 22) 22 8 27 := ⟨by decide +kernel, rfl, by decide, by decide⟩
theorem own_d0_8 : own_D jdk_42_method_149_code 8 (.aload_n 0) 1 9 := ⟨by decide +kernel, rfl⟩
theorem own_d0_9 : own_D jdk_42_method_149_code 9 (.ldc 7) 2 11 := ⟨by decide +kernel, rfl⟩
theorem own_d0_11 : own_D jdk_42_method_149_code 11 (.getfield 9) 3 14 := ⟨by decide +kernel, rfl⟩
theorem own_d0_14 : own_D jdk_42_method_149_code 14 (.putfield 9) 3 17 := ⟨by decide +kernel, rfl⟩
theorem own_d0_17 : own_D jdk_42_method_149_code 17 (.aload_n 0) 1 18 := ⟨by decide +kernel, rfl⟩
theorem own_d0_18 : own_D jdk_42_method_149_code 18 (.ldc 7) 2 20 := ⟨by decide +kernel, rfl⟩
theorem own_d0_20 : own_D jdk_42_method_149_code 20 (.getfield 15) 3 23 := ⟨by decide +kernel, rfl⟩
theorem own_d0_23 : own_D jdk_42_method_149_code 23 (.putfield 15) 3 26 := ⟨by decide +kernel, rfl⟩
theorem own_d0_26 : own_D jdk_42_method_149_code 26 (.return_) 1 27 := ⟨by decide +kernel, rfl⟩
theorem own_d1_0 : own_D jdk_42_method_3_code 0 (.aload_n 0) 1 1 := ⟨by decide +kernel, rfl⟩
theorem own_d1_1 : own_D jdk_42_method_3_code 1 (.aload_n 1) 1 2 := ⟨by decide +kernel, rfl⟩
theorem own_d1_2 : own_D jdk_42_method_3_code 2 (.iconst 0) 1 3 := ⟨by decide +kernel, rfl⟩
theorem own_d1_3 : own_D jdk_42_method_3_code 3 (.aload_n 1) 1 4 := ⟨by decide +kernel, rfl⟩
theorem own_d1_4 : own_D jdk_42_method_3_code 4 (.arraylength) 1 5 := ⟨by decide +kernel, rfl⟩
theorem own_d1_5 : own_D jdk_42_method_3_code 5 (.aconst_null) 1 6 := ⟨by decide +kernel, rfl⟩
theorem own_d1_6 : own_D jdk_42_method_3_code 6 (.invokespecial 27) 3 9 := ⟨by decide +kernel, rfl⟩
theorem own_d1_9 : own_D jdk_42_method_3_code 9 (.return_) 1 10 := ⟨by decide +kernel, rfl⟩
theorem own_d2_0 : own_D jdk_52_method_21_code 0 (.iconst 0) 1 1 := ⟨by decide +kernel, rfl⟩
theorem own_d2_1 : own_D jdk_52_method_21_code 1 (.istore 5) 2 3 := ⟨by decide +kernel, rfl⟩
theorem own_d2_3 : own_D jdk_52_method_21_code 3 (.iload 5) 2 5 := ⟨by decide +kernel, rfl⟩
theorem own_d2_5 : own_D jdk_52_method_21_code 5 (.iload 4) 2 7 := ⟨by decide +kernel, rfl⟩
theorem own_d2_7 : own_B jdk_52_method_21_code 7 (.if_icmp .ge 37) 37 10 44 := ⟨by decide +kernel, rfl, by decide, by decide⟩
theorem own_d2_10 : own_D jdk_52_method_21_code 10 (.aload_n 0) 1 11 := ⟨by decide +kernel, rfl⟩
theorem own_d2_11 : own_D jdk_52_method_21_code 11 (.iload_n 1) 1 12 := ⟨by decide +kernel, rfl⟩
theorem own_d2_12 : own_D jdk_52_method_21_code 12 (.caload) 1 13 := ⟨by decide +kernel, rfl⟩
theorem own_d2_13 : own_D jdk_52_method_21_code 13 (.istore 6) 2 15 := ⟨by decide +kernel, rfl⟩
theorem own_d2_15 : own_D jdk_52_method_21_code 15 (.iload 6) 2 17 := ⟨by decide +kernel, rfl⟩
theorem own_d2_17 : own_D jdk_52_method_21_code 17 (.sipush 255) 3 20 := ⟨by decide +kernel, rfl⟩
theorem own_d2_20 : own_B jdk_52_method_21_code 20 (.if_icmp .le 6) 6 23 26 := ⟨by decide +kernel, rfl, by decide, by decide⟩
theorem own_d2_26 : own_D jdk_52_method_21_code 26 (.aload_n 2) 1 27 := ⟨by decide +kernel, rfl⟩
theorem own_d2_27 : own_D jdk_52_method_21_code 27 (.iload_n 3) 1 28 := ⟨by decide +kernel, rfl⟩
theorem own_d2_28 : own_D jdk_52_method_21_code 28 (.iload 6) 2 30 := ⟨by decide +kernel, rfl⟩
theorem own_d2_30 : own_D jdk_52_method_21_code 30 (.i2b) 1 31 := ⟨by decide +kernel, rfl⟩
theorem own_d2_31 : own_D jdk_52_method_21_code 31 (.bastore) 1 32 := ⟨by decide +kernel, rfl⟩
theorem own_d2_32 : own_D jdk_52_method_21_code 32 (.iinc 1 1) 3 35 := ⟨by decide +kernel, rfl⟩
theorem own_d2_35 : own_D jdk_52_method_21_code 35 (.iinc 3 1) 3 38 := ⟨by decide +kernel, rfl⟩
theorem own_d2_38 : own_D jdk_52_method_21_code 38 (.iinc 5 1) 3 41 := ⟨by decide +kernel, rfl⟩
theorem own_d2_41 : own_B jdk_52_method_21_code 41 (.goto (-38)) (-38) 44 3 := ⟨by decide +kernel, rfl, by decide, by decide⟩
theorem own_d2_44 : own_D jdk_52_method_21_code 44 (.iload 4) 2 46 := ⟨by decide +kernel, rfl⟩
theorem own_d2_46 : own_D jdk_52_method_21_code 46 (.ireturn) 1 47 := ⟨by decide +kernel, rfl⟩
theorem own_d3_0 : own_D jdk_52_method_16_code 0 (.iload_n 2) 1 1 := ⟨by decide +kernel, rfl⟩
theorem own_d3_1 : own_D jdk_52_method_16_code 1 (.newarray .byte) 2 3 := ⟨by decide +kernel, rfl⟩
theorem own_d3_3 : own_D jdk_52_method_16_code 3 (.astore_n 3) 1 4 := ⟨by decide +kernel, rfl⟩
theorem own_d3_4 : own_D jdk_52_method_16_code 4 (.aload_n 0) 1 5 := ⟨by decide +kernel, rfl⟩
theorem own_d3_5 : own_D jdk_52_method_16_code 5 (.iload_n 1) 1 6 := ⟨by decide +kernel, rfl⟩
theorem own_d3_6 : own_D jdk_52_method_16_code 6 (.aload_n 3) 1 7 := ⟨by decide +kernel, rfl⟩
theorem own_d3_7 : own_D jdk_52_method_16_code 7 (.iconst 0) 1 8 := ⟨by decide +kernel, rfl⟩
theorem own_d3_8 : own_D jdk_52_method_16_code 8 (.iload_n 2) 1 9 := ⟨by decide +kernel, rfl⟩
theorem own_d3_9 : own_D jdk_52_method_16_code 9 (.invokestatic 115) 3 12 := ⟨by decide +kernel, rfl⟩
theorem own_d3_12 : own_D jdk_52_method_16_code 12 (.istore 4) 2 14 := ⟨by decide +kernel, rfl⟩
theorem own_d3_14 : own_D jdk_52_method_16_code 14 (.iload 4) 2 16 := ⟨by decide +kernel, rfl⟩
theorem own_d3_16 : own_D jdk_52_method_16_code 16 (.iload_n 2) 1 17 := ⟨by decide +kernel, rfl⟩
theorem own_d3_17 : own_B jdk_52_method_16_code 17 (.if_icmp .eq 40) 40 20 57 := ⟨by decide +kernel, rfl, by decide, by decide⟩
theorem own_d3_57 : own_D jdk_52_method_16_code 57 (.aload_n 3) 1 58 := ⟨by decide +kernel, rfl⟩
theorem own_d3_58 : own_D jdk_52_method_16_code 58 (.areturn) 1 59 := ⟨by decide +kernel, rfl⟩
theorem own_d4_0 : own_D jdk_52_method_15_code 0 (.iload_n 1) 1 1 := ⟨by decide +kernel, rfl⟩
theorem own_d4_1 : own_D jdk_52_method_15_code 1 (.aload_n 0) 1 2 := ⟨by decide +kernel, rfl⟩
theorem own_d4_2 : own_D jdk_52_method_15_code 2 (.arraylength) 1 3 := ⟨by decide +kernel, rfl⟩
theorem own_d4_3 : own_D jdk_52_method_15_code 3 (.isub) 1 4 := ⟨by decide +kernel, rfl⟩
theorem own_d4_4 : own_D jdk_52_method_15_code 4 (.bipush 31) 2 6 := ⟨by decide +kernel, rfl⟩
theorem own_d4_6 : own_D jdk_52_method_15_code 6 (.iushr) 1 7 := ⟨by decide +kernel, rfl⟩
theorem own_d4_7 : own_D jdk_52_method_15_code 7 (.i2b) 1 8 := ⟨by decide +kernel, rfl⟩
theorem own_d4_8 : own_D jdk_52_method_15_code 8 (.ireturn) 1 9 := ⟨by decide +kernel, rfl⟩
theorem own_d0_27 : own_D jdk_42_method_149_code 27 (.getstatic 38) 3 30 := ⟨by decide +kernel, rfl⟩
theorem own_d0_30 : own_B jdk_42_method_149_code 30 (.ifCond .eq 28) 28 33 58 := ⟨by decide +kernel, rfl, by decide, by decide⟩
theorem own_d0_33 : own_D jdk_42_method_149_code 33 (.aload_n 1) 1 34 := ⟨by decide +kernel, rfl⟩
theorem own_d0_34 : own_D jdk_42_method_149_code 34 (.iload_n 2) 1 35 := ⟨by decide +kernel, rfl⟩
theorem own_d0_35 : own_D jdk_42_method_149_code 35 (.iload_n 3) 1 36 := ⟨by decide +kernel, rfl⟩
theorem own_d0_36 : own_D jdk_42_method_149_code 36 (.invokestatic 177) 3 39 := ⟨by decide +kernel, rfl⟩
theorem own_d0_39 : own_D jdk_42_method_149_code 39 (.astore 5) 2 41 := ⟨by decide +kernel, rfl⟩
theorem own_d0_41 : own_D jdk_42_method_149_code 41 (.aload_n 0) 1 42 := ⟨by decide +kernel, rfl⟩
theorem own_d0_42 : own_D jdk_42_method_149_code 42 (.aload 5) 2 44 := ⟨by decide +kernel, rfl⟩
theorem own_d0_44 : own_D jdk_42_method_149_code 44 (.iload_n 3) 1 45 := ⟨by decide +kernel, rfl⟩
theorem own_d0_45 : own_D jdk_42_method_149_code 45 (.invokestatic 47) 3 48 := ⟨by decide +kernel, rfl⟩
theorem own_d0_48 : own_D jdk_42_method_149_code 48 (.putfield 15) 3 51 := ⟨by decide +kernel, rfl⟩
theorem own_d0_51 : own_D jdk_42_method_149_code 51 (.aload_n 0) 1 52 := ⟨by decide +kernel, rfl⟩
theorem own_d0_52 : own_D jdk_42_method_149_code 52 (.aload 5) 2 54 := ⟨by decide +kernel, rfl⟩
theorem own_d0_54 : own_D jdk_42_method_149_code 54 (.putfield 9) 3 57 := ⟨by decide +kernel, rfl⟩
theorem own_d0_57 : own_D jdk_42_method_149_code 57 (.return_) 1 58 := ⟨by decide +kernel, rfl⟩
theorem own_d5_0 : own_D jdk_42_method_154_code 0 (.getstatic 38) 3 3 := ⟨by decide +kernel, rfl⟩
theorem own_d5_3 : own_B jdk_42_method_154_code 3 (.ifCond .eq 14) 14 6 17 := ⟨by decide +kernel, rfl, by decide, by decide⟩
theorem own_d5_6 : own_D jdk_42_method_154_code 6 (.aload_n 0) 1 7 := ⟨by decide +kernel, rfl⟩
theorem own_d5_7 : own_D jdk_42_method_154_code 7 (.getfield 15) 3 10 := ⟨by decide +kernel, rfl⟩
theorem own_d5_10 : own_B jdk_42_method_154_code 10 (.ifCond .ne 7) 7 13 17 := ⟨by decide +kernel, rfl, by decide, by decide⟩
theorem own_d5_13 : own_D jdk_42_method_154_code 13 (.iconst 1) 1 14 := ⟨by decide +kernel, rfl⟩
theorem own_d5_14 : own_B jdk_42_method_154_code 14 (.goto 4) 4 17 18 := ⟨by decide +kernel, rfl, by decide, by decide⟩
theorem own_d5_18 : own_D jdk_42_method_154_code 18 (.ireturn) 1 19 := ⟨by decide +kernel, rfl⟩
theorem own_d6_0 : own_D jdk_42_method_152_code 0 (.getstatic 38) 3 3 := ⟨by decide +kernel, rfl⟩
theorem own_d6_3 : own_B jdk_42_method_152_code 3 (.ifCond .eq 10) 10 6 13 := ⟨by decide +kernel, rfl, by decide, by decide⟩
theorem own_d6_6 : own_D jdk_42_method_152_code 6 (.aload_n 0) 1 7 := ⟨by decide +kernel, rfl⟩
theorem own_d6_7 : own_D jdk_42_method_152_code 7 (.getfield 15) 3 10 := ⟨by decide +kernel, rfl⟩
theorem own_d6_10 : own_B jdk_42_method_152_code 10 (.goto 4) 4 13 14 := ⟨by decide +kernel, rfl, by decide, by decide⟩
theorem own_d6_14 : own_D jdk_42_method_152_code 14 (.ireturn) 1 15 := ⟨by decide +kernel, rfl⟩
theorem own_d7_0 : own_D jdk_41_method_11_code 0 (.iload_n 0) 1 1 := ⟨by decide +kernel, rfl⟩
theorem own_d7_1 : own_B jdk_41_method_11_code 1 (.ifCond .lt 8) 8 4 9 := ⟨by decide +kernel, rfl, by decide, by decide⟩
theorem own_d7_4 : own_D jdk_41_method_11_code 4 (.iload_n 0) 1 5 := ⟨by decide +kernel, rfl⟩
theorem own_d7_5 : own_D jdk_41_method_11_code 5 (.iload_n 1) 1 6 := ⟨by decide +kernel, rfl⟩
theorem own_d7_6 : own_B jdk_41_method_11_code 6 (.if_icmp .lt 10) 10 9 16 := ⟨by decide +kernel, rfl, by decide, by decide⟩
theorem own_d7_16 : own_D jdk_41_method_11_code 16 (.iload_n 0) 1 17 := ⟨by decide +kernel, rfl⟩
theorem own_d7_17 : own_D jdk_41_method_11_code 17 (.ireturn) 1 18 := ⟨by decide +kernel, rfl⟩
theorem own_d8_0 : own_D jdk_42_method_155_code 0 (.iload_n 0) 1 1 := ⟨by decide +kernel, rfl⟩
theorem own_d8_1 : own_D jdk_42_method_155_code 1 (.iload_n 1) 1 2 := ⟨by decide +kernel, rfl⟩
theorem own_d8_2 : own_D jdk_42_method_155_code 2 (.getstatic 1053) 3 5 := ⟨by decide +kernel, rfl⟩
theorem own_d8_5 : own_D jdk_42_method_155_code 5 (.invokestatic 1059) 3 8 := ⟨by decide +kernel, rfl⟩
theorem own_d8_8 : own_D jdk_42_method_155_code 8 (.pop) 1 9 := ⟨by decide +kernel, rfl⟩
theorem own_d8_9 : own_D jdk_42_method_155_code 9 (.return_) 1 10 := ⟨by decide +kernel, rfl⟩
theorem own_d9_0 : own_D jdk_43_method_2_code 0 (.iload_n 1) 1 1 := ⟨by decide +kernel, rfl⟩
theorem own_d9_1 : own_D jdk_43_method_2_code 1 (.aload_n 0) 1 2 := ⟨by decide +kernel, rfl⟩
theorem own_d9_2 : own_D jdk_43_method_2_code 2 (.arraylength) 1 3 := ⟨by decide +kernel, rfl⟩
theorem own_d9_3 : own_D jdk_43_method_2_code 3 (.invokestatic 9) 3 6 := ⟨by decide +kernel, rfl⟩
theorem own_d9_6 : own_D jdk_43_method_2_code 6 (.aload_n 0) 1 7 := ⟨by decide +kernel, rfl⟩
theorem own_d9_7 : own_D jdk_43_method_2_code 7 (.iload_n 1) 1 8 := ⟨by decide +kernel, rfl⟩
theorem own_d9_8 : own_D jdk_43_method_2_code 8 (.baload) 1 9 := ⟨by decide +kernel, rfl⟩
theorem own_d9_9 : own_D jdk_43_method_2_code 9 (.sipush 255) 3 12 := ⟨by decide +kernel, rfl⟩
theorem own_d9_12 : own_D jdk_43_method_2_code 12 (.iand) 1 13 := ⟨by decide +kernel, rfl⟩
theorem own_d9_13 : own_D jdk_43_method_2_code 13 (.i2c) 1 14 := ⟨by decide +kernel, rfl⟩
theorem own_d9_14 : own_D jdk_43_method_2_code 14 (.ireturn) 1 15 := ⟨by decide +kernel, rfl⟩
theorem own_d10_0 : own_D jdk_42_method_56_code 0 (.aload_n 0) 1 1 := ⟨by decide +kernel, rfl⟩
theorem own_d10_1 : own_D jdk_42_method_56_code 1 (.invokevirtual 492) 3 4 := ⟨by decide +kernel, rfl⟩
theorem own_d10_4 : own_B jdk_42_method_56_code 4 (.ifCond .eq 12) 12 7 16 := ⟨by decide +kernel, rfl, by decide, by decide⟩
theorem own_d10_7 : own_D jdk_42_method_56_code 7 (.aload_n 0) 1 8 := ⟨by decide +kernel, rfl⟩
theorem own_d10_8 : own_D jdk_42_method_56_code 8 (.getfield 9) 3 11 := ⟨by decide +kernel, rfl⟩
theorem own_d10_11 : own_D jdk_42_method_56_code 11 (.iload_n 1) 1 12 := ⟨by decide +kernel, rfl⟩
theorem own_d10_12 : own_D jdk_42_method_56_code 12 (.invokestatic 495) 3 15 := ⟨by decide +kernel, rfl⟩
theorem own_d10_15 : own_D jdk_42_method_56_code 15 (.ireturn) 1 16 := ⟨by decide +kernel, rfl⟩
theorem own_d11_0 : own_D jdk_42_method_54_code 0 (.aload_n 0) 1 1 := ⟨by decide +kernel, rfl⟩
theorem own_d11_1 : own_D jdk_42_method_54_code 1 (.getfield 9) 3 4 := ⟨by decide +kernel, rfl⟩
theorem own_d11_4 : own_D jdk_42_method_54_code 4 (.arraylength) 1 5 := ⟨by decide +kernel, rfl⟩
theorem own_d11_5 : own_D jdk_42_method_54_code 5 (.aload_n 0) 1 6 := ⟨by decide +kernel, rfl⟩
theorem own_d11_6 : own_D jdk_42_method_54_code 6 (.invokevirtual 335) 3 9 := ⟨by decide +kernel, rfl⟩
theorem own_d11_9 : own_D jdk_42_method_54_code 9 (.ishr) 1 10 := ⟨by decide +kernel, rfl⟩
theorem own_d11_10 : own_D jdk_42_method_54_code 10 (.ireturn) 1 11 := ⟨by decide +kernel, rfl⟩
theorem own_d12_0 : own_D prog_15_method_11_code 0 (.iload_n 1) 1 1 := ⟨by decide +kernel, rfl⟩
theorem own_d12_1 : own_D prog_15_method_11_code 1 (.istore_n 2) 1 2 := ⟨by decide +kernel, rfl⟩
theorem own_d12_2 : own_D prog_15_method_11_code 2 (.iload_n 2) 1 3 := ⟨by decide +kernel, rfl⟩
theorem own_d12_3 : own_D prog_15_method_11_code 3 (.aload_n 0) 1 4 := ⟨by decide +kernel, rfl⟩
theorem own_d12_4 : own_D prog_15_method_11_code 4 (.getfield 7) 3 7 := ⟨by decide +kernel, rfl⟩
theorem own_d12_7 : own_D prog_15_method_11_code 7 (.invokevirtual 47) 3 10 := ⟨by decide +kernel, rfl⟩
theorem own_d12_10 : own_B prog_15_method_11_code 10 (.if_icmp .ge 22) 22 13 32 := ⟨by decide +kernel, rfl, by decide, by decide⟩
theorem own_d12_32 : own_D prog_15_method_11_code 32 (.iload_n 2) 1 33 := ⟨by decide +kernel, rfl⟩
theorem own_d12_33 : own_D prog_15_method_11_code 33 (.ireturn) 1 34 := ⟨by decide +kernel, rfl⟩
theorem own_d12_13 : own_D prog_15_method_11_code 13 (.aload_n 0) 1 14 := ⟨by decide +kernel, rfl⟩
theorem own_d12_14 : own_D prog_15_method_11_code 14 (.getfield 7) 3 17 := ⟨by decide +kernel, rfl⟩
theorem own_d12_17 : own_D prog_15_method_11_code 17 (.iload_n 2) 1 18 := ⟨by decide +kernel, rfl⟩
theorem own_d12_18 : own_D prog_15_method_11_code 18 (.invokevirtual 53) 3 21 := ⟨by decide +kernel, rfl⟩
theorem own_d12_21 : own_D prog_15_method_11_code 21 (.bipush 32) 2 23 := ⟨by decide +kernel, rfl⟩
theorem own_d12_23 : own_B prog_15_method_11_code 23 (.if_icmp .ne 9) 9 26 32 := ⟨by decide +kernel, rfl, by decide, by decide⟩
theorem own_d12_26 : own_D prog_15_method_11_code 26 (.iinc 2 1) 3 29 := ⟨by decide +kernel, rfl⟩
theorem own_d12_29 : own_B prog_15_method_11_code 29 (.goto (-27)) (-27) 32 2 := ⟨by decide +kernel, rfl, by decide, by decide⟩
theorem own_d13_0 : own_D prog_15_method_3_code 0 (.aload_n 0) 1 1 := ⟨by decide +kernel, rfl⟩
theorem own_d13_1 : own_D prog_15_method_3_code 1 (.aload_n 0) 1 2 := ⟨by decide +kernel, rfl⟩
theorem own_d13_2 : own_D prog_15_method_3_code 2 (.getfield 39) 3 5 := ⟨by decide +kernel, rfl⟩
theorem own_d13_5 : own_D prog_15_method_3_code 5 (.invokevirtual 43) 3 8 := ⟨by decide +kernel, rfl⟩
theorem own_d13_8 : own_D prog_15_method_3_code 8 (.istore_n 2) 1 9 := ⟨by decide +kernel, rfl⟩
theorem own_d13_9 : own_D prog_15_method_3_code 9 (.iload_n 2) 1 10 := ⟨by decide +kernel, rfl⟩
theorem own_d13_10 : own_D prog_15_method_3_code 10 (.aload_n 0) 1 11 := ⟨by decide +kernel, rfl⟩
theorem own_d13_11 : own_D prog_15_method_3_code 11 (.getfield 7) 3 14 := ⟨by decide +kernel, rfl⟩
theorem own_d13_14 : own_D prog_15_method_3_code 14 (.invokevirtual 47) 3 17 := ⟨by decide +kernel, rfl⟩
theorem own_d13_17 : own_B prog_15_method_3_code 17 (.if_icmp .eq 15) 15 20 32 := ⟨by decide +kernel, rfl, by decide, by decide⟩
theorem own_d13_32 : own_D prog_15_method_3_code 32 (.iconst 0) 1 33 := ⟨by decide +kernel, rfl⟩
theorem own_d13_33 : own_D prog_15_method_3_code 33 (.ireturn) 1 34 := ⟨by decide +kernel, rfl⟩
theorem own_d13_20 : own_D prog_15_method_3_code 20 (.aload_n 0) 1 21 := ⟨by decide +kernel, rfl⟩
theorem own_d13_21 : own_D prog_15_method_3_code 21 (.getfield 7) 3 24 := ⟨by decide +kernel, rfl⟩
theorem own_d13_24 : own_D prog_15_method_3_code 24 (.iload_n 2) 1 25 := ⟨by decide +kernel, rfl⟩
theorem own_d13_25 : own_D prog_15_method_3_code 25 (.invokevirtual 53) 3 28 := ⟨by decide +kernel, rfl⟩
theorem own_d13_28 : own_D prog_15_method_3_code 28 (.iload_n 1) 1 29 := ⟨by decide +kernel, rfl⟩
theorem own_d13_29 : own_B prog_15_method_3_code 29 (.if_icmp .eq 5) 5 32 34 := ⟨by decide +kernel, rfl, by decide, by decide⟩
theorem own_d13_34 : own_D prog_15_method_3_code 34 (.aload_n 0) 1 35 := ⟨by decide +kernel, rfl⟩
theorem own_d13_35 : own_D prog_15_method_3_code 35 (.iload_n 2) 1 36 := ⟨by decide +kernel, rfl⟩
theorem own_d13_36 : own_D prog_15_method_3_code 36 (.iconst 1) 1 37 := ⟨by decide +kernel, rfl⟩
theorem own_d13_37 : own_D prog_15_method_3_code 37 (.iadd) 1 38 := ⟨by decide +kernel, rfl⟩
theorem own_d13_38 : own_D prog_15_method_3_code 38 (.invokevirtual 43) 3 41 := ⟨by decide +kernel, rfl⟩
theorem own_d13_41 : own_D prog_15_method_3_code 41 (.istore_n 3) 1 42 := ⟨by decide +kernel, rfl⟩
theorem own_d13_42 : own_D prog_15_method_3_code 42 (.iload_n 3) 1 43 := ⟨by decide +kernel, rfl⟩
theorem own_d13_43 : own_D prog_15_method_3_code 43 (.aload_n 0) 1 44 := ⟨by decide +kernel, rfl⟩
theorem own_d13_44 : own_D prog_15_method_3_code 44 (.getfield 7) 3 47 := ⟨by decide +kernel, rfl⟩
theorem own_d13_47 : own_D prog_15_method_3_code 47 (.invokevirtual 47) 3 50 := ⟨by decide +kernel, rfl⟩
theorem own_d13_50 : own_B prog_15_method_3_code 50 (.if_icmp .eq 16) 16 53 66 := ⟨by decide +kernel, rfl, by decide, by decide⟩
theorem own_d13_66 : own_D prog_15_method_3_code 66 (.iconst 1) 1 67 := ⟨by decide +kernel, rfl⟩
theorem own_d13_67 : own_B prog_15_method_3_code 67 (.goto 4) 4 70 71 := ⟨by decide +kernel, rfl, by decide, by decide⟩
theorem own_d13_71 : own_D prog_15_method_3_code 71 (.istore 4) 2 73 := ⟨by decide +kernel, rfl⟩
theorem own_d13_73 : own_D prog_15_method_3_code 73 (.iload 4) 2 75 := ⟨by decide +kernel, rfl⟩
theorem own_d13_75 : own_B prog_15_method_3_code 75 (.ifCond .eq 8) 8 78 83 := ⟨by decide +kernel, rfl, by decide, by decide⟩
theorem own_d13_78 : own_D prog_15_method_3_code 78 (.aload_n 0) 1 79 := ⟨by decide +kernel, rfl⟩
theorem own_d13_79 : own_D prog_15_method_3_code 79 (.iload_n 3) 1 80 := ⟨by decide +kernel, rfl⟩
theorem own_d13_80 : own_D prog_15_method_3_code 80 (.putfield 39) 3 83 := ⟨by decide +kernel, rfl⟩
theorem own_d13_83 : own_D prog_15_method_3_code 83 (.iload 4) 2 85 := ⟨by decide +kernel, rfl⟩
theorem own_d13_85 : own_D prog_15_method_3_code 85 (.ireturn) 1 86 := ⟨by decide +kernel, rfl⟩
theorem own_d13_53 : own_D prog_15_method_3_code 53 (.aload_n 0) 1 54 := ⟨by decide +kernel, rfl⟩
theorem own_d13_54 : own_D prog_15_method_3_code 54 (.getfield 7) 3 57 := ⟨by decide +kernel, rfl⟩
theorem own_d13_57 : own_D prog_15_method_3_code 57 (.iload_n 3) 1 58 := ⟨by decide +kernel, rfl⟩
theorem own_d13_58 : own_D prog_15_method_3_code 58 (.invokevirtual 53) 3 61 := ⟨by decide +kernel, rfl⟩
theorem own_d13_61 : own_D prog_15_method_3_code 61 (.bipush 59) 2 63 := ⟨by decide +kernel, rfl⟩
theorem own_d13_63 : own_B prog_15_method_3_code 63 (.if_icmp .ne 7) 7 66 70 := ⟨by decide +kernel, rfl, by decide, by decide⟩
theorem own_d13_70 : own_D prog_15_method_3_code 70 (.iconst 0) 1 71 := ⟨by decide +kernel, rfl⟩
theorem own_d14_0 : own_D prog_15_method_5_code 0 (.aload_n 0) 1 1 := ⟨by decide +kernel, rfl⟩
theorem own_d14_1 : own_D prog_15_method_5_code 1 (.aload_n 0) 1 2 := ⟨by decide +kernel, rfl⟩
theorem own_d14_2 : own_D prog_15_method_5_code 2 (.aload_n 0) 1 3 := ⟨by decide +kernel, rfl⟩
theorem own_d14_3 : own_D prog_15_method_5_code 3 (.getfield 39) 3 6 := ⟨by decide +kernel, rfl⟩
theorem own_d14_6 : own_D prog_15_method_5_code 6 (.invokevirtual 43) 3 9 := ⟨by decide +kernel, rfl⟩
theorem own_d14_9 : own_D prog_15_method_5_code 9 (.putfield 39) 3 12 := ⟨by decide +kernel, rfl⟩
theorem own_d14_12 : own_D prog_15_method_5_code 12 (.aload_n 0) 1 13 := ⟨by decide +kernel, rfl⟩
theorem own_d14_13 : own_D prog_15_method_5_code 13 (.getfield 39) 3 16 := ⟨by decide +kernel, rfl⟩
theorem own_d14_16 : own_D prog_15_method_5_code 16 (.aload_n 0) 1 17 := ⟨by decide +kernel, rfl⟩
theorem own_d14_17 : own_D prog_15_method_5_code 17 (.getfield 7) 3 20 := ⟨by decide +kernel, rfl⟩
theorem own_d14_20 : own_D prog_15_method_5_code 20 (.invokevirtual 47) 3 23 := ⟨by decide +kernel, rfl⟩
theorem own_d14_23 : own_B prog_15_method_5_code 23 (.if_icmp .ge 22) 22 26 45 := ⟨by decide +kernel, rfl, by decide, by decide⟩
theorem own_d14_45 : own_D prog_15_method_5_code 45 (.iconst 0) 1 46 := ⟨by decide +kernel, rfl⟩
theorem own_d14_46 : own_D prog_15_method_5_code 46 (.istore_n 2) 1 47 := ⟨by decide +kernel, rfl⟩
theorem own_d14_47 : own_D prog_15_method_5_code 47 (.iload_n 2) 1 48 := ⟨by decide +kernel, rfl⟩
theorem own_d14_48 : own_B prog_15_method_5_code 48 (.ifCond .eq 13) 13 51 61 := ⟨by decide +kernel, rfl, by decide, by decide⟩
theorem own_d14_61 : own_D prog_15_method_5_code 61 (.iload_n 2) 1 62 := ⟨by decide +kernel, rfl⟩
theorem own_d14_62 : own_D prog_15_method_5_code 62 (.ireturn) 1 63 := ⟨by decide +kernel, rfl⟩
theorem own_d14_26 : own_D prog_15_method_5_code 26 (.aload_n 0) 1 27 := ⟨by decide +kernel, rfl⟩
theorem own_d14_27 : own_D prog_15_method_5_code 27 (.getfield 7) 3 30 := ⟨by decide +kernel, rfl⟩
theorem own_d14_30 : own_D prog_15_method_5_code 30 (.aload_n 0) 1 31 := ⟨by decide +kernel, rfl⟩
theorem own_d14_31 : own_D prog_15_method_5_code 31 (.getfield 39) 3 34 := ⟨by decide +kernel, rfl⟩
theorem own_d14_34 : own_D prog_15_method_5_code 34 (.invokevirtual 53) 3 37 := ⟨by decide +kernel, rfl⟩
theorem own_d14_37 : own_D prog_15_method_5_code 37 (.iload_n 1) 1 38 := ⟨by decide +kernel, rfl⟩
theorem own_d14_38 : own_B prog_15_method_5_code 38 (.if_icmp .ne 7) 7 41 45 := ⟨by decide +kernel, rfl, by decide, by decide⟩
theorem own_d14_41 : own_D prog_15_method_5_code 41 (.iconst 1) 1 42 := ⟨by decide +kernel, rfl⟩
theorem own_d14_42 : own_B prog_15_method_5_code 42 (.goto 4) 4 45 46 := ⟨by decide +kernel, rfl, by decide, by decide⟩
theorem own_d14_51 : own_D prog_15_method_5_code 51 (.aload_n 0) 1 52 := ⟨by decide +kernel, rfl⟩
theorem own_d14_52 : own_D prog_15_method_5_code 52 (.dup) 1 53 := ⟨by decide +kernel, rfl⟩
theorem own_d14_53 : own_D prog_15_method_5_code 53 (.getfield 39) 3 56 := ⟨by decide +kernel, rfl⟩
theorem own_d14_56 : own_D prog_15_method_5_code 56 (.iconst 1) 1 57 := ⟨by decide +kernel, rfl⟩
theorem own_d14_57 : own_D prog_15_method_5_code 57 (.iadd) 1 58 := ⟨by decide +kernel, rfl⟩
theorem own_d14_58 : own_D prog_15_method_5_code 58 (.putfield 39) 3 61 := ⟨by decide +kernel, rfl⟩
theorem own_d15_79 : own_D method_6_code 79 (.iload_n 1) 1 80 := ⟨by decide +kernel, rfl⟩
theorem own_d15_80 : own_D method_6_code 80 (.ireturn) 1 81 := ⟨by decide +kernel, rfl⟩
theorem own_d15_59 : own_D method_6_code 59 (.iload_n 2) 1 60 := ⟨by decide +kernel, rfl⟩
theorem own_d15_60 : own_D method_6_code 60 (.iconst 3) 1 61 := ⟨by decide +kernel, rfl⟩
theorem own_d15_61 : own_B method_6_code 61 (.if_icmp .gt 18) 18 64 79 := ⟨by decide +kernel, rfl, by decide, by decide⟩
theorem own_d15_64 : own_D method_6_code 64 (.iconst 3) 1 65 := ⟨by decide +kernel, rfl⟩
theorem own_d15_65 : own_D method_6_code 65 (.iload_n 1) 1 66 := ⟨by decide +kernel, rfl⟩
theorem own_d15_66 : own_B method_6_code 66 (.if_icmp .ge 13) 13 69 79 := ⟨by decide +kernel, rfl, by decide, by decide⟩
theorem own_d15_69 : own_D method_6_code 69 (.aload_n 0) 1 70 := ⟨by decide +kernel, rfl⟩
theorem own_d15_70 : own_D method_6_code 70 (.iconst 3) 1 71 := ⟨by decide +kernel, rfl⟩
theorem own_d15_71 : own_D method_6_code 71 (.caload) 1 72 := ⟨by decide +kernel, rfl⟩
theorem own_d15_72 : own_D method_6_code 72 (.bipush 59) 2 74 := ⟨by decide +kernel, rfl⟩
theorem own_d15_74 : own_B method_6_code 74 (.if_icmp .ne 5) 5 77 79 := ⟨by decide +kernel, rfl, by decide, by decide⟩
theorem own_d15_77 : own_D method_6_code 77 (.iconst 3) 1 78 := ⟨by decide +kernel, rfl⟩
theorem own_d15_78 : own_D method_6_code 78 (.ireturn) 1 79 := ⟨by decide +kernel, rfl⟩
theorem own_d15_39 : own_D method_6_code 39 (.iload_n 2) 1 40 := ⟨by decide +kernel, rfl⟩
theorem own_d15_40 : own_D method_6_code 40 (.iconst 2) 1 41 := ⟨by decide +kernel, rfl⟩
theorem own_d15_41 : own_B method_6_code 41 (.if_icmp .gt 18) 18 44 59 := ⟨by decide +kernel, rfl, by decide, by decide⟩
theorem own_d15_44 : own_D method_6_code 44 (.iconst 2) 1 45 := ⟨by decide +kernel, rfl⟩
theorem own_d15_45 : own_D method_6_code 45 (.iload_n 1) 1 46 := ⟨by decide +kernel, rfl⟩
theorem own_d15_46 : own_B method_6_code 46 (.if_icmp .ge 13) 13 49 59 := ⟨by decide +kernel, rfl, by decide, by decide⟩
theorem own_d15_49 : own_D method_6_code 49 (.aload_n 0) 1 50 := ⟨by decide +kernel, rfl⟩
theorem own_d15_50 : own_D method_6_code 50 (.iconst 2) 1 51 := ⟨by decide +kernel, rfl⟩
theorem own_d15_51 : own_D method_6_code 51 (.caload) 1 52 := ⟨by decide +kernel, rfl⟩
theorem own_d15_52 : own_D method_6_code 52 (.bipush 59) 2 54 := ⟨by decide +kernel, rfl⟩
theorem own_d15_54 : own_B method_6_code 54 (.if_icmp .ne 5) 5 57 59 := ⟨by decide +kernel, rfl, by decide, by decide⟩
theorem own_d15_57 : own_D method_6_code 57 (.iconst 2) 1 58 := ⟨by decide +kernel, rfl⟩
theorem own_d15_58 : own_D method_6_code 58 (.ireturn) 1 59 := ⟨by decide +kernel, rfl⟩
theorem own_d15_19 : own_D method_6_code 19 (.iload_n 2) 1 20 := ⟨by decide +kernel, rfl⟩
theorem own_d15_20 : own_D method_6_code 20 (.iconst 1) 1 21 := ⟨by decide +kernel, rfl⟩
theorem own_d15_21 : own_B method_6_code 21 (.if_icmp .gt 18) 18 24 39 := ⟨by decide +kernel, rfl, by decide, by decide⟩
theorem own_d15_24 : own_D method_6_code 24 (.iconst 1) 1 25 := ⟨by decide +kernel, rfl⟩
theorem own_d15_25 : own_D method_6_code 25 (.iload_n 1) 1 26 := ⟨by decide +kernel, rfl⟩
theorem own_d15_26 : own_B method_6_code 26 (.if_icmp .ge 13) 13 29 39 := ⟨by decide +kernel, rfl, by decide, by decide⟩
theorem own_d15_29 : own_D method_6_code 29 (.aload_n 0) 1 30 := ⟨by decide +kernel, rfl⟩
theorem own_d15_30 : own_D method_6_code 30 (.iconst 1) 1 31 := ⟨by decide +kernel, rfl⟩
theorem own_d15_31 : own_D method_6_code 31 (.caload) 1 32 := ⟨by decide +kernel, rfl⟩
theorem own_d15_32 : own_D method_6_code 32 (.bipush 59) 2 34 := ⟨by decide +kernel, rfl⟩
theorem own_d15_34 : own_B method_6_code 34 (.if_icmp .ne 5) 5 37 39 := ⟨by decide +kernel, rfl, by decide, by decide⟩
theorem own_d15_37 : own_D method_6_code 37 (.iconst 1) 1 38 := ⟨by decide +kernel, rfl⟩
theorem own_d15_38 : own_D method_6_code 38 (.ireturn) 1 39 := ⟨by decide +kernel, rfl⟩
theorem own_d15_0 : own_D method_6_code 0 (.iload_n 2) 1 1 := ⟨by decide +kernel, rfl⟩
theorem own_d15_1 : own_B method_6_code 1 (.ifCond .gt 18) 18 4 19 := ⟨by decide +kernel, rfl, by decide, by decide⟩
theorem own_d15_4 : own_D method_6_code 4 (.iconst 0) 1 5 := ⟨by decide +kernel, rfl⟩
theorem own_d15_5 : own_D method_6_code 5 (.iload_n 1) 1 6 := ⟨by decide +kernel, rfl⟩
theorem own_d15_6 : own_B method_6_code 6 (.if_icmp .ge 13) 13 9 19 := ⟨by decide +kernel, rfl, by decide, by decide⟩
theorem own_d15_9 : own_D method_6_code 9 (.aload_n 0) 1 10 := ⟨by decide +kernel, rfl⟩
theorem own_d15_10 : own_D method_6_code 10 (.iconst 0) 1 11 := ⟨by decide +kernel, rfl⟩
theorem own_d15_11 : own_D method_6_code 11 (.caload) 1 12 := ⟨by decide +kernel, rfl⟩
theorem own_d15_12 : own_D method_6_code 12 (.bipush 59) 2 14 := ⟨by decide +kernel, rfl⟩
theorem own_d15_14 : own_B method_6_code 14 (.if_icmp .ne 5) 5 17 19 := ⟨by decide +kernel, rfl, by decide, by decide⟩
theorem own_d15_17 : own_D method_6_code 17 (.iconst 0) 1 18 := ⟨by decide +kernel, rfl⟩
theorem own_d15_18 : own_D method_6_code 18 (.ireturn) 1 19 := ⟨by decide +kernel, rfl⟩
theorem own_d16_0 : own_D method_7_code 0 (.iload_n 1) 1 1 := ⟨by decide +kernel, rfl⟩
theorem own_d16_1 : own_D method_7_code 1 (.iload_n 2) 1 2 := ⟨by decide +kernel, rfl⟩
theorem own_d16_2 : own_B method_7_code 2 (.if_icmp .lt 20) 20 5 22 := ⟨by decide +kernel, rfl, by decide, by decide⟩
theorem own_d16_22 : own_D method_7_code 22 (.iconst 0) 1 23 := ⟨by decide +kernel, rfl⟩
theorem own_d16_23 : own_D method_7_code 23 (.ireturn) 1 24 := ⟨by decide +kernel, rfl⟩
theorem own_d16_5 : own_D method_7_code 5 (.iload_n 1) 1 6 := ⟨by decide +kernel, rfl⟩
theorem own_d16_6 : own_D method_7_code 6 (.iload_n 3) 1 7 := ⟨by decide +kernel, rfl⟩
theorem own_d16_7 : own_B method_7_code 7 (.if_icmp .ge 15) 15 10 22 := ⟨by decide +kernel, rfl, by decide, by decide⟩
theorem own_d16_10 : own_D method_7_code 10 (.aload_n 0) 1 11 := ⟨by decide +kernel, rfl⟩
theorem own_d16_11 : own_D method_7_code 11 (.iload_n 1) 1 12 := ⟨by decide +kernel, rfl⟩
theorem own_d16_12 : own_D method_7_code 12 (.caload) 1 13 := ⟨by decide +kernel, rfl⟩
theorem own_d16_13 : own_D method_7_code 13 (.bipush 32) 2 15 := ⟨by decide +kernel, rfl⟩
theorem own_d16_15 : own_B method_7_code 15 (.if_icmp .eq 7) 7 18 22 := ⟨by decide +kernel, rfl, by decide, by decide⟩
theorem own_d16_18 : own_D method_7_code 18 (.iconst 1) 1 19 := ⟨by decide +kernel, rfl⟩
theorem own_d16_19 : own_B method_7_code 19 (.goto 4) 4 22 23 := ⟨by decide +kernel, rfl, by decide, by decide⟩
theorem own_d17_0 : own_D method_9_code 0 (.iload_n 1) 1 1 := ⟨by decide +kernel, rfl⟩
theorem own_d17_1 : own_D method_9_code 1 (.iload_n 2) 1 2 := ⟨by decide +kernel, rfl⟩
theorem own_d17_2 : own_B method_9_code 2 (.if_icmp .lt 20) 20 5 22 := ⟨by decide +kernel, rfl, by decide, by decide⟩
theorem own_d17_22 : own_D method_9_code 22 (.iconst 0) 1 23 := ⟨by decide +kernel, rfl⟩
theorem own_d17_23 : own_D method_9_code 23 (.ireturn) 1 24 := ⟨by decide +kernel, rfl⟩
theorem own_d17_5 : own_D method_9_code 5 (.iload_n 1) 1 6 := ⟨by decide +kernel, rfl⟩
theorem own_d17_6 : own_D method_9_code 6 (.iload_n 3) 1 7 := ⟨by decide +kernel, rfl⟩
theorem own_d17_7 : own_B method_9_code 7 (.if_icmp .ge 15) 15 10 22 := ⟨by decide +kernel, rfl, by decide, by decide⟩
theorem own_d17_10 : own_D method_9_code 10 (.aload_n 0) 1 11 := ⟨by decide +kernel, rfl⟩
theorem own_d17_11 : own_D method_9_code 11 (.iload_n 1) 1 12 := ⟨by decide +kernel, rfl⟩
theorem own_d17_12 : own_D method_9_code 12 (.caload) 1 13 := ⟨by decide +kernel, rfl⟩
theorem own_d17_13 : own_D method_9_code 13 (.iload 4) 2 15 := ⟨by decide +kernel, rfl⟩
theorem own_d17_15 : own_B method_9_code 15 (.if_icmp .ne 7) 7 18 22 := ⟨by decide +kernel, rfl, by decide, by decide⟩
theorem own_d17_18 : own_D method_9_code 18 (.iconst 1) 1 19 := ⟨by decide +kernel, rfl⟩
theorem own_d17_19 : own_B method_9_code 19 (.goto 4) 4 22 23 := ⟨by decide +kernel, rfl, by decide, by decide⟩
theorem own_d18_0 : own_D method_8_code 0 (.aload_n 0) 1 1 := ⟨by decide +kernel, rfl⟩
theorem own_d18_1 : own_D method_8_code 1 (.iconst 0) 1 2 := ⟨by decide +kernel, rfl⟩
theorem own_d18_2 : own_D method_8_code 2 (.iload_n 1) 1 3 := ⟨by decide +kernel, rfl⟩
theorem own_d18_3 : own_D method_8_code 3 (.iload_n 2) 1 4 := ⟨by decide +kernel, rfl⟩
theorem own_d18_4 : own_D method_8_code 4 (.invokestatic 49) 3 7 := ⟨by decide +kernel, rfl⟩
theorem own_d18_7 : own_D method_8_code 7 (.aload_n 0) 1 8 := ⟨by decide +kernel, rfl⟩
theorem own_d18_8 : own_D method_8_code 8 (.iconst 1) 1 9 := ⟨by decide +kernel, rfl⟩
theorem own_d18_9 : own_D method_8_code 9 (.iload_n 1) 1 10 := ⟨by decide +kernel, rfl⟩
theorem own_d18_10 : own_D method_8_code 10 (.iload_n 2) 1 11 := ⟨by decide +kernel, rfl⟩
theorem own_d18_11 : own_D method_8_code 11 (.invokestatic 49) 3 14 := ⟨by decide +kernel, rfl⟩
theorem own_d18_14 : own_D method_8_code 14 (.iadd) 1 15 := ⟨by decide +kernel, rfl⟩
theorem own_d18_15 : own_D method_8_code 15 (.aload_n 0) 1 16 := ⟨by decide +kernel, rfl⟩
theorem own_d18_16 : own_D method_8_code 16 (.iconst 2) 1 17 := ⟨by decide +kernel, rfl⟩
theorem own_d18_17 : own_D method_8_code 17 (.iload_n 1) 1 18 := ⟨by decide +kernel, rfl⟩
theorem own_d18_18 : own_D method_8_code 18 (.iload_n 2) 1 19 := ⟨by decide +kernel, rfl⟩
theorem own_d18_19 : own_D method_8_code 19 (.invokestatic 49) 3 22 := ⟨by decide +kernel, rfl⟩
theorem own_d18_22 : own_D method_8_code 22 (.iadd) 1 23 := ⟨by decide +kernel, rfl⟩
theorem own_d18_23 : own_D method_8_code 23 (.aload_n 0) 1 24 := ⟨by decide +kernel, rfl⟩
theorem own_d18_24 : own_D method_8_code 24 (.iconst 3) 1 25 := ⟨by decide +kernel, rfl⟩
theorem own_d18_25 : own_D method_8_code 25 (.iload_n 1) 1 26 := ⟨by decide +kernel, rfl⟩
theorem own_d18_26 : own_D method_8_code 26 (.iload_n 2) 1 27 := ⟨by decide +kernel, rfl⟩
theorem own_d18_27 : own_D method_8_code 27 (.invokestatic 49) 3 30 := ⟨by decide +kernel, rfl⟩
theorem own_d18_30 : own_D method_8_code 30 (.iadd) 1 31 := ⟨by decide +kernel, rfl⟩
theorem own_d18_31 : own_D method_8_code 31 (.ireturn) 1 32 := ⟨by decide +kernel, rfl⟩
theorem own_d19_0 : own_D method_10_code 0 (.aload_n 0) 1 1 := ⟨by decide +kernel, rfl⟩
theorem own_d19_1 : own_D method_10_code 1 (.iconst 0) 1 2 := ⟨by decide +kernel, rfl⟩
theorem own_d19_2 : own_D method_10_code 2 (.iload_n 1) 1 3 := ⟨by decide +kernel, rfl⟩
theorem own_d19_3 : own_D method_10_code 3 (.iload_n 2) 1 4 := ⟨by decide +kernel, rfl⟩
theorem own_d19_4 : own_D method_10_code 4 (.iload_n 3) 1 5 := ⟨by decide +kernel, rfl⟩
theorem own_d19_5 : own_D method_10_code 5 (.invokestatic 53) 3 8 := ⟨by decide +kernel, rfl⟩
theorem own_d19_8 : own_D method_10_code 8 (.aload_n 0) 1 9 := ⟨by decide +kernel, rfl⟩
theorem own_d19_9 : own_D method_10_code 9 (.iconst 1) 1 10 := ⟨by decide +kernel, rfl⟩
theorem own_d19_10 : own_D method_10_code 10 (.iload_n 1) 1 11 := ⟨by decide +kernel, rfl⟩
theorem own_d19_11 : own_D method_10_code 11 (.iload_n 2) 1 12 := ⟨by decide +kernel, rfl⟩
theorem own_d19_12 : own_D method_10_code 12 (.iload_n 3) 1 13 := ⟨by decide +kernel, rfl⟩
theorem own_d19_13 : own_D method_10_code 13 (.invokestatic 53) 3 16 := ⟨by decide +kernel, rfl⟩
theorem own_d19_16 : own_D method_10_code 16 (.iadd) 1 17 := ⟨by decide +kernel, rfl⟩
theorem own_d19_17 : own_D method_10_code 17 (.aload_n 0) 1 18 := ⟨by decide +kernel, rfl⟩
theorem own_d19_18 : own_D method_10_code 18 (.iconst 2) 1 19 := ⟨by decide +kernel, rfl⟩
theorem own_d19_19 : own_D method_10_code 19 (.iload_n 1) 1 20 := ⟨by decide +kernel, rfl⟩
theorem own_d19_20 : own_D method_10_code 20 (.iload_n 2) 1 21 := ⟨by decide +kernel, rfl⟩
theorem own_d19_21 : own_D method_10_code 21 (.iload_n 3) 1 22 := ⟨by decide +kernel, rfl⟩
theorem own_d19_22 : own_D method_10_code 22 (.invokestatic 53) 3 25 := ⟨by decide +kernel, rfl⟩
theorem own_d19_25 : own_D method_10_code 25 (.iadd) 1 26 := ⟨by decide +kernel, rfl⟩
theorem own_d19_26 : own_D method_10_code 26 (.aload_n 0) 1 27 := ⟨by decide +kernel, rfl⟩
theorem own_d19_27 : own_D method_10_code 27 (.iconst 3) 1 28 := ⟨by decide +kernel, rfl⟩
theorem own_d19_28 : own_D method_10_code 28 (.iload_n 1) 1 29 := ⟨by decide +kernel, rfl⟩
theorem own_d19_29 : own_D method_10_code 29 (.iload_n 2) 1 30 := ⟨by decide +kernel, rfl⟩
theorem own_d19_30 : own_D method_10_code 30 (.iload_n 3) 1 31 := ⟨by decide +kernel, rfl⟩
theorem own_d19_31 : own_D method_10_code 31 (.invokestatic 53) 3 34 := ⟨by decide +kernel, rfl⟩
theorem own_d19_34 : own_D method_10_code 34 (.iadd) 1 35 := ⟨by decide +kernel, rfl⟩
theorem own_d19_35 : own_D method_10_code 35 (.istore 4) 2 37 := ⟨by decide +kernel, rfl⟩
theorem own_d19_37 : own_D method_10_code 37 (.aload_n 0) 1 38 := ⟨by decide +kernel, rfl⟩
theorem own_d19_38 : own_D method_10_code 38 (.iload_n 1) 1 39 := ⟨by decide +kernel, rfl⟩
theorem own_d19_39 : own_D method_10_code 39 (.iload_n 2) 1 40 := ⟨by decide +kernel, rfl⟩
theorem own_d19_40 : own_D method_10_code 40 (.invokestatic 41) 3 43 := ⟨by decide +kernel, rfl⟩
theorem own_d19_43 : own_D method_10_code 43 (.iconst 1) 1 44 := ⟨by decide +kernel, rfl⟩
theorem own_d19_44 : own_B method_10_code 44 (.if_icmp .ne 13) 13 47 57 := ⟨by decide +kernel, rfl, by decide, by decide⟩
theorem own_d19_57 : own_D method_10_code 57 (.iconst 0) 1 58 := ⟨by decide +kernel, rfl⟩
theorem own_d19_58 : own_D method_10_code 58 (.ireturn) 1 59 := ⟨by decide +kernel, rfl⟩
theorem own_d19_47 : own_D method_10_code 47 (.iload 4) 2 49 := ⟨by decide +kernel, rfl⟩
theorem own_d19_49 : own_D method_10_code 49 (.iconst 1) 1 50 := ⟨by decide +kernel, rfl⟩
theorem own_d19_50 : own_B method_10_code 50 (.if_icmp .ne 7) 7 53 57 := ⟨by decide +kernel, rfl, by decide, by decide⟩
theorem own_d19_53 : own_D method_10_code 53 (.iconst 1) 1 54 := ⟨by decide +kernel, rfl⟩
theorem own_d19_54 : own_B method_10_code 54 (.goto 4) 4 57 58 := ⟨by decide +kernel, rfl, by decide, by decide⟩
theorem own_d20_0 : own_D method_3_code 0 (.iload_n 0) 1 1 := ⟨by decide +kernel, rfl⟩
theorem own_d20_1 : own_D method_3_code 1 (.sipush 255) 3 4 := ⟨by decide +kernel, rfl⟩
theorem own_d20_4 : own_D method_3_code 4 (.iand) 1 5 := ⟨by decide +kernel, rfl⟩
theorem own_d20_5 : own_D method_3_code 5 (.i2c) 1 6 := ⟨by decide +kernel, rfl⟩
theorem own_d20_6 : own_D method_3_code 6 (.istore_n 1) 1 7 := ⟨by decide +kernel, rfl⟩
theorem own_d20_7 : own_D method_3_code 7 (.iload_n 1) 1 8 := ⟨by decide +kernel, rfl⟩
theorem own_d20_8 : own_D method_3_code 8 (.bipush 32) 2 10 := ⟨by decide +kernel, rfl⟩
theorem own_d20_10 : own_B method_3_code 10 (.if_icmp .eq 9) 9 13 19 := ⟨by decide +kernel, rfl, by decide, by decide⟩
theorem own_d20_19 : own_D method_3_code 19 (.bipush 42) 2 21 := ⟨by decide +kernel, rfl⟩
theorem own_d20_21 : own_D method_3_code 21 (.ireturn) 1 22 := ⟨by decide +kernel, rfl⟩
theorem own_d20_13 : own_D method_3_code 13 (.iload_n 1) 1 14 := ⟨by decide +kernel, rfl⟩
theorem own_d20_14 : own_D method_3_code 14 (.bipush 59) 2 16 := ⟨by decide +kernel, rfl⟩
theorem own_d20_16 : own_B method_3_code 16 (.if_icmp .ne 6) 6 19 22 := ⟨by decide +kernel, rfl, by decide, by decide⟩
theorem own_d20_22 : own_D method_3_code 22 (.iload_n 1) 1 23 := ⟨by decide +kernel, rfl⟩
theorem own_d20_23 : own_D method_3_code 23 (.ireturn) 1 24 := ⟨by decide +kernel, rfl⟩
theorem own_d21_0 : own_D method_4_code 0 (.iload_n 0) 1 1 := ⟨by decide +kernel, rfl⟩
theorem own_d21_1 : own_B method_4_code 1 (.ifCond .ne 6) 6 4 7 := ⟨by decide +kernel, rfl, by decide, by decide⟩
theorem own_d21_7 : own_D method_4_code 7 (.iload_n 0) 1 8 := ⟨by decide +kernel, rfl⟩
theorem own_d21_8 : own_D method_4_code 8 (.iconst 1) 1 9 := ⟨by decide +kernel, rfl⟩
theorem own_d21_9 : own_B method_4_code 9 (.if_icmp .ne 6) 6 12 15 := ⟨by decide +kernel, rfl, by decide, by decide⟩
theorem own_d21_15 : own_D method_4_code 15 (.iload_n 0) 1 16 := ⟨by decide +kernel, rfl⟩
theorem own_d21_16 : own_D method_4_code 16 (.iconst 2) 1 17 := ⟨by decide +kernel, rfl⟩
theorem own_d21_17 : own_B method_4_code 17 (.if_icmp .ne 5) 5 20 22 := ⟨by decide +kernel, rfl, by decide, by decide⟩
theorem own_d21_22 : own_D method_4_code 22 (.iload_n 0) 1 23 := ⟨by decide +kernel, rfl⟩
theorem own_d21_23 : own_D method_4_code 23 (.iconst 3) 1 24 := ⟨by decide +kernel, rfl⟩
theorem own_d21_24 : own_B method_4_code 24 (.if_icmp .ne 5) 5 27 29 := ⟨by decide +kernel, rfl, by decide, by decide⟩
theorem own_d21_29 : own_D method_4_code 29 (.iload_n 1) 1 30 := ⟨by decide +kernel, rfl⟩
theorem own_d21_30 : own_D method_4_code 30 (.i2c) 1 31 := ⟨by decide +kernel, rfl⟩
theorem own_d21_31 : own_D method_4_code 31 (.ireturn) 1 32 := ⟨by decide +kernel, rfl⟩
theorem own_d21_27 : own_D method_4_code 27 (.iload_n 3) 1 28 := ⟨by decide +kernel, rfl⟩
theorem own_d21_28 : own_D method_4_code 28 (.ireturn) 1 29 := ⟨by decide +kernel, rfl⟩
theorem own_d21_20 : own_D method_4_code 20 (.iload_n 2) 1 21 := ⟨by decide +kernel, rfl⟩
theorem own_d21_21 : own_D method_4_code 21 (.ireturn) 1 22 := ⟨by decide +kernel, rfl⟩
theorem own_d21_12 : own_D method_4_code 12 (.bipush 59) 2 14 := ⟨by decide +kernel, rfl⟩
theorem own_d21_14 : own_D method_4_code 14 (.ireturn) 1 15 := ⟨by decide +kernel, rfl⟩
theorem own_d21_4 : own_D method_4_code 4 (.bipush 32) 2 6 := ⟨by decide +kernel, rfl⟩
theorem own_d21_6 : own_D method_4_code 6 (.ireturn) 1 7 := ⟨by decide +kernel, rfl⟩
theorem own_d22_0 : own_D method_5_code 0 (.iload_n 1) 1 1 := ⟨by decide +kernel, rfl⟩
theorem own_d22_1 : own_B method_5_code 1 (.ifCond .ne 14) 14 4 15 := ⟨by decide +kernel, rfl, by decide, by decide⟩
theorem own_d22_4 : own_D method_5_code 4 (.new 44) 3 7 := ⟨by decide +kernel, rfl⟩
theorem own_d22_7 : own_D method_5_code 7 (.dup) 1 8 := ⟨by decide +kernel, rfl⟩
theorem own_d22_8 : own_D method_5_code 8 (.iconst 0) 1 9 := ⟨by decide +kernel, rfl⟩
theorem own_d22_9 : own_D method_5_code 9 (.newarray .char) 2 11 := ⟨by decide +kernel, rfl⟩
theorem own_d22_11 : own_D method_5_code 11 (.invokespecial 46) 3 14 := ⟨by decide +kernel, rfl⟩
theorem own_d22_14 : own_D method_5_code 14 (.areturn) 1 15 := ⟨by decide +kernel, rfl⟩
theorem own_d22_15 : own_D method_5_code 15 (.iload_n 1) 1 16 := ⟨by decide +kernel, rfl⟩
theorem own_d22_16 : own_D method_5_code 16 (.iconst 1) 1 17 := ⟨by decide +kernel, rfl⟩
theorem own_d22_17 : own_B method_5_code 17 (.if_icmp .ne 20) 20 20 37 := ⟨by decide +kernel, rfl, by decide, by decide⟩
theorem own_d22_20 : own_D method_5_code 20 (.new 44) 3 23 := ⟨by decide +kernel, rfl⟩
theorem own_d22_23 : own_D method_5_code 23 (.dup) 1 24 := ⟨by decide +kernel, rfl⟩
theorem own_d22_24 : own_D method_5_code 24 (.iconst 1) 1 25 := ⟨by decide +kernel, rfl⟩
theorem own_d22_25 : own_D method_5_code 25 (.newarray .char) 2 27 := ⟨by decide +kernel, rfl⟩
theorem own_d22_27 : own_D method_5_code 27 (.dup) 1 28 := ⟨by decide +kernel, rfl⟩
theorem own_d22_28 : own_D method_5_code 28 (.iconst 0) 1 29 := ⟨by decide +kernel, rfl⟩
theorem own_d22_29 : own_D method_5_code 29 (.aload_n 0) 1 30 := ⟨by decide +kernel, rfl⟩
theorem own_d22_30 : own_D method_5_code 30 (.iconst 0) 1 31 := ⟨by decide +kernel, rfl⟩
theorem own_d22_31 : own_D method_5_code 31 (.caload) 1 32 := ⟨by decide +kernel, rfl⟩
theorem own_d22_32 : own_D method_5_code 32 (.castore) 1 33 := ⟨by decide +kernel, rfl⟩
theorem own_d22_33 : own_D method_5_code 33 (.invokespecial 46) 3 36 := ⟨by decide +kernel, rfl⟩
theorem own_d22_36 : own_D method_5_code 36 (.areturn) 1 37 := ⟨by decide +kernel, rfl⟩
theorem own_d22_37 : own_D method_5_code 37 (.iload_n 1) 1 38 := ⟨by decide +kernel, rfl⟩
theorem own_d22_38 : own_D method_5_code 38 (.iconst 2) 1 39 := ⟨by decide +kernel, rfl⟩
theorem own_d22_39 : own_B method_5_code 39 (.if_icmp .ne 26) 26 42 65 := ⟨by decide +kernel, rfl, by decide, by decide⟩
theorem own_d22_42 : own_D method_5_code 42 (.new 44) 3 45 := ⟨by decide +kernel, rfl⟩
theorem own_d22_45 : own_D method_5_code 45 (.dup) 1 46 := ⟨by decide +kernel, rfl⟩
theorem own_d22_46 : own_D method_5_code 46 (.iconst 2) 1 47 := ⟨by decide +kernel, rfl⟩
theorem own_d22_47 : own_D method_5_code 47 (.newarray .char) 2 49 := ⟨by decide +kernel, rfl⟩
theorem own_d22_49 : own_D method_5_code 49 (.dup) 1 50 := ⟨by decide +kernel, rfl⟩
theorem own_d22_50 : own_D method_5_code 50 (.iconst 0) 1 51 := ⟨by decide +kernel, rfl⟩
theorem own_d22_51 : own_D method_5_code 51 (.aload_n 0) 1 52 := ⟨by decide +kernel, rfl⟩
theorem own_d22_52 : own_D method_5_code 52 (.iconst 0) 1 53 := ⟨by decide +kernel, rfl⟩
theorem own_d22_53 : own_D method_5_code 53 (.caload) 1 54 := ⟨by decide +kernel, rfl⟩
theorem own_d22_54 : own_D method_5_code 54 (.castore) 1 55 := ⟨by decide +kernel, rfl⟩
theorem own_d22_55 : own_D method_5_code 55 (.dup) 1 56 := ⟨by decide +kernel, rfl⟩
theorem own_d22_56 : own_D method_5_code 56 (.iconst 1) 1 57 := ⟨by decide +kernel, rfl⟩
theorem own_d22_57 : own_D method_5_code 57 (.aload_n 0) 1 58 := ⟨by decide +kernel, rfl⟩
theorem own_d22_58 : own_D method_5_code 58 (.iconst 1) 1 59 := ⟨by decide +kernel, rfl⟩
theorem own_d22_59 : own_D method_5_code 59 (.caload) 1 60 := ⟨by decide +kernel, rfl⟩
theorem own_d22_60 : own_D method_5_code 60 (.castore) 1 61 := ⟨by decide +kernel, rfl⟩
theorem own_d22_61 : own_D method_5_code 61 (.invokespecial 46) 3 64 := ⟨by decide +kernel, rfl⟩
theorem own_d22_64 : own_D method_5_code 64 (.areturn) 1 65 := ⟨by decide +kernel, rfl⟩
theorem own_d22_65 : own_D method_5_code 65 (.iload_n 1) 1 66 := ⟨by decide +kernel, rfl⟩
theorem own_d22_66 : own_D method_5_code 66 (.iconst 3) 1 67 := ⟨by decide +kernel, rfl⟩
theorem own_d22_67 : own_B method_5_code 67 (.if_icmp .ne 32) 32 70 99 := ⟨by decide +kernel, rfl, by decide, by decide⟩
theorem own_d22_70 : own_D method_5_code 70 (.new 44) 3 73 := ⟨by decide +kernel, rfl⟩
theorem own_d22_73 : own_D method_5_code 73 (.dup) 1 74 := ⟨by decide +kernel, rfl⟩
theorem own_d22_74 : own_D method_5_code 74 (.iconst 3) 1 75 := ⟨by decide +kernel, rfl⟩
theorem own_d22_75 : own_D method_5_code 75 (.newarray .char) 2 77 := ⟨by decide +kernel, rfl⟩
theorem own_d22_77 : own_D method_5_code 77 (.dup) 1 78 := ⟨by decide +kernel, rfl⟩
theorem own_d22_78 : own_D method_5_code 78 (.iconst 0) 1 79 := ⟨by decide +kernel, rfl⟩
theorem own_d22_79 : own_D method_5_code 79 (.aload_n 0) 1 80 := ⟨by decide +kernel, rfl⟩
theorem own_d22_80 : own_D method_5_code 80 (.iconst 0) 1 81 := ⟨by decide +kernel, rfl⟩
theorem own_d22_81 : own_D method_5_code 81 (.caload) 1 82 := ⟨by decide +kernel, rfl⟩
theorem own_d22_82 : own_D method_5_code 82 (.castore) 1 83 := ⟨by decide +kernel, rfl⟩
theorem own_d22_83 : own_D method_5_code 83 (.dup) 1 84 := ⟨by decide +kernel, rfl⟩
theorem own_d22_84 : own_D method_5_code 84 (.iconst 1) 1 85 := ⟨by decide +kernel, rfl⟩
theorem own_d22_85 : own_D method_5_code 85 (.aload_n 0) 1 86 := ⟨by decide +kernel, rfl⟩
theorem own_d22_86 : own_D method_5_code 86 (.iconst 1) 1 87 := ⟨by decide +kernel, rfl⟩
theorem own_d22_87 : own_D method_5_code 87 (.caload) 1 88 := ⟨by decide +kernel, rfl⟩
theorem own_d22_88 : own_D method_5_code 88 (.castore) 1 89 := ⟨by decide +kernel, rfl⟩
theorem own_d22_89 : own_D method_5_code 89 (.dup) 1 90 := ⟨by decide +kernel, rfl⟩
theorem own_d22_90 : own_D method_5_code 90 (.iconst 2) 1 91 := ⟨by decide +kernel, rfl⟩
theorem own_d22_91 : own_D method_5_code 91 (.aload_n 0) 1 92 := ⟨by decide +kernel, rfl⟩
theorem own_d22_92 : own_D method_5_code 92 (.iconst 2) 1 93 := ⟨by decide +kernel, rfl⟩
theorem own_d22_93 : own_D method_5_code 93 (.caload) 1 94 := ⟨by decide +kernel, rfl⟩
theorem own_d22_94 : own_D method_5_code 94 (.castore) 1 95 := ⟨by decide +kernel, rfl⟩
theorem own_d22_95 : own_D method_5_code 95 (.invokespecial 46) 3 98 := ⟨by decide +kernel, rfl⟩
theorem own_d22_98 : own_D method_5_code 98 (.areturn) 1 99 := ⟨by decide +kernel, rfl⟩
theorem own_d22_99 : own_D method_5_code 99 (.new 44) 3 102 := ⟨by decide +kernel, rfl⟩
theorem own_d22_102 : own_D method_5_code 102 (.dup) 1 103 := ⟨by decide +kernel, rfl⟩
theorem own_d22_103 : own_D method_5_code 103 (.iconst 4) 1 104 := ⟨by decide +kernel, rfl⟩
theorem own_d22_104 : own_D method_5_code 104 (.newarray .char) 2 106 := ⟨by decide +kernel, rfl⟩
theorem own_d22_106 : own_D method_5_code 106 (.dup) 1 107 := ⟨by decide +kernel, rfl⟩
theorem own_d22_107 : own_D method_5_code 107 (.iconst 0) 1 108 := ⟨by decide +kernel, rfl⟩
theorem own_d22_108 : own_D method_5_code 108 (.aload_n 0) 1 109 := ⟨by decide +kernel, rfl⟩
theorem own_d22_109 : own_D method_5_code 109 (.iconst 0) 1 110 := ⟨by decide +kernel, rfl⟩
theorem own_d22_110 : own_D method_5_code 110 (.caload) 1 111 := ⟨by decide +kernel, rfl⟩
theorem own_d22_111 : own_D method_5_code 111 (.castore) 1 112 := ⟨by decide +kernel, rfl⟩
theorem own_d22_112 : own_D method_5_code 112 (.dup) 1 113 := ⟨by decide +kernel, rfl⟩
theorem own_d22_113 : own_D method_5_code 113 (.iconst 1) 1 114 := ⟨by decide +kernel, rfl⟩
theorem own_d22_114 : own_D method_5_code 114 (.aload_n 0) 1 115 := ⟨by decide +kernel, rfl⟩
theorem own_d22_115 : own_D method_5_code 115 (.iconst 1) 1 116 := ⟨by decide +kernel, rfl⟩
theorem own_d22_116 : own_D method_5_code 116 (.caload) 1 117 := ⟨by decide +kernel, rfl⟩
theorem own_d22_117 : own_D method_5_code 117 (.castore) 1 118 := ⟨by decide +kernel, rfl⟩
theorem own_d22_118 : own_D method_5_code 118 (.dup) 1 119 := ⟨by decide +kernel, rfl⟩
theorem own_d22_119 : own_D method_5_code 119 (.iconst 2) 1 120 := ⟨by decide +kernel, rfl⟩
theorem own_d22_120 : own_D method_5_code 120 (.aload_n 0) 1 121 := ⟨by decide +kernel, rfl⟩
theorem own_d22_121 : own_D method_5_code 121 (.iconst 2) 1 122 := ⟨by decide +kernel, rfl⟩
theorem own_d22_122 : own_D method_5_code 122 (.caload) 1 123 := ⟨by decide +kernel, rfl⟩
theorem own_d22_123 : own_D method_5_code 123 (.castore) 1 124 := ⟨by decide +kernel, rfl⟩
theorem own_d22_124 : own_D method_5_code 124 (.dup) 1 125 := ⟨by decide +kernel, rfl⟩
theorem own_d22_125 : own_D method_5_code 125 (.iconst 3) 1 126 := ⟨by decide +kernel, rfl⟩
theorem own_d22_126 : own_D method_5_code 126 (.aload_n 0) 1 127 := ⟨by decide +kernel, rfl⟩
theorem own_d22_127 : own_D method_5_code 127 (.iconst 3) 1 128 := ⟨by decide +kernel, rfl⟩
theorem own_d22_128 : own_D method_5_code 128 (.caload) 1 129 := ⟨by decide +kernel, rfl⟩
theorem own_d22_129 : own_D method_5_code 129 (.castore) 1 130 := ⟨by decide +kernel, rfl⟩
theorem own_d22_130 : own_D method_5_code 130 (.invokespecial 46) 3 133 := ⟨by decide +kernel, rfl⟩
theorem own_d22_133 : own_D method_5_code 133 (.areturn) 1 134 := ⟨by decide +kernel, rfl⟩
theorem own_d23_0 : own_D prog_15_method_1_code 0 (.aload_n 0) 1 1 := ⟨by decide +kernel, rfl⟩
theorem own_d23_1 : own_D prog_15_method_1_code 1 (.invokespecial 1) 3 4 := ⟨by decide +kernel, rfl⟩
theorem own_d23_4 : own_D prog_15_method_1_code 4 (.aload_n 0) 1 5 := ⟨by decide +kernel, rfl⟩
theorem own_d23_5 : own_D prog_15_method_1_code 5 (.aload_n 1) 1 6 := ⟨by decide +kernel, rfl⟩
theorem own_d23_6 : own_D prog_15_method_1_code 6 (.putfield 7) 3 9 := ⟨by decide +kernel, rfl⟩
theorem own_d23_9 : own_D prog_15_method_1_code 9 (.aload_n 0) 1 10 := ⟨by decide +kernel, rfl⟩
theorem own_d23_10 : own_D prog_15_method_1_code 10 (.iload_n 2) 1 11 := ⟨by decide +kernel, rfl⟩
theorem own_d23_11 : own_D prog_15_method_1_code 11 (.putfield 13) 3 14 := ⟨by decide +kernel, rfl⟩
theorem own_d23_14 : own_D prog_15_method_1_code 14 (.return_) 1 15 := ⟨by decide +kernel, rfl⟩
theorem own_d24_0 : own_D code 0 (.iload_n 2) 1 1 := ⟨by decide +kernel, rfl⟩
theorem own_d24_1 : own_D code 1 (.invokestatic 7) 3 4 := ⟨by decide +kernel, rfl⟩
theorem own_d24_4 : own_D code 4 (.istore 4) 2 6 := ⟨by decide +kernel, rfl⟩
theorem own_d24_6 : own_D code 6 (.iload_n 3) 1 7 := ⟨by decide +kernel, rfl⟩
theorem own_d24_7 : own_D code 7 (.invokestatic 7) 3 10 := ⟨by decide +kernel, rfl⟩
theorem own_d24_10 : own_D code 10 (.istore 5) 2 12 := ⟨by decide +kernel, rfl⟩
theorem own_d24_12 : own_D code 12 (.iload_n 0) 1 13 := ⟨by decide +kernel, rfl⟩
theorem own_d24_13 : own_D code 13 (.bipush 12) 2 15 := ⟨by decide +kernel, rfl⟩
theorem own_d24_15 : own_D code 15 (.iushr) 1 16 := ⟨by decide +kernel, rfl⟩
theorem own_d24_16 : own_D code 16 (.bipush 7) 2 18 := ⟨by decide +kernel, rfl⟩
theorem own_d24_18 : own_D code 18 (.iand) 1 19 := ⟨by decide +kernel, rfl⟩
theorem own_d24_19 : own_D code 19 (.iconst 5) 1 20 := ⟨by decide +kernel, rfl⟩
theorem own_d24_20 : own_D code 20 (.irem) 1 21 := ⟨by decide +kernel, rfl⟩
theorem own_d24_21 : own_D code 21 (.istore 6) 2 23 := ⟨by decide +kernel, rfl⟩
theorem own_d24_23 : own_D code 23 (.iconst 4) 1 24 := ⟨by decide +kernel, rfl⟩
theorem own_d24_24 : own_D code 24 (.newarray .char) 2 26 := ⟨by decide +kernel, rfl⟩
theorem own_d24_26 : own_D code 26 (.astore 7) 2 28 := ⟨by decide +kernel, rfl⟩
theorem own_d24_28 : own_D code 28 (.aload 7) 2 30 := ⟨by decide +kernel, rfl⟩
theorem own_d24_30 : own_D code 30 (.iconst 0) 1 31 := ⟨by decide +kernel, rfl⟩
theorem own_d24_31 : own_D code 31 (.iload_n 0) 1 32 := ⟨by decide +kernel, rfl⟩
theorem own_d24_32 : own_D code 32 (.bipush 7) 2 34 := ⟨by decide +kernel, rfl⟩
theorem own_d24_34 : own_D code 34 (.iand) 1 35 := ⟨by decide +kernel, rfl⟩
theorem own_d24_35 : own_D code 35 (.iload_n 1) 1 36 := ⟨by decide +kernel, rfl⟩
theorem own_d24_36 : own_D code 36 (.sipush 255) 3 39 := ⟨by decide +kernel, rfl⟩
theorem own_d24_39 : own_D code 39 (.iand) 1 40 := ⟨by decide +kernel, rfl⟩
theorem own_d24_40 : own_D code 40 (.iload 4) 2 42 := ⟨by decide +kernel, rfl⟩
theorem own_d24_42 : own_D code 42 (.iload 5) 2 44 := ⟨by decide +kernel, rfl⟩
theorem own_d24_44 : own_D code 44 (.invokestatic 13) 3 47 := ⟨by decide +kernel, rfl⟩
theorem own_d24_47 : own_D code 47 (.castore) 1 48 := ⟨by decide +kernel, rfl⟩
theorem own_d24_48 : own_D code 48 (.aload 7) 2 50 := ⟨by decide +kernel, rfl⟩
theorem own_d24_50 : own_D code 50 (.iconst 1) 1 51 := ⟨by decide +kernel, rfl⟩
theorem own_d24_51 : own_D code 51 (.iload_n 0) 1 52 := ⟨by decide +kernel, rfl⟩
theorem own_d24_52 : own_D code 52 (.iconst 3) 1 53 := ⟨by decide +kernel, rfl⟩
theorem own_d24_53 : own_D code 53 (.iushr) 1 54 := ⟨by decide +kernel, rfl⟩
theorem own_d24_54 : own_D code 54 (.bipush 7) 2 56 := ⟨by decide +kernel, rfl⟩
theorem own_d24_56 : own_D code 56 (.iand) 1 57 := ⟨by decide +kernel, rfl⟩
theorem own_d24_57 : own_D code 57 (.iload_n 1) 1 58 := ⟨by decide +kernel, rfl⟩
theorem own_d24_58 : own_D code 58 (.bipush 8) 2 60 := ⟨by decide +kernel, rfl⟩
theorem own_d24_60 : own_D code 60 (.iushr) 1 61 := ⟨by decide +kernel, rfl⟩
theorem own_d24_61 : own_D code 61 (.sipush 255) 3 64 := ⟨by decide +kernel, rfl⟩
theorem own_d24_64 : own_D code 64 (.iand) 1 65 := ⟨by decide +kernel, rfl⟩
theorem own_d24_65 : own_D code 65 (.iload 4) 2 67 := ⟨by decide +kernel, rfl⟩
theorem own_d24_67 : own_D code 67 (.iload 5) 2 69 := ⟨by decide +kernel, rfl⟩
theorem own_d24_69 : own_D code 69 (.invokestatic 13) 3 72 := ⟨by decide +kernel, rfl⟩
theorem own_d24_72 : own_D code 72 (.castore) 1 73 := ⟨by decide +kernel, rfl⟩
theorem own_d24_73 : own_D code 73 (.aload 7) 2 75 := ⟨by decide +kernel, rfl⟩
theorem own_d24_75 : own_D code 75 (.iconst 2) 1 76 := ⟨by decide +kernel, rfl⟩
theorem own_d24_76 : own_D code 76 (.iload_n 0) 1 77 := ⟨by decide +kernel, rfl⟩
theorem own_d24_77 : own_D code 77 (.bipush 6) 2 79 := ⟨by decide +kernel, rfl⟩
theorem own_d24_79 : own_D code 79 (.iushr) 1 80 := ⟨by decide +kernel, rfl⟩
theorem own_d24_80 : own_D code 80 (.bipush 7) 2 82 := ⟨by decide +kernel, rfl⟩
theorem own_d24_82 : own_D code 82 (.iand) 1 83 := ⟨by decide +kernel, rfl⟩
theorem own_d24_83 : own_D code 83 (.iload_n 1) 1 84 := ⟨by decide +kernel, rfl⟩
theorem own_d24_84 : own_D code 84 (.bipush 16) 2 86 := ⟨by decide +kernel, rfl⟩
theorem own_d24_86 : own_D code 86 (.iushr) 1 87 := ⟨by decide +kernel, rfl⟩
theorem own_d24_87 : own_D code 87 (.sipush 255) 3 90 := ⟨by decide +kernel, rfl⟩
theorem own_d24_90 : own_D code 90 (.iand) 1 91 := ⟨by decide +kernel, rfl⟩
theorem own_d24_91 : own_D code 91 (.iload 4) 2 93 := ⟨by decide +kernel, rfl⟩
theorem own_d24_93 : own_D code 93 (.iload 5) 2 95 := ⟨by decide +kernel, rfl⟩
theorem own_d24_95 : own_D code 95 (.invokestatic 13) 3 98 := ⟨by decide +kernel, rfl⟩
theorem own_d24_98 : own_D code 98 (.castore) 1 99 := ⟨by decide +kernel, rfl⟩
theorem own_d24_99 : own_D code 99 (.aload 7) 2 101 := ⟨by decide +kernel, rfl⟩
theorem own_d24_101 : own_D code 101 (.iconst 3) 1 102 := ⟨by decide +kernel, rfl⟩
theorem own_d24_102 : own_D code 102 (.iload_n 0) 1 103 := ⟨by decide +kernel, rfl⟩
theorem own_d24_103 : own_D code 103 (.bipush 9) 2 105 := ⟨by decide +kernel, rfl⟩
theorem own_d24_105 : own_D code 105 (.iushr) 1 106 := ⟨by decide +kernel, rfl⟩
theorem own_d24_106 : own_D code 106 (.bipush 7) 2 108 := ⟨by decide +kernel, rfl⟩
theorem own_d24_108 : own_D code 108 (.iand) 1 109 := ⟨by decide +kernel, rfl⟩
theorem own_d24_109 : own_D code 109 (.iload_n 1) 1 110 := ⟨by decide +kernel, rfl⟩
theorem own_d24_110 : own_D code 110 (.bipush 24) 2 112 := ⟨by decide +kernel, rfl⟩
theorem own_d24_112 : own_D code 112 (.iushr) 1 113 := ⟨by decide +kernel, rfl⟩
theorem own_d24_113 : own_D code 113 (.sipush 255) 3 116 := ⟨by decide +kernel, rfl⟩
theorem own_d24_116 : own_D code 116 (.iand) 1 117 := ⟨by decide +kernel, rfl⟩
theorem own_d24_117 : own_D code 117 (.iload 4) 2 119 := ⟨by decide +kernel, rfl⟩
theorem own_d24_119 : own_D code 119 (.iload 5) 2 121 := ⟨by decide +kernel, rfl⟩
theorem own_d24_121 : own_D code 121 (.invokestatic 13) 3 124 := ⟨by decide +kernel, rfl⟩
theorem own_d24_124 : own_D code 124 (.castore) 1 125 := ⟨by decide +kernel, rfl⟩
theorem own_d24_125 : own_D code 125 (.aload 7) 2 127 := ⟨by decide +kernel, rfl⟩
theorem own_d24_127 : own_D code 127 (.iload 6) 2 129 := ⟨by decide +kernel, rfl⟩
theorem own_d24_129 : own_D code 129 (.invokestatic 17) 3 132 := ⟨by decide +kernel, rfl⟩
theorem own_d24_132 : own_D code 132 (.astore 8) 2 134 := ⟨by decide +kernel, rfl⟩
theorem own_d24_134 : own_D code 134 (.new 21) 3 137 := ⟨by decide +kernel, rfl⟩
theorem own_d24_137 : own_D code 137 (.dup) 1 138 := ⟨by decide +kernel, rfl⟩
theorem own_d24_138 : own_D code 138 (.aload 8) 2 140 := ⟨by decide +kernel, rfl⟩
theorem own_d24_154 : own_D code 154 (.invokespecial 23) 3 157 := ⟨by decide +kernel, rfl⟩
theorem own_d24_157 : own_D code 157 (.astore 9) 2 159 := ⟨by decide +kernel, rfl⟩
theorem own_d24_159 : own_D code 159 (.aload 9) 2 161 := ⟨by decide +kernel, rfl⟩
theorem own_d24_161 : own_D code 161 (.iload 4) 2 163 := ⟨by decide +kernel, rfl⟩
theorem own_d24_163 : own_D code 163 (.invokevirtual 26) 3 166 := ⟨by decide +kernel, rfl⟩
theorem own_d24_166 : own_D code 166 (.istore 10) 2 168 := ⟨by decide +kernel, rfl⟩
theorem own_d24_168 : own_D code 168 (.aload 9) 2 170 := ⟨by decide +kernel, rfl⟩
theorem own_d24_170 : own_D code 170 (.bipush 59) 2 172 := ⟨by decide +kernel, rfl⟩
theorem own_d24_172 : own_D code 172 (.invokevirtual 30) 3 175 := ⟨by decide +kernel, rfl⟩
theorem own_d24_175 : own_D code 175 (.istore 11) 2 177 := ⟨by decide +kernel, rfl⟩
theorem own_d24_177 : own_D code 177 (.aload 9) 2 179 := ⟨by decide +kernel, rfl⟩
theorem own_d24_179 : own_D code 179 (.iload 5) 2 181 := ⟨by decide +kernel, rfl⟩
theorem own_d24_181 : own_D code 181 (.invokevirtual 26) 3 184 := ⟨by decide +kernel, rfl⟩
theorem own_d24_184 : own_D code 184 (.istore 12) 2 186 := ⟨by decide +kernel, rfl⟩
theorem own_d24_186 : own_D code 186 (.aload 9) 2 188 := ⟨by decide +kernel, rfl⟩
theorem own_d24_188 : own_D code 188 (.bipush 59) 2 190 := ⟨by decide +kernel, rfl⟩
theorem own_d24_190 : own_D code 190 (.invokevirtual 30) 3 193 := ⟨by decide +kernel, rfl⟩
theorem own_d24_193 : own_D code 193 (.istore 13) 2 195 := ⟨by decide +kernel, rfl⟩
theorem own_d24_195 : own_D code 195 (.iconst 0) 1 196 := ⟨by decide +kernel, rfl⟩
theorem own_d24_196 : own_D code 196 (.istore 14) 2 198 := ⟨by decide +kernel, rfl⟩
theorem own_d24_198 : own_D code 198 (.aload 7) 2 200 := ⟨by decide +kernel, rfl⟩
theorem own_d24_200 : own_D code 200 (.iload 6) 2 202 := ⟨by decide +kernel, rfl⟩
theorem own_d24_202 : own_D code 202 (.iload 14) 2 204 := ⟨by decide +kernel, rfl⟩
theorem own_d24_204 : own_D code 204 (.invokestatic 33) 3 207 := ⟨by decide +kernel, rfl⟩
theorem own_d24_207 : own_D code 207 (.istore 15) 2 209 := ⟨by decide +kernel, rfl⟩
theorem own_d24_209 : own_D code 209 (.aload 7) 2 211 := ⟨by decide +kernel, rfl⟩
theorem own_d24_211 : own_D code 211 (.iload 14) 2 213 := ⟨by decide +kernel, rfl⟩
theorem own_d24_213 : own_D code 213 (.iload 15) 2 215 := ⟨by decide +kernel, rfl⟩
theorem own_d24_215 : own_D code 215 (.iload 4) 2 217 := ⟨by decide +kernel, rfl⟩
theorem own_d24_217 : own_D code 217 (.invokestatic 37) 3 220 := ⟨by decide +kernel, rfl⟩
theorem own_d24_220 : own_D code 220 (.istore 16) 2 222 := ⟨by decide +kernel, rfl⟩
theorem own_d24_231 : own_D code 231 (.aload 7) 2 233 := ⟨by decide +kernel, rfl⟩
theorem own_d24_233 : own_D code 233 (.iload 6) 2 235 := ⟨by decide +kernel, rfl⟩
theorem own_d24_235 : own_D code 235 (.iload 14) 2 237 := ⟨by decide +kernel, rfl⟩
theorem own_d24_237 : own_D code 237 (.invokestatic 33) 3 240 := ⟨by decide +kernel, rfl⟩
theorem own_d24_240 : own_D code 240 (.istore 15) 2 242 := ⟨by decide +kernel, rfl⟩
theorem own_d24_242 : own_D code 242 (.aload 7) 2 244 := ⟨by decide +kernel, rfl⟩
theorem own_d24_244 : own_D code 244 (.iload 14) 2 246 := ⟨by decide +kernel, rfl⟩
theorem own_d24_246 : own_D code 246 (.iload 15) 2 248 := ⟨by decide +kernel, rfl⟩
theorem own_d24_248 : own_D code 248 (.invokestatic 41) 3 251 := ⟨by decide +kernel, rfl⟩
theorem own_d24_279 : own_D code 279 (.aload 7) 2 281 := ⟨by decide +kernel, rfl⟩
theorem own_d24_281 : own_D code 281 (.iload 6) 2 283 := ⟨by decide +kernel, rfl⟩
theorem own_d24_283 : own_D code 283 (.iload 14) 2 285 := ⟨by decide +kernel, rfl⟩
theorem own_d24_285 : own_D code 285 (.invokestatic 33) 3 288 := ⟨by decide +kernel, rfl⟩
theorem own_d24_288 : own_D code 288 (.istore 15) 2 290 := ⟨by decide +kernel, rfl⟩
theorem own_d24_290 : own_D code 290 (.aload 7) 2 292 := ⟨by decide +kernel, rfl⟩
theorem own_d24_292 : own_D code 292 (.iload 14) 2 294 := ⟨by decide +kernel, rfl⟩
theorem own_d24_294 : own_D code 294 (.iload 15) 2 296 := ⟨by decide +kernel, rfl⟩
theorem own_d24_296 : own_D code 296 (.iload 5) 2 298 := ⟨by decide +kernel, rfl⟩
theorem own_d24_298 : own_D code 298 (.invokestatic 37) 3 301 := ⟨by decide +kernel, rfl⟩
theorem own_d24_301 : own_D code 301 (.istore 18) 2 303 := ⟨by decide +kernel, rfl⟩
theorem own_d24_312 : own_D code 312 (.aload 7) 2 314 := ⟨by decide +kernel, rfl⟩
theorem own_d24_314 : own_D code 314 (.iload 6) 2 316 := ⟨by decide +kernel, rfl⟩
theorem own_d24_316 : own_D code 316 (.iload 14) 2 318 := ⟨by decide +kernel, rfl⟩
theorem own_d24_318 : own_D code 318 (.invokestatic 33) 3 321 := ⟨by decide +kernel, rfl⟩
theorem own_d24_321 : own_D code 321 (.istore 15) 2 323 := ⟨by decide +kernel, rfl⟩
theorem own_d24_323 : own_D code 323 (.aload 7) 2 325 := ⟨by decide +kernel, rfl⟩
theorem own_d24_325 : own_D code 325 (.iload 14) 2 327 := ⟨by decide +kernel, rfl⟩
theorem own_d24_327 : own_D code 327 (.iload 15) 2 329 := ⟨by decide +kernel, rfl⟩
theorem own_d24_329 : own_D code 329 (.invokestatic 41) 3 332 := ⟨by decide +kernel, rfl⟩
theorem own_d24_349 : own_D code 349 (.iload 10) 2 351 := ⟨by decide +kernel, rfl⟩
theorem own_d24_351 : own_D code 351 (.iload 16) 2 353 := ⟨by decide +kernel, rfl⟩
theorem own_d24_353 : own_B code 353 (.if_icmp .ne 28) 28 356 381 := ⟨by decide +kernel, rfl, by decide, by decide⟩
theorem own_d24_356 : own_D code 356 (.iload 11) 2 358 := ⟨by decide +kernel, rfl⟩
theorem own_d24_358 : own_D code 358 (.iload 17) 2 360 := ⟨by decide +kernel, rfl⟩
theorem own_d24_360 : own_B code 360 (.if_icmp .ne 21) 21 363 381 := ⟨by decide +kernel, rfl, by decide, by decide⟩
theorem own_d24_363 : own_D code 363 (.iload 12) 2 365 := ⟨by decide +kernel, rfl⟩
theorem own_d24_365 : own_D code 365 (.iload 18) 2 367 := ⟨by decide +kernel, rfl⟩
theorem own_d24_367 : own_B code 367 (.if_icmp .ne 14) 14 370 381 := ⟨by decide +kernel, rfl, by decide, by decide⟩
theorem own_d24_370 : own_D code 370 (.iload 13) 2 372 := ⟨by decide +kernel, rfl⟩
theorem own_d24_372 : own_D code 372 (.iload 19) 2 374 := ⟨by decide +kernel, rfl⟩
theorem own_d24_374 : own_B code 374 (.if_icmp .ne 7) 7 377 381 := ⟨by decide +kernel, rfl, by decide, by decide⟩
theorem own_d24_377 : own_D code 377 (.iconst 1) 1 378 := ⟨by decide +kernel, rfl⟩
theorem own_d24_378 : own_B code 378 (.goto 4) 4 381 382 := ⟨by decide +kernel, rfl, by decide, by decide⟩
theorem own_d24_382 : own_D code 382 (.ireturn) 1 383 := ⟨by decide +kernel, rfl⟩
theorem own_d24_332 : own_B code 332 (.ifCond .ne 14) 14 335 346 := ⟨by decide +kernel, rfl, by decide, by decide⟩
theorem own_d24_346 : own_D code 346 (.iconst 0) 1 347 := ⟨by decide +kernel, rfl⟩
theorem own_d24_347 : own_D code 347 (.istore 19) 2 349 := ⟨by decide +kernel, rfl⟩
theorem own_d24_335 : own_D code 335 (.iload 15) 2 337 := ⟨by decide +kernel, rfl⟩
theorem own_d24_337 : own_D code 337 (.iload 6) 2 339 := ⟨by decide +kernel, rfl⟩
theorem own_d24_339 : own_B code 339 (.if_icmp .ge 7) 7 342 346 := ⟨by decide +kernel, rfl, by decide, by decide⟩
theorem own_d24_342 : own_D code 342 (.iconst 1) 1 343 := ⟨by decide +kernel, rfl⟩
theorem own_d24_343 : own_B code 343 (.goto 4) 4 346 347 := ⟨by decide +kernel, rfl, by decide, by decide⟩
theorem own_d24_303 : own_D code 303 (.iload 18) 2 305 := ⟨by decide +kernel, rfl⟩
theorem own_d24_305 : own_B code 305 (.ifCond .eq 7) 7 308 312 := ⟨by decide +kernel, rfl, by decide, by decide⟩
theorem own_d24_308 : own_D code 308 (.iload 15) 2 310 := ⟨by decide +kernel, rfl⟩
theorem own_d24_310 : own_D code 310 (.istore 14) 2 312 := ⟨by decide +kernel, rfl⟩
theorem own_d24_268 : own_D code 268 (.iload 17) 2 270 := ⟨by decide +kernel, rfl⟩
theorem own_d24_270 : own_B code 270 (.ifCond .eq 9) 9 273 279 := ⟨by decide +kernel, rfl, by decide, by decide⟩
theorem own_d24_273 : own_D code 273 (.iload 15) 2 275 := ⟨by decide +kernel, rfl⟩
theorem own_d24_275 : own_D code 275 (.iconst 1) 1 276 := ⟨by decide +kernel, rfl⟩
theorem own_d24_276 : own_D code 276 (.iadd) 1 277 := ⟨by decide +kernel, rfl⟩
theorem own_d24_277 : own_D code 277 (.istore 14) 2 279 := ⟨by decide +kernel, rfl⟩
theorem own_d24_251 : own_B code 251 (.ifCond .ne 14) 14 254 265 := ⟨by decide +kernel, rfl, by decide, by decide⟩
theorem own_d24_265 : own_D code 265 (.iconst 0) 1 266 := ⟨by decide +kernel, rfl⟩
theorem own_d24_266 : own_D code 266 (.istore 17) 2 268 := ⟨by decide +kernel, rfl⟩
theorem own_d24_254 : own_D code 254 (.iload 15) 2 256 := ⟨by decide +kernel, rfl⟩
theorem own_d24_256 : own_D code 256 (.iload 6) 2 258 := ⟨by decide +kernel, rfl⟩
theorem own_d24_258 : own_B code 258 (.if_icmp .ge 7) 7 261 265 := ⟨by decide +kernel, rfl, by decide, by decide⟩
theorem own_d24_261 : own_D code 261 (.iconst 1) 1 262 := ⟨by decide +kernel, rfl⟩
theorem own_d24_262 : own_B code 262 (.goto 4) 4 265 266 := ⟨by decide +kernel, rfl, by decide, by decide⟩
theorem own_d24_222 : own_D code 222 (.iload 16) 2 224 := ⟨by decide +kernel, rfl⟩
theorem own_d24_224 : own_B code 224 (.ifCond .eq 7) 7 227 231 := ⟨by decide +kernel, rfl, by decide, by decide⟩
theorem own_d24_227 : own_D code 227 (.iload 15) 2 229 := ⟨by decide +kernel, rfl⟩
theorem own_d24_229 : own_D code 229 (.istore 14) 2 231 := ⟨by decide +kernel, rfl⟩
theorem own_d24_140 : own_D code 140 (.iload_n 0) 1 141 := ⟨by decide +kernel, rfl⟩
theorem own_d24_141 : own_D code 141 (.bipush 15) 2 143 := ⟨by decide +kernel, rfl⟩
theorem own_d24_143 : own_D code 143 (.iushr) 1 144 := ⟨by decide +kernel, rfl⟩
theorem own_d24_144 : own_D code 144 (.iconst 1) 1 145 := ⟨by decide +kernel, rfl⟩
theorem own_d24_145 : own_D code 145 (.iand) 1 146 := ⟨by decide +kernel, rfl⟩
theorem own_d24_146 : own_B code 146 (.ifCond .eq 7) 7 149 153 := ⟨by decide +kernel, rfl, by decide, by decide⟩
theorem own_d24_153 : own_D code 153 (.iconst 0) 1 154 := ⟨by decide +kernel, rfl⟩
theorem own_d24_149 : own_D code 149 (.iconst 1) 1 150 := ⟨by decide +kernel, rfl⟩
theorem own_d24_150 : own_B code 150 (.goto 4) 4 153 154 := ⟨by decide +kernel, rfl, by decide, by decide⟩
theorem own_pd0 : parseMethodDescriptor "([CIILjava/lang/Void;)V" = some ⟨[(.array .char), .int, .int, (.object "java/lang/Void")], none⟩ := by decide +kernel
theorem own_pd1 : parseMethodDescriptor "([CI[BII)I" = some ⟨[(.array .char), .int, (.array .byte), .int, .int], some .int⟩ := by decide +kernel
theorem own_pd2 : parseMethodDescriptor "([CII)[B" = some ⟨[(.array .char), .int, .int], some (.array .byte)⟩ := by decide +kernel
theorem own_pd3 : parseMethodDescriptor "([BI)B" = some ⟨[(.array .byte), .int], some .byte⟩ := by decide +kernel
theorem own_pd4 : parseMethodDescriptor "(IILjava/util/function/BiFunction;)I" = some ⟨[.int, .int, (.object "java/util/function/BiFunction")], some .int⟩ := by decide +kernel
theorem own_pd5 : parseMethodDescriptor "(II)V" = some ⟨[.int, .int], none⟩ := by decide +kernel
theorem own_pd6 : parseMethodDescriptor "()Z" = some ⟨[], some .boolean⟩ := by decide +kernel
theorem own_pd7 : parseMethodDescriptor "([BI)C" = some ⟨[(.array .byte), .int], some .char⟩ := by decide +kernel
theorem own_pd8 : parseMethodDescriptor "()B" = some ⟨[], some .byte⟩ := by decide +kernel
theorem own_pd9 : parseMethodDescriptor "()I" = some ⟨[], some .int⟩ := by decide +kernel
theorem own_pd10 : parseMethodDescriptor "(I)C" = some ⟨[.int], some .char⟩ := by decide +kernel
theorem own_pd11 : parseMethodDescriptor "(I)I" = some ⟨[.int], some .int⟩ := by decide +kernel
theorem own_pd12 : parseMethodDescriptor "([CIII)I" = some ⟨[(.array .char), .int, .int, .int], some .int⟩ := by decide +kernel
theorem own_pd13 : parseMethodDescriptor "([CIIIC)I" = some ⟨[(.array .char), .int, .int, .int, .char], some .int⟩ := by decide +kernel
theorem own_pd14 : parseMethodDescriptor "([CII)I" = some ⟨[(.array .char), .int, .int], some .int⟩ := by decide +kernel
theorem own_pd15 : parseMethodDescriptor "([C)V" = some ⟨[(.array .char)], none⟩ := by decide +kernel
theorem own_pd16 : parseMethodDescriptor "(IICC)C" = some ⟨[.int, .int, .char, .char], some .char⟩ := by decide +kernel
theorem own_pd17 : parseMethodDescriptor "([CI)Ljava/lang/String;" = some ⟨[(.array .char), .int], some (.object "java/lang/String")⟩ := by decide +kernel
theorem own_pd18 : parseMethodDescriptor "(Ljava/lang/String;Z)V" = some ⟨[(.object "java/lang/String"), .boolean], none⟩ := by decide +kernel
theorem own_pd19 : parseMethodDescriptor "(C)Z" = some ⟨[.char], some .boolean⟩ := by decide +kernel
theorem own_pd20 : parseMethodDescriptor "([CIIC)Z" = some ⟨[(.array .char), .int, .int, .char], some .boolean⟩ := by decide +kernel
abbrev own_ST (a : Addr) (f0 f1 : Value) : own_O := (a, "java/lang/String", [("java/lang/String", "value", "[B", f0), ("java/lang/String", "coder", "B", f1)])
theorem own_ST_F {Z : State} {a0 : Array Value} (hw : own_Z Z a0) : ∀ f ∈ ([("java/lang/String", "value", "[B", .null), ("java/lang/String", "coder", "B", (.int (0 : Int32)))] : List (String × String × String × Value)), Laid Z a0 "java/lang/String" f.1 f.2.1 f.2.2.1 ∧ ∃ ty, parseFieldDescriptor f.2.2.1 = some ty ∧ f.2.2.2 = defaultValue ty := by
  intro f hf
  simp only [List.mem_cons, List.not_mem_nil, or_false] at hf
  rcases hf with rfl | rfl
  · exact ⟨Or.inr (own_w26 hw), (.array .byte), by decide +kernel, rfl⟩
  · exact ⟨Or.inr (own_w27 hw), .byte, by decide +kernel, rfl⟩
theorem own_ST_P {Z : State} {a0 : Array Value} (hw : own_Z Z a0) : ([("java/lang/String", "value", "[B", .null), ("java/lang/String", "coder", "B", (.int (0 : Int32)))] : List (String × String × String × Value)).Pairwise (fun f g => Jvm.RoadKit.slotOf Z f.1 f.2.1 f.2.2.1 ≠ Jvm.RoadKit.slotOf Z g.1 g.2.1 g.2.2.1) := by
  simp only [List.pairwise_cons, List.mem_cons, List.not_mem_nil, or_false, forall_eq_or_imp, forall_eq, List.Pairwise.nil, and_true, false_implies, implies_true]
  exact slot_ne (C := "java/lang/String") (Or.inr (own_w26 hw)) (Or.inr (own_w27 hw)) (by decide) (t := (.array .byte)) (by decide +kernel) (t' := .byte) (by decide +kernel)

abbrev own_DN (a : Addr) (f0 f1 f2 : Value) : own_O := (a, "com/example/wary_loader/waryloader/dn/DnParser", [("com/example/wary_loader/waryloader/dn/DnParser", "text", "Ljava/lang/String;", f0), ("com/example/wary_loader/waryloader/dn/DnParser", "pattern", "Z", f1), ("com/example/wary_loader/waryloader/dn/DnParser", "index", "I", f2)])
theorem own_DN_F {Z : State} {a0 : Array Value} (hw : own_Z Z a0) : ∀ f ∈ ([("com/example/wary_loader/waryloader/dn/DnParser", "text", "Ljava/lang/String;", .null), ("com/example/wary_loader/waryloader/dn/DnParser", "pattern", "Z", (.int (0 : Int32))), ("com/example/wary_loader/waryloader/dn/DnParser", "index", "I", (.int (0 : Int32)))] : List (String × String × String × Value)), Laid Z a0 "com/example/wary_loader/waryloader/dn/DnParser" f.1 f.2.1 f.2.2.1 ∧ ∃ ty, parseFieldDescriptor f.2.2.1 = some ty ∧ f.2.2.2 = defaultValue ty := by
  intro f hf
  simp only [List.mem_cons, List.not_mem_nil, or_false] at hf
  rcases hf with rfl | rfl | rfl
  · exact ⟨Or.inr (own_w40 hw), (.object "java/lang/String"), by decide +kernel, rfl⟩
  · exact ⟨Or.inr (own_w42 hw), .boolean, by decide +kernel, rfl⟩
  · exact ⟨Or.inl (own_w49 hw), .int, by decide +kernel, rfl⟩
theorem own_DN_P {Z : State} {a0 : Array Value} (hw : own_Z Z a0) : ([("com/example/wary_loader/waryloader/dn/DnParser", "text", "Ljava/lang/String;", .null), ("com/example/wary_loader/waryloader/dn/DnParser", "pattern", "Z", (.int (0 : Int32))), ("com/example/wary_loader/waryloader/dn/DnParser", "index", "I", (.int (0 : Int32)))] : List (String × String × String × Value)).Pairwise (fun f g => Jvm.RoadKit.slotOf Z f.1 f.2.1 f.2.2.1 ≠ Jvm.RoadKit.slotOf Z g.1 g.2.1 g.2.2.1) := by
  simp only [List.pairwise_cons, List.mem_cons, List.not_mem_nil, or_false, forall_eq_or_imp, forall_eq, List.Pairwise.nil, and_true, false_implies, implies_true]
  exact ⟨⟨slot_ne (C := "com/example/wary_loader/waryloader/dn/DnParser") (Or.inr (own_w40 hw)) (Or.inr (own_w42 hw)) (by decide) (t := (.object "java/lang/String")) (by decide +kernel) (t' := .boolean) (by decide +kernel), slot_ne (C := "com/example/wary_loader/waryloader/dn/DnParser") (Or.inr (own_w40 hw)) (Or.inl (own_w49 hw)) (by decide) (t := (.object "java/lang/String")) (by decide +kernel) (t' := .int) (by decide +kernel)⟩, slot_ne (C := "com/example/wary_loader/waryloader/dn/DnParser") (Or.inr (own_w42 hw)) (Or.inl (own_w49 hw)) (by decide) (t := .boolean) (by decide +kernel) (t' := .int) (by decide +kernel)⟩

theorem own_and3 (k : Int32) : k &&& 3 = 0 ∨ k &&& 3 = 1 ∨ k &&& 3 = 2 ∨ k &&& 3 = 3 := by
  have h : ∀ b : BitVec 32, b &&& 3#32 = 0#32 ∨ b &&& 3#32 = 1#32 ∨ b &&& 3#32 = 2#32 ∨ b &&& 3#32 = 3#32 := by
    intro b
    have q : (b &&& 3#32).toNat ≤ 3 := by rw [BitVec.toNat_and]; exact Nat.and_le_right
    bv_omega
  rcases h k.toBitVec with q | q | q | q
  · exact Or.inl (Int32.toBitVec_inj.mp q)
  · exact Or.inr (Or.inl (Int32.toBitVec_inj.mp q))
  · exact Or.inr (Or.inr (Or.inl (Int32.toBitVec_inj.mp q)))
  · exact Or.inr (Or.inr (Or.inr (Int32.toBitVec_inj.mp q)))
theorem own_and_bound (a b : Int32) (hb : 0 ≤ b.toInt) : 0 ≤ (a &&& b).toInt ∧ (a &&& b).toInt ≤ b.toInt := by
  have q : (a &&& b).toBitVec.toNat ≤ b.toBitVec.toNat := by
    show (a.toBitVec &&& b.toBitVec).toNat ≤ _
    rw [BitVec.toNat_and]; exact Nat.and_le_right
  have hb' : b.toInt = (b.toBitVec.toNat : Int) := by
    have : b.toInt = b.toBitVec.toInt := rfl
    rw [this] at hb ⊢
    rw [BitVec.toInt_eq_toNat_cond] at hb ⊢
    have := b.toBitVec.isLt
    split at hb <;> split <;> omega
  have hlt : 2 * b.toBitVec.toNat < 2 ^ 32 := by have := Int32.toInt_lt b; omega
  have : (a &&& b).toInt = (a &&& b).toBitVec.toInt := rfl
  rw [this, BitVec.toInt_eq_toNat_cond]
  split <;> omega
theorem own_add32 {a b : Int32} (h1 : -2147483648 ≤ a.toInt + b.toInt) (h2 : a.toInt + b.toInt ≤ 2147483647) : (a + b).toInt = a.toInt + b.toInt := by
  rw [Int32.toInt_add]; exact Int.bmod_eq_of_le (by omega) (by omega)
theorem own_sub32 {a b : Int32} (h1 : -2147483648 ≤ a.toInt - b.toInt) (h2 : a.toInt - b.toInt ≤ 2147483647) : (a - b).toInt = a.toInt - b.toInt := by
  rw [Int32.toInt_sub]; exact Int.bmod_eq_of_le (by omega) (by omega)
theorem own_mul32 {a b : Int32} (h1 : -2147483648 ≤ a.toInt * b.toInt) (h2 : a.toInt * b.toInt ≤ 2147483647) : (a * b).toInt = a.toInt * b.toInt := by
  rw [Int32.toInt_mul]; exact Int.bmod_eq_of_le (by omega) (by omega)
theorem own_rem32 {a b : Int32} (ha : 0 ≤ a.toInt) (hb : 0 < b.toInt) : 0 ≤ (a % b).toInt ∧ (a % b).toInt < b.toInt := by
  rw [Int32.toInt_mod]
  have h1 := Int.tmod_nonneg b.toInt ha
  have h2 := Int.tmod_lt_of_pos a.toInt hb
  omega
theorem own_i64 (a : Int32) : a.toInt64.toInt = a.toInt := by simp

def own_by (z : Int32) : Int32 := z.toInt8.toInt32
theorem own_k256 {z : Int32} (h0 : 0 ≤ z.toInt) (h1 : z.toInt ≤ 255) : ∃ i : Fin 256, z = Int32.ofNat i.val := by
  refine ⟨⟨z.toInt.toNat, by omega⟩, ?_⟩
  apply Int32.toInt_inj.mp
  show z.toInt = (Int32.ofNat z.toInt.toNat).toInt
  rw [Int32.toInt_ofNat_of_lt (by omega)]; omega
theorem own_byc {z : Int32} (h0 : 0 ≤ z.toInt) (h1 : z.toInt ≤ 255) : (own_by z &&& (255 : Int32)).toUInt32.toUInt16.toUInt32.toInt32 = z := by
  obtain ⟨i, rfl⟩ := own_k256 h0 h1
  clear h0 h1; revert i; unfold own_by; decide +kernel
theorem own_byc' {z : Int32} (h0 : 0 ≤ z.toInt) (h1 : z.toInt ≤ 255) : (own_by z &&& (255 : Int32)) = z := by
  obtain ⟨i, rfl⟩ := own_k256 h0 h1
  clear h0 h1; revert i; unfold own_by; decide +kernel
theorem own_i2cc {z : Int32} (h0 : 0 ≤ z.toInt) (h1 : z.toInt ≤ 255) : z.toUInt32.toUInt16.toUInt32.toInt32 = z := by
  obtain ⟨i, rfl⟩ := own_k256 h0 h1
  clear h0 h1; revert i; decide +kernel
theorem own_nch {z : Int32} (h0 : 0 ≤ z.toInt) (h1 : z.toInt ≤ 255) : nar .char z = z := own_i2cc h0 h1
theorem own_nrc {z : Int32} (h0 : 0 ≤ z.toInt) (h1 : z.toInt ≤ 255) : narrow .char (.int z) = .int z := congrArg Value.int (own_i2cc h0 h1)
theorem own_nby (z : Int32) : nar .byte (own_by z) = own_by z := by
  show (z.toInt8.toInt32).toInt8.toInt32 = z.toInt8.toInt32
  simp
theorem own_m8 (z : Int32) : ∃ y : Int32, (z &&& (255 : Int32)).toUInt32.toUInt16.toUInt32.toInt32 = y ∧ 0 ≤ y.toInt ∧ y.toInt ≤ 255 := by
  have h := own_and_bound z 255 (by decide)
  have e : (255 : Int32).toInt = 255 := rfl
  exact ⟨z &&& 255, own_i2cc h.1 (by omega), h.1, by omega⟩
theorem own_le255 {z : Int32} (h1 : z.toInt ≤ 255) : z.toInt ≤ (255 : Int32).toInt := h1

def own_s32 (z : Int32) : Bool := decide (z = 32)
def own_s59 (z : Int32) : Bool := decide (z = 59)
def own_seq (z y : Int32) : Bool := decide (z = y)
theorem own_s32T {z : Int32} (h : z = 32) : own_s32 z = true := decide_eq_true h
theorem own_s32F {z : Int32} (h : z ≠ 32) : own_s32 z = false := decide_eq_false h
theorem own_s59T {z : Int32} (h : z = 59) : own_s59 z = true := decide_eq_true h
theorem own_s59F {z : Int32} (h : z ≠ 59) : own_s59 z = false := decide_eq_false h
theorem own_seqT {z y : Int32} (h : z = y) : own_seq z y = true := decide_eq_true h
theorem own_seqF {z y : Int32} (h : z ≠ y) : own_seq z y = false := decide_eq_false h
def own_qb (b : Bool) : Int32 := bif b then 1 else 0
theorem own_qb0 {b : Bool} (h : own_qb b = 0) : b = false := by
  cases b
  · rfl
  · exact absurd h (by decide)
theorem own_qb1 {b : Bool} (h : ¬ own_qb b = 0) : b = true := by
  cases b
  · exact absurd rfl h
  · rfl
theorem own_qbN (b : Bool) : narrow .boolean (.int (own_qb b)) = .int (own_qb b) := by cases b <;> rfl
theorem own_qbF (b : Bool) : fits .boolean (.int (own_qb b)) = true := by cases b <;> rfl
def own_cc (c0 c1 c2 c3 : Int32) (r : Nat) : Int32 := [c0, c1, c2, c3].getD r 0
def own_vs (n : Nat) (c0 c1 c2 c3 : Int32) : List Value := ([.int (own_by c0), .int (own_by c1), .int (own_by c2), .int (own_by c3)] : List Value).take n
theorem own_r4 {r : Nat} (h : r < 4) : r = 0 ∨ r = 1 ∨ r = 2 ∨ r = 3 := by omega
theorem own_vsl {n : Nat} {c0 c1 c2 c3 : Int32} (hn : n ≤ 4) : (own_vs n c0 c1 c2 c3).length = n := by
  unfold own_vs; rw [List.length_take]; exact Nat.min_eq_left hn
theorem own_vsg {n r : Nat} {c0 c1 c2 c3 : Int32} (hn : n ≤ 4) (hr : r < n) : (own_vs n c0 c1 c2 c3)[r]? = some (.int (own_by (own_cc c0 c1 c2 c3 r))) := by
  unfold own_vs; rw [List.getElem?_take_of_lt hr]
  rcases own_r4 (Nat.lt_of_lt_of_le hr hn) with rfl | rfl | rfl | rfl <;> rfl
def own_bd (c0 c1 c2 c3 : Int32) : Prop := ∀ r, r < 4 → 0 ≤ (own_cc c0 c1 c2 c3 r).toInt ∧ (own_cc c0 c1 c2 c3 r).toInt ≤ 255
def own_qg : Nat → List Bool → Nat → Nat
  | 0, _, j => j
  | d + 1, sp, j => bif sp.getD j false then own_qg d sp (j + 1) else j
def own_qsp (n : Nat) (sp : List Bool) (j : Nat) : Nat := own_qg (n - j) sp j
theorem own_qspE {n j : Nat} {sp : List Bool} (h : n ≤ j) : own_qsp n sp j = j := by
  unfold own_qsp; rw [Nat.sub_eq_zero_of_le h]; rfl
theorem own_qspT {n j : Nat} {sp : List Bool} (h : j < n) (hs : sp.getD j false = true) : own_qsp n sp j = own_qsp n sp (j + 1) := by
  unfold own_qsp; rw [show n - j = (n - (j + 1)) + 1 by omega]
  show (bif sp.getD j false then own_qg (n - (j + 1)) sp (j + 1) else j) = _
  rw [hs]; rfl
theorem own_qspF {n j : Nat} {sp : List Bool} (h : j < n) (hs : sp.getD j false = false) : own_qsp n sp j = j := by
  unfold own_qsp; rw [show n - j = (n - (j + 1)) + 1 by omega]
  show (bif sp.getD j false then own_qg (n - (j + 1)) sp (j + 1) else j) = _
  rw [hs]; rfl
theorem own_qgL : ∀ (d j : Nat) (sp : List Bool), own_qg d sp j ≤ j + d := by
  intro d
  induction d with
  | zero => intro j sp; exact Nat.le_refl _
  | succ d ih =>
    intro j sp
    show (bif sp.getD j false then own_qg d sp (j + 1) else j) ≤ _
    have := ih (j + 1) sp
    cases sp.getD j false
    · exact Nat.le_add_right _ _
    · show own_qg d sp (j + 1) ≤ _; omega
theorem own_qspL {n j : Nat} {sp : List Bool} (h : j ≤ n) : own_qsp n sp j ≤ n := by
  have := own_qgL (n - j) j sp
  unfold own_qsp; omega
def own_qta (sp se ch : List Bool) (n j : Nat) : Bool × Nat :=
  bif (decide (own_qsp n sp j = n) || !(ch.getD (own_qsp n sp j) false)) then (false, j)
  else bif (decide (own_qsp n sp (own_qsp n sp j + 1) = n) || se.getD (own_qsp n sp (own_qsp n sp j + 1)) false) then (true, own_qsp n sp (own_qsp n sp j + 1)) else (false, j)
section
variable {sp se ch : List Bool} {n j r r2 : Nat}
theorem own_taA (er : own_qsp n sp j = r) (h : r = n) : own_qta sp se ch n j = (false, j) := by
  unfold own_qta; rw [er, decide_eq_true h]; rfl
theorem own_taB (er : own_qsp n sp j = r) (h : ch.getD r false = false) : own_qta sp se ch n j = (false, j) := by
  unfold own_qta; rw [er, h]; cases decide (r = n) <;> rfl
theorem own_taC (er : own_qsp n sp j = r) (h1 : r ≠ n) (h2 : ch.getD r false = true) (er2 : own_qsp n sp (r + 1) = r2) (h3 : r2 = n) : own_qta sp se ch n j = (true, r2) := by
  unfold own_qta; rw [er, decide_eq_false h1, h2, er2, decide_eq_true h3]; rfl
theorem own_taD (er : own_qsp n sp j = r) (h1 : r ≠ n) (h2 : ch.getD r false = true) (er2 : own_qsp n sp (r + 1) = r2) (h3 : se.getD r2 false = true) : own_qta sp se ch n j = (true, r2) := by
  unfold own_qta; rw [er, decide_eq_false h1, h2, er2, h3]; cases decide (r2 = n) <;> rfl
theorem own_taE (er : own_qsp n sp j = r) (h1 : r ≠ n) (h2 : ch.getD r false = true) (er2 : own_qsp n sp (r + 1) = r2) (h3 : r2 ≠ n) (h4 : se.getD r2 false = false) : own_qta sp se ch n j = (false, j) := by
  unfold own_qta; rw [er, decide_eq_false h1, h2, er2, decide_eq_false h3, h4]; rfl
def own_qtk (sp se : List Bool) (n j : Nat) : Bool × Nat :=
  bif (decide (own_qsp n sp j < n) && se.getD (own_qsp n sp j) false) then (true, own_qsp n sp j + 1) else (false, own_qsp n sp j)
theorem own_tkA (er : own_qsp n sp j = r) (h : ¬ r < n) : own_qtk sp se n j = (false, r) := by
  unfold own_qtk; rw [er, decide_eq_false h]; rfl
theorem own_tkB (er : own_qsp n sp j = r) (h : se.getD r false = false) : own_qtk sp se n j = (false, r) := by
  unfold own_qtk; rw [er, h, Bool.and_false]; rfl
theorem own_tkC (er : own_qsp n sp j = r) (h1 : r < n) (h : se.getD r false = true) : own_qtk sp se n j = (true, r + 1) := by
  unfold own_qtk; rw [er, h, decide_eq_true h1]; rfl
end
def own_ts (i j n : Nat) (s : Bool) : Bool := decide (j ≤ i) && (decide (i < n) && s)
theorem own_tsF1 {i j n : Nat} {s : Bool} (h : i < j) : own_ts i j n s = false := by unfold own_ts; rw [decide_eq_false (Nat.not_le.mpr h)]; rfl
theorem own_tsF2 {i j n : Nat} {s : Bool} (h : n ≤ i) : own_ts i j n s = false := by unfold own_ts; rw [decide_eq_false (Nat.not_lt.mpr h)]; exact Bool.and_false _
theorem own_tsF3 {i j n : Nat} {s : Bool} (h : s = false) : own_ts i j n s = false := by unfold own_ts; rw [h, Bool.and_false]; exact Bool.and_false _
theorem own_tsT {i j n : Nat} {s : Bool} (h1 : j ≤ i) (h2 : i < n) (h : s = true) : own_ts i j n s = true := by unfold own_ts; rw [h, decide_eq_true h1, decide_eq_true h2]; rfl
def own_qen (s0 s1 s2 s3 : Bool) (n j : Nat) : Nat := bif own_ts 0 j n s0 then 0 else bif own_ts 1 j n s1 then 1 else bif own_ts 2 j n s2 then 2 else bif own_ts 3 j n s3 then 3 else n
def own_qi (i j e : Nat) : Bool := decide (j ≤ i) && decide (i < e)
theorem own_qiT {i j e : Nat} (h1 : j ≤ i) (h2 : i < e) : own_qi i j e = true := by unfold own_qi; rw [decide_eq_true h1, decide_eq_true h2]; rfl
theorem own_qiF1 {i j e : Nat} (h1 : i < j) : own_qi i j e = false := by unfold own_qi; rw [decide_eq_false (Nat.not_le.mpr h1)]; rfl
theorem own_qiF2 {i j e : Nat} (h1 : e ≤ i) : own_qi i j e = false := by unfold own_qi; rw [decide_eq_false (Nat.not_lt.mpr h1)]; exact Bool.and_false _
def own_q4 (s0 s1 s2 s3 : Bool) (j e : Nat) : Int32 := own_qb (own_qi 0 j e && s0) + own_qb (own_qi 1 j e && s1) + own_qb (own_qi 2 j e && s2) + own_qb (own_qi 3 j e && s3)
def own_qal (x y : Int32) : Bool := decide (x = 1) && decide (y = 1)
theorem own_qalT {x y : Int32} (h1 : x = 1) (h2 : y = 1) : own_qal x y = true := by unfold own_qal; rw [decide_eq_true h1, decide_eq_true h2]; rfl
theorem own_qalF1 {x y : Int32} (h1 : x ≠ 1) : own_qal x y = false := by unfold own_qal; rw [decide_eq_false h1]; rfl
theorem own_qalF2 {x y : Int32} (h1 : y ≠ 1) : own_qal x y = false := by unfold own_qal; rw [decide_eq_false h1]; exact Bool.and_false _
def own_qzz (z : Int32) (n e : Nat) : Bool := decide (z = 0) && decide (e < n)
theorem own_qzzT {z : Int32} {n e : Nat} (h1 : z = 0) (h2 : e < n) : own_qzz z n e = true := by unfold own_qzz; rw [decide_eq_true h1, decide_eq_true h2]; rfl
theorem own_qzzF1 {z : Int32} {n e : Nat} (h1 : z ≠ 0) : own_qzz z n e = false := by unfold own_qzz; rw [decide_eq_false h1]; rfl
theorem own_qzzF2 {z : Int32} {n e : Nat} (h1 : n ≤ e) : own_qzz z n e = false := by unfold own_qzz; rw [decide_eq_false (Nat.not_lt.mpr h1)]; exact Bool.and_false _
theorem own_qzzL {z : Int32} {n e : Nat} (h : true = own_qzz z n e) : e < n := by
  unfold own_qzz at h
  exact of_decide_eq_true ((Bool.and_eq_true_iff.mp h.symm).2)
def own_h3 (n : Nat) (a0 a1 a2 a3 s0 s1 s2 s3 p0 p1 p2 p3 : Bool) (y : Nat) : Bool × Nat :=
  let x := own_qen s0 s1 s2 s3 n y
  let m := own_qal (own_q4 (!a0) (!a1) (!a2) (!a3) y x) (own_q4 p0 p1 p2 p3 y x)
  (m, bif m then x else y)
def own_h2 (n : Nat) (a0 a1 a2 a3 s0 s1 s2 s3 : Bool) (y : Nat) : Bool × Nat :=
  let x := own_qen s0 s1 s2 s3 n y
  let z := own_qzz (own_q4 (!a0) (!a1) (!a2) (!a3) y x) n x
  (z, bif z then x + 1 else y)
def own_qchk (n : Nat) (a0 a1 a2 a3 s0 s1 s2 s3 p0 p1 p2 p3 q0 q1 q2 q3 : Bool) : Bool :=
  let a := own_qta [a0, a1, a2, a3] [s0, s1, s2, s3] [p0, p1, p2, p3] n 0
  let b := own_qtk [a0, a1, a2, a3] [s0, s1, s2, s3] n a.2
  let c := own_qta [a0, a1, a2, a3] [s0, s1, s2, s3] [q0, q1, q2, q3] n b.2
  let d := own_qtk [a0, a1, a2, a3] [s0, s1, s2, s3] n c.2
  let g1 := own_h3 n a0 a1 a2 a3 s0 s1 s2 s3 p0 p1 p2 p3 0
  let g2 := own_h2 n a0 a1 a2 a3 s0 s1 s2 s3 g1.2
  let g3 := own_h3 n a0 a1 a2 a3 s0 s1 s2 s3 q0 q1 q2 q3 g2.2
  let g4 := own_h2 n a0 a1 a2 a3 s0 s1 s2 s3 g3.2
  (a.1 == g1.1) && ((b.1 == g2.1) && ((c.1 == g3.1) && (d.1 == g4.1)))
section
variable {n : Nat} {a0 a1 a2 a3 s0 s1 s2 s3 p0 p1 p2 p3 q0 q1 q2 q3 : Bool}
theorem own_h3e {x y y' : Nat} {m : Bool} (f1 : own_qen s0 s1 s2 s3 n y = x) (f2 : own_qal (own_q4 (!a0) (!a1) (!a2) (!a3) y x) (own_q4 p0 p1 p2 p3 y x) = m) (hy : y' = bif m then x else y) : own_h3 n a0 a1 a2 a3 s0 s1 s2 s3 p0 p1 p2 p3 y = (m, y') := by
  subst f1; subst f2; subst hy; rfl
theorem own_h2e {x y y' : Nat} {w : Int32} {z : Bool} (f1 : own_qen s0 s1 s2 s3 n y = x) (f2 : own_q4 (!a0) (!a1) (!a2) (!a3) y x = w) (hz : z = own_qzz w n x) (hy : y' = bif z then x + 1 else y) : own_h2 n a0 a1 a2 a3 s0 s1 s2 s3 y = (z, y') := by
  subst f1; subst f2; subst hz; subst hy; rfl
theorem own_fin (hc : own_qchk n a0 a1 a2 a3 s0 s1 s2 s3 p0 p1 p2 p3 q0 q1 q2 q3 = true) {b1 t1 b2 t2 m1 z1 m2 z2 : Bool} {j1 j2 j3 j4 y1 y2 y3 y4 : Nat} (e1 : own_qta [a0, a1, a2, a3] [s0, s1, s2, s3] [p0, p1, p2, p3] n 0 = (b1, j1)) (e2 : own_qtk [a0, a1, a2, a3] [s0, s1, s2, s3] n j1 = (t1, j2)) (e3 : own_qta [a0, a1, a2, a3] [s0, s1, s2, s3] [q0, q1, q2, q3] n j2 = (b2, j3)) (e4 : own_qtk [a0, a1, a2, a3] [s0, s1, s2, s3] n j3 = (t2, j4))
    (g1 : own_h3 n a0 a1 a2 a3 s0 s1 s2 s3 p0 p1 p2 p3 0 = (m1, y1)) (g2 : own_h2 n a0 a1 a2 a3 s0 s1 s2 s3 y1 = (z1, y2)) (g3 : own_h3 n a0 a1 a2 a3 s0 s1 s2 s3 q0 q1 q2 q3 y2 = (m2, y3)) (g4 : own_h2 n a0 a1 a2 a3 s0 s1 s2 s3 y3 = (z2, y4)) : b1 = m1 ∧ t1 = z1 ∧ b2 = m2 ∧ t2 = z2 := by
  simp only [own_qchk, e1, e2, e3, e4, g1, g2, g3, g4, Bool.and_eq_true, beq_iff_eq] at hc
  exact hc
end
def own_f0 (k : Fin 6) : Bool := k.val == 0
def own_f1 (k : Fin 6) : Bool := k.val == 1
def own_f2 (k : Fin 6) : Bool := k.val == 2 || k.val == 4
def own_f3 (k : Fin 6) : Bool := k.val == 3 || k.val == 4
theorem own_kk (z : Int32) {d1 d2 : Int32} (a1 : d1 ≠ 32) (a2 : d1 ≠ 59) (b1 : d2 ≠ 32) (b2 : d2 ≠ 59) : ∃ k : Fin 6, own_s32 z = own_f0 k ∧ own_s59 z = own_f1 k ∧ own_seq z d1 = own_f2 k ∧ own_seq z d2 = own_f3 k := by
  by_cases h1 : z = 32
  · exact ⟨0, own_s32T h1, own_s59F (by rw [h1]; decide), own_seqF (by rw [h1]; exact a1.symm), own_seqF (by rw [h1]; exact b1.symm)⟩
  by_cases h2 : z = 59
  · exact ⟨1, own_s32F h1, own_s59T h2, own_seqF (by rw [h2]; exact a2.symm), own_seqF (by rw [h2]; exact b2.symm)⟩
  by_cases h3 : z = d1
  · by_cases h4 : z = d2
    · exact ⟨4, own_s32F h1, own_s59F h2, own_seqT h3, own_seqT h4⟩
    · exact ⟨2, own_s32F h1, own_s59F h2, own_seqT h3, own_seqF h4⟩
  · by_cases h4 : z = d2
    · exact ⟨3, own_s32F h1, own_s59F h2, own_seqF h3, own_seqT h4⟩
    · exact ⟨5, own_s32F h1, own_s59F h2, own_seqF h3, own_seqF h4⟩
theorem own_on {j : Nat} (h : j ≤ 4) : (Int32.ofNat j).toInt = (j : Int) := Int32.toInt_ofNat_of_lt (by omega)
theorem own_oni {i j : Nat} (hi : i ≤ 4) (hj : j ≤ 4) (h : Int32.ofNat i = Int32.ofNat j) : i = j := by
  have := congrArg Int32.toInt h
  rw [own_on hi, own_on hj] at this; omega
theorem own_on1 {j : Nat} (h : j ≤ 4) : Int32.ofNat j + (1 : Int32) = Int32.ofNat (j + 1) := by
  have : ∀ i : Fin 5, Int32.ofNat i.val + (1 : Int32) = Int32.ofNat (i.val + 1) := by decide
  exact this ⟨j, by omega⟩
theorem own_sh0 {j : Nat} (h : j ≤ 4) : Int32.ofNat j >>> ((0 : Int32) &&& 31) = Int32.ofNat j := by
  have : ∀ i : Fin 5, Int32.ofNat i.val >>> ((0 : Int32) &&& 31) = Int32.ofNat i.val := by decide
  exact this ⟨j, by omega⟩
theorem own_n5 (z : Int32) : ∃ n : Nat, n ≤ 4 ∧ (z &&& (7 : Int32)) % (5 : Int32) = Int32.ofNat n := by
  have h := own_and_bound z 7 (by decide)
  have e : (7 : Int32).toInt = 7 := rfl
  obtain ⟨i, q⟩ : ∃ i : Fin 8, z &&& (7 : Int32) = Int32.ofNat i.val := by
    refine ⟨⟨(z &&& (7 : Int32)).toInt.toNat, by omega⟩, ?_⟩
    apply Int32.toInt_inj.mp
    rw [Int32.toInt_ofNat_of_lt (by show (z &&& (7 : Int32)).toInt.toNat < _; omega)]
    show (z &&& (7 : Int32)).toInt = (((z &&& (7 : Int32)).toInt.toNat : Nat) : Int)
    omega
  rw [q]
  have t : ∀ i : Fin 8, Int32.ofNat i.val % (5 : Int32) = Int32.ofNat (i.val % 5) := by decide
  exact ⟨i.val % 5, by omega, t i⟩
theorem own_mb (z : Int32) : 0 ≤ (z &&& (255 : Int32)).toInt ∧ (z &&& (255 : Int32)).toInt ≤ 255 := own_and_bound z 255 (by decide)
set_option maxRecDepth 65536 in
theorem own_plk0 : ∀ k0 k1 k2 k3 : Fin 6, own_qchk 0 (own_f0 k0) (own_f0 k1) (own_f0 k2) (own_f0 k3) (own_f1 k0) (own_f1 k1) (own_f1 k2) (own_f1 k3) (own_f2 k0) (own_f2 k1) (own_f2 k2) (own_f2 k3) (own_f3 k0) (own_f3 k1) (own_f3 k2) (own_f3 k3) = true := by decide +kernel
set_option maxRecDepth 65536 in
theorem own_plk1 : ∀ k0 k1 k2 k3 : Fin 6, own_qchk 1 (own_f0 k0) (own_f0 k1) (own_f0 k2) (own_f0 k3) (own_f1 k0) (own_f1 k1) (own_f1 k2) (own_f1 k3) (own_f2 k0) (own_f2 k1) (own_f2 k2) (own_f2 k3) (own_f3 k0) (own_f3 k1) (own_f3 k2) (own_f3 k3) = true := by decide +kernel
set_option maxRecDepth 65536 in
theorem own_plk2 : ∀ k0 k1 k2 k3 : Fin 6, own_qchk 2 (own_f0 k0) (own_f0 k1) (own_f0 k2) (own_f0 k3) (own_f1 k0) (own_f1 k1) (own_f1 k2) (own_f1 k3) (own_f2 k0) (own_f2 k1) (own_f2 k2) (own_f2 k3) (own_f3 k0) (own_f3 k1) (own_f3 k2) (own_f3 k3) = true := by decide +kernel
set_option maxRecDepth 65536 in
theorem own_plk3 : ∀ k0 k1 k2 k3 : Fin 6, own_qchk 3 (own_f0 k0) (own_f0 k1) (own_f0 k2) (own_f0 k3) (own_f1 k0) (own_f1 k1) (own_f1 k2) (own_f1 k3) (own_f2 k0) (own_f2 k1) (own_f2 k2) (own_f2 k3) (own_f3 k0) (own_f3 k1) (own_f3 k2) (own_f3 k3) = true := by decide +kernel
set_option maxRecDepth 65536 in
theorem own_plk4 : ∀ k0 k1 k2 k3 : Fin 6, own_qchk 4 (own_f0 k0) (own_f0 k1) (own_f0 k2) (own_f0 k3) (own_f1 k0) (own_f1 k1) (own_f1 k2) (own_f1 k3) (own_f2 k0) (own_f2 k1) (own_f2 k2) (own_f2 k3) (own_f3 k0) (own_f3 k1) (own_f3 k2) (own_f3 k3) = true := by decide +kernel
theorem own_pl {n : Nat} (hn : n ≤ 4) {c0 c1 c2 c3 d1 d2 : Int32} (a1 : d1 ≠ 32) (a2 : d1 ≠ 59) (b1 : d2 ≠ 32) (b2 : d2 ≠ 59) : own_qchk n (own_s32 c0) (own_s32 c1) (own_s32 c2) (own_s32 c3) (own_s59 c0) (own_s59 c1) (own_s59 c2) (own_s59 c3) (own_seq c0 d1) (own_seq c1 d1) (own_seq c2 d1) (own_seq c3 d1) (own_seq c0 d2) (own_seq c1 d2) (own_seq c2 d2) (own_seq c3 d2) = true := by
  obtain ⟨k0, p0, q0, r0, t0⟩ := own_kk c0 a1 a2 b1 b2
  obtain ⟨k1, p1, q1, r1, t1⟩ := own_kk c1 a1 a2 b1 b2
  obtain ⟨k2, p2, q2, r2, t2⟩ := own_kk c2 a1 a2 b1 b2
  obtain ⟨k3, p3, q3, r3, t3⟩ := own_kk c3 a1 a2 b1 b2
  rw [p0, q0, r0, t0, p1, q1, r1, t1, p2, q2, r2, t2, p3, q3, r3, t3]
  rcases (show n = 0 ∨ n = 1 ∨ n = 2 ∨ n = 3 ∨ n = 4 by omega) with rfl | rfl | rfl | rfl | rfl
  · exact own_plk0 k0 k1 k2 k3
  · exact own_plk1 k0 k1 k2 k3
  · exact own_plk2 k0 k1 k2 k3
  · exact own_plk3 k0 k1 k2 k3
  · exact own_plk4 k0 k1 k2 k3
theorem own_fl32 {c0 c1 c2 c3 : Int32} {r : Nat} (h : r < 4) : ([own_s32 c0, own_s32 c1, own_s32 c2, own_s32 c3] : List Bool).getD r false = own_s32 (own_cc c0 c1 c2 c3 r) := by
  rcases own_r4 h with rfl | rfl | rfl | rfl <;> rfl
theorem own_fl59 {c0 c1 c2 c3 : Int32} {r : Nat} (h : r < 4) : ([own_s59 c0, own_s59 c1, own_s59 c2, own_s59 c3] : List Bool).getD r false = own_s59 (own_cc c0 c1 c2 c3 r) := by
  rcases own_r4 h with rfl | rfl | rfl | rfl <;> rfl
theorem own_fleq {c0 c1 c2 c3 : Int32} {ch : Int32} {r : Nat} (h : r < 4) : ([own_seq c0 ch, own_seq c1 ch, own_seq c2 ch, own_seq c3 ch] : List Bool).getD r false = own_seq (own_cc c0 c1 c2 c3 r) ch := by
  rcases own_r4 h with rfl | rfl | rfl | rfl <;> rfl

theorem own_sa {Z : State} {a0 : Array Value} (hw : own_Z Z a0) : ∀ a ∈ Bundle.stringAtoms, a.before a0 Z = true := by
  intro a ha
  simp only [Bundle.stringAtoms, List.mem_cons, List.not_mem_nil, or_false] at ha
  rcases ha with rfl | rfl | rfl | rfl | rfl | rfl | rfl
  · exact own_w13 hw
  · exact own_w12 hw
  · exact own_w25 hw
  · exact own_w26 hw
  · exact own_w27 hw
  · exact own_w28 hw
  · exact own_w29 hw
theorem own_hP {Z : State} {a0 : Array Value} (hw : own_Z Z a0) : Jvm.RoadKit.slotOf Z "java/lang/String" "coder" "B" ≠ Jvm.RoadKit.slotOf Z "java/lang/String" "value" "[B" := Ne.symm ((List.pairwise_cons.mp (own_ST_P hw)).1 _ (List.mem_singleton.mpr rfl))
set_option maxRecDepth 65536 in
set_option maxHeartbeats 40000000 in
theorem own_initD0_ef (m : MethodId) (x0 : Addr) (x1 : Addr) (x2 : Int32) (x3 : Int32) : entryFrame m #[(.ref x0), (.ref x1), (.int x2), (.int x3), .null] 6 = mkF m 0 #[.val (.ref x0), .val (.ref x1), .val (.int x2), .val (.int x3), .val .null, .unset] [] := by first | (simp [entryFrame, mkF, argsToLocals, Value.category]; done) | rfl
set_option maxRecDepth 65536 in
set_option maxHeartbeats 40000000 in
theorem own_initD0 {l : Launch} {Z : State} {a0 : Array Value} (hw : own_Z Z a0) {h : Heap} {os : List own_O} {as : List own_A} {a x : Addr} (hL : Jvm.Lit.constHeld Z "java/lang/String" 7) (hcw : Jvm.Lit.compactW.before a0 Z = true) (H : own_H Z h (own_ST a .null (.int (0 : Int32)) :: os) ((x, .char, "[C", []) :: as)) : own_Met (some ([], [""])) l Z (⟨"java/lang/String", "<init>", "([CIILjava/lang/Void;)V"⟩ : MethodName) jdk_42_method_149_code 6 none [] ({ frames := 1, cells := 2, slots := 4, locals := 12 } : Room) #[(.ref a), (.ref x), (.int (0 : Int32)), (.int (0 : Int32)), .null] h (fun v h' => v = none ∧ ∃ y, own_H Z h' (own_ST a (.ref y) (.int (0 : Int32)) :: os) ((y, .byte, "", []) :: (x, .char, "[C", []) :: as)) := by
  refine own_metW (by first | exact plainFor_of_name (by decide +kernel) | decide +kernel) ?_
  intro p_ e_ s_ m_ below_ meth_ c_ K hI
  replace hI : IB Z s_.vm [] := hI
  refine own_cast (own_initD0_ef m_ _ _ _ _) ?_
  refine own_aloadN K own_d0_0 rfl rfl ?_
  refine own_initO K own_d0_1 (own_w21 hw) (own_w22 hw) (own_w23 hw) rfl (by decide) (W := 0) (Nat.le_of_eq rfl) (by decide) ?_
  refine own_iloadN K own_d0_4 rfl ?_
  refine own_ifne K own_d0_5 (fun q => absurd q (by decide)) (fun _ => ?_)
  refine own_aloadN K own_d0_8 rfl rfl ?_
  refine own_ldcL K own_d0_9 (own_w24 hw) (own_sa hw) (fun vm q => own_IB (congrArg Vm.interned (show vm = s_.vm from q)) hI) (by decide) hL hcw (vs := []) ⟨by decide, by rfl⟩ (own_hP hw) H (nn := 0) (by decide) (by decide) (by decide) (by decide) ?_
  intro h1 a3 b4 H2
  replace H2 : own_H Z h1 (own_SR a3 (.int (0 : Int32)) (.ref b4) :: own_ST a .null (.int (0 : Int32)) :: os) ((b4, .byte, "", []) :: (x, .char, "[C", []) :: as) := H2
  refine own_getfield K own_d0_11 (host := "") (Or.inl (own_w30 hw)) Via.refl H2 (j := 0) rfl (q := 1) rfl ?_
  refine own_putfield K own_d0_14 (host := "") (Or.inl (own_w30 hw)) Via.refl H2 (j := 1) rfl (q := 0) rfl (Or.inr ⟨(own_w26 hw), rfl, rfl⟩) (own_w12 hw) (ty := (.array .byte)) (by decide +kernel) (rfl) (rfl) ?_
  intro h5 H6
  replace H6 : own_H Z h5 (own_SR a3 (.int (0 : Int32)) (.ref b4) :: own_ST a (.ref b4) (.int (0 : Int32)) :: os) ((b4, .byte, "", []) :: (x, .char, "[C", []) :: as) := H6
  refine own_aloadN K own_d0_17 rfl rfl ?_
  refine own_ldcA K own_d0_18 (own_w24 hw) (a := a3) (fun _ q => q.2) ?_
  refine own_getfield K own_d0_20 (host := "") (Or.inl (own_w31 hw)) Via.refl H6 (j := 0) rfl (q := 0) rfl ?_
  refine own_putfield K own_d0_23 (host := "") (Or.inl (own_w31 hw)) Via.refl H6 (j := 1) rfl (q := 1) rfl (Or.inr ⟨(own_w27 hw), rfl, rfl⟩) (own_w12 hw) (ty := .byte) (by decide +kernel) (rfl) (rfl) ?_
  intro h7 H8
  replace H8 : own_H Z h7 (own_SR a3 (.int (0 : Int32)) (.ref b4) :: own_ST a (.ref b4) (.int (0 : Int32)) :: os) ((b4, .byte, "", []) :: (x, .char, "[C", []) :: as) := H8
  refine own_weak (J' := fun vm => IB Z vm [""]) ?_ ?_
  · intro vm q; exact q.1
  exact own_retV K (fun _ q => q) own_d0_26 (by decide) (by decide) (⟨rfl, _, H8.tailO⟩)
set_option maxRecDepth 65536 in
set_option maxHeartbeats 40000000 in
theorem own_initS0_ef (m : MethodId) (x0 : Addr) (x1 : Addr) : entryFrame m #[(.ref x0), (.ref x1)] 2 = mkF m 0 #[.val (.ref x0), .val (.ref x1)] [] := by first | (simp [entryFrame, mkF, argsToLocals, Value.category]; done) | rfl
set_option maxRecDepth 65536 in
set_option maxHeartbeats 40000000 in
theorem own_initS0 {l : Launch} {Z : State} {a0 : Array Value} (hw : own_Z Z a0) {h : Heap} {os : List own_O} {as : List own_A} {a x : Addr} (hL : Jvm.Lit.constHeld Z "java/lang/String" 7) (hcw : Jvm.Lit.compactW.before a0 Z = true) (H : own_H Z h (own_ST a .null (.int (0 : Int32)) :: os) ((x, .char, "[C", []) :: as)) : own_Met (some ([], [""])) l Z (⟨"java/lang/String", "<init>", "([C)V"⟩ : MethodName) jdk_42_method_3_code 2 none [] ({ frames := 2, cells := 2, slots := 4, locals := 29 } : Room) #[(.ref a), (.ref x)] h (fun v h' => v = none ∧ ∃ y, own_H Z h' (own_ST a (.ref y) (.int (0 : Int32)) :: os) ((y, .byte, "", []) :: (x, .char, "[C", []) :: as)) := by
  refine own_metW (by first | exact plainFor_of_name (by decide +kernel) | decide +kernel) ?_
  intro p_ e_ s_ m_ below_ meth_ c_ K hI
  replace hI : IB Z s_.vm [] := hI
  refine own_cast (own_initS0_ef m_ _ _) ?_
  refine own_aloadN K own_d1_0 rfl rfl ?_
  refine own_aloadN K own_d1_1 rfl rfl ?_
  refine own_iconst K own_d1_2 (v := (0 : Int32)) rfl ?_
  refine own_aloadN K own_d1_3 rfl rfl ?_
  refine own_arraylength K own_d1_4 H (i := 0) rfl (N := (0 : Int32)) (rfl) ?_
  refine own_aconstNull K own_d1_5 ?_
  refine own_specialW K (fun vm q => own_IB (congrArg Vm.interned (show vm = s_.vm from q)) hI) own_d1_6 rfl (own_w17 hw) (own_w18 hw) (own_w13 hw) (own_w20 hw) (a := a) (argsL := [(.ref x), (.int (0 : Int32)), (.int (0 : Int32)), .null]) (rest := []) (own_initD0 hw hL hcw H) own_pd0 rfl rfl rfl (by decide) (W := 0) (Nat.le_of_eq rfl) (by decide) (by decide) (by decide) (by decide) ?_
  intro v3 h1 q2
  obtain ⟨rfl, y5, H4⟩ := q2
  replace H4 : own_H Z h1 (own_ST a (.ref y5) (.int (0 : Int32)) :: os) ((y5, .byte, "", []) :: (x, .char, "[C", []) :: as) := H4
  exact own_retV K (fun _ q => q) own_d1_9 (by decide) (by decide) (⟨rfl, _, H4⟩)
set_option maxRecDepth 65536 in
set_option maxHeartbeats 40000000 in
theorem own_cmpB1_ef (m : MethodId) (x0 : Addr) (x1 : Int32) (x2 : Addr) (x3 : Int32) (x4 : Int32) : entryFrame m #[(.ref x0), (.int x1), (.ref x2), (.int x3), (.int x4)] 7 = mkF m 0 #[.val (.ref x0), .val (.int x1), .val (.ref x2), .val (.int x3), .val (.int x4), .unset, .unset] [] := by first | (simp [entryFrame, mkF, argsToLocals, Value.category]; done) | rfl
set_option maxRecDepth 65536 in
set_option maxHeartbeats 40000000 in
theorem own_cmpB1 {l : Launch} {Z : State} {a0 : Array Value} (hw : own_Z Z a0) {h : Heap} {os : List own_O} {as : List own_A} {x y : Addr} {c0 : Int32} (H : own_H Z h os ((y, .byte, "[B", [(.int (0 : Int32))]) :: (x, .char, "[C", [(.int c0)]) :: as)) (l0 : 0 ≤ c0.toInt) (u0 : c0.toInt ≤ 255) : own_Met none l Z (⟨"java/lang/StringUTF16", "compress", "([CI[BII)I"⟩ : MethodName) jdk_52_method_21_code 7 (some .int) [] ({ frames := 0, cells := 0, slots := 0, locals := 0 } : Room) #[(.ref x), (.int (0 : Int32)), (.ref y), (.int (0 : Int32)), (.int (1 : Int32))] h (fun v h' => v = some (.int (1 : Int32)) ∧ own_H Z h' os ((y, .byte, "[B", [(.int (own_by c0))]) :: (x, .char, "[C", [(.int c0)]) :: as)) := by
  refine own_met (by first | exact plainFor_of_name (by decide +kernel) | decide +kernel) ?_
  intro p_ e_ s_ m_ below_ meth_ c_ K
  refine own_cast (own_cmpB1_ef m_ _ _ _ _ _) ?_
  refine own_iconst K own_d2_0 (v := (0 : Int32)) rfl ?_
  refine own_istore K own_d2_1 (Ls' := #[.val (.ref x), .val (.int (0 : Int32)), .val (.ref y), .val (.int (0 : Int32)), .val (.int (1 : Int32)), .val (.int (0 : Int32)), .unset]) rfl ?_
  refine own_iload K own_d2_3 rfl ?_
  refine own_iload K own_d2_5 rfl ?_
  refine own_icmpge K own_d2_7 (fun q => absurd q (by decide)) (fun _ => ?_)
  refine own_aloadN K own_d2_10 rfl rfl ?_
  refine own_iloadN K own_d2_11 rfl ?_
  refine own_caload K own_d2_12 H (i := 1) rfl (q := 0) (by decide) (rfl) ?_
  refine own_istore K own_d2_13 (Ls' := #[.val (.ref x), .val (.int (0 : Int32)), .val (.ref y), .val (.int (0 : Int32)), .val (.int (1 : Int32)), .val (.int (0 : Int32)), .val (.int c0)]) rfl ?_
  refine own_iload K own_d2_15 rfl ?_
  refine own_sipush K own_d2_17 (v := (255 : Int32)) rfl ?_
  refine own_icmple K own_d2_20 (fun _ => ?_) (fun q => absurd (own_le255 u0) q)
  refine own_aloadN K own_d2_26 rfl rfl ?_
  refine own_iloadN K own_d2_27 rfl ?_
  refine own_iload K own_d2_28 rfl ?_
  refine own_i2b K own_d2_30 ?_
  refine own_topI (x' := (own_by c0)) (rfl) ?_
  refine own_bastore K own_d2_31 H (i := 0) rfl (q := 0) (by decide) (own_le rfl) ?_
  intro h1 H2
  rw [own_nby] at H2
  replace H2 : own_H Z h1 (os) ((y, .byte, "[B", [(.int (own_by c0))]) :: (x, .char, "[C", [(.int c0)]) :: as) := H2
  refine own_iinc K own_d2_32 rfl (y := (1 : Int32)) (by decide) (Ls' := #[.val (.ref x), .val (.int (1 : Int32)), .val (.ref y), .val (.int (0 : Int32)), .val (.int (1 : Int32)), .val (.int (0 : Int32)), .val (.int c0)]) rfl ?_
  refine own_iinc K own_d2_35 rfl (y := (1 : Int32)) (by decide) (Ls' := #[.val (.ref x), .val (.int (1 : Int32)), .val (.ref y), .val (.int (1 : Int32)), .val (.int (1 : Int32)), .val (.int (0 : Int32)), .val (.int c0)]) rfl ?_
  refine own_iinc K own_d2_38 rfl (y := (1 : Int32)) (by decide) (Ls' := #[.val (.ref x), .val (.int (1 : Int32)), .val (.ref y), .val (.int (1 : Int32)), .val (.int (1 : Int32)), .val (.int (1 : Int32)), .val (.int c0)]) rfl ?_
  refine own_goto K own_d2_41 ?_
  refine own_iload K own_d2_3 rfl ?_
  refine own_iload K own_d2_5 rfl ?_
  refine own_icmpge K own_d2_7 (fun _ => ?_) (fun q => absurd (by decide) q)
  refine own_iload K own_d2_44 rfl ?_
  exact own_retI K (fun _ q => q) own_d2_46 (by decide) (by decide) (⟨rfl, H2⟩)
set_option maxRecDepth 65536 in
set_option maxHeartbeats 40000000 in
theorem own_cmpA1_ef (m : MethodId) (x0 : Addr) (x1 : Int32) (x2 : Int32) : entryFrame m #[(.ref x0), (.int x1), (.int x2)] 6 = mkF m 0 #[.val (.ref x0), .val (.int x1), .val (.int x2), .unset, .unset, .unset] [] := by first | (simp [entryFrame, mkF, argsToLocals, Value.category]; done) | rfl
set_option maxRecDepth 65536 in
set_option maxHeartbeats 40000000 in
theorem own_cmpA1 {l : Launch} {Z : State} {a0 : Array Value} (hw : own_Z Z a0) {h : Heap} {os : List own_O} {as : List own_A} {x : Addr} {c0 : Int32} (H : own_H Z h os ((x, .char, "[C", [(.int c0)]) :: as)) (l0 : 0 ≤ c0.toInt) (u0 : c0.toInt ≤ 255) : own_Met none l Z (⟨"java/lang/StringUTF16", "compress", "([CII)[B"⟩ : MethodName) jdk_52_method_16_code 6 (some (.array .byte)) [] ({ frames := 1, cells := 1, slots := 1, locals := 18 } : Room) #[(.ref x), (.int (0 : Int32)), (.int (1 : Int32))] h (fun v h' => ∃ y, v = some (.ref y) ∧ own_H Z h' os ((y, .byte, "[B", [(.int (own_by c0))]) :: (x, .char, "[C", [(.int c0)]) :: as)) := by
  refine own_met (by first | exact plainFor_of_name (by decide +kernel) | decide +kernel) ?_
  intro p_ e_ s_ m_ below_ meth_ c_ K
  refine own_cast (own_cmpA1_ef m_ _ _ _) ?_
  refine own_iloadN K own_d3_0 rfl ?_
  refine own_newarray K own_d3_1 (ty := .byte) rfl (own_w25 hw) H (q := 1) (by decide) (ad := "[B") (by decide +kernel) (vs := [(.int (0 : Int32))]) rfl (by decide) (by decide) (by decide) ?_
  intro h1 a3 H2
  replace H2 : own_H Z h1 (os) ((a3, .byte, "[B", [(.int (0 : Int32))]) :: (x, .char, "[C", [(.int c0)]) :: as) := H2
  refine own_astoreN K own_d3_3 rfl (Ls' := #[.val (.ref x), .val (.int (0 : Int32)), .val (.int (1 : Int32)), .val (.ref a3), .unset, .unset]) rfl ?_
  refine own_aloadN K own_d3_4 rfl rfl ?_
  refine own_iloadN K own_d3_5 rfl ?_
  refine own_aloadN K own_d3_6 rfl rfl ?_
  refine own_iconst K own_d3_7 (v := (0 : Int32)) rfl ?_
  refine own_iloadN K own_d3_8 rfl ?_
  refine own_static K own_d3_9 (own_w89 hw) (own_w90 hw) (own_w87 hw) (own_w91 hw) (argsL := [(.ref x), (.int (0 : Int32)), (.ref a3), (.int (0 : Int32)), (.int (1 : Int32))]) (rest := []) (own_cmpB1 hw H2 l0 u0) own_pd1 rfl rfl rfl (by decide) (W := 0) (Nat.le_of_eq rfl) (by decide) (by decide) (by decide) (by decide) ?_
  intro v6 h4 q5
  obtain ⟨rfl, H7⟩ := q5
  replace H7 : own_H Z h4 (os) ((a3, .byte, "[B", [(.int (own_by c0))]) :: (x, .char, "[C", [(.int c0)]) :: as) := H7
  refine own_istore K own_d3_12 (Ls' := #[.val (.ref x), .val (.int (0 : Int32)), .val (.int (1 : Int32)), .val (.ref a3), .val (.int (1 : Int32)), .unset]) rfl ?_
  refine own_iload K own_d3_14 rfl ?_
  refine own_iloadN K own_d3_16 rfl ?_
  refine own_icmpeq K own_d3_17 (fun _ => ?_) (fun q => absurd (by decide) q)
  refine own_aloadN K own_d3_57 rfl rfl ?_
  exact own_retA K (fun _ q => q) rfl rfl own_d3_58 (by decide) (by decide) (⟨_, rfl, H7⟩)
set_option maxRecDepth 65536 in
set_option maxHeartbeats 40000000 in
theorem own_cfa1_ef (m : MethodId) (x0 : Addr) (x1 : Int32) : entryFrame m #[(.ref x0), (.int x1)] 2 = mkF m 0 #[.val (.ref x0), .val (.int x1)] [] := by first | (simp [entryFrame, mkF, argsToLocals, Value.category]; done) | rfl
set_option maxRecDepth 65536 in
set_option maxHeartbeats 40000000 in
theorem own_cfa1 {l : Launch} {Z : State} {a0 : Array Value} (hw : own_Z Z a0) {h : Heap} {os : List own_O} {as : List own_A} {y : Addr} {c0 : Int32} (H : own_H Z h os ((y, .byte, "[B", [(.int (own_by c0))]) :: as)) : own_Met none l Z (⟨"java/lang/StringUTF16", "coderFromArrayLen", "([BI)B"⟩ : MethodName) jdk_52_method_15_code 2 (some .byte) [] ({ frames := 0, cells := 0, slots := 0, locals := 0 } : Room) #[(.ref y), (.int (1 : Int32))] h (fun v h' => v = some (.int (0 : Int32)) ∧ h = h') := by
  refine own_met (by first | exact plainFor_of_name (by decide +kernel) | decide +kernel) ?_
  intro p_ e_ s_ m_ below_ meth_ c_ K
  refine own_cast (own_cfa1_ef m_ _ _) ?_
  refine own_iloadN K own_d4_0 rfl ?_
  refine own_aloadN K own_d4_1 rfl rfl ?_
  refine own_arraylength K own_d4_2 H (i := 0) rfl (N := (1 : Int32)) (rfl) ?_
  refine own_isub K own_d4_3 ?_
  refine own_topI (x' := (0 : Int32)) (by decide) ?_
  refine own_bipush K own_d4_4 (v := (31 : Int32)) rfl ?_
  refine own_iushr K own_d4_6 ?_
  refine own_topI (x' := (0 : Int32)) (by decide) ?_
  refine own_i2b K own_d4_7 ?_
  refine own_topI (x' := (0 : Int32)) (by decide) ?_
  exact own_retBy K (fun _ q => q) (rfl) own_d4_8 (by decide) (by decide) (⟨rfl, rfl⟩)
set_option maxRecDepth 65536 in
set_option maxHeartbeats 40000000 in
theorem own_initD1_ef (m : MethodId) (x0 : Addr) (x1 : Addr) (x2 : Int32) (x3 : Int32) : entryFrame m #[(.ref x0), (.ref x1), (.int x2), (.int x3), .null] 6 = mkF m 0 #[.val (.ref x0), .val (.ref x1), .val (.int x2), .val (.int x3), .val .null, .unset] [] := by first | (simp [entryFrame, mkF, argsToLocals, Value.category]; done) | rfl
set_option maxRecDepth 65536 in
set_option maxHeartbeats 40000000 in
theorem own_initD1 {l : Launch} {Z : State} {a0 : Array Value} (hw : own_Z Z a0) {h : Heap} {os : List own_O} {as : List own_A} {a x : Addr} {cs : Int32} {c0 : Int32} (hC : cs ≠ 0 ∧ Sta Z Z.heap "java/lang/String" "COMPACT_STRINGS" "Z" (.int cs)) (H : own_H Z h (own_ST a .null (.int (0 : Int32)) :: os) ((x, .char, "[C", [(.int c0)]) :: as)) (l0 : 0 ≤ c0.toInt) (u0 : c0.toInt ≤ 255) : own_Met none l Z (⟨"java/lang/String", "<init>", "([CIILjava/lang/Void;)V"⟩ : MethodName) jdk_42_method_149_code 6 none [] ({ frames := 2, cells := 1, slots := 1, locals := 35 } : Room) #[(.ref a), (.ref x), (.int (0 : Int32)), (.int (1 : Int32)), .null] h (fun v h' => v = none ∧ ∃ y, own_H Z h' (own_ST a (.ref y) (.int (0 : Int32)) :: os) ((y, .byte, "[B", [(.int (own_by c0))]) :: (x, .char, "[C", [(.int c0)]) :: as)) := by
  refine own_met (by first | exact plainFor_of_name (by decide +kernel) | decide +kernel) ?_
  intro p_ e_ s_ m_ below_ meth_ c_ K
  refine own_cast (own_initD1_ef m_ _ _ _ _) ?_
  refine own_aloadN K own_d0_0 rfl rfl ?_
  refine own_initO K own_d0_1 (own_w21 hw) (own_w22 hw) (own_w23 hw) rfl (by decide) (W := 0) (Nat.le_of_eq rfl) (by decide) ?_
  refine own_iloadN K own_d0_4 rfl ?_
  refine own_ifne K own_d0_5 (fun _ => ?_) (fun q => absurd (by decide) q)
  refine own_getstatic K own_d0_27 (own_w64 hw) Via.refl (v := (.int cs)) (Sta.ext H.1 hC.2) ?_
  refine own_ifeq K own_d0_30 (fun q => absurd q (hC.1)) (fun _ => ?_)
  refine own_aloadN K own_d0_33 rfl rfl ?_
  refine own_iloadN K own_d0_34 rfl ?_
  refine own_iloadN K own_d0_35 rfl ?_
  refine own_static K own_d0_36 (own_w85 hw) (own_w86 hw) (own_w87 hw) (own_w88 hw) (argsL := [(.ref x), (.int (0 : Int32)), (.int (1 : Int32))]) (rest := []) (own_cmpA1 hw H l0 u0) own_pd2 rfl rfl rfl (by decide) (W := 0) (Nat.le_of_eq rfl) (by decide) (by decide) (by decide) (by decide) ?_
  intro v3 h1 q2
  obtain ⟨y5, rfl, H4⟩ := q2
  replace H4 : own_H Z h1 (own_ST a .null (.int (0 : Int32)) :: os) ((y5, .byte, "[B", [(.int (own_by c0))]) :: (x, .char, "[C", [(.int c0)]) :: as) := H4
  refine own_astore K own_d0_39 rfl (Ls' := #[.val (.ref a), .val (.ref x), .val (.int (0 : Int32)), .val (.int (1 : Int32)), .val .null, .val (.ref y5)]) rfl ?_
  refine own_aloadN K own_d0_41 rfl rfl ?_
  refine own_aload K own_d0_42 rfl rfl ?_
  refine own_iloadN K own_d0_44 rfl ?_
  refine own_static K own_d0_45 (own_w92 hw) (own_w93 hw) (own_w87 hw) (own_w94 hw) (argsL := [(.ref y5), (.int (1 : Int32))]) (rest := [(.ref a)]) (own_cfa1 hw H4) own_pd3 rfl rfl rfl (by decide) (W := 1) (Nat.le_of_eq rfl) (by decide) (by decide) (by decide) (by decide) ?_
  intro v8 h6 q7
  obtain ⟨rfl, rfl⟩ := q7
  refine own_putfield K own_d0_48 (host := "") (Or.inl (own_w31 hw)) Via.refl H4 (j := 0) rfl (q := 1) rfl (Or.inr ⟨(own_w27 hw), rfl, rfl⟩) (own_w12 hw) (ty := .byte) (by decide +kernel) (rfl) (rfl) ?_
  intro h9 H10
  replace H10 : own_H Z h9 (own_ST a .null (.int (0 : Int32)) :: os) ((y5, .byte, "[B", [(.int (own_by c0))]) :: (x, .char, "[C", [(.int c0)]) :: as) := H10
  refine own_aloadN K own_d0_51 rfl rfl ?_
  refine own_aload K own_d0_52 rfl rfl ?_
  refine own_putfield K own_d0_54 (host := "") (Or.inl (own_w30 hw)) Via.refl H10 (j := 0) rfl (q := 0) rfl (Or.inr ⟨(own_w26 hw), rfl, rfl⟩) (own_w12 hw) (ty := (.array .byte)) (by decide +kernel) (rfl) (rfl) ?_
  intro h11 H12
  replace H12 : own_H Z h11 (own_ST a (.ref y5) (.int (0 : Int32)) :: os) ((y5, .byte, "[B", [(.int (own_by c0))]) :: (x, .char, "[C", [(.int c0)]) :: as) := H12
  exact own_retV K (fun _ q => q) own_d0_57 (by decide) (by decide) (⟨rfl, _, H12⟩)
set_option maxRecDepth 65536 in
set_option maxHeartbeats 40000000 in
theorem own_initS1_ef (m : MethodId) (x0 : Addr) (x1 : Addr) : entryFrame m #[(.ref x0), (.ref x1)] 2 = mkF m 0 #[.val (.ref x0), .val (.ref x1)] [] := by first | (simp [entryFrame, mkF, argsToLocals, Value.category]; done) | rfl
set_option maxRecDepth 65536 in
set_option maxHeartbeats 40000000 in
theorem own_initS1 {l : Launch} {Z : State} {a0 : Array Value} (hw : own_Z Z a0) {h : Heap} {os : List own_O} {as : List own_A} {a x : Addr} {cs : Int32} {c0 : Int32} (hC : cs ≠ 0 ∧ Sta Z Z.heap "java/lang/String" "COMPACT_STRINGS" "Z" (.int cs)) (H : own_H Z h (own_ST a .null (.int (0 : Int32)) :: os) ((x, .char, "[C", [(.int c0)]) :: as)) (l0 : 0 ≤ c0.toInt) (u0 : c0.toInt ≤ 255) : own_Met none l Z (⟨"java/lang/String", "<init>", "([C)V"⟩ : MethodName) jdk_42_method_3_code 2 none [] ({ frames := 3, cells := 1, slots := 1, locals := 52 } : Room) #[(.ref a), (.ref x)] h (fun v h' => v = none ∧ ∃ y, own_H Z h' (own_ST a (.ref y) (.int (0 : Int32)) :: os) ((y, .byte, "[B", [(.int (own_by c0))]) :: (x, .char, "[C", [(.int c0)]) :: as)) := by
  refine own_met (by first | exact plainFor_of_name (by decide +kernel) | decide +kernel) ?_
  intro p_ e_ s_ m_ below_ meth_ c_ K
  refine own_cast (own_initS1_ef m_ _ _) ?_
  refine own_aloadN K own_d1_0 rfl rfl ?_
  refine own_aloadN K own_d1_1 rfl rfl ?_
  refine own_iconst K own_d1_2 (v := (0 : Int32)) rfl ?_
  refine own_aloadN K own_d1_3 rfl rfl ?_
  refine own_arraylength K own_d1_4 H (i := 0) rfl (N := (1 : Int32)) (rfl) ?_
  refine own_aconstNull K own_d1_5 ?_
  refine own_special K own_d1_6 rfl (own_w17 hw) (own_w18 hw) (own_w13 hw) (own_w20 hw) (a := a) (argsL := [(.ref x), (.int (0 : Int32)), (.int (1 : Int32)), .null]) (rest := []) (own_initD1 hw hC H l0 u0) own_pd0 rfl rfl rfl (by decide) (W := 0) (Nat.le_of_eq rfl) (by decide) (by decide) (by decide) (by decide) ?_
  intro v3 h1 q2
  obtain ⟨rfl, y5, H4⟩ := q2
  replace H4 : own_H Z h1 (own_ST a (.ref y5) (.int (0 : Int32)) :: os) ((y5, .byte, "[B", [(.int (own_by c0))]) :: (x, .char, "[C", [(.int c0)]) :: as) := H4
  exact own_retV K (fun _ q => q) own_d1_9 (by decide) (by decide) (⟨rfl, _, H4⟩)
set_option maxRecDepth 65536 in
set_option maxHeartbeats 40000000 in
theorem own_cmpB2_ef (m : MethodId) (x0 : Addr) (x1 : Int32) (x2 : Addr) (x3 : Int32) (x4 : Int32) : entryFrame m #[(.ref x0), (.int x1), (.ref x2), (.int x3), (.int x4)] 7 = mkF m 0 #[.val (.ref x0), .val (.int x1), .val (.ref x2), .val (.int x3), .val (.int x4), .unset, .unset] [] := by first | (simp [entryFrame, mkF, argsToLocals, Value.category]; done) | rfl
set_option maxRecDepth 65536 in
set_option maxHeartbeats 40000000 in
theorem own_cmpB2 {l : Launch} {Z : State} {a0 : Array Value} (hw : own_Z Z a0) {h : Heap} {os : List own_O} {as : List own_A} {x y : Addr} {c0 c1 : Int32} (H : own_H Z h os ((y, .byte, "[B", [(.int (0 : Int32)), (.int (0 : Int32))]) :: (x, .char, "[C", [(.int c0), (.int c1)]) :: as)) (l0 : 0 ≤ c0.toInt) (u0 : c0.toInt ≤ 255) (l1 : 0 ≤ c1.toInt) (u1 : c1.toInt ≤ 255) : own_Met none l Z (⟨"java/lang/StringUTF16", "compress", "([CI[BII)I"⟩ : MethodName) jdk_52_method_21_code 7 (some .int) [] ({ frames := 0, cells := 0, slots := 0, locals := 0 } : Room) #[(.ref x), (.int (0 : Int32)), (.ref y), (.int (0 : Int32)), (.int (2 : Int32))] h (fun v h' => v = some (.int (2 : Int32)) ∧ own_H Z h' os ((y, .byte, "[B", [(.int (own_by c0)), (.int (own_by c1))]) :: (x, .char, "[C", [(.int c0), (.int c1)]) :: as)) := by
  refine own_met (by first | exact plainFor_of_name (by decide +kernel) | decide +kernel) ?_
  intro p_ e_ s_ m_ below_ meth_ c_ K
  refine own_cast (own_cmpB2_ef m_ _ _ _ _ _) ?_
  refine own_iconst K own_d2_0 (v := (0 : Int32)) rfl ?_
  refine own_istore K own_d2_1 (Ls' := #[.val (.ref x), .val (.int (0 : Int32)), .val (.ref y), .val (.int (0 : Int32)), .val (.int (2 : Int32)), .val (.int (0 : Int32)), .unset]) rfl ?_
  refine own_iload K own_d2_3 rfl ?_
  refine own_iload K own_d2_5 rfl ?_
  refine own_icmpge K own_d2_7 (fun q => absurd q (by decide)) (fun _ => ?_)
  refine own_aloadN K own_d2_10 rfl rfl ?_
  refine own_iloadN K own_d2_11 rfl ?_
  refine own_caload K own_d2_12 H (i := 1) rfl (q := 0) (by decide) (rfl) ?_
  refine own_istore K own_d2_13 (Ls' := #[.val (.ref x), .val (.int (0 : Int32)), .val (.ref y), .val (.int (0 : Int32)), .val (.int (2 : Int32)), .val (.int (0 : Int32)), .val (.int c0)]) rfl ?_
  refine own_iload K own_d2_15 rfl ?_
  refine own_sipush K own_d2_17 (v := (255 : Int32)) rfl ?_
  refine own_icmple K own_d2_20 (fun _ => ?_) (fun q => absurd (own_le255 u0) q)
  refine own_aloadN K own_d2_26 rfl rfl ?_
  refine own_iloadN K own_d2_27 rfl ?_
  refine own_iload K own_d2_28 rfl ?_
  refine own_i2b K own_d2_30 ?_
  refine own_topI (x' := (own_by c0)) (rfl) ?_
  refine own_bastore K own_d2_31 H (i := 0) rfl (q := 0) (by decide) (own_le rfl) ?_
  intro h1 H2
  rw [own_nby] at H2
  replace H2 : own_H Z h1 (os) ((y, .byte, "[B", [(.int (own_by c0)), (.int (0 : Int32))]) :: (x, .char, "[C", [(.int c0), (.int c1)]) :: as) := H2
  refine own_iinc K own_d2_32 rfl (y := (1 : Int32)) (by decide) (Ls' := #[.val (.ref x), .val (.int (1 : Int32)), .val (.ref y), .val (.int (0 : Int32)), .val (.int (2 : Int32)), .val (.int (0 : Int32)), .val (.int c0)]) rfl ?_
  refine own_iinc K own_d2_35 rfl (y := (1 : Int32)) (by decide) (Ls' := #[.val (.ref x), .val (.int (1 : Int32)), .val (.ref y), .val (.int (1 : Int32)), .val (.int (2 : Int32)), .val (.int (0 : Int32)), .val (.int c0)]) rfl ?_
  refine own_iinc K own_d2_38 rfl (y := (1 : Int32)) (by decide) (Ls' := #[.val (.ref x), .val (.int (1 : Int32)), .val (.ref y), .val (.int (1 : Int32)), .val (.int (2 : Int32)), .val (.int (1 : Int32)), .val (.int c0)]) rfl ?_
  refine own_goto K own_d2_41 ?_
  refine own_iload K own_d2_3 rfl ?_
  refine own_iload K own_d2_5 rfl ?_
  refine own_icmpge K own_d2_7 (fun q => absurd q (by decide)) (fun _ => ?_)
  refine own_aloadN K own_d2_10 rfl rfl ?_
  refine own_iloadN K own_d2_11 rfl ?_
  refine own_caload K own_d2_12 H2 (i := 1) rfl (q := 1) (by decide) (rfl) ?_
  refine own_istore K own_d2_13 (Ls' := #[.val (.ref x), .val (.int (1 : Int32)), .val (.ref y), .val (.int (1 : Int32)), .val (.int (2 : Int32)), .val (.int (1 : Int32)), .val (.int c1)]) rfl ?_
  refine own_iload K own_d2_15 rfl ?_
  refine own_sipush K own_d2_17 (v := (255 : Int32)) rfl ?_
  refine own_icmple K own_d2_20 (fun _ => ?_) (fun q => absurd (own_le255 u1) q)
  refine own_aloadN K own_d2_26 rfl rfl ?_
  refine own_iloadN K own_d2_27 rfl ?_
  refine own_iload K own_d2_28 rfl ?_
  refine own_i2b K own_d2_30 ?_
  refine own_topI (x' := (own_by c1)) (rfl) ?_
  refine own_bastore K own_d2_31 H2 (i := 0) rfl (q := 1) (by decide) (own_le rfl) ?_
  intro h3 H4
  rw [own_nby] at H4
  replace H4 : own_H Z h3 (os) ((y, .byte, "[B", [(.int (own_by c0)), (.int (own_by c1))]) :: (x, .char, "[C", [(.int c0), (.int c1)]) :: as) := H4
  refine own_iinc K own_d2_32 rfl (y := (2 : Int32)) (by decide) (Ls' := #[.val (.ref x), .val (.int (2 : Int32)), .val (.ref y), .val (.int (1 : Int32)), .val (.int (2 : Int32)), .val (.int (1 : Int32)), .val (.int c1)]) rfl ?_
  refine own_iinc K own_d2_35 rfl (y := (2 : Int32)) (by decide) (Ls' := #[.val (.ref x), .val (.int (2 : Int32)), .val (.ref y), .val (.int (2 : Int32)), .val (.int (2 : Int32)), .val (.int (1 : Int32)), .val (.int c1)]) rfl ?_
  refine own_iinc K own_d2_38 rfl (y := (2 : Int32)) (by decide) (Ls' := #[.val (.ref x), .val (.int (2 : Int32)), .val (.ref y), .val (.int (2 : Int32)), .val (.int (2 : Int32)), .val (.int (2 : Int32)), .val (.int c1)]) rfl ?_
  refine own_goto K own_d2_41 ?_
  refine own_iload K own_d2_3 rfl ?_
  refine own_iload K own_d2_5 rfl ?_
  refine own_icmpge K own_d2_7 (fun _ => ?_) (fun q => absurd (by decide) q)
  refine own_iload K own_d2_44 rfl ?_
  exact own_retI K (fun _ q => q) own_d2_46 (by decide) (by decide) (⟨rfl, H4⟩)
set_option maxRecDepth 65536 in
set_option maxHeartbeats 40000000 in
theorem own_cmpA2_ef (m : MethodId) (x0 : Addr) (x1 : Int32) (x2 : Int32) : entryFrame m #[(.ref x0), (.int x1), (.int x2)] 6 = mkF m 0 #[.val (.ref x0), .val (.int x1), .val (.int x2), .unset, .unset, .unset] [] := by first | (simp [entryFrame, mkF, argsToLocals, Value.category]; done) | rfl
set_option maxRecDepth 65536 in
set_option maxHeartbeats 40000000 in
theorem own_cmpA2 {l : Launch} {Z : State} {a0 : Array Value} (hw : own_Z Z a0) {h : Heap} {os : List own_O} {as : List own_A} {x : Addr} {c0 c1 : Int32} (H : own_H Z h os ((x, .char, "[C", [(.int c0), (.int c1)]) :: as)) (l0 : 0 ≤ c0.toInt) (u0 : c0.toInt ≤ 255) (l1 : 0 ≤ c1.toInt) (u1 : c1.toInt ≤ 255) : own_Met none l Z (⟨"java/lang/StringUTF16", "compress", "([CII)[B"⟩ : MethodName) jdk_52_method_16_code 6 (some (.array .byte)) [] ({ frames := 1, cells := 1, slots := 2, locals := 18 } : Room) #[(.ref x), (.int (0 : Int32)), (.int (2 : Int32))] h (fun v h' => ∃ y, v = some (.ref y) ∧ own_H Z h' os ((y, .byte, "[B", [(.int (own_by c0)), (.int (own_by c1))]) :: (x, .char, "[C", [(.int c0), (.int c1)]) :: as)) := by
  refine own_met (by first | exact plainFor_of_name (by decide +kernel) | decide +kernel) ?_
  intro p_ e_ s_ m_ below_ meth_ c_ K
  refine own_cast (own_cmpA2_ef m_ _ _ _) ?_
  refine own_iloadN K own_d3_0 rfl ?_
  refine own_newarray K own_d3_1 (ty := .byte) rfl (own_w25 hw) H (q := 2) (by decide) (ad := "[B") (by decide +kernel) (vs := [(.int (0 : Int32)), (.int (0 : Int32))]) rfl (by decide) (by decide) (by decide) ?_
  intro h1 a3 H2
  replace H2 : own_H Z h1 (os) ((a3, .byte, "[B", [(.int (0 : Int32)), (.int (0 : Int32))]) :: (x, .char, "[C", [(.int c0), (.int c1)]) :: as) := H2
  refine own_astoreN K own_d3_3 rfl (Ls' := #[.val (.ref x), .val (.int (0 : Int32)), .val (.int (2 : Int32)), .val (.ref a3), .unset, .unset]) rfl ?_
  refine own_aloadN K own_d3_4 rfl rfl ?_
  refine own_iloadN K own_d3_5 rfl ?_
  refine own_aloadN K own_d3_6 rfl rfl ?_
  refine own_iconst K own_d3_7 (v := (0 : Int32)) rfl ?_
  refine own_iloadN K own_d3_8 rfl ?_
  refine own_static K own_d3_9 (own_w89 hw) (own_w90 hw) (own_w87 hw) (own_w91 hw) (argsL := [(.ref x), (.int (0 : Int32)), (.ref a3), (.int (0 : Int32)), (.int (2 : Int32))]) (rest := []) (own_cmpB2 hw H2 l0 u0 l1 u1) own_pd1 rfl rfl rfl (by decide) (W := 0) (Nat.le_of_eq rfl) (by decide) (by decide) (by decide) (by decide) ?_
  intro v6 h4 q5
  obtain ⟨rfl, H7⟩ := q5
  replace H7 : own_H Z h4 (os) ((a3, .byte, "[B", [(.int (own_by c0)), (.int (own_by c1))]) :: (x, .char, "[C", [(.int c0), (.int c1)]) :: as) := H7
  refine own_istore K own_d3_12 (Ls' := #[.val (.ref x), .val (.int (0 : Int32)), .val (.int (2 : Int32)), .val (.ref a3), .val (.int (2 : Int32)), .unset]) rfl ?_
  refine own_iload K own_d3_14 rfl ?_
  refine own_iloadN K own_d3_16 rfl ?_
  refine own_icmpeq K own_d3_17 (fun _ => ?_) (fun q => absurd (by decide) q)
  refine own_aloadN K own_d3_57 rfl rfl ?_
  exact own_retA K (fun _ q => q) rfl rfl own_d3_58 (by decide) (by decide) (⟨_, rfl, H7⟩)
set_option maxRecDepth 65536 in
set_option maxHeartbeats 40000000 in
theorem own_cfa2_ef (m : MethodId) (x0 : Addr) (x1 : Int32) : entryFrame m #[(.ref x0), (.int x1)] 2 = mkF m 0 #[.val (.ref x0), .val (.int x1)] [] := by first | (simp [entryFrame, mkF, argsToLocals, Value.category]; done) | rfl
set_option maxRecDepth 65536 in
set_option maxHeartbeats 40000000 in
theorem own_cfa2 {l : Launch} {Z : State} {a0 : Array Value} (hw : own_Z Z a0) {h : Heap} {os : List own_O} {as : List own_A} {y : Addr} {c0 c1 : Int32} (H : own_H Z h os ((y, .byte, "[B", [(.int (own_by c0)), (.int (own_by c1))]) :: as)) : own_Met none l Z (⟨"java/lang/StringUTF16", "coderFromArrayLen", "([BI)B"⟩ : MethodName) jdk_52_method_15_code 2 (some .byte) [] ({ frames := 0, cells := 0, slots := 0, locals := 0 } : Room) #[(.ref y), (.int (2 : Int32))] h (fun v h' => v = some (.int (0 : Int32)) ∧ h = h') := by
  refine own_met (by first | exact plainFor_of_name (by decide +kernel) | decide +kernel) ?_
  intro p_ e_ s_ m_ below_ meth_ c_ K
  refine own_cast (own_cfa2_ef m_ _ _) ?_
  refine own_iloadN K own_d4_0 rfl ?_
  refine own_aloadN K own_d4_1 rfl rfl ?_
  refine own_arraylength K own_d4_2 H (i := 0) rfl (N := (2 : Int32)) (rfl) ?_
  refine own_isub K own_d4_3 ?_
  refine own_topI (x' := (0 : Int32)) (by decide) ?_
  refine own_bipush K own_d4_4 (v := (31 : Int32)) rfl ?_
  refine own_iushr K own_d4_6 ?_
  refine own_topI (x' := (0 : Int32)) (by decide) ?_
  refine own_i2b K own_d4_7 ?_
  refine own_topI (x' := (0 : Int32)) (by decide) ?_
  exact own_retBy K (fun _ q => q) (rfl) own_d4_8 (by decide) (by decide) (⟨rfl, rfl⟩)
set_option maxRecDepth 65536 in
set_option maxHeartbeats 40000000 in
theorem own_initD2_ef (m : MethodId) (x0 : Addr) (x1 : Addr) (x2 : Int32) (x3 : Int32) : entryFrame m #[(.ref x0), (.ref x1), (.int x2), (.int x3), .null] 6 = mkF m 0 #[.val (.ref x0), .val (.ref x1), .val (.int x2), .val (.int x3), .val .null, .unset] [] := by first | (simp [entryFrame, mkF, argsToLocals, Value.category]; done) | rfl
set_option maxRecDepth 65536 in
set_option maxHeartbeats 40000000 in
theorem own_initD2 {l : Launch} {Z : State} {a0 : Array Value} (hw : own_Z Z a0) {h : Heap} {os : List own_O} {as : List own_A} {a x : Addr} {cs : Int32} {c0 c1 : Int32} (hC : cs ≠ 0 ∧ Sta Z Z.heap "java/lang/String" "COMPACT_STRINGS" "Z" (.int cs)) (H : own_H Z h (own_ST a .null (.int (0 : Int32)) :: os) ((x, .char, "[C", [(.int c0), (.int c1)]) :: as)) (l0 : 0 ≤ c0.toInt) (u0 : c0.toInt ≤ 255) (l1 : 0 ≤ c1.toInt) (u1 : c1.toInt ≤ 255) : own_Met none l Z (⟨"java/lang/String", "<init>", "([CIILjava/lang/Void;)V"⟩ : MethodName) jdk_42_method_149_code 6 none [] ({ frames := 2, cells := 1, slots := 2, locals := 35 } : Room) #[(.ref a), (.ref x), (.int (0 : Int32)), (.int (2 : Int32)), .null] h (fun v h' => v = none ∧ ∃ y, own_H Z h' (own_ST a (.ref y) (.int (0 : Int32)) :: os) ((y, .byte, "[B", [(.int (own_by c0)), (.int (own_by c1))]) :: (x, .char, "[C", [(.int c0), (.int c1)]) :: as)) := by
  refine own_met (by first | exact plainFor_of_name (by decide +kernel) | decide +kernel) ?_
  intro p_ e_ s_ m_ below_ meth_ c_ K
  refine own_cast (own_initD2_ef m_ _ _ _ _) ?_
  refine own_aloadN K own_d0_0 rfl rfl ?_
  refine own_initO K own_d0_1 (own_w21 hw) (own_w22 hw) (own_w23 hw) rfl (by decide) (W := 0) (Nat.le_of_eq rfl) (by decide) ?_
  refine own_iloadN K own_d0_4 rfl ?_
  refine own_ifne K own_d0_5 (fun _ => ?_) (fun q => absurd (by decide) q)
  refine own_getstatic K own_d0_27 (own_w64 hw) Via.refl (v := (.int cs)) (Sta.ext H.1 hC.2) ?_
  refine own_ifeq K own_d0_30 (fun q => absurd q (hC.1)) (fun _ => ?_)
  refine own_aloadN K own_d0_33 rfl rfl ?_
  refine own_iloadN K own_d0_34 rfl ?_
  refine own_iloadN K own_d0_35 rfl ?_
  refine own_static K own_d0_36 (own_w85 hw) (own_w86 hw) (own_w87 hw) (own_w88 hw) (argsL := [(.ref x), (.int (0 : Int32)), (.int (2 : Int32))]) (rest := []) (own_cmpA2 hw H l0 u0 l1 u1) own_pd2 rfl rfl rfl (by decide) (W := 0) (Nat.le_of_eq rfl) (by decide) (by decide) (by decide) (by decide) ?_
  intro v3 h1 q2
  obtain ⟨y5, rfl, H4⟩ := q2
  replace H4 : own_H Z h1 (own_ST a .null (.int (0 : Int32)) :: os) ((y5, .byte, "[B", [(.int (own_by c0)), (.int (own_by c1))]) :: (x, .char, "[C", [(.int c0), (.int c1)]) :: as) := H4
  refine own_astore K own_d0_39 rfl (Ls' := #[.val (.ref a), .val (.ref x), .val (.int (0 : Int32)), .val (.int (2 : Int32)), .val .null, .val (.ref y5)]) rfl ?_
  refine own_aloadN K own_d0_41 rfl rfl ?_
  refine own_aload K own_d0_42 rfl rfl ?_
  refine own_iloadN K own_d0_44 rfl ?_
  refine own_static K own_d0_45 (own_w92 hw) (own_w93 hw) (own_w87 hw) (own_w94 hw) (argsL := [(.ref y5), (.int (2 : Int32))]) (rest := [(.ref a)]) (own_cfa2 hw H4) own_pd3 rfl rfl rfl (by decide) (W := 1) (Nat.le_of_eq rfl) (by decide) (by decide) (by decide) (by decide) ?_
  intro v8 h6 q7
  obtain ⟨rfl, rfl⟩ := q7
  refine own_putfield K own_d0_48 (host := "") (Or.inl (own_w31 hw)) Via.refl H4 (j := 0) rfl (q := 1) rfl (Or.inr ⟨(own_w27 hw), rfl, rfl⟩) (own_w12 hw) (ty := .byte) (by decide +kernel) (rfl) (rfl) ?_
  intro h9 H10
  replace H10 : own_H Z h9 (own_ST a .null (.int (0 : Int32)) :: os) ((y5, .byte, "[B", [(.int (own_by c0)), (.int (own_by c1))]) :: (x, .char, "[C", [(.int c0), (.int c1)]) :: as) := H10
  refine own_aloadN K own_d0_51 rfl rfl ?_
  refine own_aload K own_d0_52 rfl rfl ?_
  refine own_putfield K own_d0_54 (host := "") (Or.inl (own_w30 hw)) Via.refl H10 (j := 0) rfl (q := 0) rfl (Or.inr ⟨(own_w26 hw), rfl, rfl⟩) (own_w12 hw) (ty := (.array .byte)) (by decide +kernel) (rfl) (rfl) ?_
  intro h11 H12
  replace H12 : own_H Z h11 (own_ST a (.ref y5) (.int (0 : Int32)) :: os) ((y5, .byte, "[B", [(.int (own_by c0)), (.int (own_by c1))]) :: (x, .char, "[C", [(.int c0), (.int c1)]) :: as) := H12
  exact own_retV K (fun _ q => q) own_d0_57 (by decide) (by decide) (⟨rfl, _, H12⟩)
set_option maxRecDepth 65536 in
set_option maxHeartbeats 40000000 in
theorem own_initS2_ef (m : MethodId) (x0 : Addr) (x1 : Addr) : entryFrame m #[(.ref x0), (.ref x1)] 2 = mkF m 0 #[.val (.ref x0), .val (.ref x1)] [] := by first | (simp [entryFrame, mkF, argsToLocals, Value.category]; done) | rfl
set_option maxRecDepth 65536 in
set_option maxHeartbeats 40000000 in
theorem own_initS2 {l : Launch} {Z : State} {a0 : Array Value} (hw : own_Z Z a0) {h : Heap} {os : List own_O} {as : List own_A} {a x : Addr} {cs : Int32} {c0 c1 : Int32} (hC : cs ≠ 0 ∧ Sta Z Z.heap "java/lang/String" "COMPACT_STRINGS" "Z" (.int cs)) (H : own_H Z h (own_ST a .null (.int (0 : Int32)) :: os) ((x, .char, "[C", [(.int c0), (.int c1)]) :: as)) (l0 : 0 ≤ c0.toInt) (u0 : c0.toInt ≤ 255) (l1 : 0 ≤ c1.toInt) (u1 : c1.toInt ≤ 255) : own_Met none l Z (⟨"java/lang/String", "<init>", "([C)V"⟩ : MethodName) jdk_42_method_3_code 2 none [] ({ frames := 3, cells := 1, slots := 2, locals := 52 } : Room) #[(.ref a), (.ref x)] h (fun v h' => v = none ∧ ∃ y, own_H Z h' (own_ST a (.ref y) (.int (0 : Int32)) :: os) ((y, .byte, "[B", [(.int (own_by c0)), (.int (own_by c1))]) :: (x, .char, "[C", [(.int c0), (.int c1)]) :: as)) := by
  refine own_met (by first | exact plainFor_of_name (by decide +kernel) | decide +kernel) ?_
  intro p_ e_ s_ m_ below_ meth_ c_ K
  refine own_cast (own_initS2_ef m_ _ _) ?_
  refine own_aloadN K own_d1_0 rfl rfl ?_
  refine own_aloadN K own_d1_1 rfl rfl ?_
  refine own_iconst K own_d1_2 (v := (0 : Int32)) rfl ?_
  refine own_aloadN K own_d1_3 rfl rfl ?_
  refine own_arraylength K own_d1_4 H (i := 0) rfl (N := (2 : Int32)) (rfl) ?_
  refine own_aconstNull K own_d1_5 ?_
  refine own_special K own_d1_6 rfl (own_w17 hw) (own_w18 hw) (own_w13 hw) (own_w20 hw) (a := a) (argsL := [(.ref x), (.int (0 : Int32)), (.int (2 : Int32)), .null]) (rest := []) (own_initD2 hw hC H l0 u0 l1 u1) own_pd0 rfl rfl rfl (by decide) (W := 0) (Nat.le_of_eq rfl) (by decide) (by decide) (by decide) (by decide) ?_
  intro v3 h1 q2
  obtain ⟨rfl, y5, H4⟩ := q2
  replace H4 : own_H Z h1 (own_ST a (.ref y5) (.int (0 : Int32)) :: os) ((y5, .byte, "[B", [(.int (own_by c0)), (.int (own_by c1))]) :: (x, .char, "[C", [(.int c0), (.int c1)]) :: as) := H4
  exact own_retV K (fun _ q => q) own_d1_9 (by decide) (by decide) (⟨rfl, _, H4⟩)
set_option maxRecDepth 65536 in
set_option maxHeartbeats 40000000 in
theorem own_cmpB3_ef (m : MethodId) (x0 : Addr) (x1 : Int32) (x2 : Addr) (x3 : Int32) (x4 : Int32) : entryFrame m #[(.ref x0), (.int x1), (.ref x2), (.int x3), (.int x4)] 7 = mkF m 0 #[.val (.ref x0), .val (.int x1), .val (.ref x2), .val (.int x3), .val (.int x4), .unset, .unset] [] := by first | (simp [entryFrame, mkF, argsToLocals, Value.category]; done) | rfl
set_option maxRecDepth 65536 in
set_option maxHeartbeats 40000000 in
theorem own_cmpB3 {l : Launch} {Z : State} {a0 : Array Value} (hw : own_Z Z a0) {h : Heap} {os : List own_O} {as : List own_A} {x y : Addr} {c0 c1 c2 : Int32} (H : own_H Z h os ((y, .byte, "[B", [(.int (0 : Int32)), (.int (0 : Int32)), (.int (0 : Int32))]) :: (x, .char, "[C", [(.int c0), (.int c1), (.int c2)]) :: as)) (l0 : 0 ≤ c0.toInt) (u0 : c0.toInt ≤ 255) (l1 : 0 ≤ c1.toInt) (u1 : c1.toInt ≤ 255) (l2 : 0 ≤ c2.toInt) (u2 : c2.toInt ≤ 255) : own_Met none l Z (⟨"java/lang/StringUTF16", "compress", "([CI[BII)I"⟩ : MethodName) jdk_52_method_21_code 7 (some .int) [] ({ frames := 0, cells := 0, slots := 0, locals := 0 } : Room) #[(.ref x), (.int (0 : Int32)), (.ref y), (.int (0 : Int32)), (.int (3 : Int32))] h (fun v h' => v = some (.int (3 : Int32)) ∧ own_H Z h' os ((y, .byte, "[B", [(.int (own_by c0)), (.int (own_by c1)), (.int (own_by c2))]) :: (x, .char, "[C", [(.int c0), (.int c1), (.int c2)]) :: as)) := by
  refine own_met (by first | exact plainFor_of_name (by decide +kernel) | decide +kernel) ?_
  intro p_ e_ s_ m_ below_ meth_ c_ K
  refine own_cast (own_cmpB3_ef m_ _ _ _ _ _) ?_
  refine own_iconst K own_d2_0 (v := (0 : Int32)) rfl ?_
  refine own_istore K own_d2_1 (Ls' := #[.val (.ref x), .val (.int (0 : Int32)), .val (.ref y), .val (.int (0 : Int32)), .val (.int (3 : Int32)), .val (.int (0 : Int32)), .unset]) rfl ?_
  refine own_iload K own_d2_3 rfl ?_
  refine own_iload K own_d2_5 rfl ?_
  refine own_icmpge K own_d2_7 (fun q => absurd q (by decide)) (fun _ => ?_)
  refine own_aloadN K own_d2_10 rfl rfl ?_
  refine own_iloadN K own_d2_11 rfl ?_
  refine own_caload K own_d2_12 H (i := 1) rfl (q := 0) (by decide) (rfl) ?_
  refine own_istore K own_d2_13 (Ls' := #[.val (.ref x), .val (.int (0 : Int32)), .val (.ref y), .val (.int (0 : Int32)), .val (.int (3 : Int32)), .val (.int (0 : Int32)), .val (.int c0)]) rfl ?_
  refine own_iload K own_d2_15 rfl ?_
  refine own_sipush K own_d2_17 (v := (255 : Int32)) rfl ?_
  refine own_icmple K own_d2_20 (fun _ => ?_) (fun q => absurd (own_le255 u0) q)
  refine own_aloadN K own_d2_26 rfl rfl ?_
  refine own_iloadN K own_d2_27 rfl ?_
  refine own_iload K own_d2_28 rfl ?_
  refine own_i2b K own_d2_30 ?_
  refine own_topI (x' := (own_by c0)) (rfl) ?_
  refine own_bastore K own_d2_31 H (i := 0) rfl (q := 0) (by decide) (own_le rfl) ?_
  intro h1 H2
  rw [own_nby] at H2
  replace H2 : own_H Z h1 (os) ((y, .byte, "[B", [(.int (own_by c0)), (.int (0 : Int32)), (.int (0 : Int32))]) :: (x, .char, "[C", [(.int c0), (.int c1), (.int c2)]) :: as) := H2
  refine own_iinc K own_d2_32 rfl (y := (1 : Int32)) (by decide) (Ls' := #[.val (.ref x), .val (.int (1 : Int32)), .val (.ref y), .val (.int (0 : Int32)), .val (.int (3 : Int32)), .val (.int (0 : Int32)), .val (.int c0)]) rfl ?_
  refine own_iinc K own_d2_35 rfl (y := (1 : Int32)) (by decide) (Ls' := #[.val (.ref x), .val (.int (1 : Int32)), .val (.ref y), .val (.int (1 : Int32)), .val (.int (3 : Int32)), .val (.int (0 : Int32)), .val (.int c0)]) rfl ?_
  refine own_iinc K own_d2_38 rfl (y := (1 : Int32)) (by decide) (Ls' := #[.val (.ref x), .val (.int (1 : Int32)), .val (.ref y), .val (.int (1 : Int32)), .val (.int (3 : Int32)), .val (.int (1 : Int32)), .val (.int c0)]) rfl ?_
  refine own_goto K own_d2_41 ?_
  refine own_iload K own_d2_3 rfl ?_
  refine own_iload K own_d2_5 rfl ?_
  refine own_icmpge K own_d2_7 (fun q => absurd q (by decide)) (fun _ => ?_)
  refine own_aloadN K own_d2_10 rfl rfl ?_
  refine own_iloadN K own_d2_11 rfl ?_
  refine own_caload K own_d2_12 H2 (i := 1) rfl (q := 1) (by decide) (rfl) ?_
  refine own_istore K own_d2_13 (Ls' := #[.val (.ref x), .val (.int (1 : Int32)), .val (.ref y), .val (.int (1 : Int32)), .val (.int (3 : Int32)), .val (.int (1 : Int32)), .val (.int c1)]) rfl ?_
  refine own_iload K own_d2_15 rfl ?_
  refine own_sipush K own_d2_17 (v := (255 : Int32)) rfl ?_
  refine own_icmple K own_d2_20 (fun _ => ?_) (fun q => absurd (own_le255 u1) q)
  refine own_aloadN K own_d2_26 rfl rfl ?_
  refine own_iloadN K own_d2_27 rfl ?_
  refine own_iload K own_d2_28 rfl ?_
  refine own_i2b K own_d2_30 ?_
  refine own_topI (x' := (own_by c1)) (rfl) ?_
  refine own_bastore K own_d2_31 H2 (i := 0) rfl (q := 1) (by decide) (own_le rfl) ?_
  intro h3 H4
  rw [own_nby] at H4
  replace H4 : own_H Z h3 (os) ((y, .byte, "[B", [(.int (own_by c0)), (.int (own_by c1)), (.int (0 : Int32))]) :: (x, .char, "[C", [(.int c0), (.int c1), (.int c2)]) :: as) := H4
  refine own_iinc K own_d2_32 rfl (y := (2 : Int32)) (by decide) (Ls' := #[.val (.ref x), .val (.int (2 : Int32)), .val (.ref y), .val (.int (1 : Int32)), .val (.int (3 : Int32)), .val (.int (1 : Int32)), .val (.int c1)]) rfl ?_
  refine own_iinc K own_d2_35 rfl (y := (2 : Int32)) (by decide) (Ls' := #[.val (.ref x), .val (.int (2 : Int32)), .val (.ref y), .val (.int (2 : Int32)), .val (.int (3 : Int32)), .val (.int (1 : Int32)), .val (.int c1)]) rfl ?_
  refine own_iinc K own_d2_38 rfl (y := (2 : Int32)) (by decide) (Ls' := #[.val (.ref x), .val (.int (2 : Int32)), .val (.ref y), .val (.int (2 : Int32)), .val (.int (3 : Int32)), .val (.int (2 : Int32)), .val (.int c1)]) rfl ?_
  refine own_goto K own_d2_41 ?_
  refine own_iload K own_d2_3 rfl ?_
  refine own_iload K own_d2_5 rfl ?_
  refine own_icmpge K own_d2_7 (fun q => absurd q (by decide)) (fun _ => ?_)
  refine own_aloadN K own_d2_10 rfl rfl ?_
  refine own_iloadN K own_d2_11 rfl ?_
  refine own_caload K own_d2_12 H4 (i := 1) rfl (q := 2) (by decide) (rfl) ?_
  refine own_istore K own_d2_13 (Ls' := #[.val (.ref x), .val (.int (2 : Int32)), .val (.ref y), .val (.int (2 : Int32)), .val (.int (3 : Int32)), .val (.int (2 : Int32)), .val (.int c2)]) rfl ?_
  refine own_iload K own_d2_15 rfl ?_
  refine own_sipush K own_d2_17 (v := (255 : Int32)) rfl ?_
  refine own_icmple K own_d2_20 (fun _ => ?_) (fun q => absurd (own_le255 u2) q)
  refine own_aloadN K own_d2_26 rfl rfl ?_
  refine own_iloadN K own_d2_27 rfl ?_
  refine own_iload K own_d2_28 rfl ?_
  refine own_i2b K own_d2_30 ?_
  refine own_topI (x' := (own_by c2)) (rfl) ?_
  refine own_bastore K own_d2_31 H4 (i := 0) rfl (q := 2) (by decide) (own_le rfl) ?_
  intro h5 H6
  rw [own_nby] at H6
  replace H6 : own_H Z h5 (os) ((y, .byte, "[B", [(.int (own_by c0)), (.int (own_by c1)), (.int (own_by c2))]) :: (x, .char, "[C", [(.int c0), (.int c1), (.int c2)]) :: as) := H6
  refine own_iinc K own_d2_32 rfl (y := (3 : Int32)) (by decide) (Ls' := #[.val (.ref x), .val (.int (3 : Int32)), .val (.ref y), .val (.int (2 : Int32)), .val (.int (3 : Int32)), .val (.int (2 : Int32)), .val (.int c2)]) rfl ?_
  refine own_iinc K own_d2_35 rfl (y := (3 : Int32)) (by decide) (Ls' := #[.val (.ref x), .val (.int (3 : Int32)), .val (.ref y), .val (.int (3 : Int32)), .val (.int (3 : Int32)), .val (.int (2 : Int32)), .val (.int c2)]) rfl ?_
  refine own_iinc K own_d2_38 rfl (y := (3 : Int32)) (by decide) (Ls' := #[.val (.ref x), .val (.int (3 : Int32)), .val (.ref y), .val (.int (3 : Int32)), .val (.int (3 : Int32)), .val (.int (3 : Int32)), .val (.int c2)]) rfl ?_
  refine own_goto K own_d2_41 ?_
  refine own_iload K own_d2_3 rfl ?_
  refine own_iload K own_d2_5 rfl ?_
  refine own_icmpge K own_d2_7 (fun _ => ?_) (fun q => absurd (by decide) q)
  refine own_iload K own_d2_44 rfl ?_
  exact own_retI K (fun _ q => q) own_d2_46 (by decide) (by decide) (⟨rfl, H6⟩)
set_option maxRecDepth 65536 in
set_option maxHeartbeats 40000000 in
theorem own_cmpA3_ef (m : MethodId) (x0 : Addr) (x1 : Int32) (x2 : Int32) : entryFrame m #[(.ref x0), (.int x1), (.int x2)] 6 = mkF m 0 #[.val (.ref x0), .val (.int x1), .val (.int x2), .unset, .unset, .unset] [] := by first | (simp [entryFrame, mkF, argsToLocals, Value.category]; done) | rfl
set_option maxRecDepth 65536 in
set_option maxHeartbeats 40000000 in
theorem own_cmpA3 {l : Launch} {Z : State} {a0 : Array Value} (hw : own_Z Z a0) {h : Heap} {os : List own_O} {as : List own_A} {x : Addr} {c0 c1 c2 : Int32} (H : own_H Z h os ((x, .char, "[C", [(.int c0), (.int c1), (.int c2)]) :: as)) (l0 : 0 ≤ c0.toInt) (u0 : c0.toInt ≤ 255) (l1 : 0 ≤ c1.toInt) (u1 : c1.toInt ≤ 255) (l2 : 0 ≤ c2.toInt) (u2 : c2.toInt ≤ 255) : own_Met none l Z (⟨"java/lang/StringUTF16", "compress", "([CII)[B"⟩ : MethodName) jdk_52_method_16_code 6 (some (.array .byte)) [] ({ frames := 1, cells := 1, slots := 3, locals := 18 } : Room) #[(.ref x), (.int (0 : Int32)), (.int (3 : Int32))] h (fun v h' => ∃ y, v = some (.ref y) ∧ own_H Z h' os ((y, .byte, "[B", [(.int (own_by c0)), (.int (own_by c1)), (.int (own_by c2))]) :: (x, .char, "[C", [(.int c0), (.int c1), (.int c2)]) :: as)) := by
  refine own_met (by first | exact plainFor_of_name (by decide +kernel) | decide +kernel) ?_
  intro p_ e_ s_ m_ below_ meth_ c_ K
  refine own_cast (own_cmpA3_ef m_ _ _ _) ?_
  refine own_iloadN K own_d3_0 rfl ?_
  refine own_newarray K own_d3_1 (ty := .byte) rfl (own_w25 hw) H (q := 3) (by decide) (ad := "[B") (by decide +kernel) (vs := [(.int (0 : Int32)), (.int (0 : Int32)), (.int (0 : Int32))]) rfl (by decide) (by decide) (by decide) ?_
  intro h1 a3 H2
  replace H2 : own_H Z h1 (os) ((a3, .byte, "[B", [(.int (0 : Int32)), (.int (0 : Int32)), (.int (0 : Int32))]) :: (x, .char, "[C", [(.int c0), (.int c1), (.int c2)]) :: as) := H2
  refine own_astoreN K own_d3_3 rfl (Ls' := #[.val (.ref x), .val (.int (0 : Int32)), .val (.int (3 : Int32)), .val (.ref a3), .unset, .unset]) rfl ?_
  refine own_aloadN K own_d3_4 rfl rfl ?_
  refine own_iloadN K own_d3_5 rfl ?_
  refine own_aloadN K own_d3_6 rfl rfl ?_
  refine own_iconst K own_d3_7 (v := (0 : Int32)) rfl ?_
  refine own_iloadN K own_d3_8 rfl ?_
  refine own_static K own_d3_9 (own_w89 hw) (own_w90 hw) (own_w87 hw) (own_w91 hw) (argsL := [(.ref x), (.int (0 : Int32)), (.ref a3), (.int (0 : Int32)), (.int (3 : Int32))]) (rest := []) (own_cmpB3 hw H2 l0 u0 l1 u1 l2 u2) own_pd1 rfl rfl rfl (by decide) (W := 0) (Nat.le_of_eq rfl) (by decide) (by decide) (by decide) (by decide) ?_
  intro v6 h4 q5
  obtain ⟨rfl, H7⟩ := q5
  replace H7 : own_H Z h4 (os) ((a3, .byte, "[B", [(.int (own_by c0)), (.int (own_by c1)), (.int (own_by c2))]) :: (x, .char, "[C", [(.int c0), (.int c1), (.int c2)]) :: as) := H7
  refine own_istore K own_d3_12 (Ls' := #[.val (.ref x), .val (.int (0 : Int32)), .val (.int (3 : Int32)), .val (.ref a3), .val (.int (3 : Int32)), .unset]) rfl ?_
  refine own_iload K own_d3_14 rfl ?_
  refine own_iloadN K own_d3_16 rfl ?_
  refine own_icmpeq K own_d3_17 (fun _ => ?_) (fun q => absurd (by decide) q)
  refine own_aloadN K own_d3_57 rfl rfl ?_
  exact own_retA K (fun _ q => q) rfl rfl own_d3_58 (by decide) (by decide) (⟨_, rfl, H7⟩)
set_option maxRecDepth 65536 in
set_option maxHeartbeats 40000000 in
theorem own_cfa3_ef (m : MethodId) (x0 : Addr) (x1 : Int32) : entryFrame m #[(.ref x0), (.int x1)] 2 = mkF m 0 #[.val (.ref x0), .val (.int x1)] [] := by first | (simp [entryFrame, mkF, argsToLocals, Value.category]; done) | rfl
set_option maxRecDepth 65536 in
set_option maxHeartbeats 40000000 in
theorem own_cfa3 {l : Launch} {Z : State} {a0 : Array Value} (hw : own_Z Z a0) {h : Heap} {os : List own_O} {as : List own_A} {y : Addr} {c0 c1 c2 : Int32} (H : own_H Z h os ((y, .byte, "[B", [(.int (own_by c0)), (.int (own_by c1)), (.int (own_by c2))]) :: as)) : own_Met none l Z (⟨"java/lang/StringUTF16", "coderFromArrayLen", "([BI)B"⟩ : MethodName) jdk_52_method_15_code 2 (some .byte) [] ({ frames := 0, cells := 0, slots := 0, locals := 0 } : Room) #[(.ref y), (.int (3 : Int32))] h (fun v h' => v = some (.int (0 : Int32)) ∧ h = h') := by
  refine own_met (by first | exact plainFor_of_name (by decide +kernel) | decide +kernel) ?_
  intro p_ e_ s_ m_ below_ meth_ c_ K
  refine own_cast (own_cfa3_ef m_ _ _) ?_
  refine own_iloadN K own_d4_0 rfl ?_
  refine own_aloadN K own_d4_1 rfl rfl ?_
  refine own_arraylength K own_d4_2 H (i := 0) rfl (N := (3 : Int32)) (rfl) ?_
  refine own_isub K own_d4_3 ?_
  refine own_topI (x' := (0 : Int32)) (by decide) ?_
  refine own_bipush K own_d4_4 (v := (31 : Int32)) rfl ?_
  refine own_iushr K own_d4_6 ?_
  refine own_topI (x' := (0 : Int32)) (by decide) ?_
  refine own_i2b K own_d4_7 ?_
  refine own_topI (x' := (0 : Int32)) (by decide) ?_
  exact own_retBy K (fun _ q => q) (rfl) own_d4_8 (by decide) (by decide) (⟨rfl, rfl⟩)
set_option maxRecDepth 65536 in
set_option maxHeartbeats 40000000 in
theorem own_initD3_ef (m : MethodId) (x0 : Addr) (x1 : Addr) (x2 : Int32) (x3 : Int32) : entryFrame m #[(.ref x0), (.ref x1), (.int x2), (.int x3), .null] 6 = mkF m 0 #[.val (.ref x0), .val (.ref x1), .val (.int x2), .val (.int x3), .val .null, .unset] [] := by first | (simp [entryFrame, mkF, argsToLocals, Value.category]; done) | rfl
set_option maxRecDepth 65536 in
set_option maxHeartbeats 40000000 in
theorem own_initD3 {l : Launch} {Z : State} {a0 : Array Value} (hw : own_Z Z a0) {h : Heap} {os : List own_O} {as : List own_A} {a x : Addr} {cs : Int32} {c0 c1 c2 : Int32} (hC : cs ≠ 0 ∧ Sta Z Z.heap "java/lang/String" "COMPACT_STRINGS" "Z" (.int cs)) (H : own_H Z h (own_ST a .null (.int (0 : Int32)) :: os) ((x, .char, "[C", [(.int c0), (.int c1), (.int c2)]) :: as)) (l0 : 0 ≤ c0.toInt) (u0 : c0.toInt ≤ 255) (l1 : 0 ≤ c1.toInt) (u1 : c1.toInt ≤ 255) (l2 : 0 ≤ c2.toInt) (u2 : c2.toInt ≤ 255) : own_Met none l Z (⟨"java/lang/String", "<init>", "([CIILjava/lang/Void;)V"⟩ : MethodName) jdk_42_method_149_code 6 none [] ({ frames := 2, cells := 1, slots := 3, locals := 35 } : Room) #[(.ref a), (.ref x), (.int (0 : Int32)), (.int (3 : Int32)), .null] h (fun v h' => v = none ∧ ∃ y, own_H Z h' (own_ST a (.ref y) (.int (0 : Int32)) :: os) ((y, .byte, "[B", [(.int (own_by c0)), (.int (own_by c1)), (.int (own_by c2))]) :: (x, .char, "[C", [(.int c0), (.int c1), (.int c2)]) :: as)) := by
  refine own_met (by first | exact plainFor_of_name (by decide +kernel) | decide +kernel) ?_
  intro p_ e_ s_ m_ below_ meth_ c_ K
  refine own_cast (own_initD3_ef m_ _ _ _ _) ?_
  refine own_aloadN K own_d0_0 rfl rfl ?_
  refine own_initO K own_d0_1 (own_w21 hw) (own_w22 hw) (own_w23 hw) rfl (by decide) (W := 0) (Nat.le_of_eq rfl) (by decide) ?_
  refine own_iloadN K own_d0_4 rfl ?_
  refine own_ifne K own_d0_5 (fun _ => ?_) (fun q => absurd (by decide) q)
  refine own_getstatic K own_d0_27 (own_w64 hw) Via.refl (v := (.int cs)) (Sta.ext H.1 hC.2) ?_
  refine own_ifeq K own_d0_30 (fun q => absurd q (hC.1)) (fun _ => ?_)
  refine own_aloadN K own_d0_33 rfl rfl ?_
  refine own_iloadN K own_d0_34 rfl ?_
  refine own_iloadN K own_d0_35 rfl ?_
  refine own_static K own_d0_36 (own_w85 hw) (own_w86 hw) (own_w87 hw) (own_w88 hw) (argsL := [(.ref x), (.int (0 : Int32)), (.int (3 : Int32))]) (rest := []) (own_cmpA3 hw H l0 u0 l1 u1 l2 u2) own_pd2 rfl rfl rfl (by decide) (W := 0) (Nat.le_of_eq rfl) (by decide) (by decide) (by decide) (by decide) ?_
  intro v3 h1 q2
  obtain ⟨y5, rfl, H4⟩ := q2
  replace H4 : own_H Z h1 (own_ST a .null (.int (0 : Int32)) :: os) ((y5, .byte, "[B", [(.int (own_by c0)), (.int (own_by c1)), (.int (own_by c2))]) :: (x, .char, "[C", [(.int c0), (.int c1), (.int c2)]) :: as) := H4
  refine own_astore K own_d0_39 rfl (Ls' := #[.val (.ref a), .val (.ref x), .val (.int (0 : Int32)), .val (.int (3 : Int32)), .val .null, .val (.ref y5)]) rfl ?_
  refine own_aloadN K own_d0_41 rfl rfl ?_
  refine own_aload K own_d0_42 rfl rfl ?_
  refine own_iloadN K own_d0_44 rfl ?_
  refine own_static K own_d0_45 (own_w92 hw) (own_w93 hw) (own_w87 hw) (own_w94 hw) (argsL := [(.ref y5), (.int (3 : Int32))]) (rest := [(.ref a)]) (own_cfa3 hw H4) own_pd3 rfl rfl rfl (by decide) (W := 1) (Nat.le_of_eq rfl) (by decide) (by decide) (by decide) (by decide) ?_
  intro v8 h6 q7
  obtain ⟨rfl, rfl⟩ := q7
  refine own_putfield K own_d0_48 (host := "") (Or.inl (own_w31 hw)) Via.refl H4 (j := 0) rfl (q := 1) rfl (Or.inr ⟨(own_w27 hw), rfl, rfl⟩) (own_w12 hw) (ty := .byte) (by decide +kernel) (rfl) (rfl) ?_
  intro h9 H10
  replace H10 : own_H Z h9 (own_ST a .null (.int (0 : Int32)) :: os) ((y5, .byte, "[B", [(.int (own_by c0)), (.int (own_by c1)), (.int (own_by c2))]) :: (x, .char, "[C", [(.int c0), (.int c1), (.int c2)]) :: as) := H10
  refine own_aloadN K own_d0_51 rfl rfl ?_
  refine own_aload K own_d0_52 rfl rfl ?_
  refine own_putfield K own_d0_54 (host := "") (Or.inl (own_w30 hw)) Via.refl H10 (j := 0) rfl (q := 0) rfl (Or.inr ⟨(own_w26 hw), rfl, rfl⟩) (own_w12 hw) (ty := (.array .byte)) (by decide +kernel) (rfl) (rfl) ?_
  intro h11 H12
  replace H12 : own_H Z h11 (own_ST a (.ref y5) (.int (0 : Int32)) :: os) ((y5, .byte, "[B", [(.int (own_by c0)), (.int (own_by c1)), (.int (own_by c2))]) :: (x, .char, "[C", [(.int c0), (.int c1), (.int c2)]) :: as) := H12
  exact own_retV K (fun _ q => q) own_d0_57 (by decide) (by decide) (⟨rfl, _, H12⟩)
set_option maxRecDepth 65536 in
set_option maxHeartbeats 40000000 in
theorem own_initS3_ef (m : MethodId) (x0 : Addr) (x1 : Addr) : entryFrame m #[(.ref x0), (.ref x1)] 2 = mkF m 0 #[.val (.ref x0), .val (.ref x1)] [] := by first | (simp [entryFrame, mkF, argsToLocals, Value.category]; done) | rfl
set_option maxRecDepth 65536 in
set_option maxHeartbeats 40000000 in
theorem own_initS3 {l : Launch} {Z : State} {a0 : Array Value} (hw : own_Z Z a0) {h : Heap} {os : List own_O} {as : List own_A} {a x : Addr} {cs : Int32} {c0 c1 c2 : Int32} (hC : cs ≠ 0 ∧ Sta Z Z.heap "java/lang/String" "COMPACT_STRINGS" "Z" (.int cs)) (H : own_H Z h (own_ST a .null (.int (0 : Int32)) :: os) ((x, .char, "[C", [(.int c0), (.int c1), (.int c2)]) :: as)) (l0 : 0 ≤ c0.toInt) (u0 : c0.toInt ≤ 255) (l1 : 0 ≤ c1.toInt) (u1 : c1.toInt ≤ 255) (l2 : 0 ≤ c2.toInt) (u2 : c2.toInt ≤ 255) : own_Met none l Z (⟨"java/lang/String", "<init>", "([C)V"⟩ : MethodName) jdk_42_method_3_code 2 none [] ({ frames := 3, cells := 1, slots := 3, locals := 52 } : Room) #[(.ref a), (.ref x)] h (fun v h' => v = none ∧ ∃ y, own_H Z h' (own_ST a (.ref y) (.int (0 : Int32)) :: os) ((y, .byte, "[B", [(.int (own_by c0)), (.int (own_by c1)), (.int (own_by c2))]) :: (x, .char, "[C", [(.int c0), (.int c1), (.int c2)]) :: as)) := by
  refine own_met (by first | exact plainFor_of_name (by decide +kernel) | decide +kernel) ?_
  intro p_ e_ s_ m_ below_ meth_ c_ K
  refine own_cast (own_initS3_ef m_ _ _) ?_
  refine own_aloadN K own_d1_0 rfl rfl ?_
  refine own_aloadN K own_d1_1 rfl rfl ?_
  refine own_iconst K own_d1_2 (v := (0 : Int32)) rfl ?_
  refine own_aloadN K own_d1_3 rfl rfl ?_
  refine own_arraylength K own_d1_4 H (i := 0) rfl (N := (3 : Int32)) (rfl) ?_
  refine own_aconstNull K own_d1_5 ?_
  refine own_special K own_d1_6 rfl (own_w17 hw) (own_w18 hw) (own_w13 hw) (own_w20 hw) (a := a) (argsL := [(.ref x), (.int (0 : Int32)), (.int (3 : Int32)), .null]) (rest := []) (own_initD3 hw hC H l0 u0 l1 u1 l2 u2) own_pd0 rfl rfl rfl (by decide) (W := 0) (Nat.le_of_eq rfl) (by decide) (by decide) (by decide) (by decide) ?_
  intro v3 h1 q2
  obtain ⟨rfl, y5, H4⟩ := q2
  replace H4 : own_H Z h1 (own_ST a (.ref y5) (.int (0 : Int32)) :: os) ((y5, .byte, "[B", [(.int (own_by c0)), (.int (own_by c1)), (.int (own_by c2))]) :: (x, .char, "[C", [(.int c0), (.int c1), (.int c2)]) :: as) := H4
  exact own_retV K (fun _ q => q) own_d1_9 (by decide) (by decide) (⟨rfl, _, H4⟩)
set_option maxRecDepth 65536 in
set_option maxHeartbeats 40000000 in
theorem own_cmpB4_ef (m : MethodId) (x0 : Addr) (x1 : Int32) (x2 : Addr) (x3 : Int32) (x4 : Int32) : entryFrame m #[(.ref x0), (.int x1), (.ref x2), (.int x3), (.int x4)] 7 = mkF m 0 #[.val (.ref x0), .val (.int x1), .val (.ref x2), .val (.int x3), .val (.int x4), .unset, .unset] [] := by first | (simp [entryFrame, mkF, argsToLocals, Value.category]; done) | rfl
set_option maxRecDepth 65536 in
set_option maxHeartbeats 40000000 in
theorem own_cmpB4 {l : Launch} {Z : State} {a0 : Array Value} (hw : own_Z Z a0) {h : Heap} {os : List own_O} {as : List own_A} {x y : Addr} {c0 c1 c2 c3 : Int32} (H : own_H Z h os ((y, .byte, "[B", [(.int (0 : Int32)), (.int (0 : Int32)), (.int (0 : Int32)), (.int (0 : Int32))]) :: (x, .char, "[C", [(.int c0), (.int c1), (.int c2), (.int c3)]) :: as)) (l0 : 0 ≤ c0.toInt) (u0 : c0.toInt ≤ 255) (l1 : 0 ≤ c1.toInt) (u1 : c1.toInt ≤ 255) (l2 : 0 ≤ c2.toInt) (u2 : c2.toInt ≤ 255) (l3 : 0 ≤ c3.toInt) (u3 : c3.toInt ≤ 255) : own_Met none l Z (⟨"java/lang/StringUTF16", "compress", "([CI[BII)I"⟩ : MethodName) jdk_52_method_21_code 7 (some .int) [] ({ frames := 0, cells := 0, slots := 0, locals := 0 } : Room) #[(.ref x), (.int (0 : Int32)), (.ref y), (.int (0 : Int32)), (.int (4 : Int32))] h (fun v h' => v = some (.int (4 : Int32)) ∧ own_H Z h' os ((y, .byte, "[B", [(.int (own_by c0)), (.int (own_by c1)), (.int (own_by c2)), (.int (own_by c3))]) :: (x, .char, "[C", [(.int c0), (.int c1), (.int c2), (.int c3)]) :: as)) := by
  refine own_met (by first | exact plainFor_of_name (by decide +kernel) | decide +kernel) ?_
  intro p_ e_ s_ m_ below_ meth_ c_ K
  refine own_cast (own_cmpB4_ef m_ _ _ _ _ _) ?_
  refine own_iconst K own_d2_0 (v := (0 : Int32)) rfl ?_
  refine own_istore K own_d2_1 (Ls' := #[.val (.ref x), .val (.int (0 : Int32)), .val (.ref y), .val (.int (0 : Int32)), .val (.int (4 : Int32)), .val (.int (0 : Int32)), .unset]) rfl ?_
  refine own_iload K own_d2_3 rfl ?_
  refine own_iload K own_d2_5 rfl ?_
  refine own_icmpge K own_d2_7 (fun q => absurd q (by decide)) (fun _ => ?_)
  refine own_aloadN K own_d2_10 rfl rfl ?_
  refine own_iloadN K own_d2_11 rfl ?_
  refine own_caload K own_d2_12 H (i := 1) rfl (q := 0) (by decide) (rfl) ?_
  refine own_istore K own_d2_13 (Ls' := #[.val (.ref x), .val (.int (0 : Int32)), .val (.ref y), .val (.int (0 : Int32)), .val (.int (4 : Int32)), .val (.int (0 : Int32)), .val (.int c0)]) rfl ?_
  refine own_iload K own_d2_15 rfl ?_
  refine own_sipush K own_d2_17 (v := (255 : Int32)) rfl ?_
  refine own_icmple K own_d2_20 (fun _ => ?_) (fun q => absurd (own_le255 u0) q)
  refine own_aloadN K own_d2_26 rfl rfl ?_
  refine own_iloadN K own_d2_27 rfl ?_
  refine own_iload K own_d2_28 rfl ?_
  refine own_i2b K own_d2_30 ?_
  refine own_topI (x' := (own_by c0)) (rfl) ?_
  refine own_bastore K own_d2_31 H (i := 0) rfl (q := 0) (by decide) (own_le rfl) ?_
  intro h1 H2
  rw [own_nby] at H2
  replace H2 : own_H Z h1 (os) ((y, .byte, "[B", [(.int (own_by c0)), (.int (0 : Int32)), (.int (0 : Int32)), (.int (0 : Int32))]) :: (x, .char, "[C", [(.int c0), (.int c1), (.int c2), (.int c3)]) :: as) := H2
  refine own_iinc K own_d2_32 rfl (y := (1 : Int32)) (by decide) (Ls' := #[.val (.ref x), .val (.int (1 : Int32)), .val (.ref y), .val (.int (0 : Int32)), .val (.int (4 : Int32)), .val (.int (0 : Int32)), .val (.int c0)]) rfl ?_
  refine own_iinc K own_d2_35 rfl (y := (1 : Int32)) (by decide) (Ls' := #[.val (.ref x), .val (.int (1 : Int32)), .val (.ref y), .val (.int (1 : Int32)), .val (.int (4 : Int32)), .val (.int (0 : Int32)), .val (.int c0)]) rfl ?_
  refine own_iinc K own_d2_38 rfl (y := (1 : Int32)) (by decide) (Ls' := #[.val (.ref x), .val (.int (1 : Int32)), .val (.ref y), .val (.int (1 : Int32)), .val (.int (4 : Int32)), .val (.int (1 : Int32)), .val (.int c0)]) rfl ?_
  refine own_goto K own_d2_41 ?_
  refine own_iload K own_d2_3 rfl ?_
  refine own_iload K own_d2_5 rfl ?_
  refine own_icmpge K own_d2_7 (fun q => absurd q (by decide)) (fun _ => ?_)
  refine own_aloadN K own_d2_10 rfl rfl ?_
  refine own_iloadN K own_d2_11 rfl ?_
  refine own_caload K own_d2_12 H2 (i := 1) rfl (q := 1) (by decide) (rfl) ?_
  refine own_istore K own_d2_13 (Ls' := #[.val (.ref x), .val (.int (1 : Int32)), .val (.ref y), .val (.int (1 : Int32)), .val (.int (4 : Int32)), .val (.int (1 : Int32)), .val (.int c1)]) rfl ?_
  refine own_iload K own_d2_15 rfl ?_
  refine own_sipush K own_d2_17 (v := (255 : Int32)) rfl ?_
  refine own_icmple K own_d2_20 (fun _ => ?_) (fun q => absurd (own_le255 u1) q)
  refine own_aloadN K own_d2_26 rfl rfl ?_
  refine own_iloadN K own_d2_27 rfl ?_
  refine own_iload K own_d2_28 rfl ?_
  refine own_i2b K own_d2_30 ?_
  refine own_topI (x' := (own_by c1)) (rfl) ?_
  refine own_bastore K own_d2_31 H2 (i := 0) rfl (q := 1) (by decide) (own_le rfl) ?_
  intro h3 H4
  rw [own_nby] at H4
  replace H4 : own_H Z h3 (os) ((y, .byte, "[B", [(.int (own_by c0)), (.int (own_by c1)), (.int (0 : Int32)), (.int (0 : Int32))]) :: (x, .char, "[C", [(.int c0), (.int c1), (.int c2), (.int c3)]) :: as) := H4
  refine own_iinc K own_d2_32 rfl (y := (2 : Int32)) (by decide) (Ls' := #[.val (.ref x), .val (.int (2 : Int32)), .val (.ref y), .val (.int (1 : Int32)), .val (.int (4 : Int32)), .val (.int (1 : Int32)), .val (.int c1)]) rfl ?_
  refine own_iinc K own_d2_35 rfl (y := (2 : Int32)) (by decide) (Ls' := #[.val (.ref x), .val (.int (2 : Int32)), .val (.ref y), .val (.int (2 : Int32)), .val (.int (4 : Int32)), .val (.int (1 : Int32)), .val (.int c1)]) rfl ?_
  refine own_iinc K own_d2_38 rfl (y := (2 : Int32)) (by decide) (Ls' := #[.val (.ref x), .val (.int (2 : Int32)), .val (.ref y), .val (.int (2 : Int32)), .val (.int (4 : Int32)), .val (.int (2 : Int32)), .val (.int c1)]) rfl ?_
  refine own_goto K own_d2_41 ?_
  refine own_iload K own_d2_3 rfl ?_
  refine own_iload K own_d2_5 rfl ?_
  refine own_icmpge K own_d2_7 (fun q => absurd q (by decide)) (fun _ => ?_)
  refine own_aloadN K own_d2_10 rfl rfl ?_
  refine own_iloadN K own_d2_11 rfl ?_
  refine own_caload K own_d2_12 H4 (i := 1) rfl (q := 2) (by decide) (rfl) ?_
  refine own_istore K own_d2_13 (Ls' := #[.val (.ref x), .val (.int (2 : Int32)), .val (.ref y), .val (.int (2 : Int32)), .val (.int (4 : Int32)), .val (.int (2 : Int32)), .val (.int c2)]) rfl ?_
  refine own_iload K own_d2_15 rfl ?_
  refine own_sipush K own_d2_17 (v := (255 : Int32)) rfl ?_
  refine own_icmple K own_d2_20 (fun _ => ?_) (fun q => absurd (own_le255 u2) q)
  refine own_aloadN K own_d2_26 rfl rfl ?_
  refine own_iloadN K own_d2_27 rfl ?_
  refine own_iload K own_d2_28 rfl ?_
  refine own_i2b K own_d2_30 ?_
  refine own_topI (x' := (own_by c2)) (rfl) ?_
  refine own_bastore K own_d2_31 H4 (i := 0) rfl (q := 2) (by decide) (own_le rfl) ?_
  intro h5 H6
  rw [own_nby] at H6
  replace H6 : own_H Z h5 (os) ((y, .byte, "[B", [(.int (own_by c0)), (.int (own_by c1)), (.int (own_by c2)), (.int (0 : Int32))]) :: (x, .char, "[C", [(.int c0), (.int c1), (.int c2), (.int c3)]) :: as) := H6
  refine own_iinc K own_d2_32 rfl (y := (3 : Int32)) (by decide) (Ls' := #[.val (.ref x), .val (.int (3 : Int32)), .val (.ref y), .val (.int (2 : Int32)), .val (.int (4 : Int32)), .val (.int (2 : Int32)), .val (.int c2)]) rfl ?_
  refine own_iinc K own_d2_35 rfl (y := (3 : Int32)) (by decide) (Ls' := #[.val (.ref x), .val (.int (3 : Int32)), .val (.ref y), .val (.int (3 : Int32)), .val (.int (4 : Int32)), .val (.int (2 : Int32)), .val (.int c2)]) rfl ?_
  refine own_iinc K own_d2_38 rfl (y := (3 : Int32)) (by decide) (Ls' := #[.val (.ref x), .val (.int (3 : Int32)), .val (.ref y), .val (.int (3 : Int32)), .val (.int (4 : Int32)), .val (.int (3 : Int32)), .val (.int c2)]) rfl ?_
  refine own_goto K own_d2_41 ?_
  refine own_iload K own_d2_3 rfl ?_
  refine own_iload K own_d2_5 rfl ?_
  refine own_icmpge K own_d2_7 (fun q => absurd q (by decide)) (fun _ => ?_)
  refine own_aloadN K own_d2_10 rfl rfl ?_
  refine own_iloadN K own_d2_11 rfl ?_
  refine own_caload K own_d2_12 H6 (i := 1) rfl (q := 3) (by decide) (rfl) ?_
  refine own_istore K own_d2_13 (Ls' := #[.val (.ref x), .val (.int (3 : Int32)), .val (.ref y), .val (.int (3 : Int32)), .val (.int (4 : Int32)), .val (.int (3 : Int32)), .val (.int c3)]) rfl ?_
  refine own_iload K own_d2_15 rfl ?_
  refine own_sipush K own_d2_17 (v := (255 : Int32)) rfl ?_
  refine own_icmple K own_d2_20 (fun _ => ?_) (fun q => absurd (own_le255 u3) q)
  refine own_aloadN K own_d2_26 rfl rfl ?_
  refine own_iloadN K own_d2_27 rfl ?_
  refine own_iload K own_d2_28 rfl ?_
  refine own_i2b K own_d2_30 ?_
  refine own_topI (x' := (own_by c3)) (rfl) ?_
  refine own_bastore K own_d2_31 H6 (i := 0) rfl (q := 3) (by decide) (own_le rfl) ?_
  intro h7 H8
  rw [own_nby] at H8
  replace H8 : own_H Z h7 (os) ((y, .byte, "[B", [(.int (own_by c0)), (.int (own_by c1)), (.int (own_by c2)), (.int (own_by c3))]) :: (x, .char, "[C", [(.int c0), (.int c1), (.int c2), (.int c3)]) :: as) := H8
  refine own_iinc K own_d2_32 rfl (y := (4 : Int32)) (by decide) (Ls' := #[.val (.ref x), .val (.int (4 : Int32)), .val (.ref y), .val (.int (3 : Int32)), .val (.int (4 : Int32)), .val (.int (3 : Int32)), .val (.int c3)]) rfl ?_
  refine own_iinc K own_d2_35 rfl (y := (4 : Int32)) (by decide) (Ls' := #[.val (.ref x), .val (.int (4 : Int32)), .val (.ref y), .val (.int (4 : Int32)), .val (.int (4 : Int32)), .val (.int (3 : Int32)), .val (.int c3)]) rfl ?_
  refine own_iinc K own_d2_38 rfl (y := (4 : Int32)) (by decide) (Ls' := #[.val (.ref x), .val (.int (4 : Int32)), .val (.ref y), .val (.int (4 : Int32)), .val (.int (4 : Int32)), .val (.int (4 : Int32)), .val (.int c3)]) rfl ?_
  refine own_goto K own_d2_41 ?_
  refine own_iload K own_d2_3 rfl ?_
  refine own_iload K own_d2_5 rfl ?_
  refine own_icmpge K own_d2_7 (fun _ => ?_) (fun q => absurd (by decide) q)
  refine own_iload K own_d2_44 rfl ?_
  exact own_retI K (fun _ q => q) own_d2_46 (by decide) (by decide) (⟨rfl, H8⟩)
set_option maxRecDepth 65536 in
set_option maxHeartbeats 40000000 in
theorem own_cmpA4_ef (m : MethodId) (x0 : Addr) (x1 : Int32) (x2 : Int32) : entryFrame m #[(.ref x0), (.int x1), (.int x2)] 6 = mkF m 0 #[.val (.ref x0), .val (.int x1), .val (.int x2), .unset, .unset, .unset] [] := by first | (simp [entryFrame, mkF, argsToLocals, Value.category]; done) | rfl
set_option maxRecDepth 65536 in
set_option maxHeartbeats 40000000 in
theorem own_cmpA4 {l : Launch} {Z : State} {a0 : Array Value} (hw : own_Z Z a0) {h : Heap} {os : List own_O} {as : List own_A} {x : Addr} {c0 c1 c2 c3 : Int32} (H : own_H Z h os ((x, .char, "[C", [(.int c0), (.int c1), (.int c2), (.int c3)]) :: as)) (l0 : 0 ≤ c0.toInt) (u0 : c0.toInt ≤ 255) (l1 : 0 ≤ c1.toInt) (u1 : c1.toInt ≤ 255) (l2 : 0 ≤ c2.toInt) (u2 : c2.toInt ≤ 255) (l3 : 0 ≤ c3.toInt) (u3 : c3.toInt ≤ 255) : own_Met none l Z (⟨"java/lang/StringUTF16", "compress", "([CII)[B"⟩ : MethodName) jdk_52_method_16_code 6 (some (.array .byte)) [] ({ frames := 1, cells := 1, slots := 4, locals := 18 } : Room) #[(.ref x), (.int (0 : Int32)), (.int (4 : Int32))] h (fun v h' => ∃ y, v = some (.ref y) ∧ own_H Z h' os ((y, .byte, "[B", [(.int (own_by c0)), (.int (own_by c1)), (.int (own_by c2)), (.int (own_by c3))]) :: (x, .char, "[C", [(.int c0), (.int c1), (.int c2), (.int c3)]) :: as)) := by
  refine own_met (by first | exact plainFor_of_name (by decide +kernel) | decide +kernel) ?_
  intro p_ e_ s_ m_ below_ meth_ c_ K
  refine own_cast (own_cmpA4_ef m_ _ _ _) ?_
  refine own_iloadN K own_d3_0 rfl ?_
  refine own_newarray K own_d3_1 (ty := .byte) rfl (own_w25 hw) H (q := 4) (by decide) (ad := "[B") (by decide +kernel) (vs := [(.int (0 : Int32)), (.int (0 : Int32)), (.int (0 : Int32)), (.int (0 : Int32))]) rfl (by decide) (by decide) (by decide) ?_
  intro h1 a3 H2
  replace H2 : own_H Z h1 (os) ((a3, .byte, "[B", [(.int (0 : Int32)), (.int (0 : Int32)), (.int (0 : Int32)), (.int (0 : Int32))]) :: (x, .char, "[C", [(.int c0), (.int c1), (.int c2), (.int c3)]) :: as) := H2
  refine own_astoreN K own_d3_3 rfl (Ls' := #[.val (.ref x), .val (.int (0 : Int32)), .val (.int (4 : Int32)), .val (.ref a3), .unset, .unset]) rfl ?_
  refine own_aloadN K own_d3_4 rfl rfl ?_
  refine own_iloadN K own_d3_5 rfl ?_
  refine own_aloadN K own_d3_6 rfl rfl ?_
  refine own_iconst K own_d3_7 (v := (0 : Int32)) rfl ?_
  refine own_iloadN K own_d3_8 rfl ?_
  refine own_static K own_d3_9 (own_w89 hw) (own_w90 hw) (own_w87 hw) (own_w91 hw) (argsL := [(.ref x), (.int (0 : Int32)), (.ref a3), (.int (0 : Int32)), (.int (4 : Int32))]) (rest := []) (own_cmpB4 hw H2 l0 u0 l1 u1 l2 u2 l3 u3) own_pd1 rfl rfl rfl (by decide) (W := 0) (Nat.le_of_eq rfl) (by decide) (by decide) (by decide) (by decide) ?_
  intro v6 h4 q5
  obtain ⟨rfl, H7⟩ := q5
  replace H7 : own_H Z h4 (os) ((a3, .byte, "[B", [(.int (own_by c0)), (.int (own_by c1)), (.int (own_by c2)), (.int (own_by c3))]) :: (x, .char, "[C", [(.int c0), (.int c1), (.int c2), (.int c3)]) :: as) := H7
  refine own_istore K own_d3_12 (Ls' := #[.val (.ref x), .val (.int (0 : Int32)), .val (.int (4 : Int32)), .val (.ref a3), .val (.int (4 : Int32)), .unset]) rfl ?_
  refine own_iload K own_d3_14 rfl ?_
  refine own_iloadN K own_d3_16 rfl ?_
  refine own_icmpeq K own_d3_17 (fun _ => ?_) (fun q => absurd (by decide) q)
  refine own_aloadN K own_d3_57 rfl rfl ?_
  exact own_retA K (fun _ q => q) rfl rfl own_d3_58 (by decide) (by decide) (⟨_, rfl, H7⟩)
set_option maxRecDepth 65536 in
set_option maxHeartbeats 40000000 in
theorem own_cfa4_ef (m : MethodId) (x0 : Addr) (x1 : Int32) : entryFrame m #[(.ref x0), (.int x1)] 2 = mkF m 0 #[.val (.ref x0), .val (.int x1)] [] := by first | (simp [entryFrame, mkF, argsToLocals, Value.category]; done) | rfl
set_option maxRecDepth 65536 in
set_option maxHeartbeats 40000000 in
theorem own_cfa4 {l : Launch} {Z : State} {a0 : Array Value} (hw : own_Z Z a0) {h : Heap} {os : List own_O} {as : List own_A} {y : Addr} {c0 c1 c2 c3 : Int32} (H : own_H Z h os ((y, .byte, "[B", [(.int (own_by c0)), (.int (own_by c1)), (.int (own_by c2)), (.int (own_by c3))]) :: as)) : own_Met none l Z (⟨"java/lang/StringUTF16", "coderFromArrayLen", "([BI)B"⟩ : MethodName) jdk_52_method_15_code 2 (some .byte) [] ({ frames := 0, cells := 0, slots := 0, locals := 0 } : Room) #[(.ref y), (.int (4 : Int32))] h (fun v h' => v = some (.int (0 : Int32)) ∧ h = h') := by
  refine own_met (by first | exact plainFor_of_name (by decide +kernel) | decide +kernel) ?_
  intro p_ e_ s_ m_ below_ meth_ c_ K
  refine own_cast (own_cfa4_ef m_ _ _) ?_
  refine own_iloadN K own_d4_0 rfl ?_
  refine own_aloadN K own_d4_1 rfl rfl ?_
  refine own_arraylength K own_d4_2 H (i := 0) rfl (N := (4 : Int32)) (rfl) ?_
  refine own_isub K own_d4_3 ?_
  refine own_topI (x' := (0 : Int32)) (by decide) ?_
  refine own_bipush K own_d4_4 (v := (31 : Int32)) rfl ?_
  refine own_iushr K own_d4_6 ?_
  refine own_topI (x' := (0 : Int32)) (by decide) ?_
  refine own_i2b K own_d4_7 ?_
  refine own_topI (x' := (0 : Int32)) (by decide) ?_
  exact own_retBy K (fun _ q => q) (rfl) own_d4_8 (by decide) (by decide) (⟨rfl, rfl⟩)
set_option maxRecDepth 65536 in
set_option maxHeartbeats 40000000 in
theorem own_initD4_ef (m : MethodId) (x0 : Addr) (x1 : Addr) (x2 : Int32) (x3 : Int32) : entryFrame m #[(.ref x0), (.ref x1), (.int x2), (.int x3), .null] 6 = mkF m 0 #[.val (.ref x0), .val (.ref x1), .val (.int x2), .val (.int x3), .val .null, .unset] [] := by first | (simp [entryFrame, mkF, argsToLocals, Value.category]; done) | rfl
set_option maxRecDepth 65536 in
set_option maxHeartbeats 40000000 in
theorem own_initD4 {l : Launch} {Z : State} {a0 : Array Value} (hw : own_Z Z a0) {h : Heap} {os : List own_O} {as : List own_A} {a x : Addr} {cs : Int32} {c0 c1 c2 c3 : Int32} (hC : cs ≠ 0 ∧ Sta Z Z.heap "java/lang/String" "COMPACT_STRINGS" "Z" (.int cs)) (H : own_H Z h (own_ST a .null (.int (0 : Int32)) :: os) ((x, .char, "[C", [(.int c0), (.int c1), (.int c2), (.int c3)]) :: as)) (l0 : 0 ≤ c0.toInt) (u0 : c0.toInt ≤ 255) (l1 : 0 ≤ c1.toInt) (u1 : c1.toInt ≤ 255) (l2 : 0 ≤ c2.toInt) (u2 : c2.toInt ≤ 255) (l3 : 0 ≤ c3.toInt) (u3 : c3.toInt ≤ 255) : own_Met none l Z (⟨"java/lang/String", "<init>", "([CIILjava/lang/Void;)V"⟩ : MethodName) jdk_42_method_149_code 6 none [] ({ frames := 2, cells := 1, slots := 4, locals := 35 } : Room) #[(.ref a), (.ref x), (.int (0 : Int32)), (.int (4 : Int32)), .null] h (fun v h' => v = none ∧ ∃ y, own_H Z h' (own_ST a (.ref y) (.int (0 : Int32)) :: os) ((y, .byte, "[B", [(.int (own_by c0)), (.int (own_by c1)), (.int (own_by c2)), (.int (own_by c3))]) :: (x, .char, "[C", [(.int c0), (.int c1), (.int c2), (.int c3)]) :: as)) := by
  refine own_met (by first | exact plainFor_of_name (by decide +kernel) | decide +kernel) ?_
  intro p_ e_ s_ m_ below_ meth_ c_ K
  refine own_cast (own_initD4_ef m_ _ _ _ _) ?_
  refine own_aloadN K own_d0_0 rfl rfl ?_
  refine own_initO K own_d0_1 (own_w21 hw) (own_w22 hw) (own_w23 hw) rfl (by decide) (W := 0) (Nat.le_of_eq rfl) (by decide) ?_
  refine own_iloadN K own_d0_4 rfl ?_
  refine own_ifne K own_d0_5 (fun _ => ?_) (fun q => absurd (by decide) q)
  refine own_getstatic K own_d0_27 (own_w64 hw) Via.refl (v := (.int cs)) (Sta.ext H.1 hC.2) ?_
  refine own_ifeq K own_d0_30 (fun q => absurd q (hC.1)) (fun _ => ?_)
  refine own_aloadN K own_d0_33 rfl rfl ?_
  refine own_iloadN K own_d0_34 rfl ?_
  refine own_iloadN K own_d0_35 rfl ?_
  refine own_static K own_d0_36 (own_w85 hw) (own_w86 hw) (own_w87 hw) (own_w88 hw) (argsL := [(.ref x), (.int (0 : Int32)), (.int (4 : Int32))]) (rest := []) (own_cmpA4 hw H l0 u0 l1 u1 l2 u2 l3 u3) own_pd2 rfl rfl rfl (by decide) (W := 0) (Nat.le_of_eq rfl) (by decide) (by decide) (by decide) (by decide) ?_
  intro v3 h1 q2
  obtain ⟨y5, rfl, H4⟩ := q2
  replace H4 : own_H Z h1 (own_ST a .null (.int (0 : Int32)) :: os) ((y5, .byte, "[B", [(.int (own_by c0)), (.int (own_by c1)), (.int (own_by c2)), (.int (own_by c3))]) :: (x, .char, "[C", [(.int c0), (.int c1), (.int c2), (.int c3)]) :: as) := H4
  refine own_astore K own_d0_39 rfl (Ls' := #[.val (.ref a), .val (.ref x), .val (.int (0 : Int32)), .val (.int (4 : Int32)), .val .null, .val (.ref y5)]) rfl ?_
  refine own_aloadN K own_d0_41 rfl rfl ?_
  refine own_aload K own_d0_42 rfl rfl ?_
  refine own_iloadN K own_d0_44 rfl ?_
  refine own_static K own_d0_45 (own_w92 hw) (own_w93 hw) (own_w87 hw) (own_w94 hw) (argsL := [(.ref y5), (.int (4 : Int32))]) (rest := [(.ref a)]) (own_cfa4 hw H4) own_pd3 rfl rfl rfl (by decide) (W := 1) (Nat.le_of_eq rfl) (by decide) (by decide) (by decide) (by decide) ?_
  intro v8 h6 q7
  obtain ⟨rfl, rfl⟩ := q7
  refine own_putfield K own_d0_48 (host := "") (Or.inl (own_w31 hw)) Via.refl H4 (j := 0) rfl (q := 1) rfl (Or.inr ⟨(own_w27 hw), rfl, rfl⟩) (own_w12 hw) (ty := .byte) (by decide +kernel) (rfl) (rfl) ?_
  intro h9 H10
  replace H10 : own_H Z h9 (own_ST a .null (.int (0 : Int32)) :: os) ((y5, .byte, "[B", [(.int (own_by c0)), (.int (own_by c1)), (.int (own_by c2)), (.int (own_by c3))]) :: (x, .char, "[C", [(.int c0), (.int c1), (.int c2), (.int c3)]) :: as) := H10
  refine own_aloadN K own_d0_51 rfl rfl ?_
  refine own_aload K own_d0_52 rfl rfl ?_
  refine own_putfield K own_d0_54 (host := "") (Or.inl (own_w30 hw)) Via.refl H10 (j := 0) rfl (q := 0) rfl (Or.inr ⟨(own_w26 hw), rfl, rfl⟩) (own_w12 hw) (ty := (.array .byte)) (by decide +kernel) (rfl) (rfl) ?_
  intro h11 H12
  replace H12 : own_H Z h11 (own_ST a (.ref y5) (.int (0 : Int32)) :: os) ((y5, .byte, "[B", [(.int (own_by c0)), (.int (own_by c1)), (.int (own_by c2)), (.int (own_by c3))]) :: (x, .char, "[C", [(.int c0), (.int c1), (.int c2), (.int c3)]) :: as) := H12
  exact own_retV K (fun _ q => q) own_d0_57 (by decide) (by decide) (⟨rfl, _, H12⟩)
set_option maxRecDepth 65536 in
set_option maxHeartbeats 40000000 in
theorem own_initS4_ef (m : MethodId) (x0 : Addr) (x1 : Addr) : entryFrame m #[(.ref x0), (.ref x1)] 2 = mkF m 0 #[.val (.ref x0), .val (.ref x1)] [] := by first | (simp [entryFrame, mkF, argsToLocals, Value.category]; done) | rfl
set_option maxRecDepth 65536 in
set_option maxHeartbeats 40000000 in
theorem own_initS4 {l : Launch} {Z : State} {a0 : Array Value} (hw : own_Z Z a0) {h : Heap} {os : List own_O} {as : List own_A} {a x : Addr} {cs : Int32} {c0 c1 c2 c3 : Int32} (hC : cs ≠ 0 ∧ Sta Z Z.heap "java/lang/String" "COMPACT_STRINGS" "Z" (.int cs)) (H : own_H Z h (own_ST a .null (.int (0 : Int32)) :: os) ((x, .char, "[C", [(.int c0), (.int c1), (.int c2), (.int c3)]) :: as)) (l0 : 0 ≤ c0.toInt) (u0 : c0.toInt ≤ 255) (l1 : 0 ≤ c1.toInt) (u1 : c1.toInt ≤ 255) (l2 : 0 ≤ c2.toInt) (u2 : c2.toInt ≤ 255) (l3 : 0 ≤ c3.toInt) (u3 : c3.toInt ≤ 255) : own_Met none l Z (⟨"java/lang/String", "<init>", "([C)V"⟩ : MethodName) jdk_42_method_3_code 2 none [] ({ frames := 3, cells := 1, slots := 4, locals := 52 } : Room) #[(.ref a), (.ref x)] h (fun v h' => v = none ∧ ∃ y, own_H Z h' (own_ST a (.ref y) (.int (0 : Int32)) :: os) ((y, .byte, "[B", [(.int (own_by c0)), (.int (own_by c1)), (.int (own_by c2)), (.int (own_by c3))]) :: (x, .char, "[C", [(.int c0), (.int c1), (.int c2), (.int c3)]) :: as)) := by
  refine own_met (by first | exact plainFor_of_name (by decide +kernel) | decide +kernel) ?_
  intro p_ e_ s_ m_ below_ meth_ c_ K
  refine own_cast (own_initS4_ef m_ _ _) ?_
  refine own_aloadN K own_d1_0 rfl rfl ?_
  refine own_aloadN K own_d1_1 rfl rfl ?_
  refine own_iconst K own_d1_2 (v := (0 : Int32)) rfl ?_
  refine own_aloadN K own_d1_3 rfl rfl ?_
  refine own_arraylength K own_d1_4 H (i := 0) rfl (N := (4 : Int32)) (rfl) ?_
  refine own_aconstNull K own_d1_5 ?_
  refine own_special K own_d1_6 rfl (own_w17 hw) (own_w18 hw) (own_w13 hw) (own_w20 hw) (a := a) (argsL := [(.ref x), (.int (0 : Int32)), (.int (4 : Int32)), .null]) (rest := []) (own_initD4 hw hC H l0 u0 l1 u1 l2 u2 l3 u3) own_pd0 rfl rfl rfl (by decide) (W := 0) (Nat.le_of_eq rfl) (by decide) (by decide) (by decide) (by decide) ?_
  intro v3 h1 q2
  obtain ⟨rfl, y5, H4⟩ := q2
  replace H4 : own_H Z h1 (own_ST a (.ref y5) (.int (0 : Int32)) :: os) ((y5, .byte, "[B", [(.int (own_by c0)), (.int (own_by c1)), (.int (own_by c2)), (.int (own_by c3))]) :: (x, .char, "[C", [(.int c0), (.int c1), (.int c2), (.int c3)]) :: as) := H4
  exact own_retV K (fun _ q => q) own_d1_9 (by decide) (by decide) (⟨rfl, _, H4⟩)
set_option maxRecDepth 65536 in
set_option maxHeartbeats 40000000 in
theorem own_isl_ef (m : MethodId) (x0 : Addr) : entryFrame m #[(.ref x0)] 1 = mkF m 0 #[.val (.ref x0)] [] := by first | (simp [entryFrame, mkF, argsToLocals, Value.category]; done) | rfl
set_option maxRecDepth 65536 in
set_option maxHeartbeats 40000000 in
theorem own_isl {l : Launch} {Z : State} {a0 : Array Value} (hw : own_Z Z a0) {h : Heap} {os : List own_O} {as : List own_A} {a y : Addr} {cs : Int32} (hC : cs ≠ 0 ∧ Sta Z Z.heap "java/lang/String" "COMPACT_STRINGS" "Z" (.int cs)) (H : own_H Z h (own_ST a (.ref y) (.int (0 : Int32)) :: os) as) : own_Met none l Z (⟨"java/lang/String", "isLatin1", "()Z"⟩ : MethodName) jdk_42_method_154_code 1 (some .boolean) [] ({ frames := 0, cells := 0, slots := 0, locals := 0 } : Room) #[(.ref a)] h (fun v h' => v = some (.int (1 : Int32)) ∧ h = h') := by
  refine own_met (by first | exact plainFor_of_name (by decide +kernel) | decide +kernel) ?_
  intro p_ e_ s_ m_ below_ meth_ c_ K
  refine own_cast (own_isl_ef m_ _) ?_
  refine own_getstatic K own_d5_0 (own_w64 hw) Via.refl (v := (.int cs)) (Sta.ext H.1 hC.2) ?_
  refine own_ifeq K own_d5_3 (fun q => absurd q (hC.1)) (fun _ => ?_)
  refine own_aloadN K own_d5_6 rfl rfl ?_
  refine own_getfield K own_d5_7 (host := "") (Or.inl (own_w31 hw)) Via.refl H (j := 0) rfl (q := 1) rfl ?_
  refine own_ifne K own_d5_10 (fun q => absurd q (by decide)) (fun _ => ?_)
  refine own_iconst K own_d5_13 (v := (1 : Int32)) rfl ?_
  refine own_goto K own_d5_14 ?_
  exact own_retZ K (fun _ q => q) (by first | exact Or.inl rfl | exact Or.inr rfl | decide) own_d5_18 (by decide) (by decide) (⟨rfl, rfl⟩)
set_option maxRecDepth 65536 in
set_option maxHeartbeats 40000000 in
theorem own_cod_ef (m : MethodId) (x0 : Addr) : entryFrame m #[(.ref x0)] 1 = mkF m 0 #[.val (.ref x0)] [] := by first | (simp [entryFrame, mkF, argsToLocals, Value.category]; done) | rfl
set_option maxRecDepth 65536 in
set_option maxHeartbeats 40000000 in
theorem own_cod {l : Launch} {Z : State} {a0 : Array Value} (hw : own_Z Z a0) {h : Heap} {os : List own_O} {as : List own_A} {a y : Addr} {cs : Int32} (hC : cs ≠ 0 ∧ Sta Z Z.heap "java/lang/String" "COMPACT_STRINGS" "Z" (.int cs)) (H : own_H Z h (own_ST a (.ref y) (.int (0 : Int32)) :: os) as) : own_Met none l Z (⟨"java/lang/String", "coder", "()B"⟩ : MethodName) jdk_42_method_152_code 1 (some .byte) [] ({ frames := 0, cells := 0, slots := 0, locals := 0 } : Room) #[(.ref a)] h (fun v h' => v = some (.int (0 : Int32)) ∧ h = h') := by
  refine own_met (by first | exact plainFor_of_name (by decide +kernel) | decide +kernel) ?_
  intro p_ e_ s_ m_ below_ meth_ c_ K
  refine own_cast (own_cod_ef m_ _) ?_
  refine own_getstatic K own_d6_0 (own_w64 hw) Via.refl (v := (.int cs)) (Sta.ext H.1 hC.2) ?_
  refine own_ifeq K own_d6_3 (fun q => absurd q (hC.1)) (fun _ => ?_)
  refine own_aloadN K own_d6_6 rfl rfl ?_
  refine own_getfield K own_d6_7 (host := "") (Or.inl (own_w31 hw)) Via.refl H (j := 0) rfl (q := 1) rfl ?_
  refine own_goto K own_d6_10 ?_
  exact own_retBy K (fun _ q => q) (rfl) own_d6_14 (by decide) (by decide) (⟨rfl, rfl⟩)
set_option maxRecDepth 65536 in
set_option maxHeartbeats 40000000 in
theorem own_pciN_ef (m : MethodId) (x0 : Int32) (x1 : Int32) : entryFrame m #[(.int x0), (.int x1), .null] 3 = mkF m 0 #[.val (.int x0), .val (.int x1), .val .null] [] := by first | (simp [entryFrame, mkF, argsToLocals, Value.category]; done) | rfl
set_option maxRecDepth 65536 in
set_option maxHeartbeats 40000000 in
theorem own_pciN {l : Launch} {Z : State} {a0 : Array Value} (hw : own_Z Z a0) {h : Heap} {i N : Int32} (h0 : 0 ≤ i.toInt) (h1 : i.toInt < N.toInt) : own_Met none l Z (⟨"jdk/internal/util/Preconditions", "checkIndex", "(IILjava/util/function/BiFunction;)I"⟩ : MethodName) jdk_41_method_11_code 3 (some .int) [] ({ frames := 0, cells := 0, slots := 0, locals := 0 } : Room) #[(.int i), (.int N), .null] h (fun v h' => v = some (.int i) ∧ h = h') := by
  refine own_met (by first | exact plainFor_of_name (by decide +kernel) | decide +kernel) ?_
  intro p_ e_ s_ m_ below_ meth_ c_ K
  refine own_cast (own_pciN_ef m_ _ _) ?_
  refine own_iloadN K own_d7_0 rfl ?_
  refine own_iflt K own_d7_1 (fun q => absurd q (Int.not_lt.mpr h0)) (fun _ => ?_)
  refine own_iloadN K own_d7_4 rfl ?_
  refine own_iloadN K own_d7_5 rfl ?_
  refine own_icmplt K own_d7_6 (fun _ => ?_) (fun q => absurd (h1) q)
  refine own_iloadN K own_d7_16 rfl ?_
  exact own_retI K (fun _ q => q) own_d7_17 (by decide) (by decide) (⟨rfl, rfl⟩)
set_option maxRecDepth 65536 in
set_option maxHeartbeats 40000000 in
theorem own_pciR_ef (m : MethodId) (x0 : Int32) (x1 : Int32) (x2 : Addr) : entryFrame m #[(.int x0), (.int x1), (.ref x2)] 3 = mkF m 0 #[.val (.int x0), .val (.int x1), .val (.ref x2)] [] := by first | (simp [entryFrame, mkF, argsToLocals, Value.category]; done) | rfl
set_option maxRecDepth 65536 in
set_option maxHeartbeats 40000000 in
theorem own_pciR {l : Launch} {Z : State} {a0 : Array Value} (hw : own_Z Z a0) {h : Heap} {i N : Int32} {fa : Addr} (h0 : 0 ≤ i.toInt) (h1 : i.toInt < N.toInt) : own_Met none l Z (⟨"jdk/internal/util/Preconditions", "checkIndex", "(IILjava/util/function/BiFunction;)I"⟩ : MethodName) jdk_41_method_11_code 3 (some .int) [] ({ frames := 0, cells := 0, slots := 0, locals := 0 } : Room) #[(.int i), (.int N), (.ref fa)] h (fun v h' => v = some (.int i) ∧ h = h') := by
  refine own_met (by first | exact plainFor_of_name (by decide +kernel) | decide +kernel) ?_
  intro p_ e_ s_ m_ below_ meth_ c_ K
  refine own_cast (own_pciR_ef m_ _ _ _) ?_
  refine own_iloadN K own_d7_0 rfl ?_
  refine own_iflt K own_d7_1 (fun q => absurd q (Int.not_lt.mpr h0)) (fun _ => ?_)
  refine own_iloadN K own_d7_4 rfl ?_
  refine own_iloadN K own_d7_5 rfl ?_
  refine own_icmplt K own_d7_6 (fun _ => ?_) (fun q => absurd (h1) q)
  refine own_iloadN K own_d7_16 rfl ?_
  exact own_retI K (fun _ q => q) own_d7_17 (by decide) (by decide) (⟨rfl, rfl⟩)
set_option maxRecDepth 65536 in
set_option maxHeartbeats 40000000 in
theorem own_sci_ef (m : MethodId) (x0 : Int32) (x1 : Int32) : entryFrame m #[(.int x0), (.int x1)] 2 = mkF m 0 #[.val (.int x0), .val (.int x1)] [] := by first | (simp [entryFrame, mkF, argsToLocals, Value.category]; done) | rfl
set_option maxRecDepth 65536 in
set_option maxHeartbeats 40000000 in
theorem own_sci {l : Launch} {Z : State} {a0 : Array Value} (hw : own_Z Z a0) {h : Heap} {os : List own_O} {as : List own_A} {i N : Int32} (hF : Sta Z Z.heap "jdk/internal/util/Preconditions" "SIOOBE_FORMATTER" "Ljava/util/function/BiFunction;" .null ∨ ∃ fa, Sta Z Z.heap "jdk/internal/util/Preconditions" "SIOOBE_FORMATTER" "Ljava/util/function/BiFunction;" (.ref fa)) (H : own_H Z h os as) (h0 : 0 ≤ i.toInt) (h1 : i.toInt < N.toInt) : own_Met none l Z (⟨"java/lang/String", "checkIndex", "(II)V"⟩ : MethodName) jdk_42_method_155_code 2 none [] ({ frames := 1, cells := 0, slots := 0, locals := 14 } : Room) #[(.int i), (.int N)] h (fun v h' => v = none ∧ h = h') := by
  refine own_met (by first | exact plainFor_of_name (by decide +kernel) | decide +kernel) ?_
  intro p_ e_ s_ m_ below_ meth_ c_ K
  refine own_cast (own_sci_ef m_ _ _) ?_
  rcases hF with hF | ⟨fa, hF⟩
  · refine own_iloadN K own_d8_0 rfl ?_
    refine own_iloadN K own_d8_1 rfl ?_
    refine own_getstatic K own_d8_2 (own_w112 hw) Via.refl (v := .null) (Sta.ext H.1 hF) ?_
    refine own_static K own_d8_5 (own_w114 hw) (own_w115 hw) (own_w113 hw) (own_w116 hw) (argsL := [(.int i), (.int N), .null]) (rest := []) (own_pciN hw h0 h1) own_pd4 rfl rfl rfl (by decide) (W := 0) (Nat.le_of_eq rfl) (by decide) (by decide) (by decide) (by decide) ?_
    intro v3 h1 q2
    obtain ⟨rfl, rfl⟩ := q2
    refine own_pop K own_d8_8 rfl ?_
    exact own_retV K (fun _ q => q) own_d8_9 (by decide) (by decide) (⟨rfl, rfl⟩)
  · refine own_iloadN K own_d8_0 rfl ?_
    refine own_iloadN K own_d8_1 rfl ?_
    refine own_getstatic K own_d8_2 (own_w112 hw) Via.refl (v := (.ref fa)) (Sta.ext H.1 hF) ?_
    refine own_static K own_d8_5 (own_w114 hw) (own_w115 hw) (own_w113 hw) (own_w116 hw) (argsL := [(.int i), (.int N), (.ref fa)]) (rest := []) (own_pciR hw h0 h1) own_pd4 rfl rfl rfl (by decide) (W := 0) (Nat.le_of_eq rfl) (by decide) (by decide) (by decide) (by decide) ?_
    intro v3 h1 q2
    obtain ⟨rfl, rfl⟩ := q2
    refine own_pop K own_d8_8 rfl ?_
    exact own_retV K (fun _ q => q) own_d8_9 (by decide) (by decide) (⟨rfl, rfl⟩)
set_option maxRecDepth 65536 in
set_option maxHeartbeats 40000000 in
theorem own_l1c_ef (m : MethodId) (x0 : Addr) (x1 : Int32) : entryFrame m #[(.ref x0), (.int x1)] 2 = mkF m 0 #[.val (.ref x0), .val (.int x1)] [] := by first | (simp [entryFrame, mkF, argsToLocals, Value.category]; done) | rfl
set_option maxRecDepth 65536 in
set_option maxHeartbeats 40000000 in
theorem own_l1c {l : Launch} {Z : State} {a0 : Array Value} (hw : own_Z Z a0) {h : Heap} {os : List own_O} {as : List own_A} {ad : String} {y : Addr} {i N z : Int32} {q : Nat} {vs : List Value} (hF : Sta Z Z.heap "jdk/internal/util/Preconditions" "SIOOBE_FORMATTER" "Ljava/util/function/BiFunction;" .null ∨ ∃ fa, Sta Z Z.heap "jdk/internal/util/Preconditions" "SIOOBE_FORMATTER" "Ljava/util/function/BiFunction;" (.ref fa)) (H : own_H Z h os ((y, .byte, ad, vs) :: as)) (hN : N.toInt = (vs.length : Int)) (hi : i.toInt = (q : Int)) (hv : vs[q]? = some (.int (own_by z))) (l0 : 0 ≤ z.toInt) (u0 : z.toInt ≤ 255) : own_Met none l Z (⟨"java/lang/StringLatin1", "charAt", "([BI)C"⟩ : MethodName) jdk_43_method_2_code 2 (some .char) [] ({ frames := 2, cells := 0, slots := 0, locals := 27 } : Room) #[(.ref y), (.int i)] h (fun v h' => v = some (.int z) ∧ h = h') := by
  refine own_met (by first | exact plainFor_of_name (by decide +kernel) | decide +kernel) ?_
  intro p_ e_ s_ m_ below_ meth_ c_ K
  refine own_cast (own_l1c_ef m_ _ _) ?_
  refine own_iloadN K own_d9_0 rfl ?_
  refine own_aloadN K own_d9_1 rfl rfl ?_
  refine own_arraylength K own_d9_2 H (i := 0) rfl (N := N) (hN) ?_
  refine own_static K own_d9_3 (own_w109 hw) (own_w110 hw) (own_w13 hw) (own_w111 hw) (argsL := [(.int i), (.int N)]) (rest := []) (own_sci hw hF H (by omega) (by have := (List.getElem?_eq_some_iff.mp hv).1; omega)) own_pd5 rfl rfl rfl (by decide) (W := 0) (Nat.le_of_eq rfl) (by decide) (by decide) (by decide) (by decide) ?_
  intro v3 h1 q2
  obtain ⟨rfl, rfl⟩ := q2
  refine own_aloadN K own_d9_6 rfl rfl ?_
  refine own_iloadN K own_d9_7 rfl ?_
  refine own_baload K own_d9_8 H (i := 0) rfl (q := q) (hi) (hv) ?_
  refine own_sipush K own_d9_9 (v := (255 : Int32)) rfl ?_
  refine own_iand K own_d9_12 ?_
  refine own_i2c K own_d9_13 ?_
  refine own_topI (x' := z) (own_byc l0 u0) ?_
  exact own_retC K (fun _ q => q) (own_nrc l0 u0) own_d9_14 (by decide) (by decide) (⟨rfl, rfl⟩)
set_option maxRecDepth 65536 in
set_option maxHeartbeats 40000000 in
theorem own_cat_ef (m : MethodId) (x0 : Addr) (x1 : Int32) : entryFrame m #[(.ref x0), (.int x1)] 2 = mkF m 0 #[.val (.ref x0), .val (.int x1)] [] := by first | (simp [entryFrame, mkF, argsToLocals, Value.category]; done) | rfl
set_option maxRecDepth 65536 in
set_option maxHeartbeats 40000000 in
theorem own_cat {l : Launch} {Z : State} {a0 : Array Value} (hw : own_Z Z a0) {h : Heap} {os : List own_O} {as : List own_A} {ad : String} {a y : Addr} {cs i N z : Int32} {q : Nat} {vs : List Value} (hC : cs ≠ 0 ∧ Sta Z Z.heap "java/lang/String" "COMPACT_STRINGS" "Z" (.int cs)) (hF : Sta Z Z.heap "jdk/internal/util/Preconditions" "SIOOBE_FORMATTER" "Ljava/util/function/BiFunction;" .null ∨ ∃ fa, Sta Z Z.heap "jdk/internal/util/Preconditions" "SIOOBE_FORMATTER" "Ljava/util/function/BiFunction;" (.ref fa)) (H : own_H Z h (own_ST a (.ref y) (.int (0 : Int32)) :: os) ((y, .byte, ad, vs) :: as)) (hN : N.toInt = (vs.length : Int)) (hi : i.toInt = (q : Int)) (hv : vs[q]? = some (.int (own_by z))) (l0 : 0 ≤ z.toInt) (u0 : z.toInt ≤ 255) : own_Met none l Z (⟨"java/lang/String", "charAt", "(I)C"⟩ : MethodName) jdk_42_method_56_code 2 (some .char) [] ({ frames := 3, cells := 0, slots := 0, locals := 40 } : Room) #[(.ref a), (.int i)] h (fun v h' => v = some (.int z) ∧ h = h') := by
  refine own_met (by first | exact plainFor_of_name (by decide +kernel) | decide +kernel) ?_
  intro p_ e_ s_ m_ below_ meth_ c_ K
  refine own_cast (own_cat_ef m_ _ _) ?_
  refine own_aloadN K own_d10_0 rfl rfl ?_
  refine own_virtual K own_d10_1 (own_w100 hw) (own_w101 hw) (own_w103 hw) (own_w102 hw) (own_w13 hw) (own_w104 hw) (H.atO (i := 0) rfl) (a := a) (argsL := []) (rest := []) (own_isl hw hC H) own_pd6 rfl rfl rfl (by decide) (W := 0) (Nat.le_of_eq rfl) (by decide) (by decide) (by decide) (by decide) ?_
  intro v3 h1 q2
  obtain ⟨rfl, rfl⟩ := q2
  refine own_ifeq K own_d10_4 (fun q => absurd q (by decide)) (fun _ => ?_)
  refine own_aloadN K own_d10_7 rfl rfl ?_
  refine own_getfield K own_d10_8 (host := "") (Or.inl (own_w30 hw)) Via.refl H (j := 0) rfl (q := 0) rfl ?_
  refine own_iloadN K own_d10_11 rfl ?_
  refine own_static K own_d10_12 (own_w105 hw) (own_w106 hw) (own_w107 hw) (own_w108 hw) (argsL := [(.ref y), (.int i)]) (rest := []) (own_l1c hw hF H hN hi hv l0 u0) own_pd7 rfl rfl rfl (by decide) (W := 0) (Nat.le_of_eq rfl) (by decide) (by decide) (by decide) (by decide) ?_
  intro v6 h4 q5
  obtain ⟨rfl, rfl⟩ := q5
  exact own_retC K (fun _ q => q) (own_nrc l0 u0) own_d10_15 (by decide) (by decide) (⟨rfl, rfl⟩)
set_option maxRecDepth 65536 in
set_option maxHeartbeats 40000000 in
theorem own_lenX_ef (m : MethodId) (x0 : Addr) : entryFrame m #[(.ref x0)] 1 = mkF m 0 #[.val (.ref x0)] [] := by first | (simp [entryFrame, mkF, argsToLocals, Value.category]; done) | rfl
set_option maxRecDepth 65536 in
set_option maxHeartbeats 40000000 in
theorem own_lenX {l : Launch} {Z : State} {a0 : Array Value} (hw : own_Z Z a0) {h : Heap} {os : List own_O} {as : List own_A} {a y : Addr} {ad : String} {cs : Int32} {c0 c1 c2 c3 : Int32} {n : Nat} (hC : cs ≠ 0 ∧ Sta Z Z.heap "java/lang/String" "COMPACT_STRINGS" "Z" (.int cs)) (H : own_H Z h (own_ST a (.ref y) (.int (0 : Int32)) :: os) ((y, .byte, ad, (own_vs n c0 c1 c2 c3)) :: as)) (hn : n ≤ 4) : own_Met none l Z (⟨"java/lang/String", "length", "()I"⟩ : MethodName) jdk_42_method_54_code 1 (some .int) [] ({ frames := 1, cells := 0, slots := 0, locals := 13 } : Room) #[(.ref a)] h (fun v h' => v = some (.int (Int32.ofNat n)) ∧ h = h') := by
  refine own_met (by first | exact plainFor_of_name (by decide +kernel) | decide +kernel) ?_
  intro p_ e_ s_ m_ below_ meth_ c_ K
  refine own_cast (own_lenX_ef m_ _) ?_
  refine own_aloadN K own_d11_0 rfl rfl ?_
  refine own_getfield K own_d11_1 (host := "") (Or.inl (own_w30 hw)) Via.refl H (j := 0) rfl (q := 0) rfl ?_
  refine own_arraylength K own_d11_4 H (i := 0) rfl (N := (Int32.ofNat n)) (by rw [own_vsl hn]; exact own_on hn) ?_
  refine own_aloadN K own_d11_5 rfl rfl ?_
  refine own_virtual K own_d11_6 (own_w59 hw) (own_w60 hw) (own_w62 hw) (own_w61 hw) (own_w13 hw) (own_w63 hw) (H.atO (i := 0) rfl) (a := a) (argsL := []) (rest := [(.int (Int32.ofNat n))]) (own_cod hw hC H) own_pd8 rfl rfl rfl (by decide) (W := 1) (Nat.le_of_eq rfl) (by decide) (by decide) (by decide) (by decide) ?_
  intro v3 h1 q2
  obtain ⟨rfl, rfl⟩ := q2
  refine own_ishr K own_d11_9 ?_
  refine own_topI (x' := (Int32.ofNat n)) (own_sh0 hn) ?_
  exact own_retI K (fun _ q => q) own_d11_10 (by decide) (by decide) (⟨rfl, rfl⟩)
set_option maxRecDepth 65536 in
set_option maxHeartbeats 40000000 in
theorem own_sf_ef (m : MethodId) (x0 : Addr) (x1 : Int32) : entryFrame m #[(.ref x0), (.int x1)] 3 = mkF m 0 #[.val (.ref x0), .val (.int x1), .unset] [] := by first | (simp [entryFrame, mkF, argsToLocals, Value.category]; done) | rfl
set_option maxRecDepth 65536 in
set_option maxHeartbeats 40000000 in
theorem own_sf {l : Launch} {Z : State} {a0 : Array Value} (hw : own_Z Z a0) {h : Heap} {os : List own_O} {as : List own_A} {p a y : Addr} {ad : String} {pv cs : Int32} {c0 c1 c2 c3 : Int32} {n j : Nat} {ix : Int32} (hC : cs ≠ 0 ∧ Sta Z Z.heap "java/lang/String" "COMPACT_STRINGS" "Z" (.int cs)) (hF : Sta Z Z.heap "jdk/internal/util/Preconditions" "SIOOBE_FORMATTER" "Ljava/util/function/BiFunction;" .null ∨ ∃ fa, Sta Z Z.heap "jdk/internal/util/Preconditions" "SIOOBE_FORMATTER" "Ljava/util/function/BiFunction;" (.ref fa)) (H : own_H Z h (own_ST a (.ref y) (.int (0 : Int32)) :: own_DN p (.ref a) (.int pv) (.int ix) :: os) ((y, .byte, ad, (own_vs n c0 c1 c2 c3)) :: as)) (hB : own_bd c0 c1 c2 c3) (hn : n ≤ 4) (hj : j ≤ n) : own_Met none l Z (⟨"com/example/wary_loader/waryloader/dn/DnParser", "spacesFrom", "(I)I"⟩ : MethodName) prog_15_method_11_code 3 (some .int) [] ({ frames := 4, cells := 0, slots := 0, locals := 53 } : Room) #[(.ref p), (.int (Int32.ofNat j))] h (fun v h' => ∃ r : Nat, own_qsp n [own_s32 c0, own_s32 c1, own_s32 c2, own_s32 c3] j = r ∧ r ≤ n ∧ v = some (.int (Int32.ofNat r)) ∧ h = h') := by
  refine own_met (by first | exact plainFor_of_name (by decide +kernel) | decide +kernel) ?_
  intro p_ e_ s_ m_ below_ meth_ c_ K
  refine own_cast (own_sf_ef m_ _ _) ?_
  refine own_iloadN K own_d12_0 rfl ?_
  refine own_istoreN K own_d12_1 (Ls' := #[.val (.ref p), .val (.int (Int32.ofNat j)), .val (.int (Int32.ofNat j))]) rfl ?_
  refine own_rec (F := fun i => mkF m_ 2 #[.val (.ref p), .val (.int (Int32.ofNat j)), .val (.int (Int32.ofNat i))] []) (N := n) (fun i => own_qsp n [own_s32 c0, own_s32 c1, own_s32 c2, own_s32 c3] i = own_qsp n [own_s32 c0, own_s32 c1, own_s32 c2, own_s32 c3] j) ?_ j hj rfl
  intro i hi hI IH
  refine own_iloadN K own_d12_2 rfl ?_
  refine own_aloadN K own_d12_3 rfl rfl ?_
  refine own_getfield K own_d12_4 (host := "") (Or.inl (own_w39 hw)) Via.refl H (j := 1) rfl (q := 0) rfl ?_
  refine own_virtual K own_d12_7 (own_w54 hw) (own_w55 hw) (own_w57 hw) (own_w56 hw) (own_w13 hw) (own_w58 hw) (H.atO (i := 0) rfl) (a := a) (argsL := []) (rest := [(.int (Int32.ofNat i))]) (own_lenX hw hC H hn) own_pd9 rfl rfl rfl (by decide) (W := 1) (Nat.le_of_eq rfl) (by decide) (by decide) (by decide) (by decide) ?_
  intro v3 h1 q2
  obtain ⟨rfl, rfl⟩ := q2
  refine own_icmpge K own_d12_10 (fun gl => ?_) (fun gl => ?_)
  · have hle : n ≤ i := by have e1 := own_on (show i ≤ 4 by omega); have e2 := own_on hn; omega
    refine own_iloadN K own_d12_32 rfl ?_
    exact own_retI K (fun _ q => q) own_d12_33 (by decide) (by decide) (⟨i, hI.symm.trans (own_qspE hle), hi, rfl, rfl⟩)
  · have hlt : i < n := by have e1 := own_on (show i ≤ 4 by omega); have e2 := own_on hn; omega
    refine own_aloadN K own_d12_13 rfl rfl ?_
    refine own_getfield K own_d12_14 (host := "") (Or.inl (own_w39 hw)) Via.refl H (j := 1) rfl (q := 0) rfl ?_
    refine own_iloadN K own_d12_17 rfl ?_
    refine own_virtual K own_d12_18 (own_w95 hw) (own_w96 hw) (own_w98 hw) (own_w97 hw) (own_w13 hw) (own_w99 hw) (H.atO (i := 0) rfl) (a := a) (argsL := [(.int (Int32.ofNat i))]) (rest := []) (own_cat hw hC hF H (N := Int32.ofNat n) (q := i) (by rw [own_vsl hn]; exact own_on hn) (own_on (by omega)) (own_vsg hn hlt) (hB i (by omega)).1 (hB i (by omega)).2) own_pd10 rfl rfl rfl (by decide) (W := 0) (Nat.le_of_eq rfl) (by decide) (by decide) (by decide) (by decide) ?_
    intro v6 h4 q5
    obtain ⟨rfl, rfl⟩ := q5
    refine own_bipush K own_d12_21 (v := (32 : Int32)) rfl ?_
    refine own_icmpne K own_d12_23 (fun gs => ?_) (fun gs => ?_)
    · refine own_iloadN K own_d12_32 rfl ?_
      exact own_retI K (fun _ q => q) own_d12_33 (by decide) (by decide) (⟨i, hI.symm.trans (own_qspF hlt (by rw [own_fl32 (by omega)]; exact own_s32F gs)), hi, rfl, rfl⟩)
    · refine own_iinc K own_d12_26 rfl (y := ((Int32.ofNat i) + (1 : Int32))) (rfl) (Ls' := #[.val (.ref p), .val (.int (Int32.ofNat j)), .val (.int ((Int32.ofNat i) + (1 : Int32)))]) rfl ?_
      refine own_goto K own_d12_29 ?_
      exact own_cast (by rw [own_on1 (by omega)]; rfl) (IH (i + 1) (Nat.lt_succ_self i) hlt ((own_qspT hlt (by rw [own_fl32 (by omega)]; exact own_s32T (Classical.not_not.mp gs))).symm.trans hI))
set_option maxRecDepth 65536 in
set_option maxHeartbeats 40000000 in
theorem own_ta_ef (m : MethodId) (x0 : Addr) (x1 : Int32) : entryFrame m #[(.ref x0), (.int x1)] 5 = mkF m 0 #[.val (.ref x0), .val (.int x1), .unset, .unset, .unset] [] := by first | (simp [entryFrame, mkF, argsToLocals, Value.category]; done) | rfl
set_option maxRecDepth 65536 in
set_option maxHeartbeats 40000000 in
theorem own_ta {l : Launch} {Z : State} {a0 : Array Value} (hw : own_Z Z a0) {h : Heap} {os : List own_O} {as : List own_A} {p a y : Addr} {ad : String} {pv cs : Int32} {c0 c1 c2 c3 : Int32} {n j : Nat} {ch : Int32} (hC : cs ≠ 0 ∧ Sta Z Z.heap "java/lang/String" "COMPACT_STRINGS" "Z" (.int cs)) (hF : Sta Z Z.heap "jdk/internal/util/Preconditions" "SIOOBE_FORMATTER" "Ljava/util/function/BiFunction;" .null ∨ ∃ fa, Sta Z Z.heap "jdk/internal/util/Preconditions" "SIOOBE_FORMATTER" "Ljava/util/function/BiFunction;" (.ref fa)) (H : own_H Z h (own_ST a (.ref y) (.int (0 : Int32)) :: own_DN p (.ref a) (.int pv) (.int (Int32.ofNat j)) :: os) ((y, .byte, ad, (own_vs n c0 c1 c2 c3)) :: as)) (hB : own_bd c0 c1 c2 c3) (hn : n ≤ 4) (hj : j ≤ n) : own_Met none l Z (⟨"com/example/wary_loader/waryloader/dn/DnParser", "takeAlone", "(C)Z"⟩ : MethodName) prog_15_method_3_code 5 (some .boolean) [] ({ frames := 5, cells := 0, slots := 0, locals := 67 } : Room) #[(.ref p), (.int ch)] h (fun v h' => ∃ (b : Bool) (i : Nat), own_qta [own_s32 c0, own_s32 c1, own_s32 c2, own_s32 c3] [own_s59 c0, own_s59 c1, own_s59 c2, own_s59 c3] [own_seq c0 ch, own_seq c1 ch, own_seq c2 ch, own_seq c3 ch] n j = (b, i) ∧ i ≤ n ∧ v = some (.int (own_qb b)) ∧ own_H Z h' (own_ST a (.ref y) (.int (0 : Int32)) :: own_DN p (.ref a) (.int pv) (.int (Int32.ofNat i)) :: os) ((y, .byte, ad, (own_vs n c0 c1 c2 c3)) :: as)) := by
  refine own_met (by first | exact plainFor_of_name (by decide +kernel) | decide +kernel) ?_
  intro p_ e_ s_ m_ below_ meth_ c_ K
  refine own_cast (own_ta_ef m_ _ _) ?_
  refine own_aloadN K own_d13_0 rfl rfl ?_
  refine own_aloadN K own_d13_1 rfl rfl ?_
  refine own_getfield K own_d13_2 (host := "") (Or.inl (own_w48 hw)) Via.refl H (j := 1) rfl (q := 2) rfl ?_
  refine own_private K own_d13_5 (own_w50 hw) (own_w52 hw) (own_selp0 hw) (own_w51 hw) (own_w34 hw) (own_w53 hw) (H.atO (i := 1) rfl) (a := p) (argsL := [(.int (Int32.ofNat j))]) (rest := []) (own_sf hw hC hF H hB (j := j) hn hj) own_pd11 rfl rfl rfl (by decide) (W := 0) (Nat.le_of_eq rfl) (by decide) (by decide) (by decide) (by decide) ?_
  intro v3 h1 q2
  obtain ⟨r, er, kr, rfl, rfl⟩ := q2
  refine own_istoreN K own_d13_8 (Ls' := #[.val (.ref p), .val (.int ch), .val (.int (Int32.ofNat r)), .unset, .unset]) rfl ?_
  refine own_iloadN K own_d13_9 rfl ?_
  refine own_aloadN K own_d13_10 rfl rfl ?_
  refine own_getfield K own_d13_11 (host := "") (Or.inl (own_w39 hw)) Via.refl H (j := 1) rfl (q := 0) rfl ?_
  refine own_virtual K own_d13_14 (own_w54 hw) (own_w55 hw) (own_w57 hw) (own_w56 hw) (own_w13 hw) (own_w58 hw) (H.atO (i := 0) rfl) (a := a) (argsL := []) (rest := [(.int (Int32.ofNat r))]) (own_lenX hw hC H hn) own_pd9 rfl rfl rfl (by decide) (W := 1) (Nat.le_of_eq rfl) (by decide) (by decide) (by decide) (by decide) ?_
  intro v6 h4 q5
  obtain ⟨rfl, rfl⟩ := q5
  refine own_icmpeq K own_d13_17 (fun g1 => ?_) (fun g1 => ?_)
  · have hr : r = n := own_oni (by omega) hn g1
    refine own_iconst K own_d13_32 (v := (0 : Int32)) rfl ?_
    exact own_retZ K (fun _ q => q) (by first | exact Or.inl rfl | exact Or.inr rfl | decide) own_d13_33 (by decide) (by decide) (⟨false, j, own_taA er hr, hj, rfl, H⟩)
  · have hr : r ≠ n := fun q => g1 (by rw [q])
    have hlt : r < n := by omega
    refine own_aloadN K own_d13_20 rfl rfl ?_
    refine own_getfield K own_d13_21 (host := "") (Or.inl (own_w39 hw)) Via.refl H (j := 1) rfl (q := 0) rfl ?_
    refine own_iloadN K own_d13_24 rfl ?_
    refine own_virtual K own_d13_25 (own_w95 hw) (own_w96 hw) (own_w98 hw) (own_w97 hw) (own_w13 hw) (own_w99 hw) (H.atO (i := 0) rfl) (a := a) (argsL := [(.int (Int32.ofNat r))]) (rest := []) (own_cat hw hC hF H (N := Int32.ofNat n) (q := r) (by rw [own_vsl hn]; exact own_on hn) (own_on (by omega)) (own_vsg hn hlt) (hB r (by omega)).1 (hB r (by omega)).2) own_pd10 rfl rfl rfl (by decide) (W := 0) (Nat.le_of_eq rfl) (by decide) (by decide) (by decide) (by decide) ?_
    intro v9 h7 q8
    obtain ⟨rfl, rfl⟩ := q8
    refine own_iloadN K own_d13_28 rfl ?_
    refine own_icmpeq K own_d13_29 (fun gc => ?_) (fun gc => ?_)
    · refine own_aloadN K own_d13_34 rfl rfl ?_
      refine own_iloadN K own_d13_35 rfl ?_
      refine own_iconst K own_d13_36 (v := (1 : Int32)) rfl ?_
      refine own_iadd K own_d13_37 ?_
      refine own_topI (x' := (Int32.ofNat (r + 1))) (own_on1 (by omega)) ?_
      refine own_private K own_d13_38 (own_w50 hw) (own_w52 hw) (own_selp0 hw) (own_w51 hw) (own_w34 hw) (own_w53 hw) (H.atO (i := 1) rfl) (a := p) (argsL := [(.int (Int32.ofNat (r + 1)))]) (rest := []) (own_sf hw hC hF H hB (j := (r + 1)) hn hlt) own_pd11 rfl rfl rfl (by decide) (W := 0) (Nat.le_of_eq rfl) (by decide) (by decide) (by decide) (by decide) ?_
      intro v12 h10 q11
      obtain ⟨r2, er2, kr2, rfl, rfl⟩ := q11
      refine own_istoreN K own_d13_41 (Ls' := #[.val (.ref p), .val (.int ch), .val (.int (Int32.ofNat r)), .val (.int (Int32.ofNat r2)), .unset]) rfl ?_
      refine own_iloadN K own_d13_42 rfl ?_
      refine own_aloadN K own_d13_43 rfl rfl ?_
      refine own_getfield K own_d13_44 (host := "") (Or.inl (own_w39 hw)) Via.refl H (j := 1) rfl (q := 0) rfl ?_
      refine own_virtual K own_d13_47 (own_w54 hw) (own_w55 hw) (own_w57 hw) (own_w56 hw) (own_w13 hw) (own_w58 hw) (H.atO (i := 0) rfl) (a := a) (argsL := []) (rest := [(.int (Int32.ofNat r2))]) (own_lenX hw hC H hn) own_pd9 rfl rfl rfl (by decide) (W := 1) (Nat.le_of_eq rfl) (by decide) (by decide) (by decide) (by decide) ?_
      intro v15 h13 q14
      obtain ⟨rfl, rfl⟩ := q14
      refine own_icmpeq K own_d13_50 (fun g3 => ?_) (fun g3 => ?_)
      · have hr2 : r2 = n := own_oni (by omega) hn g3
        refine own_iconst K own_d13_66 (v := (1 : Int32)) rfl ?_
        refine own_goto K own_d13_67 ?_
        refine own_istore K own_d13_71 (Ls' := #[.val (.ref p), .val (.int ch), .val (.int (Int32.ofNat r)), .val (.int (Int32.ofNat r2)), .val (.int (1 : Int32))]) rfl ?_
        refine own_iload K own_d13_73 rfl ?_
        refine own_ifeq K own_d13_75 (fun q => absurd q (by decide)) (fun _ => ?_)
        refine own_aloadN K own_d13_78 rfl rfl ?_
        refine own_iloadN K own_d13_79 rfl ?_
        refine own_putfield K own_d13_80 (host := "") (Or.inl (own_w48 hw)) Via.refl H (j := 1) rfl (q := 2) rfl (Or.inl (own_w49 hw)) (own_w33 hw) (ty := .int) (by decide +kernel) (rfl) (rfl) ?_
        intro h16 H17
        replace H17 : own_H Z h16 (own_ST a (.ref y) (.int (0 : Int32)) :: own_DN p (.ref a) (.int pv) (.int (Int32.ofNat r2)) :: os) ((y, .byte, ad, (own_vs n c0 c1 c2 c3)) :: as) := H17
        refine own_iload K own_d13_83 rfl ?_
        exact own_retZ K (fun _ q => q) (by first | exact Or.inl rfl | exact Or.inr rfl | decide) own_d13_85 (by decide) (by decide) (⟨true, r2, own_taC er hr (by rw [own_fleq (by omega)]; exact own_seqT gc) er2 hr2, kr2, rfl, H17⟩)
      · have hr2 : r2 ≠ n := fun q => g3 (by rw [q])
        have hlt2 : r2 < n := by omega
        refine own_aloadN K own_d13_53 rfl rfl ?_
        refine own_getfield K own_d13_54 (host := "") (Or.inl (own_w39 hw)) Via.refl H (j := 1) rfl (q := 0) rfl ?_
        refine own_iloadN K own_d13_57 rfl ?_
        refine own_virtual K own_d13_58 (own_w95 hw) (own_w96 hw) (own_w98 hw) (own_w97 hw) (own_w13 hw) (own_w99 hw) (H.atO (i := 0) rfl) (a := a) (argsL := [(.int (Int32.ofNat r2))]) (rest := []) (own_cat hw hC hF H (N := Int32.ofNat n) (q := r2) (by rw [own_vsl hn]; exact own_on hn) (own_on (by omega)) (own_vsg hn hlt2) (hB r2 (by omega)).1 (hB r2 (by omega)).2) own_pd10 rfl rfl rfl (by decide) (W := 0) (Nat.le_of_eq rfl) (by decide) (by decide) (by decide) (by decide) ?_
        intro v20 h18 q19
        obtain ⟨rfl, rfl⟩ := q19
        refine own_bipush K own_d13_61 (v := (59 : Int32)) rfl ?_
        refine own_icmpne K own_d13_63 (fun ge => ?_) (fun ge => ?_)
        · refine own_iconst K own_d13_70 (v := (0 : Int32)) rfl ?_
          refine own_istore K own_d13_71 (Ls' := #[.val (.ref p), .val (.int ch), .val (.int (Int32.ofNat r)), .val (.int (Int32.ofNat r2)), .val (.int (0 : Int32))]) rfl ?_
          refine own_iload K own_d13_73 rfl ?_
          refine own_ifeq K own_d13_75 (fun _ => ?_) (fun q => absurd (by decide) q)
          refine own_iload K own_d13_83 rfl ?_
          exact own_retZ K (fun _ q => q) (by first | exact Or.inl rfl | exact Or.inr rfl | decide) own_d13_85 (by decide) (by decide) (⟨false, j, own_taE er hr (by rw [own_fleq (by omega)]; exact own_seqT gc) er2 hr2 (by rw [own_fl59 (by omega)]; exact own_s59F ge), hj, rfl, H⟩)
        · refine own_iconst K own_d13_66 (v := (1 : Int32)) rfl ?_
          refine own_goto K own_d13_67 ?_
          refine own_istore K own_d13_71 (Ls' := #[.val (.ref p), .val (.int ch), .val (.int (Int32.ofNat r)), .val (.int (Int32.ofNat r2)), .val (.int (1 : Int32))]) rfl ?_
          refine own_iload K own_d13_73 rfl ?_
          refine own_ifeq K own_d13_75 (fun q => absurd q (by decide)) (fun _ => ?_)
          refine own_aloadN K own_d13_78 rfl rfl ?_
          refine own_iloadN K own_d13_79 rfl ?_
          refine own_putfield K own_d13_80 (host := "") (Or.inl (own_w48 hw)) Via.refl H (j := 1) rfl (q := 2) rfl (Or.inl (own_w49 hw)) (own_w33 hw) (ty := .int) (by decide +kernel) (rfl) (rfl) ?_
          intro h21 H22
          replace H22 : own_H Z h21 (own_ST a (.ref y) (.int (0 : Int32)) :: own_DN p (.ref a) (.int pv) (.int (Int32.ofNat r2)) :: os) ((y, .byte, ad, (own_vs n c0 c1 c2 c3)) :: as) := H22
          refine own_iload K own_d13_83 rfl ?_
          exact own_retZ K (fun _ q => q) (by first | exact Or.inl rfl | exact Or.inr rfl | decide) own_d13_85 (by decide) (by decide) (⟨true, r2, own_taD er hr (by rw [own_fleq (by omega)]; exact own_seqT gc) er2 (by rw [own_fl59 (by omega)]; exact own_s59T (Classical.not_not.mp ge)), kr2, rfl, H22⟩)
    · refine own_iconst K own_d13_32 (v := (0 : Int32)) rfl ?_
      exact own_retZ K (fun _ q => q) (by first | exact Or.inl rfl | exact Or.inr rfl | decide) own_d13_33 (by decide) (by decide) (⟨false, j, own_taB er (by rw [own_fleq (by omega)]; exact own_seqF gc), hj, rfl, H⟩)
set_option maxRecDepth 65536 in
set_option maxHeartbeats 40000000 in
theorem own_tk_ef (m : MethodId) (x0 : Addr) (x1 : Int32) : entryFrame m #[(.ref x0), (.int x1)] 3 = mkF m 0 #[.val (.ref x0), .val (.int x1), .unset] [] := by first | (simp [entryFrame, mkF, argsToLocals, Value.category]; done) | rfl
set_option maxRecDepth 65536 in
set_option maxHeartbeats 40000000 in
theorem own_tk {l : Launch} {Z : State} {a0 : Array Value} (hw : own_Z Z a0) {h : Heap} {os : List own_O} {as : List own_A} {p a y : Addr} {ad : String} {pv cs : Int32} {c0 c1 c2 c3 : Int32} {n j : Nat} (hC : cs ≠ 0 ∧ Sta Z Z.heap "java/lang/String" "COMPACT_STRINGS" "Z" (.int cs)) (hF : Sta Z Z.heap "jdk/internal/util/Preconditions" "SIOOBE_FORMATTER" "Ljava/util/function/BiFunction;" .null ∨ ∃ fa, Sta Z Z.heap "jdk/internal/util/Preconditions" "SIOOBE_FORMATTER" "Ljava/util/function/BiFunction;" (.ref fa)) (H : own_H Z h (own_ST a (.ref y) (.int (0 : Int32)) :: own_DN p (.ref a) (.int pv) (.int (Int32.ofNat j)) :: os) ((y, .byte, ad, (own_vs n c0 c1 c2 c3)) :: as)) (hB : own_bd c0 c1 c2 c3) (hn : n ≤ 4) (hj : j ≤ n) : own_Met none l Z (⟨"com/example/wary_loader/waryloader/dn/DnParser", "take", "(C)Z"⟩ : MethodName) prog_15_method_5_code 3 (some .boolean) [] ({ frames := 5, cells := 0, slots := 0, locals := 68 } : Room) #[(.ref p), (.int (59 : Int32))] h (fun v h' => ∃ (b : Bool) (i : Nat), own_qtk [own_s32 c0, own_s32 c1, own_s32 c2, own_s32 c3] [own_s59 c0, own_s59 c1, own_s59 c2, own_s59 c3] n j = (b, i) ∧ i ≤ n ∧ v = some (.int (own_qb b)) ∧ own_H Z h' (own_ST a (.ref y) (.int (0 : Int32)) :: own_DN p (.ref a) (.int pv) (.int (Int32.ofNat i)) :: os) ((y, .byte, ad, (own_vs n c0 c1 c2 c3)) :: as)) := by
  refine own_met (by first | exact plainFor_of_name (by decide +kernel) | decide +kernel) ?_
  intro p_ e_ s_ m_ below_ meth_ c_ K
  refine own_cast (own_tk_ef m_ _ _) ?_
  refine own_aloadN K own_d14_0 rfl rfl ?_
  refine own_aloadN K own_d14_1 rfl rfl ?_
  refine own_aloadN K own_d14_2 rfl rfl ?_
  refine own_getfield K own_d14_3 (host := "") (Or.inl (own_w48 hw)) Via.refl H (j := 1) rfl (q := 2) rfl ?_
  refine own_private K own_d14_6 (own_w50 hw) (own_w52 hw) (own_selp0 hw) (own_w51 hw) (own_w34 hw) (own_w53 hw) (H.atO (i := 1) rfl) (a := p) (argsL := [(.int (Int32.ofNat j))]) (rest := [(.ref p)]) (own_sf hw hC hF H hB (j := j) hn hj) own_pd11 rfl rfl rfl (by decide) (W := 1) (Nat.le_of_eq rfl) (by decide) (by decide) (by decide) (by decide) ?_
  intro v3 h1 q2
  obtain ⟨r, er, kr, rfl, rfl⟩ := q2
  refine own_putfield K own_d14_9 (host := "") (Or.inl (own_w48 hw)) Via.refl H (j := 1) rfl (q := 2) rfl (Or.inl (own_w49 hw)) (own_w33 hw) (ty := .int) (by decide +kernel) (rfl) (rfl) ?_
  intro h4 H5
  replace H5 : own_H Z h4 (own_ST a (.ref y) (.int (0 : Int32)) :: own_DN p (.ref a) (.int pv) (.int (Int32.ofNat r)) :: os) ((y, .byte, ad, (own_vs n c0 c1 c2 c3)) :: as) := H5
  refine own_aloadN K own_d14_12 rfl rfl ?_
  refine own_getfield K own_d14_13 (host := "") (Or.inl (own_w48 hw)) Via.refl H5 (j := 1) rfl (q := 2) rfl ?_
  refine own_aloadN K own_d14_16 rfl rfl ?_
  refine own_getfield K own_d14_17 (host := "") (Or.inl (own_w39 hw)) Via.refl H5 (j := 1) rfl (q := 0) rfl ?_
  refine own_virtual K own_d14_20 (own_w54 hw) (own_w55 hw) (own_w57 hw) (own_w56 hw) (own_w13 hw) (own_w58 hw) (H5.atO (i := 0) rfl) (a := a) (argsL := []) (rest := [(.int (Int32.ofNat r))]) (own_lenX hw hC H5 hn) own_pd9 rfl rfl rfl (by decide) (W := 1) (Nat.le_of_eq rfl) (by decide) (by decide) (by decide) (by decide) ?_
  intro v8 h6 q7
  obtain ⟨rfl, rfl⟩ := q7
  refine own_icmpge K own_d14_23 (fun g1 => ?_) (fun g1 => ?_)
  · have hr : ¬ r < n := by have e1 := own_on (show r ≤ 4 by omega); have e2 := own_on hn; omega
    refine own_iconst K own_d14_45 (v := (0 : Int32)) rfl ?_
    refine own_istoreN K own_d14_46 (Ls' := #[.val (.ref p), .val (.int (59 : Int32)), .val (.int (0 : Int32))]) rfl ?_
    refine own_iloadN K own_d14_47 rfl ?_
    refine own_ifeq K own_d14_48 (fun _ => ?_) (fun q => absurd (by decide) q)
    refine own_iloadN K own_d14_61 rfl ?_
    exact own_retZ K (fun _ q => q) (by first | exact Or.inl rfl | exact Or.inr rfl | decide) own_d14_62 (by decide) (by decide) (⟨false, r, own_tkA er hr, kr, rfl, H5⟩)
  · have hlt : r < n := by have e1 := own_on (show r ≤ 4 by omega); have e2 := own_on hn; omega
    refine own_aloadN K own_d14_26 rfl rfl ?_
    refine own_getfield K own_d14_27 (host := "") (Or.inl (own_w39 hw)) Via.refl H5 (j := 1) rfl (q := 0) rfl ?_
    refine own_aloadN K own_d14_30 rfl rfl ?_
    refine own_getfield K own_d14_31 (host := "") (Or.inl (own_w48 hw)) Via.refl H5 (j := 1) rfl (q := 2) rfl ?_
    refine own_virtual K own_d14_34 (own_w95 hw) (own_w96 hw) (own_w98 hw) (own_w97 hw) (own_w13 hw) (own_w99 hw) (H5.atO (i := 0) rfl) (a := a) (argsL := [(.int (Int32.ofNat r))]) (rest := []) (own_cat hw hC hF H5 (N := Int32.ofNat n) (q := r) (by rw [own_vsl hn]; exact own_on hn) (own_on (by omega)) (own_vsg hn hlt) (hB r (by omega)).1 (hB r (by omega)).2) own_pd10 rfl rfl rfl (by decide) (W := 0) (Nat.le_of_eq rfl) (by decide) (by decide) (by decide) (by decide) ?_
    intro v11 h9 q10
    obtain ⟨rfl, rfl⟩ := q10
    refine own_iloadN K own_d14_37 rfl ?_
    refine own_icmpne K own_d14_38 (fun ge => ?_) (fun ge => ?_)
    · refine own_iconst K own_d14_45 (v := (0 : Int32)) rfl ?_
      refine own_istoreN K own_d14_46 (Ls' := #[.val (.ref p), .val (.int (59 : Int32)), .val (.int (0 : Int32))]) rfl ?_
      refine own_iloadN K own_d14_47 rfl ?_
      refine own_ifeq K own_d14_48 (fun _ => ?_) (fun q => absurd (by decide) q)
      refine own_iloadN K own_d14_61 rfl ?_
      exact own_retZ K (fun _ q => q) (by first | exact Or.inl rfl | exact Or.inr rfl | decide) own_d14_62 (by decide) (by decide) (⟨false, r, own_tkB er (by rw [own_fl59 (by omega)]; exact own_s59F ge), kr, rfl, H5⟩)
    · refine own_iconst K own_d14_41 (v := (1 : Int32)) rfl ?_
      refine own_goto K own_d14_42 ?_
      refine own_istoreN K own_d14_46 (Ls' := #[.val (.ref p), .val (.int (59 : Int32)), .val (.int (1 : Int32))]) rfl ?_
      refine own_iloadN K own_d14_47 rfl ?_
      refine own_ifeq K own_d14_48 (fun q => absurd q (by decide)) (fun _ => ?_)
      refine own_aloadN K own_d14_51 rfl rfl ?_
      refine own_dup K own_d14_52 rfl ?_
      refine own_getfield K own_d14_53 (host := "") (Or.inl (own_w48 hw)) Via.refl H5 (j := 1) rfl (q := 2) rfl ?_
      refine own_iconst K own_d14_56 (v := (1 : Int32)) rfl ?_
      refine own_iadd K own_d14_57 ?_
      refine own_topI (x' := (Int32.ofNat (r + 1))) (own_on1 (by omega)) ?_
      refine own_putfield K own_d14_58 (host := "") (Or.inl (own_w48 hw)) Via.refl H5 (j := 1) rfl (q := 2) rfl (Or.inl (own_w49 hw)) (own_w33 hw) (ty := .int) (by decide +kernel) (rfl) (rfl) ?_
      intro h12 H13
      replace H13 : own_H Z h12 (own_ST a (.ref y) (.int (0 : Int32)) :: own_DN p (.ref a) (.int pv) (.int (Int32.ofNat (r + 1))) :: os) ((y, .byte, ad, (own_vs n c0 c1 c2 c3)) :: as) := H13
      refine own_iloadN K own_d14_61 rfl ?_
      exact own_retZ K (fun _ q => q) (by first | exact Or.inl rfl | exact Or.inr rfl | decide) own_d14_62 (by decide) (by decide) (⟨true, (r + 1), own_tkC er hlt (by rw [own_fl59 (by omega)]; exact own_s59T (Classical.not_not.mp ge)), hlt, rfl, H13⟩)
set_option maxRecDepth 65536 in
set_option maxHeartbeats 40000000 in
theorem own_en_ef (m : MethodId) (x0 : Addr) (x1 : Int32) (x2 : Int32) : entryFrame m #[(.ref x0), (.int x1), (.int x2)] 3 = mkF m 0 #[.val (.ref x0), .val (.int x1), .val (.int x2)] [] := by first | (simp [entryFrame, mkF, argsToLocals, Value.category]; done) | rfl
set_option maxRecDepth 65536 in
set_option maxHeartbeats 40000000 in
theorem own_en {l : Launch} {Z : State} {a0 : Array Value} (hw : own_Z Z a0) {h : Heap} {os : List own_O} {as : List own_A} {x : Addr} {c0 c1 c2 c3 : Int32} {n j : Nat} (H : own_H Z h os ((x, .char, "[C", [(.int c0), (.int c1), (.int c2), (.int c3)]) :: as)) (hn : n ≤ 4) (hj : j ≤ n) : own_Met none l Z (⟨"com/example/wary_loader/waryloader/dn/DnParserTakeAlonePinLaw", "end", "([CII)I"⟩ : MethodName) method_6_code 3 (some .int) [] ({ frames := 0, cells := 0, slots := 0, locals := 0 } : Room) #[(.ref x), (.int (Int32.ofNat n)), (.int (Int32.ofNat j))] h (fun v h' => ∃ e : Nat, own_qen (own_s59 c0) (own_s59 c1) (own_s59 c2) (own_s59 c3) n j = e ∧ e ≤ n ∧ v = some (.int (Int32.ofNat e)) ∧ h = h') := by
  refine own_met (by first | exact plainFor_of_name (by decide +kernel) | decide +kernel) ?_
  intro p_ e_ s_ m_ below_ meth_ c_ K
  refine own_cast (own_en_ef m_ _ _ _) ?_
  refine own_joinP (g1 := mkF m_ 19 #[.val (.ref x), .val (.int (Int32.ofNat n)), .val (.int (Int32.ofNat j))] []) (own_ts 0 j n (own_s59 c0) = false) ?_ ?_
  · intro p0
    refine own_joinP (g1 := mkF m_ 39 #[.val (.ref x), .val (.int (Int32.ofNat n)), .val (.int (Int32.ofNat j))] []) (own_ts 1 j n (own_s59 c1) = false) ?_ ?_
    · intro p1
      refine own_joinP (g1 := mkF m_ 59 #[.val (.ref x), .val (.int (Int32.ofNat n)), .val (.int (Int32.ofNat j))] []) (own_ts 2 j n (own_s59 c2) = false) ?_ ?_
      · intro p2
        refine own_joinP (g1 := mkF m_ 79 #[.val (.ref x), .val (.int (Int32.ofNat n)), .val (.int (Int32.ofNat j))] []) (own_ts 3 j n (own_s59 c3) = false) ?_ ?_
        · intro p3
          refine own_iloadN K own_d15_79 rfl ?_
          exact own_retI K (fun _ q => q) own_d15_80 (by decide) (by decide) (⟨n, by unfold own_qen; rw [p0, p1, p2, p3]; rfl, Nat.le_refl _, rfl, rfl⟩)
        · intro J3
          refine own_iloadN K own_d15_59 rfl ?_
          refine own_iconst K own_d15_60 (v := (3 : Int32)) rfl ?_
          refine own_icmpgt K own_d15_61 (fun g1 => ?_) (fun g1 => ?_)
          · exact J3 (own_tsF1 (by have e0 : (3 : Int32).toInt = 3 := rfl; have e1 := own_on (show j ≤ 4 by omega); have e2 := own_on hn; omega))
          · refine own_iconst K own_d15_64 (v := (3 : Int32)) rfl ?_
            refine own_iloadN K own_d15_65 rfl ?_
            refine own_icmpge K own_d15_66 (fun g2 => ?_) (fun g2 => ?_)
            · exact J3 (own_tsF2 (by have e0 : (3 : Int32).toInt = 3 := rfl; have e1 := own_on (show j ≤ 4 by omega); have e2 := own_on hn; omega))
            · refine own_aloadN K own_d15_69 rfl rfl ?_
              refine own_iconst K own_d15_70 (v := (3 : Int32)) rfl ?_
              refine own_caload K own_d15_71 H (i := 0) rfl (q := 3) (by decide) (rfl) ?_
              refine own_bipush K own_d15_72 (v := (59 : Int32)) rfl ?_
              refine own_icmpne K own_d15_74 (fun g3 => ?_) (fun g3 => ?_)
              · exact J3 (own_tsF3 (own_s59F g3))
              · refine own_iconst K own_d15_77 (v := (3 : Int32)) rfl ?_
                exact own_retI K (fun _ q => q) own_d15_78 (by decide) (by decide) (⟨3, by unfold own_qen; rw [p0, p1, p2, own_tsT (by have e0 : (3 : Int32).toInt = 3 := rfl; have e1 := own_on (show j ≤ 4 by omega); have e2 := own_on hn; omega) (by have e0 : (3 : Int32).toInt = 3 := rfl; have e1 := own_on (show j ≤ 4 by omega); have e2 := own_on hn; omega) (own_s59T (Classical.not_not.mp g3))]; rfl, by have e0 : (3 : Int32).toInt = 3 := rfl; have e2 := own_on hn; omega, rfl, rfl⟩)
      · intro J2
        refine own_iloadN K own_d15_39 rfl ?_
        refine own_iconst K own_d15_40 (v := (2 : Int32)) rfl ?_
        refine own_icmpgt K own_d15_41 (fun g1 => ?_) (fun g1 => ?_)
        · exact J2 (own_tsF1 (by have e0 : (2 : Int32).toInt = 2 := rfl; have e1 := own_on (show j ≤ 4 by omega); have e2 := own_on hn; omega))
        · refine own_iconst K own_d15_44 (v := (2 : Int32)) rfl ?_
          refine own_iloadN K own_d15_45 rfl ?_
          refine own_icmpge K own_d15_46 (fun g2 => ?_) (fun g2 => ?_)
          · exact J2 (own_tsF2 (by have e0 : (2 : Int32).toInt = 2 := rfl; have e1 := own_on (show j ≤ 4 by omega); have e2 := own_on hn; omega))
          · refine own_aloadN K own_d15_49 rfl rfl ?_
            refine own_iconst K own_d15_50 (v := (2 : Int32)) rfl ?_
            refine own_caload K own_d15_51 H (i := 0) rfl (q := 2) (by decide) (rfl) ?_
            refine own_bipush K own_d15_52 (v := (59 : Int32)) rfl ?_
            refine own_icmpne K own_d15_54 (fun g3 => ?_) (fun g3 => ?_)
            · exact J2 (own_tsF3 (own_s59F g3))
            · refine own_iconst K own_d15_57 (v := (2 : Int32)) rfl ?_
              exact own_retI K (fun _ q => q) own_d15_58 (by decide) (by decide) (⟨2, by unfold own_qen; rw [p0, p1, own_tsT (by have e0 : (2 : Int32).toInt = 2 := rfl; have e1 := own_on (show j ≤ 4 by omega); have e2 := own_on hn; omega) (by have e0 : (2 : Int32).toInt = 2 := rfl; have e1 := own_on (show j ≤ 4 by omega); have e2 := own_on hn; omega) (own_s59T (Classical.not_not.mp g3))]; rfl, by have e0 : (2 : Int32).toInt = 2 := rfl; have e2 := own_on hn; omega, rfl, rfl⟩)
    · intro J1
      refine own_iloadN K own_d15_19 rfl ?_
      refine own_iconst K own_d15_20 (v := (1 : Int32)) rfl ?_
      refine own_icmpgt K own_d15_21 (fun g1 => ?_) (fun g1 => ?_)
      · exact J1 (own_tsF1 (by have e0 : (1 : Int32).toInt = 1 := rfl; have e1 := own_on (show j ≤ 4 by omega); have e2 := own_on hn; omega))
      · refine own_iconst K own_d15_24 (v := (1 : Int32)) rfl ?_
        refine own_iloadN K own_d15_25 rfl ?_
        refine own_icmpge K own_d15_26 (fun g2 => ?_) (fun g2 => ?_)
        · exact J1 (own_tsF2 (by have e0 : (1 : Int32).toInt = 1 := rfl; have e1 := own_on (show j ≤ 4 by omega); have e2 := own_on hn; omega))
        · refine own_aloadN K own_d15_29 rfl rfl ?_
          refine own_iconst K own_d15_30 (v := (1 : Int32)) rfl ?_
          refine own_caload K own_d15_31 H (i := 0) rfl (q := 1) (by decide) (rfl) ?_
          refine own_bipush K own_d15_32 (v := (59 : Int32)) rfl ?_
          refine own_icmpne K own_d15_34 (fun g3 => ?_) (fun g3 => ?_)
          · exact J1 (own_tsF3 (own_s59F g3))
          · refine own_iconst K own_d15_37 (v := (1 : Int32)) rfl ?_
            exact own_retI K (fun _ q => q) own_d15_38 (by decide) (by decide) (⟨1, by unfold own_qen; rw [p0, own_tsT (by have e0 : (1 : Int32).toInt = 1 := rfl; have e1 := own_on (show j ≤ 4 by omega); have e2 := own_on hn; omega) (by have e0 : (1 : Int32).toInt = 1 := rfl; have e1 := own_on (show j ≤ 4 by omega); have e2 := own_on hn; omega) (own_s59T (Classical.not_not.mp g3))]; rfl, by have e0 : (1 : Int32).toInt = 1 := rfl; have e2 := own_on hn; omega, rfl, rfl⟩)
  · intro J0
    refine own_iloadN K own_d15_0 rfl ?_
    refine own_ifgt K own_d15_1 (fun g1 => ?_) (fun g1 => ?_)
    · exact J0 (own_tsF1 (by have e0 : (0 : Int32).toInt = 0 := rfl; have e1 := own_on (show j ≤ 4 by omega); have e2 := own_on hn; omega))
    · refine own_iconst K own_d15_4 (v := (0 : Int32)) rfl ?_
      refine own_iloadN K own_d15_5 rfl ?_
      refine own_icmpge K own_d15_6 (fun g2 => ?_) (fun g2 => ?_)
      · exact J0 (own_tsF2 (by have e0 : (0 : Int32).toInt = 0 := rfl; have e1 := own_on (show j ≤ 4 by omega); have e2 := own_on hn; omega))
      · refine own_aloadN K own_d15_9 rfl rfl ?_
        refine own_iconst K own_d15_10 (v := (0 : Int32)) rfl ?_
        refine own_caload K own_d15_11 H (i := 0) rfl (q := 0) (by decide) (rfl) ?_
        refine own_bipush K own_d15_12 (v := (59 : Int32)) rfl ?_
        refine own_icmpne K own_d15_14 (fun g3 => ?_) (fun g3 => ?_)
        · exact J0 (own_tsF3 (own_s59F g3))
        · refine own_iconst K own_d15_17 (v := (0 : Int32)) rfl ?_
          exact own_retI K (fun _ q => q) own_d15_18 (by decide) (by decide) (⟨0, by unfold own_qen; rw [own_tsT (by have e0 : (0 : Int32).toInt = 0 := rfl; have e1 := own_on (show j ≤ 4 by omega); have e2 := own_on hn; omega) (by have e0 : (0 : Int32).toInt = 0 := rfl; have e1 := own_on (show j ≤ 4 by omega); have e2 := own_on hn; omega) (own_s59T (Classical.not_not.mp g3))]; rfl, by have e0 : (0 : Int32).toInt = 0 := rfl; have e2 := own_on hn; omega, rfl, rfl⟩)
set_option maxRecDepth 65536 in
set_option maxHeartbeats 40000000 in
theorem own_ns0_ef (m : MethodId) (x0 : Addr) (x1 : Int32) (x2 : Int32) (x3 : Int32) : entryFrame m #[(.ref x0), (.int x1), (.int x2), (.int x3)] 4 = mkF m 0 #[.val (.ref x0), .val (.int x1), .val (.int x2), .val (.int x3)] [] := by first | (simp [entryFrame, mkF, argsToLocals, Value.category]; done) | rfl
set_option maxRecDepth 65536 in
set_option maxHeartbeats 40000000 in
theorem own_ns0 {l : Launch} {Z : State} {a0 : Array Value} (hw : own_Z Z a0) {h : Heap} {os : List own_O} {as : List own_A} {x : Addr} {c0 c1 c2 c3 : Int32} {f g : Int32} {j e : Nat} (H : own_H Z h os ((x, .char, "[C", [(.int c0), (.int c1), (.int c2), (.int c3)]) :: as)) (hf : f.toInt = (j : Int)) (hg : g.toInt = (e : Int)) : own_Met none l Z (⟨"com/example/wary_loader/waryloader/dn/DnParserTakeAlonePinLaw", "ns", "([CIII)I"⟩ : MethodName) method_7_code 4 (some .int) [] ({ frames := 0, cells := 0, slots := 0, locals := 0 } : Room) #[(.ref x), (.int (0 : Int32)), (.int f), (.int g)] h (fun v h' => v = some (.int (own_qb (own_qi 0 j e && !own_s32 c0))) ∧ h = h') := by
  refine own_met (by first | exact plainFor_of_name (by decide +kernel) | decide +kernel) ?_
  intro p_ e_ s_ m_ below_ meth_ c_ K
  refine own_cast (own_ns0_ef m_ _ _ _ _) ?_
  refine own_iloadN K own_d16_0 rfl ?_
  refine own_iloadN K own_d16_1 rfl ?_
  refine own_icmplt K own_d16_2 (fun g0 => ?_) (fun g0 => ?_)
  · refine own_iconst K own_d16_22 (v := (0 : Int32)) rfl ?_
    exact own_retI K (fun _ q => q) own_d16_23 (by decide) (by decide) (⟨congrArg (fun y => some (Value.int y)) (show (0 : Int32) = own_qb (own_qi 0 j e && !own_s32 c0) by rw [own_qiF1 (by have e0 : (0 : Int32).toInt = 0 := rfl; omega)]; rfl), rfl⟩)
  · refine own_iloadN K own_d16_5 rfl ?_
    refine own_iloadN K own_d16_6 rfl ?_
    refine own_icmpge K own_d16_7 (fun g1 => ?_) (fun g1 => ?_)
    · refine own_iconst K own_d16_22 (v := (0 : Int32)) rfl ?_
      exact own_retI K (fun _ q => q) own_d16_23 (by decide) (by decide) (⟨congrArg (fun y => some (Value.int y)) (show (0 : Int32) = own_qb (own_qi 0 j e && !own_s32 c0) by rw [own_qiF2 (by have e0 : (0 : Int32).toInt = 0 := rfl; omega)]; rfl), rfl⟩)
    · refine own_aloadN K own_d16_10 rfl rfl ?_
      refine own_iloadN K own_d16_11 rfl ?_
      refine own_caload K own_d16_12 H (i := 0) rfl (q := 0) (by decide) (rfl) ?_
      refine own_bipush K own_d16_13 (v := (32 : Int32)) rfl ?_
      refine own_icmpeq K own_d16_15 (fun g2 => ?_) (fun g2 => ?_)
      · refine own_iconst K own_d16_22 (v := (0 : Int32)) rfl ?_
        exact own_retI K (fun _ q => q) own_d16_23 (by decide) (by decide) (⟨congrArg (fun y => some (Value.int y)) (show (0 : Int32) = own_qb (own_qi 0 j e && !own_s32 c0) by rw [own_qiT (by have e0 : (0 : Int32).toInt = 0 := rfl; omega) (by have e0 : (0 : Int32).toInt = 0 := rfl; omega), own_s32T g2]; rfl), rfl⟩)
      · refine own_iconst K own_d16_18 (v := (1 : Int32)) rfl ?_
        refine own_goto K own_d16_19 ?_
        exact own_retI K (fun _ q => q) own_d16_23 (by decide) (by decide) (⟨congrArg (fun y => some (Value.int y)) (show (1 : Int32) = own_qb (own_qi 0 j e && !own_s32 c0) by rw [own_qiT (by have e0 : (0 : Int32).toInt = 0 := rfl; omega) (by have e0 : (0 : Int32).toInt = 0 := rfl; omega), own_s32F g2]; rfl), rfl⟩)
set_option maxRecDepth 65536 in
set_option maxHeartbeats 40000000 in
theorem own_oc0_ef (m : MethodId) (x0 : Addr) (x1 : Int32) (x2 : Int32) (x3 : Int32) (x4 : Int32) : entryFrame m #[(.ref x0), (.int x1), (.int x2), (.int x3), (.int x4)] 5 = mkF m 0 #[.val (.ref x0), .val (.int x1), .val (.int x2), .val (.int x3), .val (.int x4)] [] := by first | (simp [entryFrame, mkF, argsToLocals, Value.category]; done) | rfl
set_option maxRecDepth 65536 in
set_option maxHeartbeats 40000000 in
theorem own_oc0 {l : Launch} {Z : State} {a0 : Array Value} (hw : own_Z Z a0) {h : Heap} {os : List own_O} {as : List own_A} {x : Addr} {c0 c1 c2 c3 : Int32} {f g : Int32} {j e : Nat} {ch : Int32} (H : own_H Z h os ((x, .char, "[C", [(.int c0), (.int c1), (.int c2), (.int c3)]) :: as)) (hf : f.toInt = (j : Int)) (hg : g.toInt = (e : Int)) : own_Met none l Z (⟨"com/example/wary_loader/waryloader/dn/DnParserTakeAlonePinLaw", "oc", "([CIIIC)I"⟩ : MethodName) method_9_code 5 (some .int) [] ({ frames := 0, cells := 0, slots := 0, locals := 0 } : Room) #[(.ref x), (.int (0 : Int32)), (.int f), (.int g), (.int ch)] h (fun v h' => v = some (.int (own_qb (own_qi 0 j e && own_seq c0 ch))) ∧ h = h') := by
  refine own_met (by first | exact plainFor_of_name (by decide +kernel) | decide +kernel) ?_
  intro p_ e_ s_ m_ below_ meth_ c_ K
  refine own_cast (own_oc0_ef m_ _ _ _ _ _) ?_
  refine own_iloadN K own_d17_0 rfl ?_
  refine own_iloadN K own_d17_1 rfl ?_
  refine own_icmplt K own_d17_2 (fun g0 => ?_) (fun g0 => ?_)
  · refine own_iconst K own_d17_22 (v := (0 : Int32)) rfl ?_
    exact own_retI K (fun _ q => q) own_d17_23 (by decide) (by decide) (⟨congrArg (fun y => some (Value.int y)) (show (0 : Int32) = own_qb (own_qi 0 j e && own_seq c0 ch) by rw [own_qiF1 (by have e0 : (0 : Int32).toInt = 0 := rfl; omega)]; rfl), rfl⟩)
  · refine own_iloadN K own_d17_5 rfl ?_
    refine own_iloadN K own_d17_6 rfl ?_
    refine own_icmpge K own_d17_7 (fun g1 => ?_) (fun g1 => ?_)
    · refine own_iconst K own_d17_22 (v := (0 : Int32)) rfl ?_
      exact own_retI K (fun _ q => q) own_d17_23 (by decide) (by decide) (⟨congrArg (fun y => some (Value.int y)) (show (0 : Int32) = own_qb (own_qi 0 j e && own_seq c0 ch) by rw [own_qiF2 (by have e0 : (0 : Int32).toInt = 0 := rfl; omega)]; rfl), rfl⟩)
    · refine own_aloadN K own_d17_10 rfl rfl ?_
      refine own_iloadN K own_d17_11 rfl ?_
      refine own_caload K own_d17_12 H (i := 0) rfl (q := 0) (by decide) (rfl) ?_
      refine own_iload K own_d17_13 rfl ?_
      refine own_icmpne K own_d17_15 (fun g2 => ?_) (fun g2 => ?_)
      · refine own_iconst K own_d17_22 (v := (0 : Int32)) rfl ?_
        exact own_retI K (fun _ q => q) own_d17_23 (by decide) (by decide) (⟨congrArg (fun y => some (Value.int y)) (show (0 : Int32) = own_qb (own_qi 0 j e && own_seq c0 ch) by rw [own_qiT (by have e0 : (0 : Int32).toInt = 0 := rfl; omega) (by have e0 : (0 : Int32).toInt = 0 := rfl; omega), own_seqF g2]; rfl), rfl⟩)
      · refine own_iconst K own_d17_18 (v := (1 : Int32)) rfl ?_
        refine own_goto K own_d17_19 ?_
        exact own_retI K (fun _ q => q) own_d17_23 (by decide) (by decide) (⟨congrArg (fun y => some (Value.int y)) (show (1 : Int32) = own_qb (own_qi 0 j e && own_seq c0 ch) by rw [own_qiT (by have e0 : (0 : Int32).toInt = 0 := rfl; omega) (by have e0 : (0 : Int32).toInt = 0 := rfl; omega), own_seqT (Classical.not_not.mp g2)]; rfl), rfl⟩)
set_option maxRecDepth 65536 in
set_option maxHeartbeats 40000000 in
theorem own_ns1_ef (m : MethodId) (x0 : Addr) (x1 : Int32) (x2 : Int32) (x3 : Int32) : entryFrame m #[(.ref x0), (.int x1), (.int x2), (.int x3)] 4 = mkF m 0 #[.val (.ref x0), .val (.int x1), .val (.int x2), .val (.int x3)] [] := by first | (simp [entryFrame, mkF, argsToLocals, Value.category]; done) | rfl
set_option maxRecDepth 65536 in
set_option maxHeartbeats 40000000 in
theorem own_ns1 {l : Launch} {Z : State} {a0 : Array Value} (hw : own_Z Z a0) {h : Heap} {os : List own_O} {as : List own_A} {x : Addr} {c0 c1 c2 c3 : Int32} {f g : Int32} {j e : Nat} (H : own_H Z h os ((x, .char, "[C", [(.int c0), (.int c1), (.int c2), (.int c3)]) :: as)) (hf : f.toInt = (j : Int)) (hg : g.toInt = (e : Int)) : own_Met none l Z (⟨"com/example/wary_loader/waryloader/dn/DnParserTakeAlonePinLaw", "ns", "([CIII)I"⟩ : MethodName) method_7_code 4 (some .int) [] ({ frames := 0, cells := 0, slots := 0, locals := 0 } : Room) #[(.ref x), (.int (1 : Int32)), (.int f), (.int g)] h (fun v h' => v = some (.int (own_qb (own_qi 1 j e && !own_s32 c1))) ∧ h = h') := by
  refine own_met (by first | exact plainFor_of_name (by decide +kernel) | decide +kernel) ?_
  intro p_ e_ s_ m_ below_ meth_ c_ K
  refine own_cast (own_ns1_ef m_ _ _ _ _) ?_
  refine own_iloadN K own_d16_0 rfl ?_
  refine own_iloadN K own_d16_1 rfl ?_
  refine own_icmplt K own_d16_2 (fun g0 => ?_) (fun g0 => ?_)
  · refine own_iconst K own_d16_22 (v := (0 : Int32)) rfl ?_
    exact own_retI K (fun _ q => q) own_d16_23 (by decide) (by decide) (⟨congrArg (fun y => some (Value.int y)) (show (0 : Int32) = own_qb (own_qi 1 j e && !own_s32 c1) by rw [own_qiF1 (by have e0 : (1 : Int32).toInt = 1 := rfl; omega)]; rfl), rfl⟩)
  · refine own_iloadN K own_d16_5 rfl ?_
    refine own_iloadN K own_d16_6 rfl ?_
    refine own_icmpge K own_d16_7 (fun g1 => ?_) (fun g1 => ?_)
    · refine own_iconst K own_d16_22 (v := (0 : Int32)) rfl ?_
      exact own_retI K (fun _ q => q) own_d16_23 (by decide) (by decide) (⟨congrArg (fun y => some (Value.int y)) (show (0 : Int32) = own_qb (own_qi 1 j e && !own_s32 c1) by rw [own_qiF2 (by have e0 : (1 : Int32).toInt = 1 := rfl; omega)]; rfl), rfl⟩)
    · refine own_aloadN K own_d16_10 rfl rfl ?_
      refine own_iloadN K own_d16_11 rfl ?_
      refine own_caload K own_d16_12 H (i := 0) rfl (q := 1) (by decide) (rfl) ?_
      refine own_bipush K own_d16_13 (v := (32 : Int32)) rfl ?_
      refine own_icmpeq K own_d16_15 (fun g2 => ?_) (fun g2 => ?_)
      · refine own_iconst K own_d16_22 (v := (0 : Int32)) rfl ?_
        exact own_retI K (fun _ q => q) own_d16_23 (by decide) (by decide) (⟨congrArg (fun y => some (Value.int y)) (show (0 : Int32) = own_qb (own_qi 1 j e && !own_s32 c1) by rw [own_qiT (by have e0 : (1 : Int32).toInt = 1 := rfl; omega) (by have e0 : (1 : Int32).toInt = 1 := rfl; omega), own_s32T g2]; rfl), rfl⟩)
      · refine own_iconst K own_d16_18 (v := (1 : Int32)) rfl ?_
        refine own_goto K own_d16_19 ?_
        exact own_retI K (fun _ q => q) own_d16_23 (by decide) (by decide) (⟨congrArg (fun y => some (Value.int y)) (show (1 : Int32) = own_qb (own_qi 1 j e && !own_s32 c1) by rw [own_qiT (by have e0 : (1 : Int32).toInt = 1 := rfl; omega) (by have e0 : (1 : Int32).toInt = 1 := rfl; omega), own_s32F g2]; rfl), rfl⟩)
set_option maxRecDepth 65536 in
set_option maxHeartbeats 40000000 in
theorem own_oc1_ef (m : MethodId) (x0 : Addr) (x1 : Int32) (x2 : Int32) (x3 : Int32) (x4 : Int32) : entryFrame m #[(.ref x0), (.int x1), (.int x2), (.int x3), (.int x4)] 5 = mkF m 0 #[.val (.ref x0), .val (.int x1), .val (.int x2), .val (.int x3), .val (.int x4)] [] := by first | (simp [entryFrame, mkF, argsToLocals, Value.category]; done) | rfl
set_option maxRecDepth 65536 in
set_option maxHeartbeats 40000000 in
theorem own_oc1 {l : Launch} {Z : State} {a0 : Array Value} (hw : own_Z Z a0) {h : Heap} {os : List own_O} {as : List own_A} {x : Addr} {c0 c1 c2 c3 : Int32} {f g : Int32} {j e : Nat} {ch : Int32} (H : own_H Z h os ((x, .char, "[C", [(.int c0), (.int c1), (.int c2), (.int c3)]) :: as)) (hf : f.toInt = (j : Int)) (hg : g.toInt = (e : Int)) : own_Met none l Z (⟨"com/example/wary_loader/waryloader/dn/DnParserTakeAlonePinLaw", "oc", "([CIIIC)I"⟩ : MethodName) method_9_code 5 (some .int) [] ({ frames := 0, cells := 0, slots := 0, locals := 0 } : Room) #[(.ref x), (.int (1 : Int32)), (.int f), (.int g), (.int ch)] h (fun v h' => v = some (.int (own_qb (own_qi 1 j e && own_seq c1 ch))) ∧ h = h') := by
  refine own_met (by first | exact plainFor_of_name (by decide +kernel) | decide +kernel) ?_
  intro p_ e_ s_ m_ below_ meth_ c_ K
  refine own_cast (own_oc1_ef m_ _ _ _ _ _) ?_
  refine own_iloadN K own_d17_0 rfl ?_
  refine own_iloadN K own_d17_1 rfl ?_
  refine own_icmplt K own_d17_2 (fun g0 => ?_) (fun g0 => ?_)
  · refine own_iconst K own_d17_22 (v := (0 : Int32)) rfl ?_
    exact own_retI K (fun _ q => q) own_d17_23 (by decide) (by decide) (⟨congrArg (fun y => some (Value.int y)) (show (0 : Int32) = own_qb (own_qi 1 j e && own_seq c1 ch) by rw [own_qiF1 (by have e0 : (1 : Int32).toInt = 1 := rfl; omega)]; rfl), rfl⟩)
  · refine own_iloadN K own_d17_5 rfl ?_
    refine own_iloadN K own_d17_6 rfl ?_
    refine own_icmpge K own_d17_7 (fun g1 => ?_) (fun g1 => ?_)
    · refine own_iconst K own_d17_22 (v := (0 : Int32)) rfl ?_
      exact own_retI K (fun _ q => q) own_d17_23 (by decide) (by decide) (⟨congrArg (fun y => some (Value.int y)) (show (0 : Int32) = own_qb (own_qi 1 j e && own_seq c1 ch) by rw [own_qiF2 (by have e0 : (1 : Int32).toInt = 1 := rfl; omega)]; rfl), rfl⟩)
    · refine own_aloadN K own_d17_10 rfl rfl ?_
      refine own_iloadN K own_d17_11 rfl ?_
      refine own_caload K own_d17_12 H (i := 0) rfl (q := 1) (by decide) (rfl) ?_
      refine own_iload K own_d17_13 rfl ?_
      refine own_icmpne K own_d17_15 (fun g2 => ?_) (fun g2 => ?_)
      · refine own_iconst K own_d17_22 (v := (0 : Int32)) rfl ?_
        exact own_retI K (fun _ q => q) own_d17_23 (by decide) (by decide) (⟨congrArg (fun y => some (Value.int y)) (show (0 : Int32) = own_qb (own_qi 1 j e && own_seq c1 ch) by rw [own_qiT (by have e0 : (1 : Int32).toInt = 1 := rfl; omega) (by have e0 : (1 : Int32).toInt = 1 := rfl; omega), own_seqF g2]; rfl), rfl⟩)
      · refine own_iconst K own_d17_18 (v := (1 : Int32)) rfl ?_
        refine own_goto K own_d17_19 ?_
        exact own_retI K (fun _ q => q) own_d17_23 (by decide) (by decide) (⟨congrArg (fun y => some (Value.int y)) (show (1 : Int32) = own_qb (own_qi 1 j e && own_seq c1 ch) by rw [own_qiT (by have e0 : (1 : Int32).toInt = 1 := rfl; omega) (by have e0 : (1 : Int32).toInt = 1 := rfl; omega), own_seqT (Classical.not_not.mp g2)]; rfl), rfl⟩)
set_option maxRecDepth 65536 in
set_option maxHeartbeats 40000000 in
theorem own_ns2_ef (m : MethodId) (x0 : Addr) (x1 : Int32) (x2 : Int32) (x3 : Int32) : entryFrame m #[(.ref x0), (.int x1), (.int x2), (.int x3)] 4 = mkF m 0 #[.val (.ref x0), .val (.int x1), .val (.int x2), .val (.int x3)] [] := by first | (simp [entryFrame, mkF, argsToLocals, Value.category]; done) | rfl
set_option maxRecDepth 65536 in
set_option maxHeartbeats 40000000 in
theorem own_ns2 {l : Launch} {Z : State} {a0 : Array Value} (hw : own_Z Z a0) {h : Heap} {os : List own_O} {as : List own_A} {x : Addr} {c0 c1 c2 c3 : Int32} {f g : Int32} {j e : Nat} (H : own_H Z h os ((x, .char, "[C", [(.int c0), (.int c1), (.int c2), (.int c3)]) :: as)) (hf : f.toInt = (j : Int)) (hg : g.toInt = (e : Int)) : own_Met none l Z (⟨"com/example/wary_loader/waryloader/dn/DnParserTakeAlonePinLaw", "ns", "([CIII)I"⟩ : MethodName) method_7_code 4 (some .int) [] ({ frames := 0, cells := 0, slots := 0, locals := 0 } : Room) #[(.ref x), (.int (2 : Int32)), (.int f), (.int g)] h (fun v h' => v = some (.int (own_qb (own_qi 2 j e && !own_s32 c2))) ∧ h = h') := by
  refine own_met (by first | exact plainFor_of_name (by decide +kernel) | decide +kernel) ?_
  intro p_ e_ s_ m_ below_ meth_ c_ K
  refine own_cast (own_ns2_ef m_ _ _ _ _) ?_
  refine own_iloadN K own_d16_0 rfl ?_
  refine own_iloadN K own_d16_1 rfl ?_
  refine own_icmplt K own_d16_2 (fun g0 => ?_) (fun g0 => ?_)
  · refine own_iconst K own_d16_22 (v := (0 : Int32)) rfl ?_
    exact own_retI K (fun _ q => q) own_d16_23 (by decide) (by decide) (⟨congrArg (fun y => some (Value.int y)) (show (0 : Int32) = own_qb (own_qi 2 j e && !own_s32 c2) by rw [own_qiF1 (by have e0 : (2 : Int32).toInt = 2 := rfl; omega)]; rfl), rfl⟩)
  · refine own_iloadN K own_d16_5 rfl ?_
    refine own_iloadN K own_d16_6 rfl ?_
    refine own_icmpge K own_d16_7 (fun g1 => ?_) (fun g1 => ?_)
    · refine own_iconst K own_d16_22 (v := (0 : Int32)) rfl ?_
      exact own_retI K (fun _ q => q) own_d16_23 (by decide) (by decide) (⟨congrArg (fun y => some (Value.int y)) (show (0 : Int32) = own_qb (own_qi 2 j e && !own_s32 c2) by rw [own_qiF2 (by have e0 : (2 : Int32).toInt = 2 := rfl; omega)]; rfl), rfl⟩)
    · refine own_aloadN K own_d16_10 rfl rfl ?_
      refine own_iloadN K own_d16_11 rfl ?_
      refine own_caload K own_d16_12 H (i := 0) rfl (q := 2) (by decide) (rfl) ?_
      refine own_bipush K own_d16_13 (v := (32 : Int32)) rfl ?_
      refine own_icmpeq K own_d16_15 (fun g2 => ?_) (fun g2 => ?_)
      · refine own_iconst K own_d16_22 (v := (0 : Int32)) rfl ?_
        exact own_retI K (fun _ q => q) own_d16_23 (by decide) (by decide) (⟨congrArg (fun y => some (Value.int y)) (show (0 : Int32) = own_qb (own_qi 2 j e && !own_s32 c2) by rw [own_qiT (by have e0 : (2 : Int32).toInt = 2 := rfl; omega) (by have e0 : (2 : Int32).toInt = 2 := rfl; omega), own_s32T g2]; rfl), rfl⟩)
      · refine own_iconst K own_d16_18 (v := (1 : Int32)) rfl ?_
        refine own_goto K own_d16_19 ?_
        exact own_retI K (fun _ q => q) own_d16_23 (by decide) (by decide) (⟨congrArg (fun y => some (Value.int y)) (show (1 : Int32) = own_qb (own_qi 2 j e && !own_s32 c2) by rw [own_qiT (by have e0 : (2 : Int32).toInt = 2 := rfl; omega) (by have e0 : (2 : Int32).toInt = 2 := rfl; omega), own_s32F g2]; rfl), rfl⟩)
set_option maxRecDepth 65536 in
set_option maxHeartbeats 40000000 in
theorem own_oc2_ef (m : MethodId) (x0 : Addr) (x1 : Int32) (x2 : Int32) (x3 : Int32) (x4 : Int32) : entryFrame m #[(.ref x0), (.int x1), (.int x2), (.int x3), (.int x4)] 5 = mkF m 0 #[.val (.ref x0), .val (.int x1), .val (.int x2), .val (.int x3), .val (.int x4)] [] := by first | (simp [entryFrame, mkF, argsToLocals, Value.category]; done) | rfl
set_option maxRecDepth 65536 in
set_option maxHeartbeats 40000000 in
theorem own_oc2 {l : Launch} {Z : State} {a0 : Array Value} (hw : own_Z Z a0) {h : Heap} {os : List own_O} {as : List own_A} {x : Addr} {c0 c1 c2 c3 : Int32} {f g : Int32} {j e : Nat} {ch : Int32} (H : own_H Z h os ((x, .char, "[C", [(.int c0), (.int c1), (.int c2), (.int c3)]) :: as)) (hf : f.toInt = (j : Int)) (hg : g.toInt = (e : Int)) : own_Met none l Z (⟨"com/example/wary_loader/waryloader/dn/DnParserTakeAlonePinLaw", "oc", "([CIIIC)I"⟩ : MethodName) method_9_code 5 (some .int) [] ({ frames := 0, cells := 0, slots := 0, locals := 0 } : Room) #[(.ref x), (.int (2 : Int32)), (.int f), (.int g), (.int ch)] h (fun v h' => v = some (.int (own_qb (own_qi 2 j e && own_seq c2 ch))) ∧ h = h') := by
  refine own_met (by first | exact plainFor_of_name (by decide +kernel) | decide +kernel) ?_
  intro p_ e_ s_ m_ below_ meth_ c_ K
  refine own_cast (own_oc2_ef m_ _ _ _ _ _) ?_
  refine own_iloadN K own_d17_0 rfl ?_
  refine own_iloadN K own_d17_1 rfl ?_
  refine own_icmplt K own_d17_2 (fun g0 => ?_) (fun g0 => ?_)
  · refine own_iconst K own_d17_22 (v := (0 : Int32)) rfl ?_
    exact own_retI K (fun _ q => q) own_d17_23 (by decide) (by decide) (⟨congrArg (fun y => some (Value.int y)) (show (0 : Int32) = own_qb (own_qi 2 j e && own_seq c2 ch) by rw [own_qiF1 (by have e0 : (2 : Int32).toInt = 2 := rfl; omega)]; rfl), rfl⟩)
  · refine own_iloadN K own_d17_5 rfl ?_
    refine own_iloadN K own_d17_6 rfl ?_
    refine own_icmpge K own_d17_7 (fun g1 => ?_) (fun g1 => ?_)
    · refine own_iconst K own_d17_22 (v := (0 : Int32)) rfl ?_
      exact own_retI K (fun _ q => q) own_d17_23 (by decide) (by decide) (⟨congrArg (fun y => some (Value.int y)) (show (0 : Int32) = own_qb (own_qi 2 j e && own_seq c2 ch) by rw [own_qiF2 (by have e0 : (2 : Int32).toInt = 2 := rfl; omega)]; rfl), rfl⟩)
    · refine own_aloadN K own_d17_10 rfl rfl ?_
      refine own_iloadN K own_d17_11 rfl ?_
      refine own_caload K own_d17_12 H (i := 0) rfl (q := 2) (by decide) (rfl) ?_
      refine own_iload K own_d17_13 rfl ?_
      refine own_icmpne K own_d17_15 (fun g2 => ?_) (fun g2 => ?_)
      · refine own_iconst K own_d17_22 (v := (0 : Int32)) rfl ?_
        exact own_retI K (fun _ q => q) own_d17_23 (by decide) (by decide) (⟨congrArg (fun y => some (Value.int y)) (show (0 : Int32) = own_qb (own_qi 2 j e && own_seq c2 ch) by rw [own_qiT (by have e0 : (2 : Int32).toInt = 2 := rfl; omega) (by have e0 : (2 : Int32).toInt = 2 := rfl; omega), own_seqF g2]; rfl), rfl⟩)
      · refine own_iconst K own_d17_18 (v := (1 : Int32)) rfl ?_
        refine own_goto K own_d17_19 ?_
        exact own_retI K (fun _ q => q) own_d17_23 (by decide) (by decide) (⟨congrArg (fun y => some (Value.int y)) (show (1 : Int32) = own_qb (own_qi 2 j e && own_seq c2 ch) by rw [own_qiT (by have e0 : (2 : Int32).toInt = 2 := rfl; omega) (by have e0 : (2 : Int32).toInt = 2 := rfl; omega), own_seqT (Classical.not_not.mp g2)]; rfl), rfl⟩)
set_option maxRecDepth 65536 in
set_option maxHeartbeats 40000000 in
theorem own_ns3_ef (m : MethodId) (x0 : Addr) (x1 : Int32) (x2 : Int32) (x3 : Int32) : entryFrame m #[(.ref x0), (.int x1), (.int x2), (.int x3)] 4 = mkF m 0 #[.val (.ref x0), .val (.int x1), .val (.int x2), .val (.int x3)] [] := by first | (simp [entryFrame, mkF, argsToLocals, Value.category]; done) | rfl
set_option maxRecDepth 65536 in
set_option maxHeartbeats 40000000 in
theorem own_ns3 {l : Launch} {Z : State} {a0 : Array Value} (hw : own_Z Z a0) {h : Heap} {os : List own_O} {as : List own_A} {x : Addr} {c0 c1 c2 c3 : Int32} {f g : Int32} {j e : Nat} (H : own_H Z h os ((x, .char, "[C", [(.int c0), (.int c1), (.int c2), (.int c3)]) :: as)) (hf : f.toInt = (j : Int)) (hg : g.toInt = (e : Int)) : own_Met none l Z (⟨"com/example/wary_loader/waryloader/dn/DnParserTakeAlonePinLaw", "ns", "([CIII)I"⟩ : MethodName) method_7_code 4 (some .int) [] ({ frames := 0, cells := 0, slots := 0, locals := 0 } : Room) #[(.ref x), (.int (3 : Int32)), (.int f), (.int g)] h (fun v h' => v = some (.int (own_qb (own_qi 3 j e && !own_s32 c3))) ∧ h = h') := by
  refine own_met (by first | exact plainFor_of_name (by decide +kernel) | decide +kernel) ?_
  intro p_ e_ s_ m_ below_ meth_ c_ K
  refine own_cast (own_ns3_ef m_ _ _ _ _) ?_
  refine own_iloadN K own_d16_0 rfl ?_
  refine own_iloadN K own_d16_1 rfl ?_
  refine own_icmplt K own_d16_2 (fun g0 => ?_) (fun g0 => ?_)
  · refine own_iconst K own_d16_22 (v := (0 : Int32)) rfl ?_
    exact own_retI K (fun _ q => q) own_d16_23 (by decide) (by decide) (⟨congrArg (fun y => some (Value.int y)) (show (0 : Int32) = own_qb (own_qi 3 j e && !own_s32 c3) by rw [own_qiF1 (by have e0 : (3 : Int32).toInt = 3 := rfl; omega)]; rfl), rfl⟩)
  · refine own_iloadN K own_d16_5 rfl ?_
    refine own_iloadN K own_d16_6 rfl ?_
    refine own_icmpge K own_d16_7 (fun g1 => ?_) (fun g1 => ?_)
    · refine own_iconst K own_d16_22 (v := (0 : Int32)) rfl ?_
      exact own_retI K (fun _ q => q) own_d16_23 (by decide) (by decide) (⟨congrArg (fun y => some (Value.int y)) (show (0 : Int32) = own_qb (own_qi 3 j e && !own_s32 c3) by rw [own_qiF2 (by have e0 : (3 : Int32).toInt = 3 := rfl; omega)]; rfl), rfl⟩)
    · refine own_aloadN K own_d16_10 rfl rfl ?_
      refine own_iloadN K own_d16_11 rfl ?_
      refine own_caload K own_d16_12 H (i := 0) rfl (q := 3) (by decide) (rfl) ?_
      refine own_bipush K own_d16_13 (v := (32 : Int32)) rfl ?_
      refine own_icmpeq K own_d16_15 (fun g2 => ?_) (fun g2 => ?_)
      · refine own_iconst K own_d16_22 (v := (0 : Int32)) rfl ?_
        exact own_retI K (fun _ q => q) own_d16_23 (by decide) (by decide) (⟨congrArg (fun y => some (Value.int y)) (show (0 : Int32) = own_qb (own_qi 3 j e && !own_s32 c3) by rw [own_qiT (by have e0 : (3 : Int32).toInt = 3 := rfl; omega) (by have e0 : (3 : Int32).toInt = 3 := rfl; omega), own_s32T g2]; rfl), rfl⟩)
      · refine own_iconst K own_d16_18 (v := (1 : Int32)) rfl ?_
        refine own_goto K own_d16_19 ?_
        exact own_retI K (fun _ q => q) own_d16_23 (by decide) (by decide) (⟨congrArg (fun y => some (Value.int y)) (show (1 : Int32) = own_qb (own_qi 3 j e && !own_s32 c3) by rw [own_qiT (by have e0 : (3 : Int32).toInt = 3 := rfl; omega) (by have e0 : (3 : Int32).toInt = 3 := rfl; omega), own_s32F g2]; rfl), rfl⟩)
set_option maxRecDepth 65536 in
set_option maxHeartbeats 40000000 in
theorem own_oc3_ef (m : MethodId) (x0 : Addr) (x1 : Int32) (x2 : Int32) (x3 : Int32) (x4 : Int32) : entryFrame m #[(.ref x0), (.int x1), (.int x2), (.int x3), (.int x4)] 5 = mkF m 0 #[.val (.ref x0), .val (.int x1), .val (.int x2), .val (.int x3), .val (.int x4)] [] := by first | (simp [entryFrame, mkF, argsToLocals, Value.category]; done) | rfl
set_option maxRecDepth 65536 in
set_option maxHeartbeats 40000000 in
theorem own_oc3 {l : Launch} {Z : State} {a0 : Array Value} (hw : own_Z Z a0) {h : Heap} {os : List own_O} {as : List own_A} {x : Addr} {c0 c1 c2 c3 : Int32} {f g : Int32} {j e : Nat} {ch : Int32} (H : own_H Z h os ((x, .char, "[C", [(.int c0), (.int c1), (.int c2), (.int c3)]) :: as)) (hf : f.toInt = (j : Int)) (hg : g.toInt = (e : Int)) : own_Met none l Z (⟨"com/example/wary_loader/waryloader/dn/DnParserTakeAlonePinLaw", "oc", "([CIIIC)I"⟩ : MethodName) method_9_code 5 (some .int) [] ({ frames := 0, cells := 0, slots := 0, locals := 0 } : Room) #[(.ref x), (.int (3 : Int32)), (.int f), (.int g), (.int ch)] h (fun v h' => v = some (.int (own_qb (own_qi 3 j e && own_seq c3 ch))) ∧ h = h') := by
  refine own_met (by first | exact plainFor_of_name (by decide +kernel) | decide +kernel) ?_
  intro p_ e_ s_ m_ below_ meth_ c_ K
  refine own_cast (own_oc3_ef m_ _ _ _ _ _) ?_
  refine own_iloadN K own_d17_0 rfl ?_
  refine own_iloadN K own_d17_1 rfl ?_
  refine own_icmplt K own_d17_2 (fun g0 => ?_) (fun g0 => ?_)
  · refine own_iconst K own_d17_22 (v := (0 : Int32)) rfl ?_
    exact own_retI K (fun _ q => q) own_d17_23 (by decide) (by decide) (⟨congrArg (fun y => some (Value.int y)) (show (0 : Int32) = own_qb (own_qi 3 j e && own_seq c3 ch) by rw [own_qiF1 (by have e0 : (3 : Int32).toInt = 3 := rfl; omega)]; rfl), rfl⟩)
  · refine own_iloadN K own_d17_5 rfl ?_
    refine own_iloadN K own_d17_6 rfl ?_
    refine own_icmpge K own_d17_7 (fun g1 => ?_) (fun g1 => ?_)
    · refine own_iconst K own_d17_22 (v := (0 : Int32)) rfl ?_
      exact own_retI K (fun _ q => q) own_d17_23 (by decide) (by decide) (⟨congrArg (fun y => some (Value.int y)) (show (0 : Int32) = own_qb (own_qi 3 j e && own_seq c3 ch) by rw [own_qiF2 (by have e0 : (3 : Int32).toInt = 3 := rfl; omega)]; rfl), rfl⟩)
    · refine own_aloadN K own_d17_10 rfl rfl ?_
      refine own_iloadN K own_d17_11 rfl ?_
      refine own_caload K own_d17_12 H (i := 0) rfl (q := 3) (by decide) (rfl) ?_
      refine own_iload K own_d17_13 rfl ?_
      refine own_icmpne K own_d17_15 (fun g2 => ?_) (fun g2 => ?_)
      · refine own_iconst K own_d17_22 (v := (0 : Int32)) rfl ?_
        exact own_retI K (fun _ q => q) own_d17_23 (by decide) (by decide) (⟨congrArg (fun y => some (Value.int y)) (show (0 : Int32) = own_qb (own_qi 3 j e && own_seq c3 ch) by rw [own_qiT (by have e0 : (3 : Int32).toInt = 3 := rfl; omega) (by have e0 : (3 : Int32).toInt = 3 := rfl; omega), own_seqF g2]; rfl), rfl⟩)
      · refine own_iconst K own_d17_18 (v := (1 : Int32)) rfl ?_
        refine own_goto K own_d17_19 ?_
        exact own_retI K (fun _ q => q) own_d17_23 (by decide) (by decide) (⟨congrArg (fun y => some (Value.int y)) (show (1 : Int32) = own_qb (own_qi 3 j e && own_seq c3 ch) by rw [own_qiT (by have e0 : (3 : Int32).toInt = 3 := rfl; omega) (by have e0 : (3 : Int32).toInt = 3 := rfl; omega), own_seqT (Classical.not_not.mp g2)]; rfl), rfl⟩)
set_option maxRecDepth 65536 in
set_option maxHeartbeats 40000000 in
theorem own_nsp_ef (m : MethodId) (x0 : Addr) (x1 : Int32) (x2 : Int32) : entryFrame m #[(.ref x0), (.int x1), (.int x2)] 3 = mkF m 0 #[.val (.ref x0), .val (.int x1), .val (.int x2)] [] := by first | (simp [entryFrame, mkF, argsToLocals, Value.category]; done) | rfl
set_option maxRecDepth 65536 in
set_option maxHeartbeats 40000000 in
theorem own_nsp {l : Launch} {Z : State} {a0 : Array Value} (hw : own_Z Z a0) {h : Heap} {os : List own_O} {as : List own_A} {x : Addr} {c0 c1 c2 c3 : Int32} {f g : Int32} {j e : Nat} (H : own_H Z h os ((x, .char, "[C", [(.int c0), (.int c1), (.int c2), (.int c3)]) :: as)) (hf : f.toInt = (j : Int)) (hg : g.toInt = (e : Int)) : own_Met none l Z (⟨"com/example/wary_loader/waryloader/dn/DnParserTakeAlonePinLaw", "nonSpace", "([CII)I"⟩ : MethodName) method_8_code 3 (some .int) [] ({ frames := 1, cells := 0, slots := 0, locals := 16 } : Room) #[(.ref x), (.int f), (.int g)] h (fun v h' => ∃ z : Int32, (own_q4 (!own_s32 c0) (!own_s32 c1) (!own_s32 c2) (!own_s32 c3) j e) = z ∧ v = some (.int z) ∧ h = h') := by
  refine own_met (by first | exact plainFor_of_name (by decide +kernel) | decide +kernel) ?_
  intro p_ e_ s_ m_ below_ meth_ c_ K
  refine own_cast (own_nsp_ef m_ _ _ _) ?_
  refine own_aloadN K own_d18_0 rfl rfl ?_
  refine own_iconst K own_d18_1 (v := (0 : Int32)) rfl ?_
  refine own_iloadN K own_d18_2 rfl ?_
  refine own_iloadN K own_d18_3 rfl ?_
  refine own_static K own_d18_4 (own_w82 hw) (own_w83 hw) (own_w2 hw) (own_w84 hw) (argsL := [(.ref x), (.int (0 : Int32)), (.int f), (.int g)]) (rest := []) (own_ns0 hw H hf hg) own_pd12 rfl rfl rfl (by decide) (W := 0) (Nat.le_of_eq rfl) (by decide) (by decide) (by decide) (by decide) ?_
  intro v3 h1 q2
  obtain ⟨rfl, rfl⟩ := q2
  refine own_aloadN K own_d18_7 rfl rfl ?_
  refine own_iconst K own_d18_8 (v := (1 : Int32)) rfl ?_
  refine own_iloadN K own_d18_9 rfl ?_
  refine own_iloadN K own_d18_10 rfl ?_
  refine own_static K own_d18_11 (own_w82 hw) (own_w83 hw) (own_w2 hw) (own_w84 hw) (argsL := [(.ref x), (.int (1 : Int32)), (.int f), (.int g)]) (rest := [(.int (own_qb (own_qi 0 j e && !own_s32 c0)))]) (own_ns1 hw H hf hg) own_pd12 rfl rfl rfl (by decide) (W := 1) (Nat.le_of_eq rfl) (by decide) (by decide) (by decide) (by decide) ?_
  intro v6 h4 q5
  obtain ⟨rfl, rfl⟩ := q5
  refine own_iadd K own_d18_14 ?_
  refine own_aloadN K own_d18_15 rfl rfl ?_
  refine own_iconst K own_d18_16 (v := (2 : Int32)) rfl ?_
  refine own_iloadN K own_d18_17 rfl ?_
  refine own_iloadN K own_d18_18 rfl ?_
  refine own_static K own_d18_19 (own_w82 hw) (own_w83 hw) (own_w2 hw) (own_w84 hw) (argsL := [(.ref x), (.int (2 : Int32)), (.int f), (.int g)]) (rest := [(.int ((own_qb (own_qi 0 j e && !own_s32 c0)) + (own_qb (own_qi 1 j e && !own_s32 c1))))]) (own_ns2 hw H hf hg) own_pd12 rfl rfl rfl (by decide) (W := 1) (Nat.le_of_eq rfl) (by decide) (by decide) (by decide) (by decide) ?_
  intro v9 h7 q8
  obtain ⟨rfl, rfl⟩ := q8
  refine own_iadd K own_d18_22 ?_
  refine own_aloadN K own_d18_23 rfl rfl ?_
  refine own_iconst K own_d18_24 (v := (3 : Int32)) rfl ?_
  refine own_iloadN K own_d18_25 rfl ?_
  refine own_iloadN K own_d18_26 rfl ?_
  refine own_static K own_d18_27 (own_w82 hw) (own_w83 hw) (own_w2 hw) (own_w84 hw) (argsL := [(.ref x), (.int (3 : Int32)), (.int f), (.int g)]) (rest := [(.int (((own_qb (own_qi 0 j e && !own_s32 c0)) + (own_qb (own_qi 1 j e && !own_s32 c1))) + (own_qb (own_qi 2 j e && !own_s32 c2))))]) (own_ns3 hw H hf hg) own_pd12 rfl rfl rfl (by decide) (W := 1) (Nat.le_of_eq rfl) (by decide) (by decide) (by decide) (by decide) ?_
  intro v12 h10 q11
  obtain ⟨rfl, rfl⟩ := q11
  refine own_iadd K own_d18_30 ?_
  exact own_retI K (fun _ q => q) own_d18_31 (by decide) (by decide) (⟨_, rfl, rfl, rfl⟩)
set_option maxRecDepth 65536 in
set_option maxHeartbeats 40000000 in
theorem own_alo_ef (m : MethodId) (x0 : Addr) (x1 : Int32) (x2 : Int32) (x3 : Int32) : entryFrame m #[(.ref x0), (.int x1), (.int x2), (.int x3)] 5 = mkF m 0 #[.val (.ref x0), .val (.int x1), .val (.int x2), .val (.int x3), .unset] [] := by first | (simp [entryFrame, mkF, argsToLocals, Value.category]; done) | rfl
set_option maxRecDepth 65536 in
set_option maxHeartbeats 40000000 in
theorem own_alo {l : Launch} {Z : State} {a0 : Array Value} (hw : own_Z Z a0) {h : Heap} {os : List own_O} {as : List own_A} {x : Addr} {c0 c1 c2 c3 : Int32} {f g : Int32} {j e : Nat} {ch : Int32} (H : own_H Z h os ((x, .char, "[C", [(.int c0), (.int c1), (.int c2), (.int c3)]) :: as)) (hf : f.toInt = (j : Int)) (hg : g.toInt = (e : Int)) : own_Met none l Z (⟨"com/example/wary_loader/waryloader/dn/DnParserTakeAlonePinLaw", "alone", "([CIIC)Z"⟩ : MethodName) method_10_code 5 (some .boolean) [] ({ frames := 2, cells := 0, slots := 0, locals := 30 } : Room) #[(.ref x), (.int f), (.int g), (.int ch)] h (fun v h' => ∃ b : Bool, own_qal (own_q4 (!own_s32 c0) (!own_s32 c1) (!own_s32 c2) (!own_s32 c3) j e) (own_q4 (own_seq c0 ch) (own_seq c1 ch) (own_seq c2 ch) (own_seq c3 ch) j e) = b ∧ v = some (.int (own_qb b)) ∧ h = h') := by
  refine own_met (by first | exact plainFor_of_name (by decide +kernel) | decide +kernel) ?_
  intro p_ e_ s_ m_ below_ meth_ c_ K
  refine own_cast (own_alo_ef m_ _ _ _ _) ?_
  refine own_aloadN K own_d19_0 rfl rfl ?_
  refine own_iconst K own_d19_1 (v := (0 : Int32)) rfl ?_
  refine own_iloadN K own_d19_2 rfl ?_
  refine own_iloadN K own_d19_3 rfl ?_
  refine own_iloadN K own_d19_4 rfl ?_
  refine own_static K own_d19_5 (own_w76 hw) (own_w77 hw) (own_w2 hw) (own_w78 hw) (argsL := [(.ref x), (.int (0 : Int32)), (.int f), (.int g), (.int ch)]) (rest := []) (own_oc0 hw H hf hg) own_pd13 rfl rfl rfl (by decide) (W := 0) (Nat.le_of_eq rfl) (by decide) (by decide) (by decide) (by decide) ?_
  intro v3 h1 q2
  obtain ⟨rfl, rfl⟩ := q2
  refine own_aloadN K own_d19_8 rfl rfl ?_
  refine own_iconst K own_d19_9 (v := (1 : Int32)) rfl ?_
  refine own_iloadN K own_d19_10 rfl ?_
  refine own_iloadN K own_d19_11 rfl ?_
  refine own_iloadN K own_d19_12 rfl ?_
  refine own_static K own_d19_13 (own_w76 hw) (own_w77 hw) (own_w2 hw) (own_w78 hw) (argsL := [(.ref x), (.int (1 : Int32)), (.int f), (.int g), (.int ch)]) (rest := [(.int (own_qb (own_qi 0 j e && own_seq c0 ch)))]) (own_oc1 hw H hf hg) own_pd13 rfl rfl rfl (by decide) (W := 1) (Nat.le_of_eq rfl) (by decide) (by decide) (by decide) (by decide) ?_
  intro v6 h4 q5
  obtain ⟨rfl, rfl⟩ := q5
  refine own_iadd K own_d19_16 ?_
  refine own_aloadN K own_d19_17 rfl rfl ?_
  refine own_iconst K own_d19_18 (v := (2 : Int32)) rfl ?_
  refine own_iloadN K own_d19_19 rfl ?_
  refine own_iloadN K own_d19_20 rfl ?_
  refine own_iloadN K own_d19_21 rfl ?_
  refine own_static K own_d19_22 (own_w76 hw) (own_w77 hw) (own_w2 hw) (own_w78 hw) (argsL := [(.ref x), (.int (2 : Int32)), (.int f), (.int g), (.int ch)]) (rest := [(.int ((own_qb (own_qi 0 j e && own_seq c0 ch)) + (own_qb (own_qi 1 j e && own_seq c1 ch))))]) (own_oc2 hw H hf hg) own_pd13 rfl rfl rfl (by decide) (W := 1) (Nat.le_of_eq rfl) (by decide) (by decide) (by decide) (by decide) ?_
  intro v9 h7 q8
  obtain ⟨rfl, rfl⟩ := q8
  refine own_iadd K own_d19_25 ?_
  refine own_aloadN K own_d19_26 rfl rfl ?_
  refine own_iconst K own_d19_27 (v := (3 : Int32)) rfl ?_
  refine own_iloadN K own_d19_28 rfl ?_
  refine own_iloadN K own_d19_29 rfl ?_
  refine own_iloadN K own_d19_30 rfl ?_
  refine own_static K own_d19_31 (own_w76 hw) (own_w77 hw) (own_w2 hw) (own_w78 hw) (argsL := [(.ref x), (.int (3 : Int32)), (.int f), (.int g), (.int ch)]) (rest := [(.int (((own_qb (own_qi 0 j e && own_seq c0 ch)) + (own_qb (own_qi 1 j e && own_seq c1 ch))) + (own_qb (own_qi 2 j e && own_seq c2 ch))))]) (own_oc3 hw H hf hg) own_pd13 rfl rfl rfl (by decide) (W := 1) (Nat.le_of_eq rfl) (by decide) (by decide) (by decide) (by decide) ?_
  intro v12 h10 q11
  obtain ⟨rfl, rfl⟩ := q11
  refine own_iadd K own_d19_34 ?_
  refine own_topI (x' := (own_q4 (own_seq c0 ch) (own_seq c1 ch) (own_seq c2 ch) (own_seq c3 ch) j e)) (rfl) ?_
  refine own_istore K own_d19_35 (Ls' := #[.val (.ref x), .val (.int f), .val (.int g), .val (.int ch), .val (.int (own_q4 (own_seq c0 ch) (own_seq c1 ch) (own_seq c2 ch) (own_seq c3 ch) j e))]) rfl ?_
  refine own_aloadN K own_d19_37 rfl rfl ?_
  refine own_iloadN K own_d19_38 rfl ?_
  refine own_iloadN K own_d19_39 rfl ?_
  refine own_static K own_d19_40 (own_w79 hw) (own_w80 hw) (own_w2 hw) (own_w81 hw) (argsL := [(.ref x), (.int f), (.int g)]) (rest := []) (own_nsp hw H hf hg) own_pd14 rfl rfl rfl (by decide) (W := 0) (Nat.le_of_eq rfl) (by decide) (by decide) (by decide) (by decide) ?_
  intro v15 h13 q14
  obtain ⟨z, hz, rfl, rfl⟩ := q14
  refine own_iconst K own_d19_43 (v := (1 : Int32)) rfl ?_
  refine own_icmpne K own_d19_44 (fun g1 => ?_) (fun g1 => ?_)
  · refine own_iconst K own_d19_57 (v := (0 : Int32)) rfl ?_
    exact own_retZ K (fun _ q => q) (by first | exact Or.inl rfl | exact Or.inr rfl | decide) own_d19_58 (by decide) (by decide) (⟨false, own_qalF1 (by rw [hz]; exact g1), rfl, rfl⟩)
  · refine own_iload K own_d19_47 rfl ?_
    refine own_iconst K own_d19_49 (v := (1 : Int32)) rfl ?_
    refine own_icmpne K own_d19_50 (fun g2 => ?_) (fun g2 => ?_)
    · refine own_iconst K own_d19_57 (v := (0 : Int32)) rfl ?_
      exact own_retZ K (fun _ q => q) (by first | exact Or.inl rfl | exact Or.inr rfl | decide) own_d19_58 (by decide) (by decide) (⟨false, own_qalF2 g2, rfl, rfl⟩)
    · refine own_iconst K own_d19_53 (v := (1 : Int32)) rfl ?_
      refine own_goto K own_d19_54 ?_
      exact own_retZ K (fun _ q => q) (by first | exact Or.inl rfl | exact Or.inr rfl | decide) own_d19_58 (by decide) (by decide) (⟨true, own_qalT (hz.trans (Classical.not_not.mp g1)) (Classical.not_not.mp g2), rfl, rfl⟩)
set_option maxRecDepth 65536 in
set_option maxHeartbeats 40000000 in
theorem own_dr_ef (m : MethodId) (x0 : Int32) : entryFrame m #[(.int x0)] 2 = mkF m 0 #[.val (.int x0), .unset] [] := by first | (simp [entryFrame, mkF, argsToLocals, Value.category]; done) | rfl
set_option maxRecDepth 65536 in
set_option maxHeartbeats 40000000 in
theorem own_dr {l : Launch} {Z : State} {a0 : Array Value} (hw : own_Z Z a0) {h : Heap} {a : Int32} : own_Met none l Z (⟨"com/example/wary_loader/waryloader/dn/DnParserTakeAlonePinLaw", "drawn", "(I)C"⟩ : MethodName) method_3_code 2 (some .char) [] ({ frames := 0, cells := 0, slots := 0, locals := 0 } : Room) #[(.int a)] h (fun v h' => ∃ c : Int32, v = some (.int c) ∧ 0 ≤ c.toInt ∧ c.toInt ≤ 255 ∧ c ≠ 32 ∧ c ≠ 59 ∧ h = h') := by
  refine own_met (by first | exact plainFor_of_name (by decide +kernel) | decide +kernel) ?_
  intro p_ e_ s_ m_ below_ meth_ c_ K
  refine own_cast (own_dr_ef m_ _) ?_
  obtain ⟨c, ec, lc, uc⟩ := own_m8 a
  refine own_iloadN K own_d20_0 rfl ?_
  refine own_sipush K own_d20_1 (v := (255 : Int32)) rfl ?_
  refine own_iand K own_d20_4 ?_
  refine own_i2c K own_d20_5 ?_
  refine own_topI (x' := c) (ec) ?_
  refine own_istoreN K own_d20_6 (Ls' := #[.val (.int a), .val (.int c)]) rfl ?_
  refine own_iloadN K own_d20_7 rfl ?_
  refine own_bipush K own_d20_8 (v := (32 : Int32)) rfl ?_
  refine own_icmpeq K own_d20_10 (fun g1 => ?_) (fun g1 => ?_)
  · refine own_bipush K own_d20_19 (v := (42 : Int32)) rfl ?_
    exact own_retC K (fun _ q => q) (rfl) own_d20_21 (by decide) (by decide) (⟨_, rfl, by decide, by decide, by decide, by decide, rfl⟩)
  · refine own_iloadN K own_d20_13 rfl ?_
    refine own_bipush K own_d20_14 (v := (59 : Int32)) rfl ?_
    refine own_icmpne K own_d20_16 (fun g2 => ?_) (fun g2 => ?_)
    · refine own_iloadN K own_d20_22 rfl ?_
      exact own_retC K (fun _ q => q) (own_nrc lc uc) own_d20_23 (by decide) (by decide) (⟨_, rfl, lc, uc, g1, g2, rfl⟩)
    · refine own_bipush K own_d20_19 (v := (42 : Int32)) rfl ?_
      exact own_retC K (fun _ q => q) (rfl) own_d20_21 (by decide) (by decide) (⟨_, rfl, by decide, by decide, by decide, by decide, rfl⟩)
set_option maxRecDepth 65536 in
set_option maxHeartbeats 40000000 in
theorem own_pk_ef (m : MethodId) (x0 : Int32) (x1 : Int32) (x2 : Int32) (x3 : Int32) : entryFrame m #[(.int x0), (.int x1), (.int x2), (.int x3)] 4 = mkF m 0 #[.val (.int x0), .val (.int x1), .val (.int x2), .val (.int x3)] [] := by first | (simp [entryFrame, mkF, argsToLocals, Value.category]; done) | rfl
set_option maxRecDepth 65536 in
set_option maxHeartbeats 40000000 in
theorem own_pk {l : Launch} {Z : State} {a0 : Array Value} (hw : own_Z Z a0) {h : Heap} {sx r d1 d2 : Int32} (lr : 0 ≤ r.toInt) (ur : r.toInt ≤ 255) (la : 0 ≤ d1.toInt) (ua : d1.toInt ≤ 255) (lb : 0 ≤ d2.toInt) (ub : d2.toInt ≤ 255) : own_Met none l Z (⟨"com/example/wary_loader/waryloader/dn/DnParserTakeAlonePinLaw", "pick", "(IICC)C"⟩ : MethodName) method_4_code 4 (some .char) [] ({ frames := 0, cells := 0, slots := 0, locals := 0 } : Room) #[(.int sx), (.int r), (.int d1), (.int d2)] h (fun v h' => ∃ c : Int32, v = some (.int c) ∧ 0 ≤ c.toInt ∧ c.toInt ≤ 255 ∧ h = h') := by
  refine own_met (by first | exact plainFor_of_name (by decide +kernel) | decide +kernel) ?_
  intro p_ e_ s_ m_ below_ meth_ c_ K
  refine own_cast (own_pk_ef m_ _ _ _ _) ?_
  refine own_iloadN K own_d21_0 rfl ?_
  refine own_ifne K own_d21_1 (fun g1 => ?_) (fun g1 => ?_)
  · refine own_iloadN K own_d21_7 rfl ?_
    refine own_iconst K own_d21_8 (v := (1 : Int32)) rfl ?_
    refine own_icmpne K own_d21_9 (fun g9 => ?_) (fun g9 => ?_)
    · refine own_iloadN K own_d21_15 rfl ?_
      refine own_iconst K own_d21_16 (v := (2 : Int32)) rfl ?_
      refine own_icmpne K own_d21_17 (fun g17 => ?_) (fun g17 => ?_)
      · refine own_iloadN K own_d21_22 rfl ?_
        refine own_iconst K own_d21_23 (v := (3 : Int32)) rfl ?_
        refine own_icmpne K own_d21_24 (fun g24 => ?_) (fun g24 => ?_)
        · refine own_iloadN K own_d21_29 rfl ?_
          refine own_i2c K own_d21_30 ?_
          refine own_topI (x' := r) (own_i2cc lr ur) ?_
          exact own_retC K (fun _ q => q) (own_nrc lr ur) own_d21_31 (by decide) (by decide) (⟨_, rfl, lr, ur, rfl⟩)
        · refine own_iloadN K own_d21_27 rfl ?_
          exact own_retC K (fun _ q => q) (own_nrc lb ub) own_d21_28 (by decide) (by decide) (⟨_, rfl, lb, ub, rfl⟩)
      · refine own_iloadN K own_d21_20 rfl ?_
        exact own_retC K (fun _ q => q) (own_nrc la ua) own_d21_21 (by decide) (by decide) (⟨_, rfl, la, ua, rfl⟩)
    · refine own_bipush K own_d21_12 (v := (59 : Int32)) rfl ?_
      exact own_retC K (fun _ q => q) (rfl) own_d21_14 (by decide) (by decide) (⟨_, rfl, by decide, by decide, rfl⟩)
  · refine own_bipush K own_d21_4 (v := (32 : Int32)) rfl ?_
    exact own_retC K (fun _ q => q) (rfl) own_d21_6 (by decide) (by decide) (⟨_, rfl, by decide, by decide, rfl⟩)
set_option maxRecDepth 65536 in
set_option maxHeartbeats 40000000 in
theorem own_tx0_ef (m : MethodId) (x0 : Addr) (x1 : Int32) : entryFrame m #[(.ref x0), (.int x1)] 2 = mkF m 0 #[.val (.ref x0), .val (.int x1)] [] := by first | (simp [entryFrame, mkF, argsToLocals, Value.category]; done) | rfl
set_option maxRecDepth 65536 in
set_option maxHeartbeats 40000000 in
theorem own_tx0 {l : Launch} {Z : State} {a0 : Array Value} (hw : own_Z Z a0) {h : Heap} {os : List own_O} {as : List own_A} {x : Addr} {cs : Int32} {c0 c1 c2 c3 : Int32} (hC : cs ≠ 0 ∧ Sta Z Z.heap "java/lang/String" "COMPACT_STRINGS" "Z" (.int cs)) (hL : Jvm.Lit.constHeld Z "java/lang/String" 7) (hcw : Jvm.Lit.compactW.before a0 Z = true) (H : own_H Z h os ((x, .char, "[C", [(.int c0), (.int c1), (.int c2), (.int c3)]) :: as)) (l0 : 0 ≤ c0.toInt) (u0 : c0.toInt ≤ 255) (l1 : 0 ≤ c1.toInt) (u1 : c1.toInt ≤ 255) (l2 : 0 ≤ c2.toInt) (u2 : c2.toInt ≤ 255) (l3 : 0 ≤ c3.toInt) (u3 : c3.toInt ≤ 255) : own_Met (some ([], [""])) l Z (⟨"com/example/wary_loader/waryloader/dn/DnParserTakeAlonePinLaw", "text", "([CI)Ljava/lang/String;"⟩ : MethodName) method_5_code 2 (some (.object "java/lang/String")) [] ({ frames := 4, cells := 4, slots := 12, locals := 66 } : Room) #[(.ref x), (.int (0 : Int32))] h (fun v h' => ∃ a y z ad zs, v = some (.ref a) ∧ own_H Z h' (own_ST a (.ref y) (.int (0 : Int32)) :: os) ((y, .byte, ad, own_vs 0 c0 c1 c2 c3) :: (z, .char, "[C", zs) :: (x, .char, "[C", [(.int c0), (.int c1), (.int c2), (.int c3)]) :: as)) := by
  refine own_metW (by first | exact plainFor_of_name (by decide +kernel) | decide +kernel) ?_
  intro p_ e_ s_ m_ below_ meth_ c_ K hI
  replace hI : IB Z s_.vm [] := hI
  refine own_cast (own_tx0_ef m_ _ _) ?_
  refine own_iloadN K own_d22_0 rfl ?_
  refine own_ifne K own_d22_1 (fun q => absurd q (by decide)) (fun _ => ?_)
  refine own_new K own_d22_4 (own_w11 hw) (own_w12 hw) (own_w13 hw) H (own_ST_F hw) (own_ST_P hw) (by decide) (by decide) ?_
  intro h1 a3 H2
  replace H2 : own_H Z h1 (own_ST a3 .null (.int (0 : Int32)) :: os) ((x, .char, "[C", [(.int c0), (.int c1), (.int c2), (.int c3)]) :: as) := H2
  refine own_dup K own_d22_7 rfl ?_
  refine own_iconst K own_d22_8 (v := (0 : Int32)) rfl ?_
  refine own_newarray K own_d22_9 (ty := .char) rfl (own_w4 hw) H2 (q := 0) (by decide) (ad := "[C") (by decide +kernel) (vs := []) rfl (by decide) (by decide) (by decide) ?_
  intro h4 a6 H5
  replace H5 : own_H Z h4 (own_ST a3 .null (.int (0 : Int32)) :: os) ((a6, .char, "[C", []) :: (x, .char, "[C", [(.int c0), (.int c1), (.int c2), (.int c3)]) :: as) := H5
  refine own_specialW K (fun vm q => own_IB (congrArg Vm.interned (show vm = s_.vm from q)) hI) own_d22_11 rfl (own_w14 hw) (own_w15 hw) (own_w13 hw) (own_w16 hw) (a := a3) (argsL := [(.ref a6)]) (rest := [(.ref a3)]) (own_initS0 hw hL hcw H5 ) own_pd15 rfl rfl rfl (by decide) (W := 1) (Nat.le_of_eq rfl) (by decide) (by decide) (by decide) (by decide) ?_
  intro v9 h7 q8
  obtain ⟨rfl, y11, H10⟩ := q8
  replace H10 : own_H Z h7 (own_ST a3 (.ref y11) (.int (0 : Int32)) :: os) ((y11, .byte, "", []) :: (a6, .char, "[C", []) :: (x, .char, "[C", [(.int c0), (.int c1), (.int c2), (.int c3)]) :: as) := H10
  exact own_retA K (fun _ q => q) rfl rfl own_d22_14 (by decide) (by decide) (⟨_, _, _, _, _, rfl, H10⟩)
set_option maxRecDepth 65536 in
set_option maxHeartbeats 40000000 in
theorem own_tx1_ef (m : MethodId) (x0 : Addr) (x1 : Int32) : entryFrame m #[(.ref x0), (.int x1)] 2 = mkF m 0 #[.val (.ref x0), .val (.int x1)] [] := by first | (simp [entryFrame, mkF, argsToLocals, Value.category]; done) | rfl
set_option maxRecDepth 65536 in
set_option maxHeartbeats 40000000 in
theorem own_tx1 {l : Launch} {Z : State} {a0 : Array Value} (hw : own_Z Z a0) {h : Heap} {os : List own_O} {as : List own_A} {x : Addr} {cs : Int32} {c0 c1 c2 c3 : Int32} (hC : cs ≠ 0 ∧ Sta Z Z.heap "java/lang/String" "COMPACT_STRINGS" "Z" (.int cs)) (hL : Jvm.Lit.constHeld Z "java/lang/String" 7) (hcw : Jvm.Lit.compactW.before a0 Z = true) (H : own_H Z h os ((x, .char, "[C", [(.int c0), (.int c1), (.int c2), (.int c3)]) :: as)) (l0 : 0 ≤ c0.toInt) (u0 : c0.toInt ≤ 255) (l1 : 0 ≤ c1.toInt) (u1 : c1.toInt ≤ 255) (l2 : 0 ≤ c2.toInt) (u2 : c2.toInt ≤ 255) (l3 : 0 ≤ c3.toInt) (u3 : c3.toInt ≤ 255) : own_Met (some ([], [""])) l Z (⟨"com/example/wary_loader/waryloader/dn/DnParserTakeAlonePinLaw", "text", "([CI)Ljava/lang/String;"⟩ : MethodName) method_5_code 2 (some (.object "java/lang/String")) [] ({ frames := 4, cells := 4, slots := 12, locals := 66 } : Room) #[(.ref x), (.int (1 : Int32))] h (fun v h' => ∃ a y z ad zs, v = some (.ref a) ∧ own_H Z h' (own_ST a (.ref y) (.int (0 : Int32)) :: os) ((y, .byte, ad, own_vs 1 c0 c1 c2 c3) :: (z, .char, "[C", zs) :: (x, .char, "[C", [(.int c0), (.int c1), (.int c2), (.int c3)]) :: as)) := by
  refine own_metW (by first | exact plainFor_of_name (by decide +kernel) | decide +kernel) ?_
  intro p_ e_ s_ m_ below_ meth_ c_ K hI
  replace hI : IB Z s_.vm [] := hI
  refine own_cast (own_tx1_ef m_ _ _) ?_
  refine own_iloadN K own_d22_0 rfl ?_
  refine own_ifne K own_d22_1 (fun _ => ?_) (fun q => absurd (by decide) q)
  refine own_iloadN K own_d22_15 rfl ?_
  refine own_iconst K own_d22_16 (v := (1 : Int32)) rfl ?_
  refine own_icmpne K own_d22_17 (fun q => absurd q (by decide)) (fun _ => ?_)
  refine own_new K own_d22_20 (own_w11 hw) (own_w12 hw) (own_w13 hw) H (own_ST_F hw) (own_ST_P hw) (by decide) (by decide) ?_
  intro h1 a3 H2
  replace H2 : own_H Z h1 (own_ST a3 .null (.int (0 : Int32)) :: os) ((x, .char, "[C", [(.int c0), (.int c1), (.int c2), (.int c3)]) :: as) := H2
  refine own_dup K own_d22_23 rfl ?_
  refine own_iconst K own_d22_24 (v := (1 : Int32)) rfl ?_
  refine own_newarray K own_d22_25 (ty := .char) rfl (own_w4 hw) H2 (q := 1) (by decide) (ad := "[C") (by decide +kernel) (vs := [(.int (0 : Int32))]) rfl (by decide) (by decide) (by decide) ?_
  intro h4 a6 H5
  replace H5 : own_H Z h4 (own_ST a3 .null (.int (0 : Int32)) :: os) ((a6, .char, "[C", [(.int (0 : Int32))]) :: (x, .char, "[C", [(.int c0), (.int c1), (.int c2), (.int c3)]) :: as) := H5
  refine own_dup K own_d22_27 rfl ?_
  refine own_iconst K own_d22_28 (v := (0 : Int32)) rfl ?_
  refine own_aloadN K own_d22_29 rfl rfl ?_
  refine own_iconst K own_d22_30 (v := (0 : Int32)) rfl ?_
  refine own_caload K own_d22_31 H5 (i := 1) rfl (q := 0) (by decide) (rfl) ?_
  refine own_castore K own_d22_32 H5 (i := 0) rfl (q := 0) (by decide) (own_le rfl) ?_
  intro h7 H8
  rw [own_nch l0 u0] at H8
  replace H8 : own_H Z h7 (own_ST a3 .null (.int (0 : Int32)) :: os) ((a6, .char, "[C", [(.int c0)]) :: (x, .char, "[C", [(.int c0), (.int c1), (.int c2), (.int c3)]) :: as) := H8
  refine own_special K own_d22_33 rfl (own_w14 hw) (own_w15 hw) (own_w13 hw) (own_w16 hw) (a := a3) (argsL := [(.ref a6)]) (rest := [(.ref a3)]) (own_initS1 hw hC H8 l0 u0) own_pd15 rfl rfl rfl (by decide) (W := 1) (Nat.le_of_eq rfl) (by decide) (by decide) (by decide) (by decide) ?_
  intro v11 h9 q10
  obtain ⟨rfl, y13, H12⟩ := q10
  replace H12 : own_H Z h9 (own_ST a3 (.ref y13) (.int (0 : Int32)) :: os) ((y13, .byte, "[B", [(.int (own_by c0))]) :: (a6, .char, "[C", [(.int c0)]) :: (x, .char, "[C", [(.int c0), (.int c1), (.int c2), (.int c3)]) :: as) := H12
  exact own_retA K (fun vm q => own_IBm (own_IB (congrArg Vm.interned (show vm = s_.vm from q)) hI)) rfl rfl own_d22_36 (by decide) (by decide) (⟨_, _, _, _, _, rfl, H12⟩)
set_option maxRecDepth 65536 in
set_option maxHeartbeats 40000000 in
theorem own_tx2_ef (m : MethodId) (x0 : Addr) (x1 : Int32) : entryFrame m #[(.ref x0), (.int x1)] 2 = mkF m 0 #[.val (.ref x0), .val (.int x1)] [] := by first | (simp [entryFrame, mkF, argsToLocals, Value.category]; done) | rfl
set_option maxRecDepth 65536 in
set_option maxHeartbeats 40000000 in
theorem own_tx2 {l : Launch} {Z : State} {a0 : Array Value} (hw : own_Z Z a0) {h : Heap} {os : List own_O} {as : List own_A} {x : Addr} {cs : Int32} {c0 c1 c2 c3 : Int32} (hC : cs ≠ 0 ∧ Sta Z Z.heap "java/lang/String" "COMPACT_STRINGS" "Z" (.int cs)) (hL : Jvm.Lit.constHeld Z "java/lang/String" 7) (hcw : Jvm.Lit.compactW.before a0 Z = true) (H : own_H Z h os ((x, .char, "[C", [(.int c0), (.int c1), (.int c2), (.int c3)]) :: as)) (l0 : 0 ≤ c0.toInt) (u0 : c0.toInt ≤ 255) (l1 : 0 ≤ c1.toInt) (u1 : c1.toInt ≤ 255) (l2 : 0 ≤ c2.toInt) (u2 : c2.toInt ≤ 255) (l3 : 0 ≤ c3.toInt) (u3 : c3.toInt ≤ 255) : own_Met (some ([], [""])) l Z (⟨"com/example/wary_loader/waryloader/dn/DnParserTakeAlonePinLaw", "text", "([CI)Ljava/lang/String;"⟩ : MethodName) method_5_code 2 (some (.object "java/lang/String")) [] ({ frames := 4, cells := 4, slots := 12, locals := 66 } : Room) #[(.ref x), (.int (2 : Int32))] h (fun v h' => ∃ a y z ad zs, v = some (.ref a) ∧ own_H Z h' (own_ST a (.ref y) (.int (0 : Int32)) :: os) ((y, .byte, ad, own_vs 2 c0 c1 c2 c3) :: (z, .char, "[C", zs) :: (x, .char, "[C", [(.int c0), (.int c1), (.int c2), (.int c3)]) :: as)) := by
  refine own_metW (by first | exact plainFor_of_name (by decide +kernel) | decide +kernel) ?_
  intro p_ e_ s_ m_ below_ meth_ c_ K hI
  replace hI : IB Z s_.vm [] := hI
  refine own_cast (own_tx2_ef m_ _ _) ?_
  refine own_iloadN K own_d22_0 rfl ?_
  refine own_ifne K own_d22_1 (fun _ => ?_) (fun q => absurd (by decide) q)
  refine own_iloadN K own_d22_15 rfl ?_
  refine own_iconst K own_d22_16 (v := (1 : Int32)) rfl ?_
  refine own_icmpne K own_d22_17 (fun _ => ?_) (fun q => absurd (by decide) q)
  refine own_iloadN K own_d22_37 rfl ?_
  refine own_iconst K own_d22_38 (v := (2 : Int32)) rfl ?_
  refine own_icmpne K own_d22_39 (fun q => absurd q (by decide)) (fun _ => ?_)
  refine own_new K own_d22_42 (own_w11 hw) (own_w12 hw) (own_w13 hw) H (own_ST_F hw) (own_ST_P hw) (by decide) (by decide) ?_
  intro h1 a3 H2
  replace H2 : own_H Z h1 (own_ST a3 .null (.int (0 : Int32)) :: os) ((x, .char, "[C", [(.int c0), (.int c1), (.int c2), (.int c3)]) :: as) := H2
  refine own_dup K own_d22_45 rfl ?_
  refine own_iconst K own_d22_46 (v := (2 : Int32)) rfl ?_
  refine own_newarray K own_d22_47 (ty := .char) rfl (own_w4 hw) H2 (q := 2) (by decide) (ad := "[C") (by decide +kernel) (vs := [(.int (0 : Int32)), (.int (0 : Int32))]) rfl (by decide) (by decide) (by decide) ?_
  intro h4 a6 H5
  replace H5 : own_H Z h4 (own_ST a3 .null (.int (0 : Int32)) :: os) ((a6, .char, "[C", [(.int (0 : Int32)), (.int (0 : Int32))]) :: (x, .char, "[C", [(.int c0), (.int c1), (.int c2), (.int c3)]) :: as) := H5
  refine own_dup K own_d22_49 rfl ?_
  refine own_iconst K own_d22_50 (v := (0 : Int32)) rfl ?_
  refine own_aloadN K own_d22_51 rfl rfl ?_
  refine own_iconst K own_d22_52 (v := (0 : Int32)) rfl ?_
  refine own_caload K own_d22_53 H5 (i := 1) rfl (q := 0) (by decide) (rfl) ?_
  refine own_castore K own_d22_54 H5 (i := 0) rfl (q := 0) (by decide) (own_le rfl) ?_
  intro h7 H8
  rw [own_nch l0 u0] at H8
  replace H8 : own_H Z h7 (own_ST a3 .null (.int (0 : Int32)) :: os) ((a6, .char, "[C", [(.int c0), (.int (0 : Int32))]) :: (x, .char, "[C", [(.int c0), (.int c1), (.int c2), (.int c3)]) :: as) := H8
  refine own_dup K own_d22_55 rfl ?_
  refine own_iconst K own_d22_56 (v := (1 : Int32)) rfl ?_
  refine own_aloadN K own_d22_57 rfl rfl ?_
  refine own_iconst K own_d22_58 (v := (1 : Int32)) rfl ?_
  refine own_caload K own_d22_59 H8 (i := 1) rfl (q := 1) (by decide) (rfl) ?_
  refine own_castore K own_d22_60 H8 (i := 0) rfl (q := 1) (by decide) (own_le rfl) ?_
  intro h9 H10
  rw [own_nch l1 u1] at H10
  replace H10 : own_H Z h9 (own_ST a3 .null (.int (0 : Int32)) :: os) ((a6, .char, "[C", [(.int c0), (.int c1)]) :: (x, .char, "[C", [(.int c0), (.int c1), (.int c2), (.int c3)]) :: as) := H10
  refine own_special K own_d22_61 rfl (own_w14 hw) (own_w15 hw) (own_w13 hw) (own_w16 hw) (a := a3) (argsL := [(.ref a6)]) (rest := [(.ref a3)]) (own_initS2 hw hC H10 l0 u0 l1 u1) own_pd15 rfl rfl rfl (by decide) (W := 1) (Nat.le_of_eq rfl) (by decide) (by decide) (by decide) (by decide) ?_
  intro v13 h11 q12
  obtain ⟨rfl, y15, H14⟩ := q12
  replace H14 : own_H Z h11 (own_ST a3 (.ref y15) (.int (0 : Int32)) :: os) ((y15, .byte, "[B", [(.int (own_by c0)), (.int (own_by c1))]) :: (a6, .char, "[C", [(.int c0), (.int c1)]) :: (x, .char, "[C", [(.int c0), (.int c1), (.int c2), (.int c3)]) :: as) := H14
  exact own_retA K (fun vm q => own_IBm (own_IB (congrArg Vm.interned (show vm = s_.vm from q)) hI)) rfl rfl own_d22_64 (by decide) (by decide) (⟨_, _, _, _, _, rfl, H14⟩)
set_option maxRecDepth 65536 in
set_option maxHeartbeats 40000000 in
theorem own_tx3_ef (m : MethodId) (x0 : Addr) (x1 : Int32) : entryFrame m #[(.ref x0), (.int x1)] 2 = mkF m 0 #[.val (.ref x0), .val (.int x1)] [] := by first | (simp [entryFrame, mkF, argsToLocals, Value.category]; done) | rfl
set_option maxRecDepth 65536 in
set_option maxHeartbeats 40000000 in
theorem own_tx3 {l : Launch} {Z : State} {a0 : Array Value} (hw : own_Z Z a0) {h : Heap} {os : List own_O} {as : List own_A} {x : Addr} {cs : Int32} {c0 c1 c2 c3 : Int32} (hC : cs ≠ 0 ∧ Sta Z Z.heap "java/lang/String" "COMPACT_STRINGS" "Z" (.int cs)) (hL : Jvm.Lit.constHeld Z "java/lang/String" 7) (hcw : Jvm.Lit.compactW.before a0 Z = true) (H : own_H Z h os ((x, .char, "[C", [(.int c0), (.int c1), (.int c2), (.int c3)]) :: as)) (l0 : 0 ≤ c0.toInt) (u0 : c0.toInt ≤ 255) (l1 : 0 ≤ c1.toInt) (u1 : c1.toInt ≤ 255) (l2 : 0 ≤ c2.toInt) (u2 : c2.toInt ≤ 255) (l3 : 0 ≤ c3.toInt) (u3 : c3.toInt ≤ 255) : own_Met (some ([], [""])) l Z (⟨"com/example/wary_loader/waryloader/dn/DnParserTakeAlonePinLaw", "text", "([CI)Ljava/lang/String;"⟩ : MethodName) method_5_code 2 (some (.object "java/lang/String")) [] ({ frames := 4, cells := 4, slots := 12, locals := 66 } : Room) #[(.ref x), (.int (3 : Int32))] h (fun v h' => ∃ a y z ad zs, v = some (.ref a) ∧ own_H Z h' (own_ST a (.ref y) (.int (0 : Int32)) :: os) ((y, .byte, ad, own_vs 3 c0 c1 c2 c3) :: (z, .char, "[C", zs) :: (x, .char, "[C", [(.int c0), (.int c1), (.int c2), (.int c3)]) :: as)) := by
  refine own_metW (by first | exact plainFor_of_name (by decide +kernel) | decide +kernel) ?_
  intro p_ e_ s_ m_ below_ meth_ c_ K hI
  replace hI : IB Z s_.vm [] := hI
  refine own_cast (own_tx3_ef m_ _ _) ?_
  refine own_iloadN K own_d22_0 rfl ?_
  refine own_ifne K own_d22_1 (fun _ => ?_) (fun q => absurd (by decide) q)
  refine own_iloadN K own_d22_15 rfl ?_
  refine own_iconst K own_d22_16 (v := (1 : Int32)) rfl ?_
  refine own_icmpne K own_d22_17 (fun _ => ?_) (fun q => absurd (by decide) q)
  refine own_iloadN K own_d22_37 rfl ?_
  refine own_iconst K own_d22_38 (v := (2 : Int32)) rfl ?_
  refine own_icmpne K own_d22_39 (fun _ => ?_) (fun q => absurd (by decide) q)
  refine own_iloadN K own_d22_65 rfl ?_
  refine own_iconst K own_d22_66 (v := (3 : Int32)) rfl ?_
  refine own_icmpne K own_d22_67 (fun q => absurd q (by decide)) (fun _ => ?_)
  refine own_new K own_d22_70 (own_w11 hw) (own_w12 hw) (own_w13 hw) H (own_ST_F hw) (own_ST_P hw) (by decide) (by decide) ?_
  intro h1 a3 H2
  replace H2 : own_H Z h1 (own_ST a3 .null (.int (0 : Int32)) :: os) ((x, .char, "[C", [(.int c0), (.int c1), (.int c2), (.int c3)]) :: as) := H2
  refine own_dup K own_d22_73 rfl ?_
  refine own_iconst K own_d22_74 (v := (3 : Int32)) rfl ?_
  refine own_newarray K own_d22_75 (ty := .char) rfl (own_w4 hw) H2 (q := 3) (by decide) (ad := "[C") (by decide +kernel) (vs := [(.int (0 : Int32)), (.int (0 : Int32)), (.int (0 : Int32))]) rfl (by decide) (by decide) (by decide) ?_
  intro h4 a6 H5
  replace H5 : own_H Z h4 (own_ST a3 .null (.int (0 : Int32)) :: os) ((a6, .char, "[C", [(.int (0 : Int32)), (.int (0 : Int32)), (.int (0 : Int32))]) :: (x, .char, "[C", [(.int c0), (.int c1), (.int c2), (.int c3)]) :: as) := H5
  refine own_dup K own_d22_77 rfl ?_
  refine own_iconst K own_d22_78 (v := (0 : Int32)) rfl ?_
  refine own_aloadN K own_d22_79 rfl rfl ?_
  refine own_iconst K own_d22_80 (v := (0 : Int32)) rfl ?_
  refine own_caload K own_d22_81 H5 (i := 1) rfl (q := 0) (by decide) (rfl) ?_
  refine own_castore K own_d22_82 H5 (i := 0) rfl (q := 0) (by decide) (own_le rfl) ?_
  intro h7 H8
  rw [own_nch l0 u0] at H8
  replace H8 : own_H Z h7 (own_ST a3 .null (.int (0 : Int32)) :: os) ((a6, .char, "[C", [(.int c0), (.int (0 : Int32)), (.int (0 : Int32))]) :: (x, .char, "[C", [(.int c0), (.int c1), (.int c2), (.int c3)]) :: as) := H8
  refine own_dup K own_d22_83 rfl ?_
  refine own_iconst K own_d22_84 (v := (1 : Int32)) rfl ?_
  refine own_aloadN K own_d22_85 rfl rfl ?_
  refine own_iconst K own_d22_86 (v := (1 : Int32)) rfl ?_
  refine own_caload K own_d22_87 H8 (i := 1) rfl (q := 1) (by decide) (rfl) ?_
  refine own_castore K own_d22_88 H8 (i := 0) rfl (q := 1) (by decide) (own_le rfl) ?_
  intro h9 H10
  rw [own_nch l1 u1] at H10
  replace H10 : own_H Z h9 (own_ST a3 .null (.int (0 : Int32)) :: os) ((a6, .char, "[C", [(.int c0), (.int c1), (.int (0 : Int32))]) :: (x, .char, "[C", [(.int c0), (.int c1), (.int c2), (.int c3)]) :: as) := H10
  refine own_dup K own_d22_89 rfl ?_
  refine own_iconst K own_d22_90 (v := (2 : Int32)) rfl ?_
  refine own_aloadN K own_d22_91 rfl rfl ?_
  refine own_iconst K own_d22_92 (v := (2 : Int32)) rfl ?_
  refine own_caload K own_d22_93 H10 (i := 1) rfl (q := 2) (by decide) (rfl) ?_
  refine own_castore K own_d22_94 H10 (i := 0) rfl (q := 2) (by decide) (own_le rfl) ?_
  intro h11 H12
  rw [own_nch l2 u2] at H12
  replace H12 : own_H Z h11 (own_ST a3 .null (.int (0 : Int32)) :: os) ((a6, .char, "[C", [(.int c0), (.int c1), (.int c2)]) :: (x, .char, "[C", [(.int c0), (.int c1), (.int c2), (.int c3)]) :: as) := H12
  refine own_special K own_d22_95 rfl (own_w14 hw) (own_w15 hw) (own_w13 hw) (own_w16 hw) (a := a3) (argsL := [(.ref a6)]) (rest := [(.ref a3)]) (own_initS3 hw hC H12 l0 u0 l1 u1 l2 u2) own_pd15 rfl rfl rfl (by decide) (W := 1) (Nat.le_of_eq rfl) (by decide) (by decide) (by decide) (by decide) ?_
  intro v15 h13 q14
  obtain ⟨rfl, y17, H16⟩ := q14
  replace H16 : own_H Z h13 (own_ST a3 (.ref y17) (.int (0 : Int32)) :: os) ((y17, .byte, "[B", [(.int (own_by c0)), (.int (own_by c1)), (.int (own_by c2))]) :: (a6, .char, "[C", [(.int c0), (.int c1), (.int c2)]) :: (x, .char, "[C", [(.int c0), (.int c1), (.int c2), (.int c3)]) :: as) := H16
  exact own_retA K (fun vm q => own_IBm (own_IB (congrArg Vm.interned (show vm = s_.vm from q)) hI)) rfl rfl own_d22_98 (by decide) (by decide) (⟨_, _, _, _, _, rfl, H16⟩)
set_option maxRecDepth 65536 in
set_option maxHeartbeats 40000000 in
theorem own_tx4_ef (m : MethodId) (x0 : Addr) (x1 : Int32) : entryFrame m #[(.ref x0), (.int x1)] 2 = mkF m 0 #[.val (.ref x0), .val (.int x1)] [] := by first | (simp [entryFrame, mkF, argsToLocals, Value.category]; done) | rfl
set_option maxRecDepth 65536 in
set_option maxHeartbeats 40000000 in
theorem own_tx4 {l : Launch} {Z : State} {a0 : Array Value} (hw : own_Z Z a0) {h : Heap} {os : List own_O} {as : List own_A} {x : Addr} {cs : Int32} {c0 c1 c2 c3 : Int32} (hC : cs ≠ 0 ∧ Sta Z Z.heap "java/lang/String" "COMPACT_STRINGS" "Z" (.int cs)) (hL : Jvm.Lit.constHeld Z "java/lang/String" 7) (hcw : Jvm.Lit.compactW.before a0 Z = true) (H : own_H Z h os ((x, .char, "[C", [(.int c0), (.int c1), (.int c2), (.int c3)]) :: as)) (l0 : 0 ≤ c0.toInt) (u0 : c0.toInt ≤ 255) (l1 : 0 ≤ c1.toInt) (u1 : c1.toInt ≤ 255) (l2 : 0 ≤ c2.toInt) (u2 : c2.toInt ≤ 255) (l3 : 0 ≤ c3.toInt) (u3 : c3.toInt ≤ 255) : own_Met (some ([], [""])) l Z (⟨"com/example/wary_loader/waryloader/dn/DnParserTakeAlonePinLaw", "text", "([CI)Ljava/lang/String;"⟩ : MethodName) method_5_code 2 (some (.object "java/lang/String")) [] ({ frames := 4, cells := 4, slots := 12, locals := 66 } : Room) #[(.ref x), (.int (4 : Int32))] h (fun v h' => ∃ a y z ad zs, v = some (.ref a) ∧ own_H Z h' (own_ST a (.ref y) (.int (0 : Int32)) :: os) ((y, .byte, ad, own_vs 4 c0 c1 c2 c3) :: (z, .char, "[C", zs) :: (x, .char, "[C", [(.int c0), (.int c1), (.int c2), (.int c3)]) :: as)) := by
  refine own_metW (by first | exact plainFor_of_name (by decide +kernel) | decide +kernel) ?_
  intro p_ e_ s_ m_ below_ meth_ c_ K hI
  replace hI : IB Z s_.vm [] := hI
  refine own_cast (own_tx4_ef m_ _ _) ?_
  refine own_iloadN K own_d22_0 rfl ?_
  refine own_ifne K own_d22_1 (fun _ => ?_) (fun q => absurd (by decide) q)
  refine own_iloadN K own_d22_15 rfl ?_
  refine own_iconst K own_d22_16 (v := (1 : Int32)) rfl ?_
  refine own_icmpne K own_d22_17 (fun _ => ?_) (fun q => absurd (by decide) q)
  refine own_iloadN K own_d22_37 rfl ?_
  refine own_iconst K own_d22_38 (v := (2 : Int32)) rfl ?_
  refine own_icmpne K own_d22_39 (fun _ => ?_) (fun q => absurd (by decide) q)
  refine own_iloadN K own_d22_65 rfl ?_
  refine own_iconst K own_d22_66 (v := (3 : Int32)) rfl ?_
  refine own_icmpne K own_d22_67 (fun _ => ?_) (fun q => absurd (by decide) q)
  refine own_new K own_d22_99 (own_w11 hw) (own_w12 hw) (own_w13 hw) H (own_ST_F hw) (own_ST_P hw) (by decide) (by decide) ?_
  intro h1 a3 H2
  replace H2 : own_H Z h1 (own_ST a3 .null (.int (0 : Int32)) :: os) ((x, .char, "[C", [(.int c0), (.int c1), (.int c2), (.int c3)]) :: as) := H2
  refine own_dup K own_d22_102 rfl ?_
  refine own_iconst K own_d22_103 (v := (4 : Int32)) rfl ?_
  refine own_newarray K own_d22_104 (ty := .char) rfl (own_w4 hw) H2 (q := 4) (by decide) (ad := "[C") (by decide +kernel) (vs := [(.int (0 : Int32)), (.int (0 : Int32)), (.int (0 : Int32)), (.int (0 : Int32))]) rfl (by decide) (by decide) (by decide) ?_
  intro h4 a6 H5
  replace H5 : own_H Z h4 (own_ST a3 .null (.int (0 : Int32)) :: os) ((a6, .char, "[C", [(.int (0 : Int32)), (.int (0 : Int32)), (.int (0 : Int32)), (.int (0 : Int32))]) :: (x, .char, "[C", [(.int c0), (.int c1), (.int c2), (.int c3)]) :: as) := H5
  refine own_dup K own_d22_106 rfl ?_
  refine own_iconst K own_d22_107 (v := (0 : Int32)) rfl ?_
  refine own_aloadN K own_d22_108 rfl rfl ?_
  refine own_iconst K own_d22_109 (v := (0 : Int32)) rfl ?_
  refine own_caload K own_d22_110 H5 (i := 1) rfl (q := 0) (by decide) (rfl) ?_
  refine own_castore K own_d22_111 H5 (i := 0) rfl (q := 0) (by decide) (own_le rfl) ?_
  intro h7 H8
  rw [own_nch l0 u0] at H8
  replace H8 : own_H Z h7 (own_ST a3 .null (.int (0 : Int32)) :: os) ((a6, .char, "[C", [(.int c0), (.int (0 : Int32)), (.int (0 : Int32)), (.int (0 : Int32))]) :: (x, .char, "[C", [(.int c0), (.int c1), (.int c2), (.int c3)]) :: as) := H8
  refine own_dup K own_d22_112 rfl ?_
  refine own_iconst K own_d22_113 (v := (1 : Int32)) rfl ?_
  refine own_aloadN K own_d22_114 rfl rfl ?_
  refine own_iconst K own_d22_115 (v := (1 : Int32)) rfl ?_
  refine own_caload K own_d22_116 H8 (i := 1) rfl (q := 1) (by decide) (rfl) ?_
  refine own_castore K own_d22_117 H8 (i := 0) rfl (q := 1) (by decide) (own_le rfl) ?_
  intro h9 H10
  rw [own_nch l1 u1] at H10
  replace H10 : own_H Z h9 (own_ST a3 .null (.int (0 : Int32)) :: os) ((a6, .char, "[C", [(.int c0), (.int c1), (.int (0 : Int32)), (.int (0 : Int32))]) :: (x, .char, "[C", [(.int c0), (.int c1), (.int c2), (.int c3)]) :: as) := H10
  refine own_dup K own_d22_118 rfl ?_
  refine own_iconst K own_d22_119 (v := (2 : Int32)) rfl ?_
  refine own_aloadN K own_d22_120 rfl rfl ?_
  refine own_iconst K own_d22_121 (v := (2 : Int32)) rfl ?_
  refine own_caload K own_d22_122 H10 (i := 1) rfl (q := 2) (by decide) (rfl) ?_
  refine own_castore K own_d22_123 H10 (i := 0) rfl (q := 2) (by decide) (own_le rfl) ?_
  intro h11 H12
  rw [own_nch l2 u2] at H12
  replace H12 : own_H Z h11 (own_ST a3 .null (.int (0 : Int32)) :: os) ((a6, .char, "[C", [(.int c0), (.int c1), (.int c2), (.int (0 : Int32))]) :: (x, .char, "[C", [(.int c0), (.int c1), (.int c2), (.int c3)]) :: as) := H12
  refine own_dup K own_d22_124 rfl ?_
  refine own_iconst K own_d22_125 (v := (3 : Int32)) rfl ?_
  refine own_aloadN K own_d22_126 rfl rfl ?_
  refine own_iconst K own_d22_127 (v := (3 : Int32)) rfl ?_
  refine own_caload K own_d22_128 H12 (i := 1) rfl (q := 3) (by decide) (rfl) ?_
  refine own_castore K own_d22_129 H12 (i := 0) rfl (q := 3) (by decide) (own_le rfl) ?_
  intro h13 H14
  rw [own_nch l3 u3] at H14
  replace H14 : own_H Z h13 (own_ST a3 .null (.int (0 : Int32)) :: os) ((a6, .char, "[C", [(.int c0), (.int c1), (.int c2), (.int c3)]) :: (x, .char, "[C", [(.int c0), (.int c1), (.int c2), (.int c3)]) :: as) := H14
  refine own_special K own_d22_130 rfl (own_w14 hw) (own_w15 hw) (own_w13 hw) (own_w16 hw) (a := a3) (argsL := [(.ref a6)]) (rest := [(.ref a3)]) (own_initS4 hw hC H14 l0 u0 l1 u1 l2 u2 l3 u3) own_pd15 rfl rfl rfl (by decide) (W := 1) (Nat.le_of_eq rfl) (by decide) (by decide) (by decide) (by decide) ?_
  intro v17 h15 q16
  obtain ⟨rfl, y19, H18⟩ := q16
  replace H18 : own_H Z h15 (own_ST a3 (.ref y19) (.int (0 : Int32)) :: os) ((y19, .byte, "[B", [(.int (own_by c0)), (.int (own_by c1)), (.int (own_by c2)), (.int (own_by c3))]) :: (a6, .char, "[C", [(.int c0), (.int c1), (.int c2), (.int c3)]) :: (x, .char, "[C", [(.int c0), (.int c1), (.int c2), (.int c3)]) :: as) := H18
  exact own_retA K (fun vm q => own_IBm (own_IB (congrArg Vm.interned (show vm = s_.vm from q)) hI)) rfl rfl own_d22_133 (by decide) (by decide) (⟨_, _, _, _, _, rfl, H18⟩)
theorem own_tx {l : Launch} {Z : State} {a0 : Array Value} (hw : own_Z Z a0) {h : Heap} {os : List own_O} {as : List own_A} {x : Addr} {cs : Int32} {c0 c1 c2 c3 : Int32} {n : Nat} (hn : n ≤ 4) (hC : cs ≠ 0 ∧ Sta Z Z.heap "java/lang/String" "COMPACT_STRINGS" "Z" (.int cs)) (hL : Jvm.Lit.constHeld Z "java/lang/String" 7) (hcw : Jvm.Lit.compactW.before a0 Z = true) (H : own_H Z h os ((x, .char, "[C", [(.int c0), (.int c1), (.int c2), (.int c3)]) :: as)) (l0 : 0 ≤ c0.toInt) (u0 : c0.toInt ≤ 255) (l1 : 0 ≤ c1.toInt) (u1 : c1.toInt ≤ 255) (l2 : 0 ≤ c2.toInt) (u2 : c2.toInt ≤ 255) (l3 : 0 ≤ c3.toInt) (u3 : c3.toInt ≤ 255) : own_Met (some ([], [""])) l Z (⟨"com/example/wary_loader/waryloader/dn/DnParserTakeAlonePinLaw", "text", "([CI)Ljava/lang/String;"⟩ : MethodName) method_5_code 2 (some (.object "java/lang/String")) [] ({ frames := 4, cells := 4, slots := 12, locals := 66 } : Room) #[.ref x, .int (Int32.ofNat n)] h (fun v h' => ∃ a y z ad zs, v = some (.ref a) ∧ own_H Z h' (own_ST a (.ref y) (.int (0 : Int32)) :: os) ((y, .byte, ad, own_vs n c0 c1 c2 c3) :: (z, .char, "[C", zs) :: (x, .char, "[C", [(.int c0), (.int c1), (.int c2), (.int c3)]) :: as)) := by
  rcases (show n = 0 ∨ n = 1 ∨ n = 2 ∨ n = 3 ∨ n = 4 by omega) with rfl | rfl | rfl | rfl | rfl
  · exact own_tx0 hw hC hL hcw H l0 u0 l1 u1 l2 u2 l3 u3
  · exact own_tx1 hw hC hL hcw H l0 u0 l1 u1 l2 u2 l3 u3
  · exact own_tx2 hw hC hL hcw H l0 u0 l1 u1 l2 u2 l3 u3
  · exact own_tx3 hw hC hL hcw H l0 u0 l1 u1 l2 u2 l3 u3
  · exact own_tx4 hw hC hL hcw H l0 u0 l1 u1 l2 u2 l3 u3
set_option maxRecDepth 65536 in
set_option maxHeartbeats 40000000 in
theorem own_di_ef (m : MethodId) (x0 : Addr) (x1 : Addr) (x2 : Int32) : entryFrame m #[(.ref x0), (.ref x1), (.int x2)] 3 = mkF m 0 #[.val (.ref x0), .val (.ref x1), .val (.int x2)] [] := by first | (simp [entryFrame, mkF, argsToLocals, Value.category]; done) | rfl
set_option maxRecDepth 65536 in
set_option maxHeartbeats 40000000 in
theorem own_di {l : Launch} {Z : State} {a0 : Array Value} (hw : own_Z Z a0) {h : Heap} {os : List own_O} {as : List own_A} {p a : Addr} {pv : Int32} (H : own_H Z h (own_DN p .null (.int (0 : Int32)) (.int (0 : Int32)) :: os) as) (hpv : narrow .boolean (.int pv) = .int pv) (hpf : fits .boolean (.int pv) = true) : own_Met none l Z (⟨"com/example/wary_loader/waryloader/dn/DnParser", "<init>", "(Ljava/lang/String;Z)V"⟩ : MethodName) prog_15_method_1_code 3 none [] ({ frames := 1, cells := 0, slots := 0, locals := 12 } : Room) #[(.ref p), (.ref a), (.int pv)] h (fun v h' => v = none ∧ own_H Z h' (own_DN p (.ref a) (.int pv) (.int (0 : Int32)) :: os) as) := by
  refine own_met (by first | exact plainFor_of_name (by decide +kernel) | decide +kernel) ?_
  intro p_ e_ s_ m_ below_ meth_ c_ K
  refine own_cast (own_di_ef m_ _ _ _) ?_
  refine own_aloadN K own_d23_0 rfl rfl ?_
  refine own_initO K own_d23_1 (own_w38 hw) (own_w22 hw) (own_w23 hw) rfl (by decide) (W := 0) (Nat.le_of_eq rfl) (by decide) ?_
  refine own_aloadN K own_d23_4 rfl rfl ?_
  refine own_aloadN K own_d23_5 rfl rfl ?_
  refine own_putfield K own_d23_6 (host := "") (Or.inl (own_w39 hw)) Via.refl H (j := 0) rfl (q := 0) rfl (Or.inr ⟨(own_w40 hw), rfl, rfl⟩) (own_w33 hw) (ty := (.object "java/lang/String")) (by decide +kernel) (rfl) (rfl) ?_
  intro h1 H2
  replace H2 : own_H Z h1 (own_DN p (.ref a) (.int (0 : Int32)) (.int (0 : Int32)) :: os) (as) := H2
  refine own_aloadN K own_d23_9 rfl rfl ?_
  refine own_iloadN K own_d23_10 rfl ?_
  refine own_putfield K own_d23_11 (host := "") (Or.inl (own_w41 hw)) Via.refl H2 (j := 0) rfl (q := 1) rfl (Or.inr ⟨(own_w42 hw), rfl, rfl⟩) (own_w33 hw) (ty := .boolean) (by decide +kernel) (hpv) (hpf) ?_
  intro h3 H4
  replace H4 : own_H Z h3 (own_DN p (.ref a) (.int pv) (.int (0 : Int32)) :: os) (as) := H4
  exact own_retV K (fun _ q => q) own_d23_14 (by decide) (by decide) (⟨rfl, H4⟩)
set_option maxRecDepth 65536 in
set_option maxHeartbeats 40000000 in
theorem own_law_ef (m : MethodId) (x0 : Int32) (x1 : Int32) (x2 : Int32) (x3 : Int32) : entryFrame m #[(.int x0), (.int x1), (.int x2), (.int x3)] 20 = mkF m 0 #[.val (.int x0), .val (.int x1), .val (.int x2), .val (.int x3), .unset, .unset, .unset, .unset, .unset, .unset, .unset, .unset, .unset, .unset, .unset, .unset, .unset, .unset, .unset, .unset] [] := by first | (simp [entryFrame, mkF, argsToLocals, Value.category]; done) | rfl
set_option maxRecDepth 65536 in
set_option maxHeartbeats 40000000 in
theorem own_law {l : Launch} {Z : State} {a0 : Array Value} (hw : own_Z Z a0) {sel raw a b : Int32} {cs : Int32} (hC : cs ≠ 0 ∧ Sta Z Z.heap "java/lang/String" "COMPACT_STRINGS" "Z" (.int cs)) (hF : Sta Z Z.heap "jdk/internal/util/Preconditions" "SIOOBE_FORMATTER" "Ljava/util/function/BiFunction;" .null ∨ ∃ fa, Sta Z Z.heap "jdk/internal/util/Preconditions" "SIOOBE_FORMATTER" "Ljava/util/function/BiFunction;" (.ref fa)) (hL : Jvm.Lit.constHeld Z "java/lang/String" 7) (hcw : Jvm.Lit.compactW.before a0 Z = true) : own_Met (some ([], [""])) l Z (⟨"com/example/wary_loader/waryloader/dn/DnParserTakeAlonePinLaw", "law", "(IIII)Z"⟩ : MethodName) code 20 (some .boolean) tables_1 room_1 #[(.int sel), (.int raw), (.int a), (.int b)] Z.heap (fun v h' => v = some (.int 1)) := by
  refine own_metW (by first | exact plainFor_of_name (by decide +kernel) | decide +kernel) ?_
  intro p_ e_ s_ m_ below_ meth_ c_ K hI
  replace hI : IB Z s_.vm [] := hI
  refine own_cast (own_law_ef m_ _ _ _ _) ?_
  have H := own_H.start Z
  obtain ⟨n, hn, qn⟩ := own_n5 (XT.ushr sel (12 : Int32))
  refine own_iloadN K own_d24_0 rfl ?_
  refine own_static K own_d24_1 (own_w0 hw) (own_w1 hw) (own_w2 hw) (own_w3 hw) (argsL := [(.int a)]) (rest := []) (own_dr hw) own_pd10 rfl rfl rfl (by decide) (W := 0) (Nat.le_of_eq rfl) (by decide) (by decide) (by decide) (by decide) ?_
  intro v3 h1 q2
  obtain ⟨d1, rfl, ld1, ud1, ne1, nf1, rfl⟩ := q2
  refine own_istore K own_d24_4 (Ls' := #[.val (.int sel), .val (.int raw), .val (.int a), .val (.int b), .val (.int d1), .unset, .unset, .unset, .unset, .unset, .unset, .unset, .unset, .unset, .unset, .unset, .unset, .unset, .unset, .unset]) rfl ?_
  refine own_iloadN K own_d24_6 rfl ?_
  refine own_static K own_d24_7 (own_w0 hw) (own_w1 hw) (own_w2 hw) (own_w3 hw) (argsL := [(.int b)]) (rest := []) (own_dr hw) own_pd10 rfl rfl rfl (by decide) (W := 0) (Nat.le_of_eq rfl) (by decide) (by decide) (by decide) (by decide) ?_
  intro v6 h4 q5
  obtain ⟨d2, rfl, ld2, ud2, ne2, nf2, rfl⟩ := q5
  refine own_istore K own_d24_10 (Ls' := #[.val (.int sel), .val (.int raw), .val (.int a), .val (.int b), .val (.int d1), .val (.int d2), .unset, .unset, .unset, .unset, .unset, .unset, .unset, .unset, .unset, .unset, .unset, .unset, .unset, .unset]) rfl ?_
  refine own_iloadN K own_d24_12 rfl ?_
  refine own_bipush K own_d24_13 (v := (12 : Int32)) rfl ?_
  refine own_iushr K own_d24_15 ?_
  refine own_bipush K own_d24_16 (v := (7 : Int32)) rfl ?_
  refine own_iand K own_d24_18 ?_
  refine own_iconst K own_d24_19 (v := (5 : Int32)) rfl ?_
  refine own_irem K own_d24_20 (by decide) ?_
  refine own_topI (x' := (Int32.ofNat n)) (qn) ?_
  refine own_istore K own_d24_21 (Ls' := #[.val (.int sel), .val (.int raw), .val (.int a), .val (.int b), .val (.int d1), .val (.int d2), .val (.int (Int32.ofNat n)), .unset, .unset, .unset, .unset, .unset, .unset, .unset, .unset, .unset, .unset, .unset, .unset, .unset]) rfl ?_
  refine own_iconst K own_d24_23 (v := (4 : Int32)) rfl ?_
  refine own_newarray K own_d24_24 (ty := .char) rfl (own_w4 hw) H (q := 4) (by decide) (ad := "[C") (by decide +kernel) (vs := [(.int (0 : Int32)), (.int (0 : Int32)), (.int (0 : Int32)), (.int (0 : Int32))]) rfl (by decide) (by decide) (by decide) ?_
  intro h7 a9 H8
  replace H8 : own_H Z h7 ([]) ((a9, .char, "[C", [(.int (0 : Int32)), (.int (0 : Int32)), (.int (0 : Int32)), (.int (0 : Int32))]) :: []) := H8
  refine own_astore K own_d24_26 rfl (Ls' := #[.val (.int sel), .val (.int raw), .val (.int a), .val (.int b), .val (.int d1), .val (.int d2), .val (.int (Int32.ofNat n)), .val (.ref a9), .unset, .unset, .unset, .unset, .unset, .unset, .unset, .unset, .unset, .unset, .unset, .unset]) rfl ?_
  refine own_aload K own_d24_28 rfl rfl ?_
  refine own_iconst K own_d24_30 (v := (0 : Int32)) rfl ?_
  refine own_iloadN K own_d24_31 rfl ?_
  refine own_bipush K own_d24_32 (v := (7 : Int32)) rfl ?_
  refine own_iand K own_d24_34 ?_
  refine own_iloadN K own_d24_35 rfl ?_
  refine own_sipush K own_d24_36 (v := (255 : Int32)) rfl ?_
  refine own_iand K own_d24_39 ?_
  refine own_iload K own_d24_40 rfl ?_
  refine own_iload K own_d24_42 rfl ?_
  refine own_static K own_d24_44 (own_w5 hw) (own_w6 hw) (own_w2 hw) (own_w7 hw) (argsL := [(.int (sel &&& (7 : Int32))), (.int (raw &&& (255 : Int32))), (.int d1), (.int d2)]) (rest := [(.int (0 : Int32)), (.ref a9)]) (own_pk hw (own_mb _).1 (own_mb _).2 ld1 ud1 ld2 ud2) own_pd16 rfl rfl rfl (by decide) (W := 2) (Nat.le_of_eq rfl) (by decide) (by decide) (by decide) (by decide) ?_
  intro v12 h10 q11
  obtain ⟨c0, rfl, l0, u0, rfl⟩ := q11
  refine own_castore K own_d24_47 H8 (i := 0) rfl (q := 0) (by decide) (own_le rfl) ?_
  intro h13 H14
  rw [own_nch l0 u0] at H14
  replace H14 : own_H Z h13 ([]) ((a9, .char, "[C", [(.int c0), (.int (0 : Int32)), (.int (0 : Int32)), (.int (0 : Int32))]) :: []) := H14
  refine own_aload K own_d24_48 rfl rfl ?_
  refine own_iconst K own_d24_50 (v := (1 : Int32)) rfl ?_
  refine own_iloadN K own_d24_51 rfl ?_
  refine own_iconst K own_d24_52 (v := (3 : Int32)) rfl ?_
  refine own_iushr K own_d24_53 ?_
  refine own_bipush K own_d24_54 (v := (7 : Int32)) rfl ?_
  refine own_iand K own_d24_56 ?_
  refine own_iloadN K own_d24_57 rfl ?_
  refine own_bipush K own_d24_58 (v := (8 : Int32)) rfl ?_
  refine own_iushr K own_d24_60 ?_
  refine own_sipush K own_d24_61 (v := (255 : Int32)) rfl ?_
  refine own_iand K own_d24_64 ?_
  refine own_iload K own_d24_65 rfl ?_
  refine own_iload K own_d24_67 rfl ?_
  refine own_static K own_d24_69 (own_w5 hw) (own_w6 hw) (own_w2 hw) (own_w7 hw) (argsL := [(.int ((XT.ushr sel (3 : Int32)) &&& (7 : Int32))), (.int ((XT.ushr raw (8 : Int32)) &&& (255 : Int32))), (.int d1), (.int d2)]) (rest := [(.int (1 : Int32)), (.ref a9)]) (own_pk hw (own_mb _).1 (own_mb _).2 ld1 ud1 ld2 ud2) own_pd16 rfl rfl rfl (by decide) (W := 2) (Nat.le_of_eq rfl) (by decide) (by decide) (by decide) (by decide) ?_
  intro v17 h15 q16
  obtain ⟨c1, rfl, l1, u1, rfl⟩ := q16
  refine own_castore K own_d24_72 H14 (i := 0) rfl (q := 1) (by decide) (own_le rfl) ?_
  intro h18 H19
  rw [own_nch l1 u1] at H19
  replace H19 : own_H Z h18 ([]) ((a9, .char, "[C", [(.int c0), (.int c1), (.int (0 : Int32)), (.int (0 : Int32))]) :: []) := H19
  refine own_aload K own_d24_73 rfl rfl ?_
  refine own_iconst K own_d24_75 (v := (2 : Int32)) rfl ?_
  refine own_iloadN K own_d24_76 rfl ?_
  refine own_bipush K own_d24_77 (v := (6 : Int32)) rfl ?_
  refine own_iushr K own_d24_79 ?_
  refine own_bipush K own_d24_80 (v := (7 : Int32)) rfl ?_
  refine own_iand K own_d24_82 ?_
  refine own_iloadN K own_d24_83 rfl ?_
  refine own_bipush K own_d24_84 (v := (16 : Int32)) rfl ?_
  refine own_iushr K own_d24_86 ?_
  refine own_sipush K own_d24_87 (v := (255 : Int32)) rfl ?_
  refine own_iand K own_d24_90 ?_
  refine own_iload K own_d24_91 rfl ?_
  refine own_iload K own_d24_93 rfl ?_
  refine own_static K own_d24_95 (own_w5 hw) (own_w6 hw) (own_w2 hw) (own_w7 hw) (argsL := [(.int ((XT.ushr sel (6 : Int32)) &&& (7 : Int32))), (.int ((XT.ushr raw (16 : Int32)) &&& (255 : Int32))), (.int d1), (.int d2)]) (rest := [(.int (2 : Int32)), (.ref a9)]) (own_pk hw (own_mb _).1 (own_mb _).2 ld1 ud1 ld2 ud2) own_pd16 rfl rfl rfl (by decide) (W := 2) (Nat.le_of_eq rfl) (by decide) (by decide) (by decide) (by decide) ?_
  intro v22 h20 q21
  obtain ⟨c2, rfl, l2, u2, rfl⟩ := q21
  refine own_castore K own_d24_98 H19 (i := 0) rfl (q := 2) (by decide) (own_le rfl) ?_
  intro h23 H24
  rw [own_nch l2 u2] at H24
  replace H24 : own_H Z h23 ([]) ((a9, .char, "[C", [(.int c0), (.int c1), (.int c2), (.int (0 : Int32))]) :: []) := H24
  refine own_aload K own_d24_99 rfl rfl ?_
  refine own_iconst K own_d24_101 (v := (3 : Int32)) rfl ?_
  refine own_iloadN K own_d24_102 rfl ?_
  refine own_bipush K own_d24_103 (v := (9 : Int32)) rfl ?_
  refine own_iushr K own_d24_105 ?_
  refine own_bipush K own_d24_106 (v := (7 : Int32)) rfl ?_
  refine own_iand K own_d24_108 ?_
  refine own_iloadN K own_d24_109 rfl ?_
  refine own_bipush K own_d24_110 (v := (24 : Int32)) rfl ?_
  refine own_iushr K own_d24_112 ?_
  refine own_sipush K own_d24_113 (v := (255 : Int32)) rfl ?_
  refine own_iand K own_d24_116 ?_
  refine own_iload K own_d24_117 rfl ?_
  refine own_iload K own_d24_119 rfl ?_
  refine own_static K own_d24_121 (own_w5 hw) (own_w6 hw) (own_w2 hw) (own_w7 hw) (argsL := [(.int ((XT.ushr sel (9 : Int32)) &&& (7 : Int32))), (.int ((XT.ushr raw (24 : Int32)) &&& (255 : Int32))), (.int d1), (.int d2)]) (rest := [(.int (3 : Int32)), (.ref a9)]) (own_pk hw (own_mb _).1 (own_mb _).2 ld1 ud1 ld2 ud2) own_pd16 rfl rfl rfl (by decide) (W := 2) (Nat.le_of_eq rfl) (by decide) (by decide) (by decide) (by decide) ?_
  intro v27 h25 q26
  obtain ⟨c3, rfl, l3, u3, rfl⟩ := q26
  refine own_castore K own_d24_124 H24 (i := 0) rfl (q := 3) (by decide) (own_le rfl) ?_
  intro h28 H29
  rw [own_nch l3 u3] at H29
  replace H29 : own_H Z h28 ([]) ((a9, .char, "[C", [(.int c0), (.int c1), (.int c2), (.int c3)]) :: []) := H29
  refine own_aload K own_d24_125 rfl rfl ?_
  refine own_iload K own_d24_127 rfl ?_
  refine own_staticW K (fun vm q => own_IB (congrArg Vm.interned (show vm = s_.vm from q)) hI) own_d24_129 (own_w8 hw) (own_w9 hw) (own_w2 hw) (own_w10 hw) (argsL := [(.ref a9), (.int (Int32.ofNat n))]) (rest := []) (own_tx hw hn hC hL hcw H29 l0 u0 l1 u1 l2 u2 l3 u3) own_pd17 rfl rfl rfl (by decide) (W := 0) (Nat.le_of_eq rfl) (by decide) (by decide) (by decide) (by decide) ?_
  intro v32 h30 q31
  obtain ⟨a34, y35, z36, ad, zs, rfl, H33⟩ := q31
  replace H33 : own_H Z h30 (own_ST a34 (.ref y35) (.int (0 : Int32)) :: []) ((y35, .byte, ad, (own_vs n c0 c1 c2 c3)) :: (z36, .char, "[C", zs) :: (a9, .char, "[C", [(.int c0), (.int c1), (.int c2), (.int c3)]) :: []) := H33
  have hB : own_bd c0 c1 c2 c3 := by
    intro r hr; rcases own_r4 hr with rfl | rfl | rfl | rfl
    · exact ⟨l0, u0⟩
    · exact ⟨l1, u1⟩
    · exact ⟨l2, u2⟩
    · exact ⟨l3, u3⟩
  refine own_astore K own_d24_132 rfl (Ls' := #[.val (.int sel), .val (.int raw), .val (.int a), .val (.int b), .val (.int d1), .val (.int d2), .val (.int (Int32.ofNat n)), .val (.ref a9), .val (.ref a34), .unset, .unset, .unset, .unset, .unset, .unset, .unset, .unset, .unset, .unset, .unset]) rfl ?_
  refine own_new K own_d24_134 (own_w32 hw) (own_w33 hw) (own_w34 hw) H33 (own_DN_F hw) (own_DN_P hw) (by decide) (by decide) ?_
  intro h37 a39 H38
  replace H38 : own_H Z h37 (own_DN a39 .null (.int (0 : Int32)) (.int (0 : Int32)) :: own_ST a34 (.ref y35) (.int (0 : Int32)) :: []) ((y35, .byte, ad, (own_vs n c0 c1 c2 c3)) :: (z36, .char, "[C", zs) :: (a9, .char, "[C", [(.int c0), (.int c1), (.int c2), (.int c3)]) :: []) := H38
  refine own_dup K own_d24_137 rfl ?_
  refine own_aload K own_d24_138 rfl rfl ?_
  refine own_joinB (F := fun bb => mkF m_ 154 #[.val (.int sel), .val (.int raw), .val (.int a), .val (.int b), .val (.int d1), .val (.int d2), .val (.int (Int32.ofNat n)), .val (.ref a9), .val (.ref a34), .unset, .unset, .unset, .unset, .unset, .unset, .unset, .unset, .unset, .unset, .unset] [.int (own_qb bb), (.ref a34), (.ref a39), (.ref a39)]) ?_ ?_
  · intro pb
    refine own_special K own_d24_154 rfl (own_w35 hw) (own_w36 hw) (own_w34 hw) (own_w37 hw) (a := a39) (argsL := [(.ref a34), (.int (own_qb pb))]) (rest := [(.ref a39)]) (own_di hw H38 (own_qbN _) (own_qbF _)) own_pd18 rfl rfl rfl (by decide) (W := 1) (Nat.le_of_eq rfl) (by decide) (by decide) (by decide) (by decide) ?_
    intro v43 h41 q42
    obtain ⟨rfl, H44⟩ := q42
    replace H44 : own_H Z h41 (own_DN a39 (.ref a34) (.int (own_qb pb)) (.int (Int32.ofNat 0)) :: own_ST a34 (.ref y35) (.int (0 : Int32)) :: []) ((y35, .byte, ad, (own_vs n c0 c1 c2 c3)) :: (z36, .char, "[C", zs) :: (a9, .char, "[C", [(.int c0), (.int c1), (.int c2), (.int c3)]) :: []) := H44
    refine own_astore K own_d24_157 rfl (Ls' := #[.val (.int sel), .val (.int raw), .val (.int a), .val (.int b), .val (.int d1), .val (.int d2), .val (.int (Int32.ofNat n)), .val (.ref a9), .val (.ref a34), .val (.ref a39), .unset, .unset, .unset, .unset, .unset, .unset, .unset, .unset, .unset, .unset]) rfl ?_
    refine own_aload K own_d24_159 rfl rfl ?_
    refine own_iload K own_d24_161 rfl ?_
    have H45 := H44.frontO 1 rfl
    replace H45 : own_H Z h41 (own_ST a34 (.ref y35) (.int (0 : Int32)) :: own_DN a39 (.ref a34) (.int (own_qb pb)) (.int (Int32.ofNat 0)) :: []) ((y35, .byte, ad, (own_vs n c0 c1 c2 c3)) :: (z36, .char, "[C", zs) :: (a9, .char, "[C", [(.int c0), (.int c1), (.int c2), (.int c3)]) :: []) := H45
    refine own_virtual K own_d24_163 (own_w43 hw) (own_w44 hw) (own_w46 hw) (own_w45 hw) (own_w34 hw) (own_w47 hw) (H45.atO (i := 1) rfl) (a := a39) (argsL := [(.int d1)]) (rest := []) (own_ta hw hC hF H45 hB (j := 0) hn (Nat.zero_le _)) own_pd19 rfl rfl rfl (by decide) (W := 0) (Nat.le_of_eq rfl) (by decide) (by decide) (by decide) (by decide) ?_
    intro v48 h46 q47
    obtain ⟨b1, j1, e1, k1, rfl, H49⟩ := q47
    replace H49 : own_H Z h46 (own_ST a34 (.ref y35) (.int (0 : Int32)) :: own_DN a39 (.ref a34) (.int (own_qb pb)) (.int (Int32.ofNat j1)) :: []) ((y35, .byte, ad, (own_vs n c0 c1 c2 c3)) :: (z36, .char, "[C", zs) :: (a9, .char, "[C", [(.int c0), (.int c1), (.int c2), (.int c3)]) :: []) := H49
    refine own_istore K own_d24_166 (Ls' := #[.val (.int sel), .val (.int raw), .val (.int a), .val (.int b), .val (.int d1), .val (.int d2), .val (.int (Int32.ofNat n)), .val (.ref a9), .val (.ref a34), .val (.ref a39), .val (.int (own_qb b1)), .unset, .unset, .unset, .unset, .unset, .unset, .unset, .unset, .unset]) rfl ?_
    refine own_aload K own_d24_168 rfl rfl ?_
    refine own_bipush K own_d24_170 (v := (59 : Int32)) rfl ?_
    refine own_virtual K own_d24_172 (own_w65 hw) (own_w66 hw) (own_w68 hw) (own_w67 hw) (own_w34 hw) (own_w69 hw) (H49.atO (i := 1) rfl) (a := a39) (argsL := [(.int (59 : Int32))]) (rest := []) (own_tk hw hC hF H49 hB (j := j1) hn k1) own_pd19 rfl rfl rfl (by decide) (W := 0) (Nat.le_of_eq rfl) (by decide) (by decide) (by decide) (by decide) ?_
    intro v52 h50 q51
    obtain ⟨s1, j2, e2, k2, rfl, H53⟩ := q51
    replace H53 : own_H Z h50 (own_ST a34 (.ref y35) (.int (0 : Int32)) :: own_DN a39 (.ref a34) (.int (own_qb pb)) (.int (Int32.ofNat j2)) :: []) ((y35, .byte, ad, (own_vs n c0 c1 c2 c3)) :: (z36, .char, "[C", zs) :: (a9, .char, "[C", [(.int c0), (.int c1), (.int c2), (.int c3)]) :: []) := H53
    refine own_istore K own_d24_175 (Ls' := #[.val (.int sel), .val (.int raw), .val (.int a), .val (.int b), .val (.int d1), .val (.int d2), .val (.int (Int32.ofNat n)), .val (.ref a9), .val (.ref a34), .val (.ref a39), .val (.int (own_qb b1)), .val (.int (own_qb s1)), .unset, .unset, .unset, .unset, .unset, .unset, .unset, .unset]) rfl ?_
    refine own_aload K own_d24_177 rfl rfl ?_
    refine own_iload K own_d24_179 rfl ?_
    refine own_virtual K own_d24_181 (own_w43 hw) (own_w44 hw) (own_w46 hw) (own_w45 hw) (own_w34 hw) (own_w47 hw) (H53.atO (i := 1) rfl) (a := a39) (argsL := [(.int d2)]) (rest := []) (own_ta hw hC hF H53 hB (j := j2) hn k2) own_pd19 rfl rfl rfl (by decide) (W := 0) (Nat.le_of_eq rfl) (by decide) (by decide) (by decide) (by decide) ?_
    intro v56 h54 q55
    obtain ⟨b2, j3, e3, k3, rfl, H57⟩ := q55
    replace H57 : own_H Z h54 (own_ST a34 (.ref y35) (.int (0 : Int32)) :: own_DN a39 (.ref a34) (.int (own_qb pb)) (.int (Int32.ofNat j3)) :: []) ((y35, .byte, ad, (own_vs n c0 c1 c2 c3)) :: (z36, .char, "[C", zs) :: (a9, .char, "[C", [(.int c0), (.int c1), (.int c2), (.int c3)]) :: []) := H57
    refine own_istore K own_d24_184 (Ls' := #[.val (.int sel), .val (.int raw), .val (.int a), .val (.int b), .val (.int d1), .val (.int d2), .val (.int (Int32.ofNat n)), .val (.ref a9), .val (.ref a34), .val (.ref a39), .val (.int (own_qb b1)), .val (.int (own_qb s1)), .val (.int (own_qb b2)), .unset, .unset, .unset, .unset, .unset, .unset, .unset]) rfl ?_
    refine own_aload K own_d24_186 rfl rfl ?_
    refine own_bipush K own_d24_188 (v := (59 : Int32)) rfl ?_
    refine own_virtual K own_d24_190 (own_w65 hw) (own_w66 hw) (own_w68 hw) (own_w67 hw) (own_w34 hw) (own_w69 hw) (H57.atO (i := 1) rfl) (a := a39) (argsL := [(.int (59 : Int32))]) (rest := []) (own_tk hw hC hF H57 hB (j := j3) hn k3) own_pd19 rfl rfl rfl (by decide) (W := 0) (Nat.le_of_eq rfl) (by decide) (by decide) (by decide) (by decide) ?_
    intro v60 h58 q59
    obtain ⟨s2, j4, e4, k4, rfl, H61⟩ := q59
    replace H61 : own_H Z h58 (own_ST a34 (.ref y35) (.int (0 : Int32)) :: own_DN a39 (.ref a34) (.int (own_qb pb)) (.int (Int32.ofNat j4)) :: []) ((y35, .byte, ad, (own_vs n c0 c1 c2 c3)) :: (z36, .char, "[C", zs) :: (a9, .char, "[C", [(.int c0), (.int c1), (.int c2), (.int c3)]) :: []) := H61
    refine own_istore K own_d24_193 (Ls' := #[.val (.int sel), .val (.int raw), .val (.int a), .val (.int b), .val (.int d1), .val (.int d2), .val (.int (Int32.ofNat n)), .val (.ref a9), .val (.ref a34), .val (.ref a39), .val (.int (own_qb b1)), .val (.int (own_qb s1)), .val (.int (own_qb b2)), .val (.int (own_qb s2)), .unset, .unset, .unset, .unset, .unset, .unset]) rfl ?_
    refine own_iconst K own_d24_195 (v := (0 : Int32)) rfl ?_
    refine own_topI (x' := (Int32.ofNat 0)) (rfl) ?_
    refine own_istore K own_d24_196 (Ls' := #[.val (.int sel), .val (.int raw), .val (.int a), .val (.int b), .val (.int d1), .val (.int d2), .val (.int (Int32.ofNat n)), .val (.ref a9), .val (.ref a34), .val (.ref a39), .val (.int (own_qb b1)), .val (.int (own_qb s1)), .val (.int (own_qb b2)), .val (.int (own_qb s2)), .val (.int (Int32.ofNat 0)), .unset, .unset, .unset, .unset, .unset]) rfl ?_
    refine own_aload K own_d24_198 rfl rfl ?_
    refine own_iload K own_d24_200 rfl ?_
    refine own_iload K own_d24_202 rfl ?_
    have H62 := H61.frontA 2 rfl
    replace H62 : own_H Z h58 (own_ST a34 (.ref y35) (.int (0 : Int32)) :: own_DN a39 (.ref a34) (.int (own_qb pb)) (.int (Int32.ofNat j4)) :: []) ((a9, .char, "[C", [(.int c0), (.int c1), (.int c2), (.int c3)]) :: (y35, .byte, ad, (own_vs n c0 c1 c2 c3)) :: (z36, .char, "[C", zs) :: []) := H62
    refine own_static K own_d24_204 (own_w70 hw) (own_w71 hw) (own_w2 hw) (own_w72 hw) (argsL := [(.ref a9), (.int (Int32.ofNat n)), (.int (Int32.ofNat 0))]) (rest := []) (own_en hw H62 (j := 0) hn (Nat.zero_le _)) own_pd14 rfl rfl rfl (by decide) (W := 0) (Nat.le_of_eq rfl) (by decide) (by decide) (by decide) (by decide) ?_
    intro v65 h63 q64
    obtain ⟨x1, f1, kx1, rfl, rfl⟩ := q64
    refine own_istore K own_d24_207 (Ls' := #[.val (.int sel), .val (.int raw), .val (.int a), .val (.int b), .val (.int d1), .val (.int d2), .val (.int (Int32.ofNat n)), .val (.ref a9), .val (.ref a34), .val (.ref a39), .val (.int (own_qb b1)), .val (.int (own_qb s1)), .val (.int (own_qb b2)), .val (.int (own_qb s2)), .val (.int (Int32.ofNat 0)), .val (.int (Int32.ofNat x1)), .unset, .unset, .unset, .unset]) rfl ?_
    refine own_aload K own_d24_209 rfl rfl ?_
    refine own_iload K own_d24_211 rfl ?_
    refine own_iload K own_d24_213 rfl ?_
    refine own_iload K own_d24_215 rfl ?_
    refine own_static K own_d24_217 (own_w73 hw) (own_w74 hw) (own_w2 hw) (own_w75 hw) (argsL := [(.ref a9), (.int (Int32.ofNat 0)), (.int (Int32.ofNat x1)), (.int d1)]) (rest := []) (own_alo hw H62 (j := 0) (e := x1) (own_on (Nat.le_trans (Nat.zero_le _) hn)) (own_on (Nat.le_trans kx1 hn))) own_pd20 rfl rfl rfl (by decide) (W := 0) (Nat.le_of_eq rfl) (by decide) (by decide) (by decide) (by decide) ?_
    intro v68 h66 q67
    obtain ⟨m1, f2, rfl, rfl⟩ := q67
    refine own_istore K own_d24_220 (Ls' := #[.val (.int sel), .val (.int raw), .val (.int a), .val (.int b), .val (.int d1), .val (.int d2), .val (.int (Int32.ofNat n)), .val (.ref a9), .val (.ref a34), .val (.ref a39), .val (.int (own_qb b1)), .val (.int (own_qb s1)), .val (.int (own_qb b2)), .val (.int (own_qb s2)), .val (.int (Int32.ofNat 0)), .val (.int (Int32.ofNat x1)), .val (.int (own_qb m1)), .unset, .unset, .unset]) rfl ?_
    obtain ⟨y1, hy1⟩ : ∃ y : Nat, y = bif m1 then x1 else 0 := ⟨_, rfl⟩
    have hb1 : y1 ≤ n := by
      rw [hy1]
      cases m1
      · exact (Nat.zero_le _)
      · exact kx1
    refine own_join (g1 := mkF m_ 231 #[.val (.int sel), .val (.int raw), .val (.int a), .val (.int b), .val (.int d1), .val (.int d2), .val (.int (Int32.ofNat n)), .val (.ref a9), .val (.ref a34), .val (.ref a39), .val (.int (own_qb b1)), .val (.int (own_qb s1)), .val (.int (own_qb b2)), .val (.int (own_qb s2)), .val (.int (Int32.ofNat y1)), .val (.int (Int32.ofNat x1)), .val (.int (own_qb m1)), .unset, .unset, .unset] []) ?_ ?_
    · skip
      refine own_aload K own_d24_231 rfl rfl ?_
      refine own_iload K own_d24_233 rfl ?_
      refine own_iload K own_d24_235 rfl ?_
      refine own_static K own_d24_237 (own_w70 hw) (own_w71 hw) (own_w2 hw) (own_w72 hw) (argsL := [(.ref a9), (.int (Int32.ofNat n)), (.int (Int32.ofNat y1))]) (rest := []) (own_en hw H62 (j := y1) hn hb1) own_pd14 rfl rfl rfl (by decide) (W := 0) (Nat.le_of_eq rfl) (by decide) (by decide) (by decide) (by decide) ?_
      intro v72 h70 q71
      obtain ⟨x2, f3, kx2, rfl, rfl⟩ := q71
      refine own_istore K own_d24_240 (Ls' := #[.val (.int sel), .val (.int raw), .val (.int a), .val (.int b), .val (.int d1), .val (.int d2), .val (.int (Int32.ofNat n)), .val (.ref a9), .val (.ref a34), .val (.ref a39), .val (.int (own_qb b1)), .val (.int (own_qb s1)), .val (.int (own_qb b2)), .val (.int (own_qb s2)), .val (.int (Int32.ofNat y1)), .val (.int (Int32.ofNat x2)), .val (.int (own_qb m1)), .unset, .unset, .unset]) rfl ?_
      refine own_aload K own_d24_242 rfl rfl ?_
      refine own_iload K own_d24_244 rfl ?_
      refine own_iload K own_d24_246 rfl ?_
      refine own_static K own_d24_248 (own_w79 hw) (own_w80 hw) (own_w2 hw) (own_w81 hw) (argsL := [(.ref a9), (.int (Int32.ofNat y1)), (.int (Int32.ofNat x2))]) (rest := []) (own_nsp hw H62 (j := y1) (e := x2) (own_on (Nat.le_trans hb1 hn)) (own_on (Nat.le_trans kx2 hn))) own_pd14 rfl rfl rfl (by decide) (W := 0) (Nat.le_of_eq rfl) (by decide) (by decide) (by decide) (by decide) ?_
      intro v75 h73 q74
      obtain ⟨w1, f4, rfl, rfl⟩ := q74
      obtain ⟨z1, hz1⟩ : ∃ b : Bool, b = own_qzz w1 n x2 := ⟨_, rfl⟩
      refine own_join (g1 := mkF m_ 268 #[.val (.int sel), .val (.int raw), .val (.int a), .val (.int b), .val (.int d1), .val (.int d2), .val (.int (Int32.ofNat n)), .val (.ref a9), .val (.ref a34), .val (.ref a39), .val (.int (own_qb b1)), .val (.int (own_qb s1)), .val (.int (own_qb b2)), .val (.int (own_qb s2)), .val (.int (Int32.ofNat y1)), .val (.int (Int32.ofNat x2)), .val (.int (own_qb m1)), .val (.int (own_qb z1)), .unset, .unset] []) ?_ ?_
      · skip
        obtain ⟨y2, hy2⟩ : ∃ y : Nat, y = bif z1 then x2 + 1 else y1 := ⟨_, rfl⟩
        have hb2 : y2 ≤ n := by
          rw [hy2]
          cases hc : z1
          · exact hb1
          · rw [hc] at hz1; exact own_qzzL hz1
        refine own_join (g1 := mkF m_ 279 #[.val (.int sel), .val (.int raw), .val (.int a), .val (.int b), .val (.int d1), .val (.int d2), .val (.int (Int32.ofNat n)), .val (.ref a9), .val (.ref a34), .val (.ref a39), .val (.int (own_qb b1)), .val (.int (own_qb s1)), .val (.int (own_qb b2)), .val (.int (own_qb s2)), .val (.int (Int32.ofNat y2)), .val (.int (Int32.ofNat x2)), .val (.int (own_qb m1)), .val (.int (own_qb z1)), .unset, .unset] []) ?_ ?_
        · skip
          refine own_aload K own_d24_279 rfl rfl ?_
          refine own_iload K own_d24_281 rfl ?_
          refine own_iload K own_d24_283 rfl ?_
          refine own_static K own_d24_285 (own_w70 hw) (own_w71 hw) (own_w2 hw) (own_w72 hw) (argsL := [(.ref a9), (.int (Int32.ofNat n)), (.int (Int32.ofNat y2))]) (rest := []) (own_en hw H62 (j := y2) hn hb2) own_pd14 rfl rfl rfl (by decide) (W := 0) (Nat.le_of_eq rfl) (by decide) (by decide) (by decide) (by decide) ?_
          intro v80 h78 q79
          obtain ⟨x3, f5, kx3, rfl, rfl⟩ := q79
          refine own_istore K own_d24_288 (Ls' := #[.val (.int sel), .val (.int raw), .val (.int a), .val (.int b), .val (.int d1), .val (.int d2), .val (.int (Int32.ofNat n)), .val (.ref a9), .val (.ref a34), .val (.ref a39), .val (.int (own_qb b1)), .val (.int (own_qb s1)), .val (.int (own_qb b2)), .val (.int (own_qb s2)), .val (.int (Int32.ofNat y2)), .val (.int (Int32.ofNat x3)), .val (.int (own_qb m1)), .val (.int (own_qb z1)), .unset, .unset]) rfl ?_
          refine own_aload K own_d24_290 rfl rfl ?_
          refine own_iload K own_d24_292 rfl ?_
          refine own_iload K own_d24_294 rfl ?_
          refine own_iload K own_d24_296 rfl ?_
          refine own_static K own_d24_298 (own_w73 hw) (own_w74 hw) (own_w2 hw) (own_w75 hw) (argsL := [(.ref a9), (.int (Int32.ofNat y2)), (.int (Int32.ofNat x3)), (.int d2)]) (rest := []) (own_alo hw H62 (j := y2) (e := x3) (own_on (Nat.le_trans hb2 hn)) (own_on (Nat.le_trans kx3 hn))) own_pd20 rfl rfl rfl (by decide) (W := 0) (Nat.le_of_eq rfl) (by decide) (by decide) (by decide) (by decide) ?_
          intro v83 h81 q82
          obtain ⟨m2, f6, rfl, rfl⟩ := q82
          refine own_istore K own_d24_301 (Ls' := #[.val (.int sel), .val (.int raw), .val (.int a), .val (.int b), .val (.int d1), .val (.int d2), .val (.int (Int32.ofNat n)), .val (.ref a9), .val (.ref a34), .val (.ref a39), .val (.int (own_qb b1)), .val (.int (own_qb s1)), .val (.int (own_qb b2)), .val (.int (own_qb s2)), .val (.int (Int32.ofNat y2)), .val (.int (Int32.ofNat x3)), .val (.int (own_qb m1)), .val (.int (own_qb z1)), .val (.int (own_qb m2)), .unset]) rfl ?_
          obtain ⟨y3, hy3⟩ : ∃ y : Nat, y = bif m2 then x3 else y2 := ⟨_, rfl⟩
          have hb3 : y3 ≤ n := by
            rw [hy3]
            cases m2
            · exact hb2
            · exact kx3
          refine own_join (g1 := mkF m_ 312 #[.val (.int sel), .val (.int raw), .val (.int a), .val (.int b), .val (.int d1), .val (.int d2), .val (.int (Int32.ofNat n)), .val (.ref a9), .val (.ref a34), .val (.ref a39), .val (.int (own_qb b1)), .val (.int (own_qb s1)), .val (.int (own_qb b2)), .val (.int (own_qb s2)), .val (.int (Int32.ofNat y3)), .val (.int (Int32.ofNat x3)), .val (.int (own_qb m1)), .val (.int (own_qb z1)), .val (.int (own_qb m2)), .unset] []) ?_ ?_
          · skip
            refine own_aload K own_d24_312 rfl rfl ?_
            refine own_iload K own_d24_314 rfl ?_
            refine own_iload K own_d24_316 rfl ?_
            refine own_static K own_d24_318 (own_w70 hw) (own_w71 hw) (own_w2 hw) (own_w72 hw) (argsL := [(.ref a9), (.int (Int32.ofNat n)), (.int (Int32.ofNat y3))]) (rest := []) (own_en hw H62 (j := y3) hn hb3) own_pd14 rfl rfl rfl (by decide) (W := 0) (Nat.le_of_eq rfl) (by decide) (by decide) (by decide) (by decide) ?_
            intro v87 h85 q86
            obtain ⟨x4, f7, kx4, rfl, rfl⟩ := q86
            refine own_istore K own_d24_321 (Ls' := #[.val (.int sel), .val (.int raw), .val (.int a), .val (.int b), .val (.int d1), .val (.int d2), .val (.int (Int32.ofNat n)), .val (.ref a9), .val (.ref a34), .val (.ref a39), .val (.int (own_qb b1)), .val (.int (own_qb s1)), .val (.int (own_qb b2)), .val (.int (own_qb s2)), .val (.int (Int32.ofNat y3)), .val (.int (Int32.ofNat x4)), .val (.int (own_qb m1)), .val (.int (own_qb z1)), .val (.int (own_qb m2)), .unset]) rfl ?_
            refine own_aload K own_d24_323 rfl rfl ?_
            refine own_iload K own_d24_325 rfl ?_
            refine own_iload K own_d24_327 rfl ?_
            refine own_static K own_d24_329 (own_w79 hw) (own_w80 hw) (own_w2 hw) (own_w81 hw) (argsL := [(.ref a9), (.int (Int32.ofNat y3)), (.int (Int32.ofNat x4))]) (rest := []) (own_nsp hw H62 (j := y3) (e := x4) (own_on (Nat.le_trans hb3 hn)) (own_on (Nat.le_trans kx4 hn))) own_pd14 rfl rfl rfl (by decide) (W := 0) (Nat.le_of_eq rfl) (by decide) (by decide) (by decide) (by decide) ?_
            intro v90 h88 q89
            obtain ⟨w2, f8, rfl, rfl⟩ := q89
            obtain ⟨z2, hz2⟩ : ∃ b : Bool, b = own_qzz w2 n x4 := ⟨_, rfl⟩
            refine own_join (g1 := mkF m_ 349 #[.val (.int sel), .val (.int raw), .val (.int a), .val (.int b), .val (.int d1), .val (.int d2), .val (.int (Int32.ofNat n)), .val (.ref a9), .val (.ref a34), .val (.ref a39), .val (.int (own_qb b1)), .val (.int (own_qb s1)), .val (.int (own_qb b2)), .val (.int (own_qb s2)), .val (.int (Int32.ofNat y3)), .val (.int (Int32.ofNat x4)), .val (.int (own_qb m1)), .val (.int (own_qb z1)), .val (.int (own_qb m2)), .val (.int (own_qb z2))] []) ?_ ?_
            · skip
              have hfin := own_fin (own_pl hn (c0 := c0) (c1 := c1) (c2 := c2) (c3 := c3) ne1 nf1 ne2 nf2) e1 e2 e3 e4 (own_h3e f1 f2 hy1) (own_h2e f3 f4 hz1 hy2) (own_h3e f5 f6 hy3) (own_h2e f7 f8 hz2 rfl)
              refine own_iload K own_d24_349 rfl ?_
              refine own_iload K own_d24_351 rfl ?_
              refine own_icmpne K own_d24_353 (fun q => absurd q (not_not_intro (congrArg own_qb hfin.1))) (fun _ => ?_)
              refine own_iload K own_d24_356 rfl ?_
              refine own_iload K own_d24_358 rfl ?_
              refine own_icmpne K own_d24_360 (fun q => absurd q (not_not_intro (congrArg own_qb hfin.2.1))) (fun _ => ?_)
              refine own_iload K own_d24_363 rfl ?_
              refine own_iload K own_d24_365 rfl ?_
              refine own_icmpne K own_d24_367 (fun q => absurd q (not_not_intro (congrArg own_qb hfin.2.2.1))) (fun _ => ?_)
              refine own_iload K own_d24_370 rfl ?_
              refine own_iload K own_d24_372 rfl ?_
              refine own_icmpne K own_d24_374 (fun q => absurd q (not_not_intro (congrArg own_qb hfin.2.2.2))) (fun _ => ?_)
              refine own_iconst K own_d24_377 (v := (1 : Int32)) rfl ?_
              refine own_goto K own_d24_378 ?_
              exact own_retZ K (fun _ q => q) (by first | exact Or.inl rfl | exact Or.inr rfl | decide) own_d24_382 (by decide) (by decide) (rfl)
            · intro J91
              refine own_ifne K own_d24_332 (fun gz => ?_) (fun gz => ?_)
              · refine own_iconst K own_d24_346 (v := (0 : Int32)) rfl ?_
                refine own_istore K own_d24_347 (Ls' := #[.val (.int sel), .val (.int raw), .val (.int a), .val (.int b), .val (.int d1), .val (.int d2), .val (.int (Int32.ofNat n)), .val (.ref a9), .val (.ref a34), .val (.ref a39), .val (.int (own_qb b1)), .val (.int (own_qb s1)), .val (.int (own_qb b2)), .val (.int (own_qb s2)), .val (.int (Int32.ofNat y3)), .val (.int (Int32.ofNat x4)), .val (.int (own_qb m1)), .val (.int (own_qb z1)), .val (.int (own_qb m2)), .val (.int (0 : Int32))]) rfl ?_
                exact own_cast (by rw [hz2, own_qzzF1 gz]; rfl) J91
              · refine own_iload K own_d24_335 rfl ?_
                refine own_iload K own_d24_337 rfl ?_
                refine own_icmpge K own_d24_339 (fun gy => ?_) (fun gy => ?_)
                · refine own_iconst K own_d24_346 (v := (0 : Int32)) rfl ?_
                  refine own_istore K own_d24_347 (Ls' := #[.val (.int sel), .val (.int raw), .val (.int a), .val (.int b), .val (.int d1), .val (.int d2), .val (.int (Int32.ofNat n)), .val (.ref a9), .val (.ref a34), .val (.ref a39), .val (.int (own_qb b1)), .val (.int (own_qb s1)), .val (.int (own_qb b2)), .val (.int (own_qb s2)), .val (.int (Int32.ofNat y3)), .val (.int (Int32.ofNat x4)), .val (.int (own_qb m1)), .val (.int (own_qb z1)), .val (.int (own_qb m2)), .val (.int (0 : Int32))]) rfl ?_
                  exact own_cast (by rw [hz2, own_qzzF2 (by have e0 := own_on hn; have e1 := own_on (Nat.le_trans kx4 hn); omega)]; rfl) J91
                · refine own_iconst K own_d24_342 (v := (1 : Int32)) rfl ?_
                  refine own_goto K own_d24_343 ?_
                  refine own_istore K own_d24_347 (Ls' := #[.val (.int sel), .val (.int raw), .val (.int a), .val (.int b), .val (.int d1), .val (.int d2), .val (.int (Int32.ofNat n)), .val (.ref a9), .val (.ref a34), .val (.ref a39), .val (.int (own_qb b1)), .val (.int (own_qb s1)), .val (.int (own_qb b2)), .val (.int (own_qb s2)), .val (.int (Int32.ofNat y3)), .val (.int (Int32.ofNat x4)), .val (.int (own_qb m1)), .val (.int (own_qb z1)), .val (.int (own_qb m2)), .val (.int (1 : Int32))]) rfl ?_
                  exact own_cast (by rw [hz2, own_qzzT (Classical.not_not.mp gz) (by have e0 := own_on hn; have e1 := own_on (Nat.le_trans kx4 hn); omega)]; rfl) J91
          · intro J84
            refine own_iload K own_d24_303 rfl ?_
            refine own_ifeq K own_d24_305 (fun gm => ?_) (fun gm => ?_)
            · exact own_cast (by rw [hy3, own_qb0 gm]; rfl) J84
            · refine own_iload K own_d24_308 rfl ?_
              refine own_istore K own_d24_310 (Ls' := #[.val (.int sel), .val (.int raw), .val (.int a), .val (.int b), .val (.int d1), .val (.int d2), .val (.int (Int32.ofNat n)), .val (.ref a9), .val (.ref a34), .val (.ref a39), .val (.int (own_qb b1)), .val (.int (own_qb s1)), .val (.int (own_qb b2)), .val (.int (own_qb s2)), .val (.int (Int32.ofNat x3)), .val (.int (Int32.ofNat x3)), .val (.int (own_qb m1)), .val (.int (own_qb z1)), .val (.int (own_qb m2)), .unset]) rfl ?_
              exact own_cast (by rw [hy3, own_qb1 gm]; rfl) J84
        · intro J77
          refine own_iload K own_d24_268 rfl ?_
          refine own_ifeq K own_d24_270 (fun gm => ?_) (fun gm => ?_)
          · exact own_cast (by rw [hy2, own_qb0 gm]; rfl) J77
          · refine own_iload K own_d24_273 rfl ?_
            refine own_iconst K own_d24_275 (v := (1 : Int32)) rfl ?_
            refine own_iadd K own_d24_276 ?_
            refine own_topI (x' := (Int32.ofNat (x2 + 1))) (own_on1 (Nat.le_trans kx2 hn)) ?_
            refine own_istore K own_d24_277 (Ls' := #[.val (.int sel), .val (.int raw), .val (.int a), .val (.int b), .val (.int d1), .val (.int d2), .val (.int (Int32.ofNat n)), .val (.ref a9), .val (.ref a34), .val (.ref a39), .val (.int (own_qb b1)), .val (.int (own_qb s1)), .val (.int (own_qb b2)), .val (.int (own_qb s2)), .val (.int (Int32.ofNat (x2 + 1))), .val (.int (Int32.ofNat x2)), .val (.int (own_qb m1)), .val (.int (own_qb z1)), .unset, .unset]) rfl ?_
            exact own_cast (by rw [hy2, own_qb1 gm]; rfl) J77
      · intro J76
        refine own_ifne K own_d24_251 (fun gz => ?_) (fun gz => ?_)
        · refine own_iconst K own_d24_265 (v := (0 : Int32)) rfl ?_
          refine own_istore K own_d24_266 (Ls' := #[.val (.int sel), .val (.int raw), .val (.int a), .val (.int b), .val (.int d1), .val (.int d2), .val (.int (Int32.ofNat n)), .val (.ref a9), .val (.ref a34), .val (.ref a39), .val (.int (own_qb b1)), .val (.int (own_qb s1)), .val (.int (own_qb b2)), .val (.int (own_qb s2)), .val (.int (Int32.ofNat y1)), .val (.int (Int32.ofNat x2)), .val (.int (own_qb m1)), .val (.int (0 : Int32)), .unset, .unset]) rfl ?_
          exact own_cast (by rw [hz1, own_qzzF1 gz]; rfl) J76
        · refine own_iload K own_d24_254 rfl ?_
          refine own_iload K own_d24_256 rfl ?_
          refine own_icmpge K own_d24_258 (fun gy => ?_) (fun gy => ?_)
          · refine own_iconst K own_d24_265 (v := (0 : Int32)) rfl ?_
            refine own_istore K own_d24_266 (Ls' := #[.val (.int sel), .val (.int raw), .val (.int a), .val (.int b), .val (.int d1), .val (.int d2), .val (.int (Int32.ofNat n)), .val (.ref a9), .val (.ref a34), .val (.ref a39), .val (.int (own_qb b1)), .val (.int (own_qb s1)), .val (.int (own_qb b2)), .val (.int (own_qb s2)), .val (.int (Int32.ofNat y1)), .val (.int (Int32.ofNat x2)), .val (.int (own_qb m1)), .val (.int (0 : Int32)), .unset, .unset]) rfl ?_
            exact own_cast (by rw [hz1, own_qzzF2 (by have e0 := own_on hn; have e1 := own_on (Nat.le_trans kx2 hn); omega)]; rfl) J76
          · refine own_iconst K own_d24_261 (v := (1 : Int32)) rfl ?_
            refine own_goto K own_d24_262 ?_
            refine own_istore K own_d24_266 (Ls' := #[.val (.int sel), .val (.int raw), .val (.int a), .val (.int b), .val (.int d1), .val (.int d2), .val (.int (Int32.ofNat n)), .val (.ref a9), .val (.ref a34), .val (.ref a39), .val (.int (own_qb b1)), .val (.int (own_qb s1)), .val (.int (own_qb b2)), .val (.int (own_qb s2)), .val (.int (Int32.ofNat y1)), .val (.int (Int32.ofNat x2)), .val (.int (own_qb m1)), .val (.int (1 : Int32)), .unset, .unset]) rfl ?_
            exact own_cast (by rw [hz1, own_qzzT (Classical.not_not.mp gz) (by have e0 := own_on hn; have e1 := own_on (Nat.le_trans kx2 hn); omega)]; rfl) J76
    · intro J69
      refine own_iload K own_d24_222 rfl ?_
      refine own_ifeq K own_d24_224 (fun gm => ?_) (fun gm => ?_)
      · exact own_cast (by rw [hy1, own_qb0 gm]; rfl) J69
      · refine own_iload K own_d24_227 rfl ?_
        refine own_istore K own_d24_229 (Ls' := #[.val (.int sel), .val (.int raw), .val (.int a), .val (.int b), .val (.int d1), .val (.int d2), .val (.int (Int32.ofNat n)), .val (.ref a9), .val (.ref a34), .val (.ref a39), .val (.int (own_qb b1)), .val (.int (own_qb s1)), .val (.int (own_qb b2)), .val (.int (own_qb s2)), .val (.int (Int32.ofNat x1)), .val (.int (Int32.ofNat x1)), .val (.int (own_qb m1)), .unset, .unset, .unset]) rfl ?_
        exact own_cast (by rw [hy1, own_qb1 gm]; rfl) J69
  · intro J40
    refine own_iloadN K own_d24_140 rfl ?_
    refine own_bipush K own_d24_141 (v := (15 : Int32)) rfl ?_
    refine own_iushr K own_d24_143 ?_
    refine own_iconst K own_d24_144 (v := (1 : Int32)) rfl ?_
    refine own_iand K own_d24_145 ?_
    refine own_ifeq K own_d24_146 (fun gp => ?_) (fun gp => ?_)
    · refine own_iconst K own_d24_153 (v := (0 : Int32)) rfl ?_
      exact J40 false
    · refine own_iconst K own_d24_149 (v := (1 : Int32)) rfl ?_
      refine own_goto K own_d24_150 ?_
      exact J40 true
theorem own_stof {Z : State} {a0 : Array Value} (hs : ∀ d ∈ jdkStatics_1, d.before a0 Z = true) : (∃ cs : Int32, cs ≠ 0 ∧ Sta Z Z.heap "java/lang/String" "COMPACT_STRINGS" "Z" (.int cs)) ∧ Jvm.Lit.compactW.before a0 Z = true ∧ (Sta Z Z.heap "jdk/internal/util/Preconditions" "SIOOBE_FORMATTER" "Ljava/util/function/BiFunction;" .null ∨ ∃ fa, Sta Z Z.heap "jdk/internal/util/Preconditions" "SIOOBE_FORMATTER" "Ljava/util/function/BiFunction;" (.ref fa)) := by
  have n2 := not_v (Cond.before_iff.mp (hs _ (List.mem_of_getElem? (i := 2) rfl)))
  obtain ⟨cs, e1⟩ := is_v (Cond.before_iff.mp (hs _ (List.mem_of_getElem? (i := 1) rfl)))
  have S1 : Sta Z Z.heap "java/lang/String" "COMPACT_STRINGS" "Z" (.int cs) := Sta.start e1 (Or.inl (hs _ (List.mem_of_getElem? (i := 0) rfl)))
  have c1 : ¬ (cs = (0 : Int32)) := gotF (Cond.eq_ints e1 (Term.int_eval (0))) n2
  obtain ⟨v, e3, hv⟩ := isR_v (Cond.before_iff.mp (hs _ (List.mem_of_getElem? (i := 8) rfl)))
  have S3 : Sta Z Z.heap "jdk/internal/util/Preconditions" "SIOOBE_FORMATTER" "Ljava/util/function/BiFunction;" v := Sta.start e3 (Or.inl (hs _ (List.mem_of_getElem? (i := 7) rfl)))
  refine ⟨⟨cs, c1, S1⟩, hs _ (List.mem_of_getElem? (i := 2) rfl), ?_⟩
  rcases ref_cases hv with rfl | ⟨fa, rfl⟩
  · exact Or.inl S3
  · exact Or.inr ⟨fa, S3⟩
set_option maxRecDepth 65536 in
set_option maxHeartbeats 40000000 in
theorem comes_1 {Post : Tables → Env → Array Value → State → Outcome → State → Prop} (hpost : ∀ tb e args s v u, (limb_1_1.after args s (.returned v) u = true ∧ limb_1_2.after args s (.returned v) u = true ∧ True) → ReturnedEndW s (.returned v) u (Jvm.fieldLocs frame_1_writes args s ++ Jvm.arrayLocs frame_1_arrays args s ++ Jvm.staticLocs frame_1_statics s) 24 1152 → Post tb e args s (.returned v) u) :
    ArmFor flags0 classFile x code maxLocals ret World_1 tables_1 room_1 Calls_1 rest_1 Pre_1 Post := by
  intro l hfl _ _ p e ha hc hk s m args below hf hA hF happ hP
  obtain ⟨hcalls, hrest, hpre⟩ := hP
  obtain ⟨-, -, -, hnamed, -, -, -, hat⟩ := (Spec.applies_iff hf).mp happ
  obtain ⟨hg, hn⟩ := and_e (Cond.before_iff.mp (show (Jvm.Cond.and given_1 narrow_1).before args s = true from hpre))
  obtain ⟨h1, hq0⟩ := and_e hg
  obtain ⟨hi0, hq1⟩ := and_e hq0
  obtain ⟨hi1, hq2⟩ := and_e hq1
  obtain ⟨hi2, hq3⟩ := and_e hq2
  have hi3 := hq3
  obtain ⟨w0, w1, w2, w3, rfl⟩ : ∃ w0 w1 w2 w3 : Value, args = #[w0, w1, w2, w3] := by
    have hs : args.size = 4 := by simpa [Cond.value, given_1] using h1
    obtain ⟨L⟩ := args
    match L, hs with
    | [w0, w1, w2, w3], _ => exact ⟨w0, w1, w2, w3, rfl⟩
  have hw : own_Z s #[w0, w1, w2, w3] := fun d (hd : d ∈ tables_1) => atoms_spec (ws := Jvm.Cond.code x code maxLocals ret :: tables_1) hat d (List.mem_cons_of_mem _ hd)
  obtain ⟨i0, e0⟩ := is_v hi0
  obtain rfl : w0 = (.int i0) := Option.some.inj e0
  obtain ⟨i1, e1⟩ := is_v hi1
  obtain rfl : w1 = (.int i1) := Option.some.inj e1
  obtain ⟨i2, e2⟩ := is_v hi2
  obtain rfl : w2 = (.int i2) := Option.some.inj e2
  obtain ⟨i3, e3⟩ := is_v hi3
  obtain rfl : w3 = (.int i3) := Option.some.inj e3
  obtain ⟨hsets, -⟩ := atoms_of _ (rest_1_c_eq ▸ (show rest_1_c.before _ s = true from hrest))
  obtain ⟨⟨cs, hC⟩, hcw, hF⟩ := own_stof hsets
  have hL : Jvm.Lit.constHeld s "java/lang/String" 7 := hcalls.1 ("java/lang/String", 7) (List.mem_singleton.mpr rfl)
  obtain ⟨n, o, h1, h2, h3, v, L, rfl, ⟨rfl, N, -⟩, hq⟩ := own_law hw hC hF hL hcw p e ha hc hk s m _ below hf ((Spec.applies_iff_loose hf).mp happ).1 ⟨rfl, State.Warmed39.refl s, rfl, IB.start⟩ trivial
  refine ⟨n, _, h1, h2, h3, hpost _ _ _ _ _ _ ⟨Cond.after_iff.mpr rfl, Cond.after_iff.mpr (eq_i res_at (Term.int_eval (1)) rfl), trivial⟩ ⟨hq.1, hq.2.1, hq.2.2.1, (hq.2.2.2.sift fun y hy => Or.inr (N y hy)).mono (by decide) (by decide)⟩⟩
theorem main_1_1 : Claimed_1_1 := comes_1 fun _ _ _ _ _ _ h hF => ⟨h.1, hF⟩
theorem main_1_2 : Claimed_1_2 := comes_1 fun _ _ _ _ _ _ h hF => ⟨h.2.1, hF⟩
end Jvm.Pilot.@@N@@
namespace Jvm.Pilot.@@N@@
open Jvm Jvm.ClassFile Sem Op Lib Jvm.Free Jvm.Stand Jvm.Pilot.@@N@@.Jvm.D
/-! MADE BY PROGRAM (witnessworld.py) out of the Statement's table words and the real class files: 20 classes; the members and pool entries that the words name. The judged class is class 1, her method 1. -/
namespace start1
open Jvm.ClassFile
def u (s : String) : CpInfo := .utf8 (stringToUtf16 s)
/-- a pool by its gaps: so many unusable entries, then the entry; so many at the end -/
def gap : Nat → List CpInfo → List CpInfo
  | 0, r => r
  | n + 1, r => .unusable :: gap n r
def poolList (es : List (Nat × CpInfo)) (last : Nat) : List CpInfo := es.foldr (fun e r => gap e.1 (e.2 :: r)) (gap last [])
def pool (es : List (Nat × CpInfo)) (last : Nat) : Array CpInfo := ⟨poolList es last⟩
def fileOf (pool : Array CpInfo) (this : Nat) (attrs : Array Attribute := #[]) (ms : Array MethodInfo := #[]) (fl : Nat := 33) (sup : Nat := 0) (ifs : Array Nat := #[]) (fds : Array FieldInfo := #[]) : ClassFile where
  minorVersion := 0
  majorVersion := 65
  constantPool := pool
  accessFlags := fl
  thisClass := this
  superClass := sup
  interfaces := ifs
  fields := fds
  methods := ms
  attributes := attrs
def plain (name : String) (sup : Option ClassId) : Class where
  name := name
  kind := .ordinary
  loader := none
  accessFlags := 33
  super := sup
  interfaces := #[]
  cf := none
  fields := #[]
  methods := #[]
  instanceTypes := #[]
  staticTypes := #[]
  resolved := #[]
  callSites := []
  init := .initialized
  statics := none
  mirror := none

def pool0 : Array CpInfo := pool [(5, u "<init>"), (0, u "()V"), (1, .class_ 10), (1, u "java/lang/Object")] 113

def k0c0 : Code := { maxStack := 0, maxLocals := 1, code := object_method_1_code, exceptionTable := #[], attributes := #[] }
def k0m0 : Method := { name := "<init>", desc := "()V", sig := { parameters := [], returnType := none }, accessFlags := 1, code := some k0c0 }
/-- java/lang/Object -/
def k0 : Class := { plain "java/lang/Object" none with
  accessFlags := 33
  interfaces := #[]
  cf := some (fileOf pool0 8 #[] #[{ accessFlags := 1, nameIndex := 5, descriptorIndex := 6, attributes := #[] }] 33 0 #[] #[])
  fields := #[]
  methods := #[k0m0]
  instanceTypes := #[]
  staticTypes := #[]
  resolved := Array.replicate 124 none
  statics := none }

def pool1 : Array CpInfo := pool [(2, .class_ 4), (1, u "java/lang/Object"), (0, u "<init>"), (0, u "()V"), (0, .methodref 8 9), (0, .class_ 10), (0, .nameAndType 11 12), (0, u "com/example/wary_loader/waryloader/dn/DnParserTakeAlonePinLaw"), (0, u "drawn"), (0, u "(I)C"), (0, .methodref 8 14), (0, .nameAndType 15 16), (0, u "pick"), (0, u "(IICC)C"), (0, .methodref 8 18), (0, .nameAndType 19 20), (0, u "text"), (0, u "([CI)Ljava/lang/String;"), (0, .class_ 22), (0, u "com/example/wary_loader/waryloader/dn/DnParser"), (0, .methodref 21 24), (0, .nameAndType 5 25), (0, u "(Ljava/lang/String;Z)V"), (0, .methodref 21 27), (0, .nameAndType 28 29), (0, u "takeAlone"), (0, u "(C)Z"), (0, .methodref 21 31), (0, .nameAndType 32 29), (0, u "take"), (0, .methodref 8 34), (0, .nameAndType 35 36), (0, u "end"), (0, u "([CII)I"), (0, .methodref 8 38), (0, .nameAndType 39 40), (0, u "alone"), (0, u "([CIIC)Z"), (0, .methodref 8 42), (0, .nameAndType 43 36), (0, u "nonSpace"), (0, .class_ 45), (0, u "java/lang/String"), (0, .methodref 44 47), (0, .nameAndType 5 48), (0, u "([C)V"), (0, .methodref 8 50), (0, .nameAndType 51 52), (0, u "ns"), (0, u "([CIII)I"), (0, .methodref 8 54), (0, .nameAndType 55 56), (0, u "oc"), (0, u "([CIIIC)I"), (2, u "law"), (0, u "(IIII)Z")] 5

def k1m0 : Method := { name := "<init>", desc := "()V", sig := { parameters := [], returnType := none }, accessFlags := 1, code := none }
def k1c1 : Code := { maxStack := 6, maxLocals := 20, code := code, exceptionTable := #[], attributes := #[] }
def k1m1 : Method := { name := "law", desc := "(IIII)Z", sig := { parameters := [.int, .int, .int, .int], returnType := some .boolean }, accessFlags := 9, code := some k1c1 }
def k1c2 : Code := { maxStack := 2, maxLocals := 2, code := method_3_code, exceptionTable := #[], attributes := #[] }
def k1m2 : Method := { name := "drawn", desc := "(I)C", sig := { parameters := [.int], returnType := some .char }, accessFlags := 10, code := some k1c2 }
def k1c3 : Code := { maxStack := 2, maxLocals := 4, code := method_4_code, exceptionTable := #[], attributes := #[] }
def k1m3 : Method := { name := "pick", desc := "(IICC)C", sig := { parameters := [.int, .int, .char, .char], returnType := some .char }, accessFlags := 10, code := some k1c3 }
def k1c4 : Code := { maxStack := 7, maxLocals := 2, code := method_5_code, exceptionTable := #[], attributes := #[] }
def k1m4 : Method := { name := "text", desc := "([CI)Ljava/lang/String;", sig := { parameters := [(.array .char), .int], returnType := some (.object "java/lang/String") }, accessFlags := 10, code := some k1c4 }
def k1c5 : Code := { maxStack := 2, maxLocals := 3, code := method_6_code, exceptionTable := #[], attributes := #[] }
def k1m5 : Method := { name := "end", desc := "([CII)I", sig := { parameters := [(.array .char), .int, .int], returnType := some .int }, accessFlags := 10, code := some k1c5 }
def k1c6 : Code := { maxStack := 2, maxLocals := 4, code := method_7_code, exceptionTable := #[], attributes := #[] }
def k1m6 : Method := { name := "ns", desc := "([CIII)I", sig := { parameters := [(.array .char), .int, .int, .int], returnType := some .int }, accessFlags := 10, code := some k1c6 }
def k1c7 : Code := { maxStack := 5, maxLocals := 3, code := method_8_code, exceptionTable := #[], attributes := #[] }
def k1m7 : Method := { name := "nonSpace", desc := "([CII)I", sig := { parameters := [(.array .char), .int, .int], returnType := some .int }, accessFlags := 10, code := some k1c7 }
def k1c8 : Code := { maxStack := 2, maxLocals := 5, code := method_9_code, exceptionTable := #[], attributes := #[] }
def k1m8 : Method := { name := "oc", desc := "([CIIIC)I", sig := { parameters := [(.array .char), .int, .int, .int, .char], returnType := some .int }, accessFlags := 10, code := some k1c8 }
def k1c9 : Code := { maxStack := 6, maxLocals := 5, code := method_10_code, exceptionTable := #[], attributes := #[] }
def k1m9 : Method := { name := "alone", desc := "([CIIC)Z", sig := { parameters := [(.array .char), .int, .int, .char], returnType := some .boolean }, accessFlags := 10, code := some k1c9 }
/-- com/example/wary_loader/waryloader/dn/DnParserTakeAlonePinLaw -/
def k1 : Class := { plain "com/example/wary_loader/waryloader/dn/DnParserTakeAlonePinLaw" (some 0) with
  accessFlags := 49
  interfaces := #[]
  cf := some (fileOf pool1 8 #[] #[{ accessFlags := 1, nameIndex := 5, descriptorIndex := 6, attributes := #[] }, { accessFlags := 9, nameIndex := 59, descriptorIndex := 60, attributes := #[] }, { accessFlags := 10, nameIndex := 11, descriptorIndex := 12, attributes := #[] }, { accessFlags := 10, nameIndex := 15, descriptorIndex := 16, attributes := #[] }, { accessFlags := 10, nameIndex := 19, descriptorIndex := 20, attributes := #[] }, { accessFlags := 10, nameIndex := 35, descriptorIndex := 36, attributes := #[] }, { accessFlags := 10, nameIndex := 51, descriptorIndex := 52, attributes := #[] }, { accessFlags := 10, nameIndex := 43, descriptorIndex := 36, attributes := #[] }, { accessFlags := 10, nameIndex := 55, descriptorIndex := 56, attributes := #[] }, { accessFlags := 10, nameIndex := 39, descriptorIndex := 40, attributes := #[] }] 49 2 #[] #[])
  fields := #[]
  methods := #[k1m0, k1m1, k1m2, k1m3, k1m4, k1m5, k1m6, k1m7, k1m8, k1m9]
  instanceTypes := #[]
  staticTypes := #[]
  resolved := Array.replicate 66 none
  statics := none }

def pool2 : Array CpInfo := pool [(1, .class_ 2), (0, u "java/io/Serializable"), (0, .class_ 4), (0, u "java/lang/Object")] 2

/-- java/io/Serializable -/
def k2 : Class := { plain "java/io/Serializable" (some 0) with
  accessFlags := 1537
  interfaces := #[]
  cf := some (fileOf pool2 1 #[] #[] 1537 3 #[] #[])
  fields := #[]
  methods := #[]
  instanceTypes := #[]
  staticTypes := #[]
  resolved := Array.replicate 7 none
  statics := none }

def pool3 : Array CpInfo := pool [(1, .class_ 2), (0, u "java/lang/Comparable"), (0, .class_ 4), (0, u "java/lang/Object")] 7

/-- java/lang/Comparable -/
def k3 : Class := { plain "java/lang/Comparable" (some 0) with
  accessFlags := 1537
  interfaces := #[]
  cf := some (fileOf pool3 1 #[] #[] 1537 3 #[] #[])
  fields := #[]
  methods := #[]
  instanceTypes := #[]
  staticTypes := #[]
  resolved := Array.replicate 12 none
  statics := none }

def pool4 : Array CpInfo := pool [(2, .class_ 4), (1, u "java/lang/CharSequence"), (42, .class_ 48), (0, u "java/lang/CharSequence$1CodePointIterator"), (10, .class_ 60), (0, u "java/lang/CharSequence$1CharIterator"), (5, .class_ 67), (0, u "java/lang/Object")] 63

/-- java/lang/CharSequence -/
def k4 : Class := { plain "java/lang/CharSequence" (some 0) with
  accessFlags := 1537
  interfaces := #[]
  cf := some (fileOf pool4 2 #[.nestMembers #[47, 59]] #[] 1537 66 #[] #[])
  fields := #[]
  methods := #[]
  instanceTypes := #[]
  staticTypes := #[]
  resolved := Array.replicate 131 none
  statics := none }

def pool5 : Array CpInfo := pool [(1, .class_ 2), (0, u "java/lang/constant/Constable"), (0, .class_ 4), (0, u "java/lang/Object")] 6

/-- java/lang/constant/Constable -/
def k5 : Class := { plain "java/lang/constant/Constable" (some 0) with
  accessFlags := 1537
  interfaces := #[]
  cf := some (fileOf pool5 1 #[] #[] 1537 3 #[] #[])
  fields := #[]
  methods := #[]
  instanceTypes := #[]
  staticTypes := #[]
  resolved := Array.replicate 11 none
  statics := none }

def pool6 : Array CpInfo := pool [(1, .class_ 2), (0, u "java/lang/constant/ConstantDesc"), (0, .class_ 4), (0, u "java/lang/Object")] 32

/-- java/lang/constant/ConstantDesc -/
def k6 : Class := { plain "java/lang/constant/ConstantDesc" (some 0) with
  accessFlags := 1537
  interfaces := #[]
  cf := some (fileOf pool6 1 #[] #[] 1537 3 #[] #[])
  fields := #[]
  methods := #[]
  instanceTypes := #[]
  staticTypes := #[]
  resolved := Array.replicate 37 none
  statics := none }

def pool7 : Array CpInfo := pool [(1, .methodref 2 3), (0, .class_ 4), (0, .nameAndType 5 6), (0, u "java/lang/Object"), (0, u "<init>"), (0, u "()V"), (0, .string 8), (0, u ""), (0, .fieldref 10 11), (0, .class_ 12), (0, .nameAndType 13 14), (0, u "java/lang/String"), (0, u "value"), (0, u "[B"), (0, .fieldref 10 16), (0, .nameAndType 17 18), (0, u "coder"), (0, u "B"), (2, u "hash"), (0, u "I"), (2, u "hashIsZero"), (0, u "Z"), (0, .methodref 10 28), (0, .nameAndType 5 29), (0, u "([CIILjava/lang/Void;)V"), (8, .fieldref 10 39), (0, .nameAndType 40 26), (0, u "COMPACT_STRINGS"), (1, .class_ 44), (1, u "java/lang/StringUTF16"), (0, u "compress"), (1, .methodref 42 48), (0, .nameAndType 49 50), (0, u "coderFromArrayLen"), (0, u "([BI)B"), (56, .class_ 109), (1, u "java/lang/StringLatin1"), (32, u "()Z"), (34, .methodref 42 178), (0, .nameAndType 45 179), (0, u "([CII)[B"), (154, u "()I"), (0, .methodref 10 336), (0, .nameAndType 17 337), (0, u "()B"), (25, u "([BI)C"), (27, u "(II)V"), (35, u "(I)C"), (64, .methodref 10 493), (0, .nameAndType 494 142), (0, u "isLatin1"), (0, .methodref 107 496), (0, .nameAndType 497 363), (0, u "charAt"), (3, u "checkIndex"), (5, u "length"), (67, .class_ 576), (0, u "java/lang/CharSequence"), (22, u "CASE_INSENSITIVE_ORDER"), (0, u "Ljava/util/Comparator;"), (409, u "([C)V"), (42, .fieldref 1054 1055), (0, .class_ 1056), (0, .nameAndType 1057 1058), (0, u "jdk/internal/util/Preconditions"), (0, u "SIOOBE_FORMATTER"), (0, u "Ljava/util/function/BiFunction;"), (0, .methodref 1054 1060), (0, .nameAndType 501 1061), (0, u "(IILjava/util/function/BiFunction;)I"), (39, u "serialPersistentFields"), (0, u "[Ljava/io/ObjectStreamField;"), (0, .class_ 1104), (0, u "java/lang/String$CaseInsensitiveComparator"), (1, .class_ 1107), (0, u "java/io/Serializable"), (0, .class_ 1109), (0, u "java/lang/Comparable"), (0, .class_ 1111), (0, u "java/lang/constant/Constable"), (0, .class_ 1113), (0, u "java/lang/constant/ConstantDesc"), (2, u "serialVersionUID"), (0, u "J"), (3, u "REPL"), (0, u "C"), (2, u "LATIN1"), (1, u "UTF16")] 323

def k7m0 : Method := { name := "<init>", desc := "()V", sig := { parameters := [], returnType := none }, accessFlags := 1, code := none }
def k7c1 : Code := { maxStack := 5, maxLocals := 2, code := jdk_42_method_3_code, exceptionTable := #[], attributes := #[] }
def k7m1 : Method := { name := "<init>", desc := "([C)V", sig := { parameters := [(.array .char)], returnType := none }, accessFlags := 1, code := some k7c1 }
def k7c2 : Code := { maxStack := 2, maxLocals := 1, code := jdk_42_method_54_code, exceptionTable := #[], attributes := #[] }
def k7m2 : Method := { name := "length", desc := "()I", sig := { parameters := [], returnType := some .int }, accessFlags := 1, code := some k7c2 }
def k7c3 : Code := { maxStack := 2, maxLocals := 2, code := jdk_42_method_56_code, exceptionTable := #[], attributes := #[] }
def k7m3 : Method := { name := "charAt", desc := "(I)C", sig := { parameters := [.int], returnType := some .char }, accessFlags := 1, code := some k7c3 }
def k7c4 : Code := { maxStack := 4, maxLocals := 6, code := jdk_42_method_149_code, exceptionTable := #[], attributes := #[] }
def k7m4 : Method := { name := "<init>", desc := "([CIILjava/lang/Void;)V", sig := { parameters := [(.array .char), .int, .int, (.object "java/lang/Void")], returnType := none }, accessFlags := 2, code := some k7c4 }
def k7c5 : Code := { maxStack := 1, maxLocals := 1, code := jdk_42_method_152_code, exceptionTable := #[], attributes := #[] }
def k7m5 : Method := { name := "coder", desc := "()B", sig := { parameters := [], returnType := some .byte }, accessFlags := 0, code := some k7c5 }
def k7c6 : Code := { maxStack := 1, maxLocals := 1, code := jdk_42_method_154_code, exceptionTable := #[], attributes := #[] }
def k7m6 : Method := { name := "isLatin1", desc := "()Z", sig := { parameters := [], returnType := some .boolean }, accessFlags := 0, code := some k7c6 }
def k7c7 : Code := { maxStack := 3, maxLocals := 2, code := jdk_42_method_155_code, exceptionTable := #[], attributes := #[] }
def k7m7 : Method := { name := "checkIndex", desc := "(II)V", sig := { parameters := [.int, .int], returnType := none }, accessFlags := 8, code := some k7c7 }
/-- java/lang/String -/
def k7 : Class := { plain "java/lang/String" (some 0) with
  accessFlags := 49
  interfaces := #[2, 3, 4, 5, 6]
  cf := some (fileOf pool7 10 #[.nestMembers #[1103]] #[{ accessFlags := 1, nameIndex := 5, descriptorIndex := 6, attributes := #[] }, { accessFlags := 1, nameIndex := 5, descriptorIndex := 1010, attributes := #[] }, { accessFlags := 1, nameIndex := 507, descriptorIndex := 334, attributes := #[] }, { accessFlags := 1, nameIndex := 497, descriptorIndex := 427, attributes := #[] }, { accessFlags := 2, nameIndex := 5, descriptorIndex := 29, attributes := #[] }, { accessFlags := 0, nameIndex := 17, descriptorIndex := 337, attributes := #[] }, { accessFlags := 0, nameIndex := 494, descriptorIndex := 142, attributes := #[] }, { accessFlags := 8, nameIndex := 501, descriptorIndex := 391, attributes := #[] }] 49 2 #[1106, 1108, 575, 1110, 1112] #[{ accessFlags := 18, nameIndex := 13, descriptorIndex := 14, attributes := #[] }, { accessFlags := 18, nameIndex := 17, descriptorIndex := 18, attributes := #[] }, { accessFlags := 2, nameIndex := 21, descriptorIndex := 22, attributes := #[] }, { accessFlags := 2, nameIndex := 25, descriptorIndex := 26, attributes := #[] }, { accessFlags := 26, nameIndex := 1116, descriptorIndex := 1117, attributes := #[] }, { accessFlags := 24, nameIndex := 40, descriptorIndex := 26, attributes := #[] }, { accessFlags := 26, nameIndex := 1101, descriptorIndex := 1102, attributes := #[] }, { accessFlags := 26, nameIndex := 1121, descriptorIndex := 1122, attributes := #[] }, { accessFlags := 25, nameIndex := 599, descriptorIndex := 600, attributes := #[] }, { accessFlags := 24, nameIndex := 1125, descriptorIndex := 18, attributes := #[] }, { accessFlags := 24, nameIndex := 1127, descriptorIndex := 18, attributes := #[] }])
  fields := #[{ name := "value", type := (.array .byte), accessFlags := 18, slot := 0, constantValue := 0 }, { name := "coder", type := .byte, accessFlags := 18, slot := 1, constantValue := 0 }, { name := "hash", type := .int, accessFlags := 2, slot := 2, constantValue := 0 }, { name := "hashIsZero", type := .boolean, accessFlags := 2, slot := 3, constantValue := 0 }, { name := "serialVersionUID", type := .long, accessFlags := 26, slot := 0, constantValue := 0 }, { name := "COMPACT_STRINGS", type := .boolean, accessFlags := 24, slot := 1, constantValue := 0 }, { name := "serialPersistentFields", type := (.array (.object "java/io/ObjectStreamField")), accessFlags := 26, slot := 2, constantValue := 0 }, { name := "REPL", type := .char, accessFlags := 26, slot := 3, constantValue := 0 }, { name := "CASE_INSENSITIVE_ORDER", type := (.object "java/util/Comparator"), accessFlags := 25, slot := 4, constantValue := 0 }, { name := "LATIN1", type := .byte, accessFlags := 24, slot := 5, constantValue := 0 }, { name := "UTF16", type := .byte, accessFlags := 24, slot := 6, constantValue := 0 }]
  methods := #[k7m0, k7m1, k7m2, k7m3, k7m4, k7m5, k7m6, k7m7]
  instanceTypes := #[(.array .byte), .byte, .int, .boolean]
  staticTypes := #[.long, .boolean, (.array (.object "java/io/ObjectStreamField")), .char, (.object "java/util/Comparator"), .byte, .byte]
  resolved := Array.replicate 1451 none
  statics := some 0 }

def pool8 : Array CpInfo := pool [(1, .methodref 2 3), (0, .class_ 4), (0, .nameAndType 5 6), (0, u "java/lang/Object"), (0, u "<init>"), (0, u "()V"), (0, .fieldref 8 9), (0, .class_ 10), (0, .nameAndType 11 12), (0, u "com/example/wary_loader/waryloader/dn/DnParser"), (0, u "text"), (0, u "Ljava/lang/String;"), (0, .fieldref 8 14), (0, .nameAndType 15 16), (0, u "pattern"), (0, u "Z"), (15, u "take"), (0, u "(C)Z"), (5, .fieldref 8 40), (0, .nameAndType 41 42), (0, u "index"), (0, u "I"), (0, .methodref 8 44), (0, .nameAndType 45 46), (0, u "spacesFrom"), (0, u "(I)I"), (0, .methodref 48 49), (0, .class_ 50), (0, .nameAndType 51 52), (0, u "java/lang/String"), (0, u "length"), (0, u "()I"), (0, .methodref 48 54), (0, .nameAndType 55 56), (0, u "charAt"), (0, u "(I)C"), (167, u "NAME_ENDS"), (1, u "UNESCAPED"), (0, u "ESCAPABLE"), (0, u "(Ljava/lang/String;Z)V"), (6, u "takeAlone")] 27

def k8c0 : Code := { maxStack := 2, maxLocals := 3, code := prog_15_method_1_code, exceptionTable := #[], attributes := #[] }
def k8m0 : Method := { name := "<init>", desc := "(Ljava/lang/String;Z)V", sig := { parameters := [(.object "java/lang/String"), .boolean], returnType := none }, accessFlags := 0, code := some k8c0 }
def k8c1 : Code := { maxStack := 3, maxLocals := 5, code := prog_15_method_3_code, exceptionTable := #[], attributes := #[] }
def k8m1 : Method := { name := "takeAlone", desc := "(C)Z", sig := { parameters := [.char], returnType := some .boolean }, accessFlags := 0, code := some k8c1 }
def k8c2 : Code := { maxStack := 3, maxLocals := 3, code := prog_15_method_5_code, exceptionTable := #[], attributes := #[] }
def k8m2 : Method := { name := "take", desc := "(C)Z", sig := { parameters := [.char], returnType := some .boolean }, accessFlags := 0, code := some k8c2 }
def k8c3 : Code := { maxStack := 2, maxLocals := 3, code := prog_15_method_11_code, exceptionTable := #[], attributes := #[] }
def k8m3 : Method := { name := "spacesFrom", desc := "(I)I", sig := { parameters := [.int], returnType := some .int }, accessFlags := 2, code := some k8c3 }
/-- com/example/wary_loader/waryloader/dn/DnParser -/
def k8 : Class := { plain "com/example/wary_loader/waryloader/dn/DnParser" (some 0) with
  accessFlags := 48
  interfaces := #[]
  cf := some (fileOf pool8 8 #[] #[{ accessFlags := 0, nameIndex := 5, descriptorIndex := 228, attributes := #[] }, { accessFlags := 0, nameIndex := 235, descriptorIndex := 33, attributes := #[] }, { accessFlags := 0, nameIndex := 32, descriptorIndex := 33, attributes := #[] }, { accessFlags := 2, nameIndex := 45, descriptorIndex := 46, attributes := #[] }] 48 2 #[] #[{ accessFlags := 26, nameIndex := 224, descriptorIndex := 12, attributes := #[] }, { accessFlags := 26, nameIndex := 226, descriptorIndex := 12, attributes := #[] }, { accessFlags := 26, nameIndex := 227, descriptorIndex := 12, attributes := #[] }, { accessFlags := 18, nameIndex := 11, descriptorIndex := 12, attributes := #[] }, { accessFlags := 18, nameIndex := 15, descriptorIndex := 16, attributes := #[] }, { accessFlags := 2, nameIndex := 41, descriptorIndex := 42, attributes := #[] }])
  fields := #[{ name := "NAME_ENDS", type := (.object "java/lang/String"), accessFlags := 26, slot := 0, constantValue := 0 }, { name := "UNESCAPED", type := (.object "java/lang/String"), accessFlags := 26, slot := 1, constantValue := 0 }, { name := "ESCAPABLE", type := (.object "java/lang/String"), accessFlags := 26, slot := 2, constantValue := 0 }, { name := "text", type := (.object "java/lang/String"), accessFlags := 18, slot := 0, constantValue := 0 }, { name := "pattern", type := .boolean, accessFlags := 18, slot := 1, constantValue := 0 }, { name := "index", type := .int, accessFlags := 2, slot := 2, constantValue := 0 }]
  methods := #[k8m0, k8m1, k8m2, k8m3]
  instanceTypes := #[(.object "java/lang/String"), .boolean, .int]
  staticTypes := #[(.object "java/lang/String"), (.object "java/lang/String"), (.object "java/lang/String")]
  resolved := Array.replicate 263 none
  statics := none }

def pool9 : Array CpInfo := pool [(6, .class_ 8), (1, u "java/lang/Object"), (0, u "<init>"), (0, u "()V"), (1, .class_ 14), (1, u "java/lang/StringUTF16"), (31, u "$assertionsDisabled"), (0, u "Z"), (13, u "HI_BYTE_SHIFT"), (0, u "I"), (2, u "LO_BYTE_SHIFT"), (49, .methodref 12 116), (0, .nameAndType 117 118), (0, u "compress"), (0, u "([CI[BII)I"), (3, u "([CII)[B"), (138, u "coderFromArrayLen"), (0, u "([BI)B"), (106, .class_ 371), (1, u "java/lang/StringUTF16$LinesSpliterator"), (58, u "MAX_LENGTH"), (196, .class_ 628), (0, u "java/lang/StringUTF16$CodePointsSpliterator"), (0, .class_ 630), (0, u "java/lang/StringUTF16$CharsSpliterator")] 4

def k9m0 : Method := { name := "<init>", desc := "()V", sig := { parameters := [], returnType := none }, accessFlags := 0, code := none }
def k9c1 : Code := { maxStack := 2, maxLocals := 2, code := jdk_52_method_15_code, exceptionTable := #[], attributes := #[] }
def k9m1 : Method := { name := "coderFromArrayLen", desc := "([BI)B", sig := { parameters := [(.array .byte), .int], returnType := some .byte }, accessFlags := 8, code := some k9c1 }
def k9c2 : Code := { maxStack := 5, maxLocals := 6, code := jdk_52_method_16_code, exceptionTable := #[], attributes := #[] }
def k9m2 : Method := { name := "compress", desc := "([CII)[B", sig := { parameters := [(.array .char), .int, .int], returnType := some (.array .byte) }, accessFlags := 9, code := some k9c2 }
def k9c3 : Code := { maxStack := 3, maxLocals := 7, code := jdk_52_method_21_code, exceptionTable := #[], attributes := #[] }
def k9m3 : Method := { name := "compress", desc := "([CI[BII)I", sig := { parameters := [(.array .char), .int, (.array .byte), .int, .int], returnType := some .int }, accessFlags := 9, code := some k9c3 }
/-- java/lang/StringUTF16 -/
def k9 : Class := { plain "java/lang/StringUTF16" (some 0) with
  accessFlags := 48
  interfaces := #[]
  cf := some (fileOf pool9 12 #[.nestMembers #[627, 629, 369]] #[{ accessFlags := 0, nameIndex := 9, descriptorIndex := 10, attributes := #[] }, { accessFlags := 8, nameIndex := 261, descriptorIndex := 262, attributes := #[] }, { accessFlags := 9, nameIndex := 117, descriptorIndex := 122, attributes := #[] }, { accessFlags := 9, nameIndex := 117, descriptorIndex := 118, attributes := #[] }] 48 6 #[] #[{ accessFlags := 26, nameIndex := 61, descriptorIndex := 62, attributes := #[] }, { accessFlags := 26, nameIndex := 65, descriptorIndex := 62, attributes := #[] }, { accessFlags := 24, nameIndex := 430, descriptorIndex := 62, attributes := #[] }, { accessFlags := 4120, nameIndex := 46, descriptorIndex := 47, attributes := #[] }])
  fields := #[{ name := "HI_BYTE_SHIFT", type := .int, accessFlags := 26, slot := 0, constantValue := 0 }, { name := "LO_BYTE_SHIFT", type := .int, accessFlags := 26, slot := 1, constantValue := 0 }, { name := "MAX_LENGTH", type := .int, accessFlags := 24, slot := 2, constantValue := 0 }, { name := "$assertionsDisabled", type := .boolean, accessFlags := 4120, slot := 3, constantValue := 0 }]
  methods := #[k9m0, k9m1, k9m2, k9m3]
  instanceTypes := #[]
  staticTypes := #[.int, .int, .int, .boolean]
  resolved := Array.replicate 635 none
  statics := none }

def pool10 : Array CpInfo := pool [(1, .class_ 2), (0, u "java/lang/String"), (1, .class_ 6), (1, u "java/lang/Object"), (0, u "<init>"), (0, u "()V"), (0, .methodref 1 10), (0, .nameAndType 11 12), (0, u "checkIndex"), (0, u "(II)V"), (1, .class_ 16), (1, u "java/lang/StringLatin1"), (36, u "([BI)C"), (67, u "$assertionsDisabled"), (0, u "Z"), (98, .class_ 223), (1, u "java/lang/StringLatin1$LinesSpliterator"), (28, u "charAt"), (137, .class_ 391), (0, u "java/lang/StringLatin1$CharsSpliterator")] 3

def k10m0 : Method := { name := "<init>", desc := "()V", sig := { parameters := [], returnType := none }, accessFlags := 0, code := none }
def k10c1 : Code := { maxStack := 2, maxLocals := 2, code := jdk_43_method_2_code, exceptionTable := #[], attributes := #[] }
def k10m1 : Method := { name := "charAt", desc := "([BI)C", sig := { parameters := [(.array .byte), .int], returnType := some .char }, accessFlags := 9, code := some k10c1 }
/-- java/lang/StringLatin1 -/
def k10 : Class := { plain "java/lang/StringLatin1" (some 0) with
  accessFlags := 48
  interfaces := #[]
  cf := some (fileOf pool10 14 #[.nestMembers #[390, 221]] #[{ accessFlags := 0, nameIndex := 7, descriptorIndex := 8, attributes := #[] }, { accessFlags := 9, nameIndex := 252, descriptorIndex := 53, attributes := #[] }] 48 4 #[] #[{ accessFlags := 4120, nameIndex := 121, descriptorIndex := 122, attributes := #[] }])
  fields := #[{ name := "$assertionsDisabled", type := .boolean, accessFlags := 4120, slot := 0, constantValue := 0 }]
  methods := #[k10m0, k10m1]
  instanceTypes := #[]
  staticTypes := #[.boolean]
  resolved := Array.replicate 395 none
  statics := none }

def pool11 : Array CpInfo := pool [(2, .class_ 4), (1, u "java/lang/Object"), (0, u "<init>"), (0, u "()V"), (17, .class_ 26), (1, u "jdk/internal/util/Preconditions"), (6, u "checkIndex"), (21, .class_ 56), (0, u "jdk/internal/util/Preconditions$4"), (57, .class_ 115), (0, u "jdk/internal/util/Preconditions$1"), (7, u "SIOOBE_FORMATTER"), (0, u "Ljava/util/function/BiFunction;"), (0, .class_ 126), (0, u "jdk/internal/util/Preconditions$2"), (3, u "AIOOBE_FORMATTER"), (0, .class_ 132), (0, u "jdk/internal/util/Preconditions$3"), (3, u "IOOBE_FORMATTER"), (41, u "(IILjava/util/function/BiFunction;)I")] 15

def k11m0 : Method := { name := "<init>", desc := "()V", sig := { parameters := [], returnType := none }, accessFlags := 1, code := none }
def k11c1 : Code := { maxStack := 3, maxLocals := 3, code := jdk_41_method_11_code, exceptionTable := #[], attributes := #[] }
def k11m1 : Method := { name := "checkIndex", desc := "(IILjava/util/function/BiFunction;)I", sig := { parameters := [.int, .int, (.object "java/util/function/BiFunction")], returnType := some .int }, accessFlags := 9, code := some k11c1 }
/-- jdk/internal/util/Preconditions -/
def k11 : Class := { plain "jdk/internal/util/Preconditions" (some 0) with
  accessFlags := 33
  interfaces := #[]
  cf := some (fileOf pool11 24 #[.nestMembers #[55, 131, 125, 114]] #[{ accessFlags := 1, nameIndex := 5, descriptorIndex := 6, attributes := #[] }, { accessFlags := 9, nameIndex := 33, descriptorIndex := 178, attributes := #[] }] 33 2 #[] #[{ accessFlags := 25, nameIndex := 123, descriptorIndex := 124, attributes := #[] }, { accessFlags := 25, nameIndex := 130, descriptorIndex := 124, attributes := #[] }, { accessFlags := 25, nameIndex := 136, descriptorIndex := 124, attributes := #[] }])
  fields := #[{ name := "SIOOBE_FORMATTER", type := (.object "java/util/function/BiFunction"), accessFlags := 25, slot := 0, constantValue := 0 }, { name := "AIOOBE_FORMATTER", type := (.object "java/util/function/BiFunction"), accessFlags := 25, slot := 1, constantValue := 0 }, { name := "IOOBE_FORMATTER", type := (.object "java/util/function/BiFunction"), accessFlags := 25, slot := 2, constantValue := 0 }]
  methods := #[k11m0, k11m1]
  instanceTypes := #[]
  staticTypes := #[(.object "java/util/function/BiFunction"), (.object "java/util/function/BiFunction"), (.object "java/util/function/BiFunction")]
  resolved := Array.replicate 194 none
  statics := some 1 }

def pool12 : Array CpInfo := pool [(9, u "<init>"), (6, .class_ 18), (1, u "java/lang/Object"), (0, u "()V"), (1, .class_ 23), (1, u "jdk/internal/util/ArraysSupport"), (0, u "LOG2_ARRAY_LONG_INDEX_SCALE"), (0, u "I"), (2, u "U"), (0, u "Ljdk/internal/misc/Unsafe;"), (8, u "BIG_ENDIAN"), (0, u "Z"), (8, u "LOG2_BYTE_BIT_SIZE"), (4, u "LOG2_ARRAY_INT_INDEX_SCALE"), (54, u "JLA"), (0, u "Ljdk/internal/access/JavaLangAccess;"), (11, u "LOG2_ARRAY_BOOLEAN_INDEX_SCALE"), (9, u "LOG2_ARRAY_BYTE_INDEX_SCALE"), (5, u "LOG2_ARRAY_CHAR_INDEX_SCALE"), (5, u "LOG2_ARRAY_SHORT_INDEX_SCALE"), (18, u "LOG2_ARRAY_FLOAT_INDEX_SCALE"), (24, u "LOG2_ARRAY_DOUBLE_INDEX_SCALE"), (89, u "T_BOOLEAN"), (2, u "T_CHAR"), (1, u "T_FLOAT"), (1, u "T_DOUBLE"), (1, u "T_BYTE"), (1, u "T_SHORT"), (1, u "T_INT"), (1, u "T_LONG"), (1, u "SOFT_MAX_ARRAY_LENGTH")] 83

def k12m0 : Method := { name := "<init>", desc := "()V", sig := { parameters := [], returnType := none }, accessFlags := 2, code := none }
/-- jdk/internal/util/ArraysSupport -/
def k12 : Class := { plain "jdk/internal/util/ArraysSupport" (some 0) with
  accessFlags := 33
  interfaces := #[]
  cf := some (fileOf pool12 21 #[] #[{ accessFlags := 2, nameIndex := 9, descriptorIndex := 19, attributes := #[] }] 33 16 #[] #[{ accessFlags := 24, nameIndex := 28, descriptorIndex := 29, attributes := #[] }, { accessFlags := 26, nameIndex := 38, descriptorIndex := 39, attributes := #[] }, { accessFlags := 25, nameIndex := 121, descriptorIndex := 25, attributes := #[] }, { accessFlags := 25, nameIndex := 131, descriptorIndex := 25, attributes := #[] }, { accessFlags := 25, nameIndex := 137, descriptorIndex := 25, attributes := #[] }, { accessFlags := 25, nameIndex := 143, descriptorIndex := 25, attributes := #[] }, { accessFlags := 25, nameIndex := 53, descriptorIndex := 25, attributes := #[] }, { accessFlags := 25, nameIndex := 24, descriptorIndex := 25, attributes := #[] }, { accessFlags := 25, nameIndex := 162, descriptorIndex := 25, attributes := #[] }, { accessFlags := 25, nameIndex := 187, descriptorIndex := 25, attributes := #[] }, { accessFlags := 26, nameIndex := 48, descriptorIndex := 25, attributes := #[] }, { accessFlags := 25, nameIndex := 277, descriptorIndex := 25, attributes := #[] }, { accessFlags := 25, nameIndex := 280, descriptorIndex := 25, attributes := #[] }, { accessFlags := 25, nameIndex := 282, descriptorIndex := 25, attributes := #[] }, { accessFlags := 25, nameIndex := 284, descriptorIndex := 25, attributes := #[] }, { accessFlags := 25, nameIndex := 286, descriptorIndex := 25, attributes := #[] }, { accessFlags := 25, nameIndex := 288, descriptorIndex := 25, attributes := #[] }, { accessFlags := 25, nameIndex := 290, descriptorIndex := 25, attributes := #[] }, { accessFlags := 25, nameIndex := 292, descriptorIndex := 25, attributes := #[] }, { accessFlags := 26, nameIndex := 108, descriptorIndex := 109, attributes := #[] }, { accessFlags := 25, nameIndex := 294, descriptorIndex := 25, attributes := #[] }])
  fields := #[{ name := "U", type := (.object "jdk/internal/misc/Unsafe"), accessFlags := 24, slot := 0, constantValue := 0 }, { name := "BIG_ENDIAN", type := .boolean, accessFlags := 26, slot := 1, constantValue := 0 }, { name := "LOG2_ARRAY_BOOLEAN_INDEX_SCALE", type := .int, accessFlags := 25, slot := 2, constantValue := 0 }, { name := "LOG2_ARRAY_BYTE_INDEX_SCALE", type := .int, accessFlags := 25, slot := 3, constantValue := 0 }, { name := "LOG2_ARRAY_CHAR_INDEX_SCALE", type := .int, accessFlags := 25, slot := 4, constantValue := 0 }, { name := "LOG2_ARRAY_SHORT_INDEX_SCALE", type := .int, accessFlags := 25, slot := 5, constantValue := 0 }, { name := "LOG2_ARRAY_INT_INDEX_SCALE", type := .int, accessFlags := 25, slot := 6, constantValue := 0 }, { name := "LOG2_ARRAY_LONG_INDEX_SCALE", type := .int, accessFlags := 25, slot := 7, constantValue := 0 }, { name := "LOG2_ARRAY_FLOAT_INDEX_SCALE", type := .int, accessFlags := 25, slot := 8, constantValue := 0 }, { name := "LOG2_ARRAY_DOUBLE_INDEX_SCALE", type := .int, accessFlags := 25, slot := 9, constantValue := 0 }, { name := "LOG2_BYTE_BIT_SIZE", type := .int, accessFlags := 26, slot := 10, constantValue := 0 }, { name := "T_BOOLEAN", type := .int, accessFlags := 25, slot := 11, constantValue := 0 }, { name := "T_CHAR", type := .int, accessFlags := 25, slot := 12, constantValue := 0 }, { name := "T_FLOAT", type := .int, accessFlags := 25, slot := 13, constantValue := 0 }, { name := "T_DOUBLE", type := .int, accessFlags := 25, slot := 14, constantValue := 0 }, { name := "T_BYTE", type := .int, accessFlags := 25, slot := 15, constantValue := 0 }, { name := "T_SHORT", type := .int, accessFlags := 25, slot := 16, constantValue := 0 }, { name := "T_INT", type := .int, accessFlags := 25, slot := 17, constantValue := 0 }, { name := "T_LONG", type := .int, accessFlags := 25, slot := 18, constantValue := 0 }, { name := "JLA", type := (.object "jdk/internal/access/JavaLangAccess"), accessFlags := 26, slot := 19, constantValue := 0 }, { name := "SOFT_MAX_ARRAY_LENGTH", type := .int, accessFlags := 25, slot := 20, constantValue := 0 }]
  methods := #[k12m0]
  instanceTypes := #[]
  staticTypes := #[(.object "jdk/internal/misc/Unsafe"), .boolean, .int, .int, .int, .int, .int, .int, .int, .int, .int, .int, .int, .int, .int, .int, .int, .int, .int, (.object "jdk/internal/access/JavaLangAccess"), .int]
  resolved := Array.replicate 378 none
  statics := none }

def pool13 : Array CpInfo := pool [(1, u "java/lang/Cloneable"), (0, .class_ 1), (0, u "java/lang/Object"), (0, .class_ 3)] 3

/-- java/lang/Cloneable -/
def k13 : Class := { plain "java/lang/Cloneable" (some 0) with
  accessFlags := 1537
  interfaces := #[]
  cf := some (fileOf pool13 2 #[] #[] 1537 4 #[] #[])
  fields := #[]
  methods := #[]
  instanceTypes := #[]
  staticTypes := #[]
  resolved := Array.replicate 8 none
  statics := none }

/-- the primitive byte -/
def k14 : Class := { plain "byte" none with kind := .primitive 'B', accessFlags := 0x411 }
/-- [B -/
def k15 : Class := { plain "[B" (some 0) with kind := .array 14 .byte, interfaces := #[13, 2], accessFlags := 1041 }

/-- the primitive char -/
def k16 : Class := { plain "char" none with kind := .primitive 'C', accessFlags := 0x411 }
/-- [C -/
def k17 : Class := { plain "[C" (some 0) with kind := .array 16 .char, interfaces := #[13, 2], accessFlags := 1041 }

/-- the primitive int -/
def k18 : Class := { plain "int" none with kind := .primitive 'I', accessFlags := 0x411 }
/-- [I -/
def k19 : Class := { plain "[I" (some 0) with kind := .array 18 .int, interfaces := #[13, 2], accessFlags := 1041 }

/-- jdk/internal/util/ArraysSupport -/
def k20 : Class := { plain "jdk/internal/util/ArraysSupport" (some 0) with accessFlags := 33 }

def heap : Heap := #[{ cls := 7, slots := #[.long 0, .int 1, .null, .int 0, .null, .int 0, .int 0], vm := .statics 7 },
  { cls := 11, slots := #[.null, .null, .null], vm := .statics 11 }]
def classes : Array Class := #[k0, k1, k2, k3, k4, k5, k6, k7, k8, k9, k10, k11, k12, k13, k14, k15, k16, k17, k18, k19, k20]
def interned : List (Array UInt16 × Addr) := []
def slotsUsed : Nat := 10
def theMethod : MethodId := ⟨1, 1⟩
def args0 : Array Value := #[.int 0, .int 0, .int 0, .int 0]
def aboutOver (below : List Frame) : State where
  vm := { classes := classes, interned := interned.toArray }
  heap := heap
  slotsUsed := slotsUsed
  threads := #[{ frames := .invoking theMethod args0 :: below }]
def below0 : List Frame := [.native { method := ⟨0, 0⟩, args := #[] }]
def about1 : State := aboutOver below0
def p0 : Program := .bare "" "" ""
def e0 : Env := launch0.env 0 0 0
theorem w_frames : about1.frames = Frame.invoking theMethod args0 :: below0 := rfl
set_option maxRecDepth 65536 in
theorem w_args : argsFit about1.vm theMethod args0 = true := by decide +kernel
set_option maxRecDepth 65536 in
theorem w_heap : heapFits about1 = true := by decide +kernel
set_option maxRecDepth 65536 in
theorem w_runnable : about1.curStatus? = some .runnable := by decide +kernel
set_option maxRecDepth 65536 in
theorem w_alone : about1.alone = true := by decide +kernel
set_option maxRecDepth 65536 in
theorem w_named : about1.methodNamed? x = some theMethod := by decide +kernel
set_option maxRecDepth 65536 in
theorem w_hears : about1.hears theMethod below0 = true := by decide +kernel
set_option maxRecDepth 65536 in
theorem w_ripe : about1.ripe theMethod args0 below0 = true := by decide +kernel
theorem w_running : about1.status = .running := rfl
set_option maxRecDepth 65536 in
theorem w_room : about1.hasRoom e0.platform room_1 = true :=
  launch0.hasRoom_least _ room_1 (by decide +kernel) (by decide +kernel) (by decide +kernel) (by decide +kernel) (by decide +kernel) (by decide +kernel)
theorem allAtoms_all (ts : List Jvm.Cond) (a : Array Jvm.Value) (st : Jvm.State) : (allAtoms ts).before a st = ts.all (fun c => c.before a st) := by
  induction ts with
  | nil => rfl
  | cons c t ih =>
    show (Jvm.Cond.and c (allAtoms t)).before a st = _
    rw [Jvm.Cond.before_and, ih, List.all_cons]
def words1 : List Jvm.Cond := Jvm.Cond.code x code maxLocals ret :: tables_1
/-- a 'code' word, met by the world's own term for the bytes: nothing is compared byte by byte -/
theorem code_word {y : MethodName} {bytes : ByteArray} {mx : Nat} {rt : Option FieldType} {a : Array Value} {s : State} {m : MethodId} {meth : Method} {c : Code} (h1 : s.methodNamed? y = some m) (h2 : s.vm.method? m = some meth) (h3 : meth.code = some c) (h4 : c.code = bytes)
    (h5 : (c.maxLocals == mx && c.exceptionTable.isEmpty && decide (c.maxStack ≤ mostOperands) && decide (meth.sig.returnType = rt) && !meth.locks && decide (parseMethodDescriptor y.desc = some meth.sig)) = true) : (Jvm.Cond.code y bytes mx rt).before a s = true := by
  simp only [Bool.and_eq_true, beq_iff_eq, Bool.not_eq_true', decide_eq_true_eq] at h5
  obtain ⟨⟨⟨⟨⟨g1, g2⟩, g3⟩, g4⟩, g5⟩, g6⟩ := h5
  simp [Cond.before, Cond.holds, Cond.value, h1, h2, h3, h4, g1, g2, g3, g4, g5, g6]
def isCode : Jvm.Cond → Bool
  | .code _ _ _ _ => true
  | _ => false
theorem all_split {L : List Jvm.Cond} {P : Jvm.Cond → Bool} (h1 : L.all (fun c => isCode c || P c) = true) (h2 : ∀ c ∈ L.filter isCode, P c = true) : L.all P = true := by
  refine List.all_eq_true.mpr fun c hc => ?_
  have h := List.all_eq_true.mp h1 c hc
  rcases Bool.eq_false_or_eq_true (isCode c) with hi | hi
  · exact h2 c (List.mem_filter.mpr ⟨hc, hi⟩)
  · simpa [hi] using h
set_option maxRecDepth 65536 in
theorem w_c0 : (Jvm.Cond.code x code maxLocals ret).before args0 about1 = true := code_word (m := ⟨1, 1⟩) (meth := k1m1) (c := k1c1) (by decide +kernel) rfl rfl rfl (by decide +kernel)
set_option maxRecDepth 65536 in
theorem w_c1 : (Jvm.Cond.code ({ cls := "com/example/wary_loader/waryloader/dn/DnParserTakeAlonePinLaw", name := "drawn", desc := "(I)C" } : Jvm.MethodName) method_3_code (2 : Nat) (Option.some Jvm.ClassFile.FieldType.char)).before args0 about1 = true := code_word (m := ⟨1, 2⟩) (meth := k1m2) (c := k1c2) (by decide +kernel) rfl rfl rfl (by decide +kernel)
set_option maxRecDepth 65536 in
theorem w_c2 : (Jvm.Cond.code ({ cls := "com/example/wary_loader/waryloader/dn/DnParserTakeAlonePinLaw", name := "pick", desc := "(IICC)C" } : Jvm.MethodName) method_4_code (4 : Nat) (Option.some Jvm.ClassFile.FieldType.char)).before args0 about1 = true := code_word (m := ⟨1, 3⟩) (meth := k1m3) (c := k1c3) (by decide +kernel) rfl rfl rfl (by decide +kernel)
set_option maxRecDepth 65536 in
theorem w_c3 : (Jvm.Cond.code ({ cls := "com/example/wary_loader/waryloader/dn/DnParserTakeAlonePinLaw", name := "text", desc := "([CI)Ljava/lang/String;" } : Jvm.MethodName) method_5_code (2 : Nat) (Option.some (Jvm.ClassFile.FieldType.object "java/lang/String"))).before args0 about1 = true := code_word (m := ⟨1, 4⟩) (meth := k1m4) (c := k1c4) (by decide +kernel) rfl rfl rfl (by decide +kernel)
set_option maxRecDepth 65536 in
theorem w_c4 : (Jvm.Cond.code ({ cls := "java/lang/String", name := "<init>", desc := "([C)V" } : Jvm.MethodName) jdk_42_method_3_code (2 : Nat) (Option.none : Option Jvm.ClassFile.FieldType)).before args0 about1 = true := code_word (m := ⟨7, 1⟩) (meth := k7m1) (c := k7c1) (by decide +kernel) rfl rfl rfl (by decide +kernel)
set_option maxRecDepth 65536 in
theorem w_c5 : (Jvm.Cond.code ({ cls := "java/lang/String", name := "<init>", desc := "([CIILjava/lang/Void;)V" } : Jvm.MethodName) jdk_42_method_149_code (6 : Nat) (Option.none : Option Jvm.ClassFile.FieldType)).before args0 about1 = true := code_word (m := ⟨7, 4⟩) (meth := k7m4) (c := k7c4) (by decide +kernel) rfl rfl rfl (by decide +kernel)
set_option maxRecDepth 65536 in
theorem w_c6 : (Jvm.Cond.code ({ cls := "java/lang/Object", name := "<init>", desc := "()V" } : Jvm.MethodName) object_method_1_code (1 : Nat) (Option.none : Option Jvm.ClassFile.FieldType)).before args0 about1 = true := code_word (m := ⟨0, 0⟩) (meth := k0m0) (c := k0c0) (by decide +kernel) rfl rfl rfl (by decide +kernel)
set_option maxRecDepth 65536 in
theorem w_c7 : (Jvm.Cond.code ({ cls := "com/example/wary_loader/waryloader/dn/DnParser", name := "<init>", desc := "(Ljava/lang/String;Z)V" } : Jvm.MethodName) prog_15_method_1_code (3 : Nat) (Option.none : Option Jvm.ClassFile.FieldType)).before args0 about1 = true := code_word (m := ⟨8, 0⟩) (meth := k8m0) (c := k8c0) (by decide +kernel) rfl rfl rfl (by decide +kernel)
set_option maxRecDepth 65536 in
theorem w_c8 : (Jvm.Cond.code ({ cls := "com/example/wary_loader/waryloader/dn/DnParser", name := "takeAlone", desc := "(C)Z" } : Jvm.MethodName) prog_15_method_3_code (5 : Nat) (Option.some Jvm.ClassFile.FieldType.boolean)).before args0 about1 = true := code_word (m := ⟨8, 1⟩) (meth := k8m1) (c := k8c1) (by decide +kernel) rfl rfl rfl (by decide +kernel)
set_option maxRecDepth 65536 in
theorem w_c9 : (Jvm.Cond.code ({ cls := "com/example/wary_loader/waryloader/dn/DnParser", name := "spacesFrom", desc := "(I)I" } : Jvm.MethodName) prog_15_method_11_code (3 : Nat) (Option.some Jvm.ClassFile.FieldType.int)).before args0 about1 = true := code_word (m := ⟨8, 3⟩) (meth := k8m3) (c := k8c3) (by decide +kernel) rfl rfl rfl (by decide +kernel)
set_option maxRecDepth 65536 in
theorem w_c10 : (Jvm.Cond.code ({ cls := "java/lang/String", name := "length", desc := "()I" } : Jvm.MethodName) jdk_42_method_54_code (1 : Nat) (Option.some Jvm.ClassFile.FieldType.int)).before args0 about1 = true := code_word (m := ⟨7, 2⟩) (meth := k7m2) (c := k7c2) (by decide +kernel) rfl rfl rfl (by decide +kernel)
set_option maxRecDepth 65536 in
theorem w_c11 : (Jvm.Cond.code ({ cls := "java/lang/String", name := "coder", desc := "()B" } : Jvm.MethodName) jdk_42_method_152_code (1 : Nat) (Option.some Jvm.ClassFile.FieldType.byte)).before args0 about1 = true := code_word (m := ⟨7, 5⟩) (meth := k7m5) (c := k7c5) (by decide +kernel) rfl rfl rfl (by decide +kernel)
set_option maxRecDepth 65536 in
theorem w_c12 : (Jvm.Cond.code ({ cls := "com/example/wary_loader/waryloader/dn/DnParser", name := "take", desc := "(C)Z" } : Jvm.MethodName) prog_15_method_5_code (3 : Nat) (Option.some Jvm.ClassFile.FieldType.boolean)).before args0 about1 = true := code_word (m := ⟨8, 2⟩) (meth := k8m2) (c := k8c2) (by decide +kernel) rfl rfl rfl (by decide +kernel)
set_option maxRecDepth 65536 in
theorem w_c13 : (Jvm.Cond.code ({ cls := "com/example/wary_loader/waryloader/dn/DnParserTakeAlonePinLaw", name := "end", desc := "([CII)I" } : Jvm.MethodName) method_6_code (3 : Nat) (Option.some Jvm.ClassFile.FieldType.int)).before args0 about1 = true := code_word (m := ⟨1, 5⟩) (meth := k1m5) (c := k1c5) (by decide +kernel) rfl rfl rfl (by decide +kernel)
set_option maxRecDepth 65536 in
theorem w_c14 : (Jvm.Cond.code ({ cls := "com/example/wary_loader/waryloader/dn/DnParserTakeAlonePinLaw", name := "alone", desc := "([CIIC)Z" } : Jvm.MethodName) method_10_code (5 : Nat) (Option.some Jvm.ClassFile.FieldType.boolean)).before args0 about1 = true := code_word (m := ⟨1, 9⟩) (meth := k1m9) (c := k1c9) (by decide +kernel) rfl rfl rfl (by decide +kernel)
set_option maxRecDepth 65536 in
theorem w_c15 : (Jvm.Cond.code ({ cls := "com/example/wary_loader/waryloader/dn/DnParserTakeAlonePinLaw", name := "oc", desc := "([CIIIC)I" } : Jvm.MethodName) method_9_code (5 : Nat) (Option.some Jvm.ClassFile.FieldType.int)).before args0 about1 = true := code_word (m := ⟨1, 8⟩) (meth := k1m8) (c := k1c8) (by decide +kernel) rfl rfl rfl (by decide +kernel)
set_option maxRecDepth 65536 in
theorem w_c16 : (Jvm.Cond.code ({ cls := "com/example/wary_loader/waryloader/dn/DnParserTakeAlonePinLaw", name := "nonSpace", desc := "([CII)I" } : Jvm.MethodName) method_8_code (3 : Nat) (Option.some Jvm.ClassFile.FieldType.int)).before args0 about1 = true := code_word (m := ⟨1, 7⟩) (meth := k1m7) (c := k1c7) (by decide +kernel) rfl rfl rfl (by decide +kernel)
set_option maxRecDepth 65536 in
theorem w_c17 : (Jvm.Cond.code ({ cls := "com/example/wary_loader/waryloader/dn/DnParserTakeAlonePinLaw", name := "ns", desc := "([CIII)I" } : Jvm.MethodName) method_7_code (4 : Nat) (Option.some Jvm.ClassFile.FieldType.int)).before args0 about1 = true := code_word (m := ⟨1, 6⟩) (meth := k1m6) (c := k1c6) (by decide +kernel) rfl rfl rfl (by decide +kernel)
set_option maxRecDepth 65536 in
theorem w_c18 : (Jvm.Cond.code ({ cls := "java/lang/StringUTF16", name := "compress", desc := "([CII)[B" } : Jvm.MethodName) jdk_52_method_16_code (6 : Nat) (Option.some (Jvm.ClassFile.FieldType.array Jvm.ClassFile.FieldType.byte))).before args0 about1 = true := code_word (m := ⟨9, 2⟩) (meth := k9m2) (c := k9c2) (by decide +kernel) rfl rfl rfl (by decide +kernel)
set_option maxRecDepth 65536 in
theorem w_c19 : (Jvm.Cond.code ({ cls := "java/lang/StringUTF16", name := "compress", desc := "([CI[BII)I" } : Jvm.MethodName) jdk_52_method_21_code (7 : Nat) (Option.some Jvm.ClassFile.FieldType.int)).before args0 about1 = true := code_word (m := ⟨9, 3⟩) (meth := k9m3) (c := k9c3) (by decide +kernel) rfl rfl rfl (by decide +kernel)
set_option maxRecDepth 65536 in
theorem w_c20 : (Jvm.Cond.code ({ cls := "java/lang/StringUTF16", name := "coderFromArrayLen", desc := "([BI)B" } : Jvm.MethodName) jdk_52_method_15_code (2 : Nat) (Option.some Jvm.ClassFile.FieldType.byte)).before args0 about1 = true := code_word (m := ⟨9, 1⟩) (meth := k9m1) (c := k9c1) (by decide +kernel) rfl rfl rfl (by decide +kernel)
set_option maxRecDepth 65536 in
theorem w_c21 : (Jvm.Cond.code ({ cls := "java/lang/String", name := "charAt", desc := "(I)C" } : Jvm.MethodName) jdk_42_method_56_code (2 : Nat) (Option.some Jvm.ClassFile.FieldType.char)).before args0 about1 = true := code_word (m := ⟨7, 3⟩) (meth := k7m3) (c := k7c3) (by decide +kernel) rfl rfl rfl (by decide +kernel)
set_option maxRecDepth 65536 in
theorem w_c22 : (Jvm.Cond.code ({ cls := "java/lang/String", name := "isLatin1", desc := "()Z" } : Jvm.MethodName) jdk_42_method_154_code (1 : Nat) (Option.some Jvm.ClassFile.FieldType.boolean)).before args0 about1 = true := code_word (m := ⟨7, 6⟩) (meth := k7m6) (c := k7c6) (by decide +kernel) rfl rfl rfl (by decide +kernel)
set_option maxRecDepth 65536 in
theorem w_c23 : (Jvm.Cond.code ({ cls := "java/lang/StringLatin1", name := "charAt", desc := "([BI)C" } : Jvm.MethodName) jdk_43_method_2_code (2 : Nat) (Option.some Jvm.ClassFile.FieldType.char)).before args0 about1 = true := code_word (m := ⟨10, 1⟩) (meth := k10m1) (c := k10c1) (by decide +kernel) rfl rfl rfl (by decide +kernel)
set_option maxRecDepth 65536 in
theorem w_c24 : (Jvm.Cond.code ({ cls := "java/lang/String", name := "checkIndex", desc := "(II)V" } : Jvm.MethodName) jdk_42_method_155_code (2 : Nat) (Option.none : Option Jvm.ClassFile.FieldType)).before args0 about1 = true := code_word (m := ⟨7, 7⟩) (meth := k7m7) (c := k7c7) (by decide +kernel) rfl rfl rfl (by decide +kernel)
set_option maxRecDepth 65536 in
theorem w_c25 : (Jvm.Cond.code ({ cls := "jdk/internal/util/Preconditions", name := "checkIndex", desc := "(IILjava/util/function/BiFunction;)I" } : Jvm.MethodName) jdk_41_method_11_code (3 : Nat) (Option.some Jvm.ClassFile.FieldType.int)).before args0 about1 = true := code_word (m := ⟨11, 1⟩) (meth := k11m1) (c := k11c1) (by decide +kernel) rfl rfl rfl (by decide +kernel)
def codes1 : List Jvm.Cond := [Jvm.Cond.code x code maxLocals ret, Jvm.Cond.code ({ cls := "com/example/wary_loader/waryloader/dn/DnParserTakeAlonePinLaw", name := "drawn", desc := "(I)C" } : Jvm.MethodName) method_3_code (2 : Nat) (Option.some Jvm.ClassFile.FieldType.char), Jvm.Cond.code ({ cls := "com/example/wary_loader/waryloader/dn/DnParserTakeAlonePinLaw", name := "pick", desc := "(IICC)C" } : Jvm.MethodName) method_4_code (4 : Nat) (Option.some Jvm.ClassFile.FieldType.char), Jvm.Cond.code ({ cls := "com/example/wary_loader/waryloader/dn/DnParserTakeAlonePinLaw", name := "text", desc := "([CI)Ljava/lang/String;" } : Jvm.MethodName) method_5_code (2 : Nat) (Option.some (Jvm.ClassFile.FieldType.object "java/lang/String")), Jvm.Cond.code ({ cls := "java/lang/String", name := "<init>", desc := "([C)V" } : Jvm.MethodName) jdk_42_method_3_code (2 : Nat) (Option.none : Option Jvm.ClassFile.FieldType), Jvm.Cond.code ({ cls := "java/lang/String", name := "<init>", desc := "([CIILjava/lang/Void;)V" } : Jvm.MethodName) jdk_42_method_149_code (6 : Nat) (Option.none : Option Jvm.ClassFile.FieldType), Jvm.Cond.code ({ cls := "java/lang/Object", name := "<init>", desc := "()V" } : Jvm.MethodName) object_method_1_code (1 : Nat) (Option.none : Option Jvm.ClassFile.FieldType), Jvm.Cond.code ({ cls := "com/example/wary_loader/waryloader/dn/DnParser", name := "<init>", desc := "(Ljava/lang/String;Z)V" } : Jvm.MethodName) prog_15_method_1_code (3 : Nat) (Option.none : Option Jvm.ClassFile.FieldType), Jvm.Cond.code ({ cls := "com/example/wary_loader/waryloader/dn/DnParser", name := "takeAlone", desc := "(C)Z" } : Jvm.MethodName) prog_15_method_3_code (5 : Nat) (Option.some Jvm.ClassFile.FieldType.boolean), Jvm.Cond.code ({ cls := "com/example/wary_loader/waryloader/dn/DnParser", name := "spacesFrom", desc := "(I)I" } : Jvm.MethodName) prog_15_method_11_code (3 : Nat) (Option.some Jvm.ClassFile.FieldType.int), Jvm.Cond.code ({ cls := "java/lang/String", name := "length", desc := "()I" } : Jvm.MethodName) jdk_42_method_54_code (1 : Nat) (Option.some Jvm.ClassFile.FieldType.int), Jvm.Cond.code ({ cls := "java/lang/String", name := "coder", desc := "()B" } : Jvm.MethodName) jdk_42_method_152_code (1 : Nat) (Option.some Jvm.ClassFile.FieldType.byte), Jvm.Cond.code ({ cls := "com/example/wary_loader/waryloader/dn/DnParser", name := "take", desc := "(C)Z" } : Jvm.MethodName) prog_15_method_5_code (3 : Nat) (Option.some Jvm.ClassFile.FieldType.boolean), Jvm.Cond.code ({ cls := "com/example/wary_loader/waryloader/dn/DnParserTakeAlonePinLaw", name := "end", desc := "([CII)I" } : Jvm.MethodName) method_6_code (3 : Nat) (Option.some Jvm.ClassFile.FieldType.int), Jvm.Cond.code ({ cls := "com/example/wary_loader/waryloader/dn/DnParserTakeAlonePinLaw", name := "alone", desc := "([CIIC)Z" } : Jvm.MethodName) method_10_code (5 : Nat) (Option.some Jvm.ClassFile.FieldType.boolean), Jvm.Cond.code ({ cls := "com/example/wary_loader/waryloader/dn/DnParserTakeAlonePinLaw", name := "oc", desc := "([CIIIC)I" } : Jvm.MethodName) method_9_code (5 : Nat) (Option.some Jvm.ClassFile.FieldType.int), Jvm.Cond.code ({ cls := "com/example/wary_loader/waryloader/dn/DnParserTakeAlonePinLaw", name := "nonSpace", desc := "([CII)I" } : Jvm.MethodName) method_8_code (3 : Nat) (Option.some Jvm.ClassFile.FieldType.int), Jvm.Cond.code ({ cls := "com/example/wary_loader/waryloader/dn/DnParserTakeAlonePinLaw", name := "ns", desc := "([CIII)I" } : Jvm.MethodName) method_7_code (4 : Nat) (Option.some Jvm.ClassFile.FieldType.int), Jvm.Cond.code ({ cls := "java/lang/StringUTF16", name := "compress", desc := "([CII)[B" } : Jvm.MethodName) jdk_52_method_16_code (6 : Nat) (Option.some (Jvm.ClassFile.FieldType.array Jvm.ClassFile.FieldType.byte)), Jvm.Cond.code ({ cls := "java/lang/StringUTF16", name := "compress", desc := "([CI[BII)I" } : Jvm.MethodName) jdk_52_method_21_code (7 : Nat) (Option.some Jvm.ClassFile.FieldType.int), Jvm.Cond.code ({ cls := "java/lang/StringUTF16", name := "coderFromArrayLen", desc := "([BI)B" } : Jvm.MethodName) jdk_52_method_15_code (2 : Nat) (Option.some Jvm.ClassFile.FieldType.byte), Jvm.Cond.code ({ cls := "java/lang/String", name := "charAt", desc := "(I)C" } : Jvm.MethodName) jdk_42_method_56_code (2 : Nat) (Option.some Jvm.ClassFile.FieldType.char), Jvm.Cond.code ({ cls := "java/lang/String", name := "isLatin1", desc := "()Z" } : Jvm.MethodName) jdk_42_method_154_code (1 : Nat) (Option.some Jvm.ClassFile.FieldType.boolean), Jvm.Cond.code ({ cls := "java/lang/StringLatin1", name := "charAt", desc := "([BI)C" } : Jvm.MethodName) jdk_43_method_2_code (2 : Nat) (Option.some Jvm.ClassFile.FieldType.char), Jvm.Cond.code ({ cls := "java/lang/String", name := "checkIndex", desc := "(II)V" } : Jvm.MethodName) jdk_42_method_155_code (2 : Nat) (Option.none : Option Jvm.ClassFile.FieldType), Jvm.Cond.code ({ cls := "jdk/internal/util/Preconditions", name := "checkIndex", desc := "(IILjava/util/function/BiFunction;)I" } : Jvm.MethodName) jdk_41_method_11_code (3 : Nat) (Option.some Jvm.ClassFile.FieldType.int)]
set_option maxRecDepth 65536 in
theorem codes_eq : words1.filter isCode = codes1 := rfl
theorem w_codes : ∀ c ∈ words1.filter isCode, c.before args0 about1 = true := by
  rw [codes_eq]
  intro c hc
  simp only [codes1, List.mem_cons, List.not_mem_nil, or_false] at hc
  rcases hc with rfl | rfl | rfl | rfl | rfl | rfl | rfl | rfl | rfl | rfl | rfl | rfl | rfl | rfl | rfl | rfl | rfl | rfl | rfl | rfl | rfl | rfl | rfl | rfl | rfl | rfl
  · exact w_c0
  · exact w_c1
  · exact w_c2
  · exact w_c3
  · exact w_c4
  · exact w_c5
  · exact w_c6
  · exact w_c7
  · exact w_c8
  · exact w_c9
  · exact w_c10
  · exact w_c11
  · exact w_c12
  · exact w_c13
  · exact w_c14
  · exact w_c15
  · exact w_c16
  · exact w_c17
  · exact w_c18
  · exact w_c19
  · exact w_c20
  · exact w_c21
  · exact w_c22
  · exact w_c23
  · exact w_c24
  · exact w_c25
set_option maxRecDepth 65536 in
theorem w_t1 : (words1.take 24).all (fun c => isCode c || c.before args0 about1) = true := by decide +kernel
set_option maxRecDepth 65536 in
theorem w_t2 : ((words1.drop 24).take 24).all (fun c => isCode c || c.before args0 about1) = true := by decide +kernel
set_option maxRecDepth 65536 in
theorem w_t3 : (((words1.drop 24).drop 24).take 24).all (fun c => isCode c || c.before args0 about1) = true := by decide +kernel
set_option maxRecDepth 65536 in
theorem w_t4 : ((((words1.drop 24).drop 24).drop 24).take 24).all (fun c => isCode c || c.before args0 about1) = true := by decide +kernel
set_option maxRecDepth 65536 in
theorem w_t5 : ((((words1.drop 24).drop 24).drop 24).drop 24).all (fun c => isCode c || c.before args0 about1) = true := by decide +kernel
theorem w_tables : (allAtoms (Jvm.Cond.code x code maxLocals ret :: tables_1)).before args0 about1 = true := by
  rw [allAtoms_all]
  show words1.all (fun c => c.before args0 about1) = true
  refine all_split ?_ w_codes
  rw [← List.take_append_drop 24 words1, List.all_append, w_t1, ← List.take_append_drop 24 (words1.drop 24), List.all_append, w_t2, ← List.take_append_drop 24 ((words1.drop 24).drop 24), List.all_append, w_t3, ← List.take_append_drop 24 (((words1.drop 24).drop 24).drop 24), List.all_append, w_t4, w_t5]
  rfl
set_option maxRecDepth 65536 in
theorem w_rest : rest_1_c.before args0 about1 = true := by decide +kernel
set_option maxRecDepth 65536 in
theorem w_case : (Jvm.Cond.and given_1 narrow_1).before args0 about1 = true := by decide +kernel
set_option maxRecDepth 65536 in
theorem w_consts : constsHeld consts_1 about1 := Jvm.Lit.constsHeldB_iff.mp (by decide +kernel)
theorem w_applies : (headSpec (Jvm.Cond.code x code maxLocals ret :: tables_1) room_1).applies x e0.platform about1 = true :=
  (Spec.applies_iff w_frames).mpr ⟨w_running, w_runnable, w_alone, w_named, w_hears, w_ripe, w_room, w_tables⟩
theorem atStart : AtStart classFile x code maxLocals ret World_1 tables_1 room_1 Calls_1 rest_1 Pre_1 launch0 p0 e0 about1 theMethod args0 below0 :=
  ⟨lists_1, trivial, launch0.admits_env _ _ _, launch0.least_env, fairChoices_fair.cas, fairChoices_fair.clock, w_frames, w_args, w_heap, w_applies, ⟨w_consts, trivial⟩, w_rest, w_case⟩
end start1
theorem witness_1 : WitnessClaimed_1 := ⟨start1.p0, start1.e0, start1.about1, start1.theMethod, start1.args0, start1.below0, start1.atStart⟩
end Jvm.Pilot.@@N@@
