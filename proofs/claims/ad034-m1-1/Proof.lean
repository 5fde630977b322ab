import JvmDerived
import JvmDerived.Pilot.@@N@@Statement
import JvmDerived.Pilot.@@N@@Code
set_option linter.unusedVariables false
set_option linter.unusedSimpArgs false
namespace Jvm.RoadKit
open Sem ClassFile Op Lib Jvm.Stand Jvm.Free Jvm.LawKit
section OwnKit
/-- what stands at a point of the walk: the law's Stand, its written places all new, the heap named; w: may have interned -/
def own_X (w : Bool) (p : Program) (l : Launch) (e : Env) (R : Room) (s : State) (m : MethodId) (args : Array Value) (below : List Frame) (meth : Method) (c : Code) (Z : State) (T : State) (h : Heap) (k n : Nat) : Prop :=
  ∃ (L : List Loc) (vm : Vm), Stand p l e R (s.setVm vm) m args below meth c T L k n ∧ Fr Z.heap.size L ∧ T.heap = h ∧ (w = false → vm = s.vm) ∧ s.Since vm h.size
def own_Cx (p : Program) (s : State) (m : MethodId) (meth : Method) (c : Code) (Z : State) (own nm : String) (bytes : ByteArray) (maxL : Nat) (ret : Option FieldType) : Prop :=
  p.tables.exec = Jvm.exec ∧ c.code = bytes ∧ c.maxLocals = maxL ∧ meth.sig.returnType = ret ∧ meth.locks = false ∧ Z.Warmed39 s.vm ∧ s.vm.findClass own = some m.cls ∧ meth.name = nm
def own_Go (w : Bool) (p : Program) (l : Launch) (e : Env) (R : Room) (s : State) (m : MethodId) (args : Array Value) (below : List Frame) (meth : Method) (c : Code) (Z : State) (Q : Option Value → Heap → Prop) (T : State) (g : JFrame) : Prop :=
  ∃ (T' : State) (v : Option Value) (h' : Heap) (k' n' : Nat), own_X w p l e R s m args below meth c Z T' h' k' n' ∧ k' ≤ R.cells ∧ n' ≤ R.slots ∧ (meth.sig.returnType = none → v = none) ∧ Q v h' ∧
    ∀ fs, (∀ (f : JFrame) (acts : List Action), f.method = m → f.locked = none → f.entered = [] → (doReturn e (T'.setTop f) acts v).1 = T'.setFrames fs) → Steps p.tables e below (T.setTop g) (T'.setFrames fs)
/-- from the frame g, over the heap h, with k cells and n slots made, the walk comes to a return of which Q holds -/
def own_G (w : Bool) (p : Program) (l : Launch) (e : Env) (R : Room) (s : State) (m : MethodId) (args : Array Value) (below : List Frame) (meth : Method) (c : Code) (Z : State) (Q : Option Value → Heap → Prop) (h : Heap) (k n : Nat) (g : JFrame) : Prop :=
  ∀ T, own_X w p l e R s m args below meth c Z T h k n → own_Go w p l e R s m args below meth c Z Q T g
def own_D (bytes : ByteArray) (pc : Nat) (i : Instr) (len pc' : Nat) : Prop := decode bytes pc = .ok (i, len) ∧ pc' = pc + len
def own_B (bytes : ByteArray) (pc : Nat) (i : Instr) (off : Int) (pcF pcT : Nat) : Prop := decode bytes pc = .ok (i, 3) ∧ pcF = pc + 3 ∧ 0 ≤ (pc : Int) + off ∧ ((pc : Int) + off).toNat = pcT
def own_End (w : Bool) (U : State) (o : Outcome) (U' : State) (L : List Loc) (k n : Nat) : Prop := match w with | false => FrameEnd U o U' L k n | true => ReturnedEndW U o U' L k n
def own_Met (w : Bool) (l : Launch) (Z : State) (y : MethodName) (bytes : ByteArray) (maxL : Nat) (ret : Option FieldType) (ws : List Cond) (rm : Room) (as' : Array Value) (h : Heap) (Q : Option Value → Heap → Prop) : Prop :=
  MetFree l y (head1 (Cond.code y bytes maxL ret :: ws) rm) (fun a U => a = as' ∧ Z.Warmed39 U.vm ∧ U.heap = h) (fun _ _ _ _ _ => True)
    (fun _ U o U' => ∃ v L, o = .returned v ∧ (Q v U'.heap ∧ Fr Z.heap.size L ∧ h.size ≤ U'.heap.size) ∧ own_End w U o U' L rm.cells rm.slots)
/-! ## heap -/
abbrev own_O := Addr × String × List (String × String × String × Value)
abbrev own_A := Addr × FieldType × String × List Value
def own_OK (Z : State) (h : Heap) (o : own_O) : Prop := Exa Z h o.1 o.2.1 ∧ (∀ f ∈ o.2.2, Fld Z h o.1 f.1 f.2.1 f.2.2.1 f.2.2.2) ∧ o.2.2.Pairwise (fun f g => slotOf Z f.1 f.2.1 f.2.2.1 ≠ slotOf Z g.1 g.2.1 g.2.2.1)
def own_AK (Z : State) (h : Heap) (a : own_A) : Prop := ∃ cl : Cell, Arr Z h a.1 cl a.2.1 ∧ cl.slots.toList = a.2.2.2 ∧ (∀ v ∈ a.2.2.2, fits a.2.1 v = true) ∧ (a.2.2.1 ≠ "" → Exa Z h a.1 a.2.2.1) ∧ (∀ C, a.2.1 = .object C → a.2.2.1 ≠ "" → Ovr Z cl.cls C)
/-- the heap h: what stood at the law's start Z stands; the objects os and the arrays as, all new, all apart -/
def own_H (Z : State) (h : Heap) (os : List own_O) (as : List own_A) : Prop :=
  Ext Z.heap h ∧ (∀ o ∈ os, Z.heap.size ≤ o.1 ∧ own_OK Z h o) ∧ (∀ a ∈ as, Z.heap.size ≤ a.1 ∧ own_AK Z h a) ∧ (os.map (·.1) ++ as.map (·.1)).Nodup
variable {w : Bool} {p : Program} {l : Launch} {e : Env} {R : Room} {s : State} {m : MethodId} {args : Array Value} {below : List Frame} {meth : Method} {c : Code} {Z : State} {a0 : Array Value} {own nm : String} {bytes : ByteArray} {maxL : Nat} {ret : Option FieldType} {Q : Option Value → Heap → Prop} {h h' : Heap} {k n k' n' : Nat} {pc pc' pcT : Nat} {Ls Ls' : Array Slot} {st rest : List Value} {os os' : List own_O} {as as' : List own_A} {g g' : JFrame} {tyR : FieldType}
theorem own_H.start (Z : State) : own_H Z Z.heap [] [] := ⟨⟨Nat.le_refl _, fun _ _ q => q⟩, fun _ q => (nomatch q), fun _ q => (nomatch q), List.nodup_nil⟩
theorem own_OK.ext {o : own_O} (E : Ext h h') (F : own_OK Z h o) : own_OK Z h' o := ⟨F.1.ext E, fun f hf => (F.2.1 f hf).ext E, F.2.2⟩
theorem own_AK.ext {a : own_A} (E : Ext h h') (F : own_AK Z h a) : own_AK Z h' a := by
  obtain ⟨cl, h1, h2, h3, h4, h5⟩ := F; exact ⟨cl, h1.ext E, h2, h3, fun q => (h4 q).ext E, h5⟩
theorem own_H.ext (H : own_H Z h os as) (E : Ext h h') : own_H Z h' os as :=
  ⟨⟨Nat.le_trans H.1.1 E.1, fun a c q => E.2 a c (H.1.2 a c q)⟩, fun o ho => ⟨(H.2.1 o ho).1, (H.2.1 o ho).2.ext E⟩, fun a ha => ⟨(H.2.2.1 a ha).1, (H.2.2.1 a ha).2.ext E⟩, H.2.2.2⟩
theorem own_H.ltO (H : own_H Z h os as) {o : own_O} (ho : o ∈ os) : o.1 < h.size := (H.2.1 o ho).2.1.lt
theorem own_H.ltA (H : own_H Z h os as) {a : own_A} (ha : a ∈ as) : a.1 < h.size := by obtain ⟨-, cl, h1, -⟩ := H.2.2.1 a ha; exact h1.lt
theorem own_H.fresh (H : own_H Z h os as) : h.size ∉ os.map (·.1) ++ as.map (·.1) := fun q => by
  rcases List.mem_append.mp q with q | q
  · obtain ⟨o, ho, e⟩ := List.mem_map.mp q; exact absurd (H.ltO ho) (by rw [e]; exact Nat.lt_irrefl _)
  · obtain ⟨o, ho, e⟩ := List.mem_map.mp q; exact absurd (H.ltA ho) (by rw [e]; exact Nat.lt_irrefl _)
theorem own_H.addO (H : own_H Z h os as) (E : Ext h h') {C : String} {fs : List (String × String × String × Value)} (F : own_OK Z h' (h.size, C, fs)) : own_H Z h' ((h.size, C, fs) :: os) as := by
  have H' := H.ext E
  refine ⟨H'.1, fun o ho => ?_, H'.2.2.1, ?_⟩
  · rcases List.mem_cons.mp ho with rfl | ho
    · exact ⟨H.1.1, F⟩
    · exact H'.2.1 o ho
  · exact List.nodup_cons.mpr ⟨H.fresh, H.2.2.2⟩
theorem own_H.addA (H : own_H Z h os as) (E : Ext h h') {ty : FieldType} {ad : String} {vs : List Value} (F : own_AK Z h' (h.size, ty, ad, vs)) : own_H Z h' os ((h.size, ty, ad, vs) :: as) := by
  have H' := H.ext E
  refine ⟨H'.1, H'.2.1, fun o ho => ?_, ?_⟩
  · rcases List.mem_cons.mp ho with rfl | ho
    · exact ⟨H.1.1, F⟩
    · exact H'.2.2.1 o ho
  · have q := H.fresh
    rw [List.mem_append] at q
    have q2 := List.nodup_append.mp H.2.2.2
    refine List.nodup_append.mpr ⟨q2.1, List.nodup_cons.mpr ⟨fun z => q (Or.inr z), q2.2.1⟩, fun x hx y hy => ?_⟩
    rcases List.mem_cons.mp hy with rfl | hy
    · intro z; exact q (Or.inl ((show x = h.size from z) ▸ hx))
    · exact q2.2.2 x hx y hy
theorem own_mem {α : Type} {L : List α} {i : Nat} {x : α} (hx : L[i]? = some x) : x ∈ L := List.mem_of_getElem? hx
theorem own_H.atO (H : own_H Z h os as) {i : Nat} {a : Addr} {C : String} {fs : List (String × String × String × Value)} (ho : os[i]? = some (a, C, fs)) : Exa Z h a C := (H.2.1 _ (own_mem ho)).2.1
theorem own_H.newO (H : own_H Z h os as) {i : Nat} {a : Addr} {C : String} {fs : List (String × String × String × Value)} (ho : os[i]? = some (a, C, fs)) : Z.heap.size ≤ a := (H.2.1 _ (own_mem ho)).1
theorem own_H.fld (H : own_H Z h os as) {i q : Nat} {a : Addr} {C O f d : String} {v : Value} {fs : List (String × String × String × Value)} (ho : os[i]? = some (a, C, fs)) (hf : fs[q]? = some (O, f, d, v)) : Fld Z h a O f d v := (H.2.1 _ (own_mem ho)).2.2.1 _ (own_mem hf)
theorem own_H.neOO (H : own_H Z h os as) {i j : Nat} {x y : own_O} (hx : os[i]? = some x) (hy : os[j]? = some y) (ij : i ≠ j) : x.1 ≠ y.1 := fun e => by
  have q := (List.nodup_append.mp H.2.2.2).1
  have h1 : (os.map (·.1))[i]? = some x.1 := by rw [List.getElem?_map, hx]; rfl
  have h2 : (os.map (·.1))[j]? = some y.1 := by rw [List.getElem?_map, hy]; rfl
  rw [← e] at h2
  have hi := (List.getElem?_eq_some_iff.mp h1).1
  exact ij ((List.getElem?_inj hi q).mp (h1.trans h2.symm))
theorem own_H.neAA (H : own_H Z h os as) {i j : Nat} {x y : own_A} (hx : as[i]? = some x) (hy : as[j]? = some y) (ij : i ≠ j) : x.1 ≠ y.1 := fun e => by
  have q := (List.nodup_append.mp H.2.2.2).2.1
  have h1 : (as.map (·.1))[i]? = some x.1 := by rw [List.getElem?_map, hx]; rfl
  have h2 : (as.map (·.1))[j]? = some y.1 := by rw [List.getElem?_map, hy]; rfl
  rw [← e] at h2
  have hi := (List.getElem?_eq_some_iff.mp h1).1
  exact ij ((List.getElem?_inj hi q).mp (h1.trans h2.symm))
theorem own_H.neOA (H : own_H Z h os as) {x : own_O} {y : own_A} (hx : x ∈ os) (hy : y ∈ as) : x.1 ≠ y.1 :=
  (List.nodup_append.mp H.2.2.2).2.2 _ (List.mem_map.mpr ⟨x, hx, rfl⟩) _ (List.mem_map.mpr ⟨y, hy, rfl⟩)
theorem own_set_map {α β : Type} {L : List α} {f : α → β} {i : Nat} {x x' : α} (hx : L[i]? = some x) (e : f x' = f x) : (L.set i x').map f = L.map f := by
  apply List.ext_getElem?
  intro j
  rw [List.getElem?_map, List.getElem?_map, List.getElem?_set]
  by_cases ij : i = j
  · subst ij; rw [hx]; have := (List.getElem?_eq_some_iff.mp hx).1; simp [this, e]
  · simp [ij]
theorem own_H.wrO (H : own_H Z h os as) {i q : Nat} {a : Addr} {C O f d : String} {v v0 : Value} {fs : List (String × String × String × Value)} (ho : os[i]? = some (a, C, fs)) (hf : fs[q]? = some (O, f, d, v0)) (W : Wr h h' a (slotOf Z O f d) v) :
    own_H Z h' (os.set i (a, C, fs.set q (O, f, d, v))) as := by
  have na := H.newO ho
  have hlen := (List.getElem?_eq_some_iff.mp ho).1
  have hql := (List.getElem?_eq_some_iff.mp hf).1
  refine ⟨?_, fun x hx => ?_, fun y hy => ?_, ?_⟩
  · refine ⟨by rw [Wr.size W]; exact H.1.1, fun b cb hb => ?_⟩
    obtain ⟨cb', e1, -, -, -, e5, -⟩ := wr_at W (H.1.2 b cb hb)
    have : b ≠ a := Nat.ne_of_lt (Nat.lt_of_lt_of_le (Array.getElem?_eq_some_iff.mp hb).1 na)
    rw [← e5 this]; exact e1
  · obtain ⟨j, hj⟩ := List.mem_iff_getElem?.mp hx
    rw [List.getElem?_set] at hj
    by_cases ij : i = j
    · subst ij
      rw [if_pos rfl, if_pos hlen] at hj
      obtain rfl := Option.some.inj hj
      obtain ⟨n1, E, F, Pw⟩ := H.2.1 _ (own_mem ho)
      refine ⟨n1, E.wr W, fun z hz => ?_, ?_⟩
      · obtain ⟨r, hr⟩ := List.mem_iff_getElem?.mp hz
        rw [List.getElem?_set] at hr
        by_cases qr : q = r
        · subst qr
          rw [if_pos rfl, if_pos hql] at hr
          obtain rfl := Option.some.inj hr
          exact Fld.same (w := v0) W (F _ (own_mem (show (a, C, fs).2.2[q]? = some (O, f, d, v0) from hf)))
        · rw [if_neg qr] at hr
          refine Fld.other W (F _ (own_mem hr)) (Or.inr fun e => ?_)
          have P2 : ∀ i j : Nat, i < j → ∀ x y, fs[i]? = some x → fs[j]? = some y → slotOf Z x.1 x.2.1 x.2.2.1 ≠ slotOf Z y.1 y.2.1 y.2.2.1 := fun i j ij x y hx hy => by
            obtain ⟨h1, rfl⟩ := List.getElem?_eq_some_iff.mp hx
            obtain ⟨h2, rfl⟩ := List.getElem?_eq_some_iff.mp hy
            exact List.pairwise_iff_getElem.mp Pw i j h1 h2 ij
          rcases Nat.lt_or_gt_of_ne qr with lt | lt
          · exact P2 q r lt _ _ hf hr e.symm
          · exact P2 r q lt _ _ hr hf e
      · have hm : (fs.set q (O, f, d, v)).map (fun f => slotOf Z f.1 f.2.1 f.2.2.1) = fs.map (fun f => slotOf Z f.1 f.2.1 f.2.2.1) := own_set_map hf rfl
        have t := List.pairwise_map.mpr Pw
        rw [← hm] at t
        exact List.pairwise_map.mp t
    · rw [if_neg ij] at hj
      obtain ⟨n1, E, F, Pw⟩ := H.2.1 _ (own_mem hj)
      exact ⟨n1, E.wr W, fun z hz => Fld.other W (F z hz) (Or.inl (H.neOO hj ho (Ne.symm ij))), Pw⟩
  · obtain ⟨n1, cl, h1, h2, h3, h4, h5⟩ := H.2.2.1 y hy
    exact ⟨n1, cl, h1.other W (Ne.symm (H.neOA (own_mem ho) hy)), h2, h3, fun q => (h4 q).wr W, h5⟩
  · rw [own_set_map (f := fun z => z.1) (x' := (a, C, fs.set q (O, f, d, v))) ho rfl]; exact H.2.2.2
theorem own_H.wrA (H : own_H Z h os as) {i q : Nat} {a : Addr} {ty : FieldType} {ad : String} {v : Value} {vs : List Value} (ha : as[i]? = some (a, ty, ad, vs)) (hq : q < vs.length) (hv : fits ty v = true) (W : Wr h h' a q v) :
    own_H Z h' os (as.set i (a, ty, ad, vs.set q v)) := by
  have na := (H.2.2.1 _ (own_mem ha)).1
  have hlen := (List.getElem?_eq_some_iff.mp ha).1
  refine ⟨?_, fun x hx => ?_, fun y hy => ?_, ?_⟩
  · refine ⟨by rw [Wr.size W]; exact H.1.1, fun b cb hb => ?_⟩
    obtain ⟨cb', e1, -, -, -, e5, -⟩ := wr_at W (H.1.2 b cb hb)
    have : b ≠ a := Nat.ne_of_lt (Nat.lt_of_lt_of_le (Array.getElem?_eq_some_iff.mp hb).1 na)
    rw [← e5 this]; exact e1
  · obtain ⟨n1, E, F, Pw⟩ := H.2.1 _ hx
    exact ⟨n1, E.wr W, fun z hz => Fld.other W (F z hz) (Or.inl (H.neOA hx (own_mem ha))), Pw⟩
  · obtain ⟨j, hj⟩ := List.mem_iff_getElem?.mp hy
    rw [List.getElem?_set] at hj
    by_cases ij : i = j
    · subst ij
      rw [if_pos rfl, if_pos hlen] at hj
      obtain rfl := Option.some.inj hj
      obtain ⟨n1, cl, h1, h2, h3, h4, h5⟩ := H.2.2.1 _ (own_mem ha)
      refine ⟨n1, _, h1.same W, ?_, fun z hz => ?_, fun q => (h4 q).wr W, h5⟩
      · show (cl.setSlot q v).slots.toList = vs.set q v
        rw [show (cl.setSlot q v).slots = cl.slots.setIfInBounds q v from rfl, Array.toList_setIfInBounds, show cl.slots.toList = vs from h2]
      · rcases List.mem_or_eq_of_mem_set hz with hz | rfl
        · exact h3 z hz
        · exact hv
    · rw [if_neg ij] at hj
      obtain ⟨n1, cl, h1, h2, h3, h4, h5⟩ := H.2.2.1 _ (own_mem hj)
      exact ⟨n1, cl, h1.other W (H.neAA hj ha (Ne.symm ij)), h2, h3, fun q => (h4 q).wr W, h5⟩
  · rw [own_set_map (f := fun z => z.1) (x' := (a, ty, ad, vs.set q v)) ha rfl]; exact H.2.2.2
theorem own_le {a b : Nat} (h : Nat.ble a b = true) : a ≤ b := Nat.le_of_ble_eq_true h
theorem own_idx {j : Int32} {q : Nat} (hj : j.toInt = (q : Int)) : j.toNatClampNeg = q := by simp only [Int32.toNatClampNeg, hj]; rfl
theorem own_in {j : Int32} {q N : Nat} (hj : j.toInt = (q : Int)) (hq : q < N) : ¬ (j < 0 ∨ N ≤ j.toNatClampNeg) := by
  rw [own_idx hj, Int32.lt_iff_toInt_lt, hj, show (0 : Int32).toInt = 0 from rfl]; omega
theorem own_len {N : Int32} {q : Nat} (hN : N.toInt = (q : Int)) : q.toInt32 = N := by
  have := Int32.toInt_lt N
  exact Int32.toInt_inj.mp ((len_toInt (by omega)).trans hN.symm)
/-! ## steps -/
theorem own_zw {vm : Vm} (hZ : Z.Warmed39 s.vm) {q : Nat} (hS : s.Since vm q) : Z.Warmed39 (s.setVm vm).vm := State.Warmed39.trans (t := s) hZ hS.1
theorem own_pure (K : own_Cx p s m meth c Z own nm bytes maxL ret)
    (f : ∀ {T : State} {L : List Loc} {vm : Vm}, Stand p l e R (s.setVm vm) m args below meth c T L k n → Z.Warmed39 (s.setVm vm).vm → (s.setVm vm).vm.findClass own = some m.cls → T.heap = h → ∀ target, Steps p.tables e below (T.setTop g') target → Steps p.tables e below (T.setTop g) target)
    (hr : own_G w p l e R s m args below meth c Z Q h k n g') : own_G w p l e R s m args below meth c Z Q h k n g := by
  intro T hX
  obtain ⟨T', v, h', k', n', hX', r1, r2, r3, r4, r5⟩ := hr T hX
  obtain ⟨L, vm, X, -, eT, -, hS⟩ := hX
  exact ⟨T', v, h', k', n', hX', r1, r2, r3, r4, fun fs q => f X (own_zw K.2.2.2.2.2.1 hS) (by rw [show (s.setVm vm).vm = vm from rfl, hS.1.alike.findClass]; exact K.2.2.2.2.2.2.1) eT _ (r5 fs q)⟩
theorem own_since {vm : Vm} {q q' : Nat} (hS : s.Since vm q) (hq : q ≤ q') : s.Since vm q' := ⟨hS.1, hS.2.mono hq⟩
theorem own_step {P : Heap → Prop} (K : own_Cx p s m meth c Z own nm bytes maxL ret)
    (f : ∀ {T : State} {L : List Loc} {vm : Vm}, Stand p l e R (s.setVm vm) m args below meth c T L k n → Z.Warmed39 (s.setVm vm).vm → (s.setVm vm).vm.findClass own = some m.cls → T.heap = h → Fr Z.heap.size L →
      ∃ (T' : State) (h' : Heap) (L' : List Loc), Stand p l e R (s.setVm vm) m args below meth c T' L' k' n' ∧ Fr Z.heap.size L' ∧ T'.heap = h' ∧ h.size ≤ h'.size ∧ P h' ∧ ∀ target, Steps p.tables e below (T'.setTop g') target → Steps p.tables e below (T.setTop g) target)
    (hr : ∀ h', P h' → own_G w p l e R s m args below meth c Z Q h' k' n' g') : own_G w p l e R s m args below meth c Z Q h k n g := by
  intro T hX
  obtain ⟨L, vm, X, N, eT, hw, hS⟩ := hX
  obtain ⟨T1, h1, L1, X1, N1, e1, z1, P1, st⟩ := f X (own_zw K.2.2.2.2.2.1 hS) (by rw [show (s.setVm vm).vm = vm from rfl, hS.1.alike.findClass]; exact K.2.2.2.2.2.2.1) eT N
  obtain ⟨T', v, h', k', n', hX', r1, r2, r3, r4, r5⟩ := hr h1 P1 T1 ⟨L1, vm, X1, N1, e1, hw, own_since hS z1⟩
  exact ⟨T', v, h', k', n', hX', r1, r2, r3, r4, fun fs q => st _ (r5 fs q)⟩
theorem own_iload (K : own_Cx p s m meth c Z own nm bytes maxL ret) {kk : Nat} {v : Int32} (hd : own_D bytes pc (.iload kk) 2 pc') (hl : Ls[kk]? = some (.val (.int v))) (hr : own_G w p l e R s m args below meth c Z Q h k n (mkF m pc' Ls (.int v :: st))) : own_G w p l e R s m args below meth c Z Q h k n (mkF m pc Ls (st)) := by
  obtain ⟨hd, rfl⟩ := hd
  exact own_pure K (fun X _ _ _ _ q => XS.iload X.here K.1 rfl (hb K.2.1 hd) hl q) hr
theorem own_iloadN (K : own_Cx p s m meth c Z own nm bytes maxL ret) {kk : Fin 4} {v : Int32} (hd : own_D bytes pc (.iload_n kk) 1 pc') (hl : Ls[kk.val]? = some (.val (.int v))) (hr : own_G w p l e R s m args below meth c Z Q h k n (mkF m pc' Ls (.int v :: st))) : own_G w p l e R s m args below meth c Z Q h k n (mkF m pc Ls (st)) := by
  obtain ⟨hd, rfl⟩ := hd
  exact own_pure K (fun X _ _ _ _ q => XS.iloadN X.here K.1 rfl (hb K.2.1 hd) hl q) hr
theorem own_istore (K : own_Cx p s m meth c Z own nm bytes maxL ret) {kk : Nat} {v : Int32} (hd : own_D bytes pc (.istore kk) 2 pc') (hl : storeLocals Ls kk (.int v) = some Ls') (hr : own_G w p l e R s m args below meth c Z Q h k n (mkF m pc' Ls' (st))) : own_G w p l e R s m args below meth c Z Q h k n (mkF m pc Ls (.int v :: st)) := by
  obtain ⟨hd, rfl⟩ := hd
  exact own_pure K (fun X _ _ _ _ q => XS.istore X.here K.1 rfl (hb K.2.1 hd) rfl hl q) hr
theorem own_istoreN (K : own_Cx p s m meth c Z own nm bytes maxL ret) {kk : Fin 4} {v : Int32} (hd : own_D bytes pc (.istore_n kk) 1 pc') (hl : storeLocals Ls kk.val (.int v) = some Ls') (hr : own_G w p l e R s m args below meth c Z Q h k n (mkF m pc' Ls' (st))) : own_G w p l e R s m args below meth c Z Q h k n (mkF m pc Ls (.int v :: st)) := by
  obtain ⟨hd, rfl⟩ := hd
  exact own_pure K (fun X _ _ _ _ q => XS.istoreN X.here K.1 rfl (hb K.2.1 hd) rfl hl q) hr
theorem own_lload (K : own_Cx p s m meth c Z own nm bytes maxL ret) {kk : Nat} {v : Int64} (hd : own_D bytes pc (.lload kk) 2 pc') (hl : Ls[kk]? = some (.val (.long v))) (hr : own_G w p l e R s m args below meth c Z Q h k n (mkF m pc' Ls (.long v :: st))) : own_G w p l e R s m args below meth c Z Q h k n (mkF m pc Ls (st)) := by
  obtain ⟨hd, rfl⟩ := hd
  exact own_pure K (fun X _ _ _ _ q => XT.lload X.here K.1 rfl (hb K.2.1 hd) hl q) hr
theorem own_lloadN (K : own_Cx p s m meth c Z own nm bytes maxL ret) {kk : Fin 4} {v : Int64} (hd : own_D bytes pc (.lload_n kk) 1 pc') (hl : Ls[kk.val]? = some (.val (.long v))) (hr : own_G w p l e R s m args below meth c Z Q h k n (mkF m pc' Ls (.long v :: st))) : own_G w p l e R s m args below meth c Z Q h k n (mkF m pc Ls (st)) := by
  obtain ⟨hd, rfl⟩ := hd
  exact own_pure K (fun X _ _ _ _ q => XT.lloadN X.here K.1 rfl (hb K.2.1 hd) hl q) hr
theorem own_lstore (K : own_Cx p s m meth c Z own nm bytes maxL ret) {kk : Nat} {v : Int64} (hd : own_D bytes pc (.lstore kk) 2 pc') (hl : storeLocals Ls kk (.long v) = some Ls') (hr : own_G w p l e R s m args below meth c Z Q h k n (mkF m pc' Ls' (st))) : own_G w p l e R s m args below meth c Z Q h k n (mkF m pc Ls (.long v :: st)) := by
  obtain ⟨hd, rfl⟩ := hd
  exact own_pure K (fun X _ _ _ _ q => XT.lstore X.here K.1 rfl (hb K.2.1 hd) rfl hl q) hr
theorem own_lstoreN (K : own_Cx p s m meth c Z own nm bytes maxL ret) {kk : Fin 4} {v : Int64} (hd : own_D bytes pc (.lstore_n kk) 1 pc') (hl : storeLocals Ls kk.val (.long v) = some Ls') (hr : own_G w p l e R s m args below meth c Z Q h k n (mkF m pc' Ls' (st))) : own_G w p l e R s m args below meth c Z Q h k n (mkF m pc Ls (.long v :: st)) := by
  obtain ⟨hd, rfl⟩ := hd
  exact own_pure K (fun X _ _ _ _ q => XT.lstoreN X.here K.1 rfl (hb K.2.1 hd) rfl hl q) hr
theorem own_dload (K : own_Cx p s m meth c Z own nm bytes maxL ret) {kk : Nat} {v : UInt64} (hd : own_D bytes pc (.dload kk) 2 pc') (hl : Ls[kk]? = some (.val (.double v))) (hr : own_G w p l e R s m args below meth c Z Q h k n (mkF m pc' Ls (.double v :: st))) : own_G w p l e R s m args below meth c Z Q h k n (mkF m pc Ls (st)) := by
  obtain ⟨hd, rfl⟩ := hd
  exact own_pure K (fun X _ _ _ _ q => XS.dload X.here K.1 rfl (hb K.2.1 hd) hl q) hr
theorem own_dloadN (K : own_Cx p s m meth c Z own nm bytes maxL ret) {kk : Fin 4} {v : UInt64} (hd : own_D bytes pc (.dload_n kk) 1 pc') (hl : Ls[kk.val]? = some (.val (.double v))) (hr : own_G w p l e R s m args below meth c Z Q h k n (mkF m pc' Ls (.double v :: st))) : own_G w p l e R s m args below meth c Z Q h k n (mkF m pc Ls (st)) := by
  obtain ⟨hd, rfl⟩ := hd
  exact own_pure K (fun X _ _ _ _ q => XS.dloadN X.here K.1 rfl (hb K.2.1 hd) hl q) hr
theorem own_dstore (K : own_Cx p s m meth c Z own nm bytes maxL ret) {kk : Nat} {v : UInt64} (hd : own_D bytes pc (.dstore kk) 2 pc') (hl : storeLocals Ls kk (.double v) = some Ls') (hr : own_G w p l e R s m args below meth c Z Q h k n (mkF m pc' Ls' (st))) : own_G w p l e R s m args below meth c Z Q h k n (mkF m pc Ls (.double v :: st)) := by
  obtain ⟨hd, rfl⟩ := hd
  exact own_pure K (fun X _ _ _ _ q => XS.dstore X.here K.1 rfl (hb K.2.1 hd) rfl hl q) hr
theorem own_dstoreN (K : own_Cx p s m meth c Z own nm bytes maxL ret) {kk : Fin 4} {v : UInt64} (hd : own_D bytes pc (.dstore_n kk) 1 pc') (hl : storeLocals Ls kk.val (.double v) = some Ls') (hr : own_G w p l e R s m args below meth c Z Q h k n (mkF m pc' Ls' (st))) : own_G w p l e R s m args below meth c Z Q h k n (mkF m pc Ls (.double v :: st)) := by
  obtain ⟨hd, rfl⟩ := hd
  exact own_pure K (fun X _ _ _ _ q => XS.dstoreN X.here K.1 rfl (hb K.2.1 hd) rfl hl q) hr
theorem own_aload (K : own_Cx p s m meth c Z own nm bytes maxL ret) {kk : Nat} {v : Value} (hd : own_D bytes pc (.aload kk) 2 pc') (hl : Ls[kk]? = some (.val v)) (hv : v.isRef = true) (hr : own_G w p l e R s m args below meth c Z Q h k n (mkF m pc' Ls (v :: st))) : own_G w p l e R s m args below meth c Z Q h k n (mkF m pc Ls (st)) := by
  obtain ⟨hd, rfl⟩ := hd
  exact own_pure K (fun X _ _ _ _ q => XS.aload X.here K.1 rfl (hb K.2.1 hd) hl hv q) hr
theorem own_aloadN (K : own_Cx p s m meth c Z own nm bytes maxL ret) {kk : Fin 4} {v : Value} (hd : own_D bytes pc (.aload_n kk) 1 pc') (hl : Ls[kk.val]? = some (.val v)) (hv : v.isRef = true) (hr : own_G w p l e R s m args below meth c Z Q h k n (mkF m pc' Ls (v :: st))) : own_G w p l e R s m args below meth c Z Q h k n (mkF m pc Ls (st)) := by
  obtain ⟨hd, rfl⟩ := hd
  exact own_pure K (fun X _ _ _ _ q => XS.aloadN X.here K.1 rfl (hb K.2.1 hd) hl hv q) hr
theorem own_astore (K : own_Cx p s m meth c Z own nm bytes maxL ret) {kk : Nat} {v : Value} (hd : own_D bytes pc (.astore kk) 2 pc') (hv : v.isRef = true) (hl : storeLocals Ls kk v = some Ls') (hr : own_G w p l e R s m args below meth c Z Q h k n (mkF m pc' Ls' (st))) : own_G w p l e R s m args below meth c Z Q h k n (mkF m pc Ls (v :: st)) := by
  obtain ⟨hd, rfl⟩ := hd
  exact own_pure K (fun X _ _ _ _ q => XS.astore X.here K.1 rfl (hb K.2.1 hd) rfl hv hl q) hr
theorem own_astoreN (K : own_Cx p s m meth c Z own nm bytes maxL ret) {kk : Fin 4} {v : Value} (hd : own_D bytes pc (.astore_n kk) 1 pc') (hv : v.isRef = true) (hl : storeLocals Ls kk.val v = some Ls') (hr : own_G w p l e R s m args below meth c Z Q h k n (mkF m pc' Ls' (st))) : own_G w p l e R s m args below meth c Z Q h k n (mkF m pc Ls (v :: st)) := by
  obtain ⟨hd, rfl⟩ := hd
  exact own_pure K (fun X _ _ _ _ q => XS.astoreN X.here K.1 rfl (hb K.2.1 hd) rfl hv hl q) hr
theorem own_iconst (K : own_Cx p s m meth c Z own nm bytes maxL ret) {i : Int} {v : Int32} (hd : own_D bytes pc (.iconst i) 1 pc') (hv : Int32.ofInt i = v) (hr : own_G w p l e R s m args below meth c Z Q h k n (mkF m pc' Ls (.int v :: st))) : own_G w p l e R s m args below meth c Z Q h k n (mkF m pc Ls st) := by
  obtain ⟨hd, rfl⟩ := hd
  subst hv
  exact own_pure K (fun X _ _ _ _ q => XS.iconst X.here K.1 rfl (hb K.2.1 hd) q) hr
theorem own_bipush (K : own_Cx p s m meth c Z own nm bytes maxL ret) {i : Int} {v : Int32} (hd : own_D bytes pc (.bipush i) 2 pc') (hv : (Int8.ofInt i).toInt32 = v) (hr : own_G w p l e R s m args below meth c Z Q h k n (mkF m pc' Ls (.int v :: st))) : own_G w p l e R s m args below meth c Z Q h k n (mkF m pc Ls st) := by
  obtain ⟨hd, rfl⟩ := hd
  subst hv
  exact own_pure K (fun X _ _ _ _ q => XS.bipush X.here K.1 rfl (hb K.2.1 hd) q) hr
theorem own_sipush (K : own_Cx p s m meth c Z own nm bytes maxL ret) {i : Int} {v : Int32} (hd : own_D bytes pc (.sipush i) 3 pc') (hv : (Int16.ofInt i).toInt32 = v) (hr : own_G w p l e R s m args below meth c Z Q h k n (mkF m pc' Ls (.int v :: st))) : own_G w p l e R s m args below meth c Z Q h k n (mkF m pc Ls st) := by
  obtain ⟨hd, rfl⟩ := hd
  subst hv
  exact own_pure K (fun X _ _ _ _ q => XS.sipush X.here K.1 rfl (hb K.2.1 hd) q) hr
theorem own_lconst (K : own_Cx p s m meth c Z own nm bytes maxL ret) {i : Fin 2} {v : Int64} (hd : own_D bytes pc (.lconst i) 1 pc') (hv : Int64.ofNat i = v) (hr : own_G w p l e R s m args below meth c Z Q h k n (mkF m pc' Ls (.long v :: st))) : own_G w p l e R s m args below meth c Z Q h k n (mkF m pc Ls st) := by
  obtain ⟨hd, rfl⟩ := hd
  subst hv
  exact own_pure K (fun X _ _ _ _ q => XT.lconst X.here K.1 rfl (hb K.2.1 hd) q) hr
theorem own_dconst0 (K : own_Cx p s m meth c Z own nm bytes maxL ret) {v : UInt64} (hd : own_D bytes pc (.dconst 0) 1 pc') (hv : FP.dconst0 = v) (hr : own_G w p l e R s m args below meth c Z Q h k n (mkF m pc' Ls (.double v :: st))) : own_G w p l e R s m args below meth c Z Q h k n (mkF m pc Ls st) := by
  obtain ⟨hd, rfl⟩ := hd
  exact own_pure K (fun X _ _ _ _ q => XS.dconst0 X.here K.1 rfl (hb K.2.1 hd) hv q) hr
theorem own_dconst1 (K : own_Cx p s m meth c Z own nm bytes maxL ret) {v : UInt64} (hd : own_D bytes pc (.dconst 1) 1 pc') (hv : FP.dconst1 = v) (hr : own_G w p l e R s m args below meth c Z Q h k n (mkF m pc' Ls (.double v :: st))) : own_G w p l e R s m args below meth c Z Q h k n (mkF m pc Ls st) := by
  obtain ⟨hd, rfl⟩ := hd
  exact own_pure K (fun X _ _ _ _ q => XS.dconst1 X.here K.1 rfl (hb K.2.1 hd) hv q) hr
theorem own_aconstNull (K : own_Cx p s m meth c Z own nm bytes maxL ret)  (hd : own_D bytes pc (.aconst_null) 1 pc') (hr : own_G w p l e R s m args below meth c Z Q h k n (mkF m pc' Ls (.null :: st))) : own_G w p l e R s m args below meth c Z Q h k n (mkF m pc Ls (st)) := by
  obtain ⟨hd, rfl⟩ := hd
  exact own_pure K (fun X _ _ _ _ q => XS.aconstNull X.here K.1 rfl (hb K.2.1 hd)  q) hr
theorem own_iadd (K : own_Cx p s m meth c Z own nm bytes maxL ret) {x y : Int32} (hd : own_D bytes pc (.iadd) 1 pc') (hr : own_G w p l e R s m args below meth c Z Q h k n (mkF m pc' Ls (.int (x + y) :: st))) : own_G w p l e R s m args below meth c Z Q h k n (mkF m pc Ls (.int y :: .int x :: st)) := by
  obtain ⟨hd, rfl⟩ := hd
  exact own_pure K (fun X _ _ _ _ q => XS.iadd X.here K.1 rfl (hb K.2.1 hd) rfl q) hr
theorem own_isub (K : own_Cx p s m meth c Z own nm bytes maxL ret) {x y : Int32} (hd : own_D bytes pc (.isub) 1 pc') (hr : own_G w p l e R s m args below meth c Z Q h k n (mkF m pc' Ls (.int (x - y) :: st))) : own_G w p l e R s m args below meth c Z Q h k n (mkF m pc Ls (.int y :: .int x :: st)) := by
  obtain ⟨hd, rfl⟩ := hd
  exact own_pure K (fun X _ _ _ _ q => XS.isub X.here K.1 rfl (hb K.2.1 hd) rfl q) hr
theorem own_iand (K : own_Cx p s m meth c Z own nm bytes maxL ret) {x y : Int32} (hd : own_D bytes pc (.iand) 1 pc') (hr : own_G w p l e R s m args below meth c Z Q h k n (mkF m pc' Ls (.int (x &&& y) :: st))) : own_G w p l e R s m args below meth c Z Q h k n (mkF m pc Ls (.int y :: .int x :: st)) := by
  obtain ⟨hd, rfl⟩ := hd
  exact own_pure K (fun X _ _ _ _ q => XS.iand X.here K.1 rfl (hb K.2.1 hd) rfl q) hr
theorem own_imul (K : own_Cx p s m meth c Z own nm bytes maxL ret) {x y : Int32} (hd : own_D bytes pc (.imul) 1 pc') (hr : own_G w p l e R s m args below meth c Z Q h k n (mkF m pc' Ls (.int (x * y) :: st))) : own_G w p l e R s m args below meth c Z Q h k n (mkF m pc Ls (.int y :: .int x :: st)) := by
  obtain ⟨hd, rfl⟩ := hd
  exact own_pure K (fun X _ _ _ _ q => XS.imul X.here K.1 rfl (hb K.2.1 hd) rfl q) hr
theorem own_ixor (K : own_Cx p s m meth c Z own nm bytes maxL ret) {x y : Int32} (hd : own_D bytes pc (.ixor) 1 pc') (hr : own_G w p l e R s m args below meth c Z Q h k n (mkF m pc' Ls (.int (x ^^^ y) :: st))) : own_G w p l e R s m args below meth c Z Q h k n (mkF m pc Ls (.int y :: .int x :: st)) := by
  obtain ⟨hd, rfl⟩ := hd
  exact own_pure K (fun X _ _ _ _ q => XT.ixor X.here K.1 rfl (hb K.2.1 hd) rfl q) hr
theorem own_ior (K : own_Cx p s m meth c Z own nm bytes maxL ret) {x y : Int32} (hd : own_D bytes pc (.ior) 1 pc') (hr : own_G w p l e R s m args below meth c Z Q h k n (mkF m pc' Ls (.int (x ||| y) :: st))) : own_G w p l e R s m args below meth c Z Q h k n (mkF m pc Ls (.int y :: .int x :: st)) := by
  obtain ⟨hd, rfl⟩ := hd
  exact own_pure K (fun X _ _ _ _ q => XT.ior X.here K.1 rfl (hb K.2.1 hd) rfl q) hr
theorem own_ishl (K : own_Cx p s m meth c Z own nm bytes maxL ret) {x y : Int32} (hd : own_D bytes pc (.ishl) 1 pc') (hr : own_G w p l e R s m args below meth c Z Q h k n (mkF m pc' Ls (.int (x <<< (y &&& 31)) :: st))) : own_G w p l e R s m args below meth c Z Q h k n (mkF m pc Ls (.int y :: .int x :: st)) := by
  obtain ⟨hd, rfl⟩ := hd
  exact own_pure K (fun X _ _ _ _ q => XT.ishl X.here K.1 rfl (hb K.2.1 hd) rfl q) hr
theorem own_ishr (K : own_Cx p s m meth c Z own nm bytes maxL ret) {x y : Int32} (hd : own_D bytes pc (.ishr) 1 pc') (hr : own_G w p l e R s m args below meth c Z Q h k n (mkF m pc' Ls (.int (x >>> (y &&& 31)) :: st))) : own_G w p l e R s m args below meth c Z Q h k n (mkF m pc Ls (.int y :: .int x :: st)) := by
  obtain ⟨hd, rfl⟩ := hd
  exact own_pure K (fun X _ _ _ _ q => XT.ishr X.here K.1 rfl (hb K.2.1 hd) rfl q) hr
theorem own_iushr (K : own_Cx p s m meth c Z own nm bytes maxL ret) {x y : Int32} (hd : own_D bytes pc (.iushr) 1 pc') (hr : own_G w p l e R s m args below meth c Z Q h k n (mkF m pc' Ls (.int (XT.ushr x y) :: st))) : own_G w p l e R s m args below meth c Z Q h k n (mkF m pc Ls (.int y :: .int x :: st)) := by
  obtain ⟨hd, rfl⟩ := hd
  exact own_pure K (fun X _ _ _ _ q => XT.iushr X.here K.1 rfl (hb K.2.1 hd) rfl q) hr
theorem own_ladd (K : own_Cx p s m meth c Z own nm bytes maxL ret) {x y : Int64} (hd : own_D bytes pc (.ladd) 1 pc') (hr : own_G w p l e R s m args below meth c Z Q h k n (mkF m pc' Ls (.long (x + y) :: st))) : own_G w p l e R s m args below meth c Z Q h k n (mkF m pc Ls (.long y :: .long x :: st)) := by
  obtain ⟨hd, rfl⟩ := hd
  exact own_pure K (fun X _ _ _ _ q => XT.ladd X.here K.1 rfl (hb K.2.1 hd) rfl q) hr
theorem own_lsub (K : own_Cx p s m meth c Z own nm bytes maxL ret) {x y : Int64} (hd : own_D bytes pc (.lsub) 1 pc') (hr : own_G w p l e R s m args below meth c Z Q h k n (mkF m pc' Ls (.long (x - y) :: st))) : own_G w p l e R s m args below meth c Z Q h k n (mkF m pc Ls (.long y :: .long x :: st)) := by
  obtain ⟨hd, rfl⟩ := hd
  exact own_pure K (fun X _ _ _ _ q => XT.lsub X.here K.1 rfl (hb K.2.1 hd) rfl q) hr
theorem own_lmul (K : own_Cx p s m meth c Z own nm bytes maxL ret) {x y : Int64} (hd : own_D bytes pc (.lmul) 1 pc') (hr : own_G w p l e R s m args below meth c Z Q h k n (mkF m pc' Ls (.long (x * y) :: st))) : own_G w p l e R s m args below meth c Z Q h k n (mkF m pc Ls (.long y :: .long x :: st)) := by
  obtain ⟨hd, rfl⟩ := hd
  exact own_pure K (fun X _ _ _ _ q => XT.lmul X.here K.1 rfl (hb K.2.1 hd) rfl q) hr
theorem own_land (K : own_Cx p s m meth c Z own nm bytes maxL ret) {x y : Int64} (hd : own_D bytes pc (.land) 1 pc') (hr : own_G w p l e R s m args below meth c Z Q h k n (mkF m pc' Ls (.long (x &&& y) :: st))) : own_G w p l e R s m args below meth c Z Q h k n (mkF m pc Ls (.long y :: .long x :: st)) := by
  obtain ⟨hd, rfl⟩ := hd
  exact own_pure K (fun X _ _ _ _ q => XT.land X.here K.1 rfl (hb K.2.1 hd) rfl q) hr
theorem own_lor (K : own_Cx p s m meth c Z own nm bytes maxL ret) {x y : Int64} (hd : own_D bytes pc (.lor) 1 pc') (hr : own_G w p l e R s m args below meth c Z Q h k n (mkF m pc' Ls (.long (x ||| y) :: st))) : own_G w p l e R s m args below meth c Z Q h k n (mkF m pc Ls (.long y :: .long x :: st)) := by
  obtain ⟨hd, rfl⟩ := hd
  exact own_pure K (fun X _ _ _ _ q => XT.lor X.here K.1 rfl (hb K.2.1 hd) rfl q) hr
theorem own_lxor (K : own_Cx p s m meth c Z own nm bytes maxL ret) {x y : Int64} (hd : own_D bytes pc (.lxor) 1 pc') (hr : own_G w p l e R s m args below meth c Z Q h k n (mkF m pc' Ls (.long (x ^^^ y) :: st))) : own_G w p l e R s m args below meth c Z Q h k n (mkF m pc Ls (.long y :: .long x :: st)) := by
  obtain ⟨hd, rfl⟩ := hd
  exact own_pure K (fun X _ _ _ _ q => XT.lxor X.here K.1 rfl (hb K.2.1 hd) rfl q) hr
theorem own_lshl (K : own_Cx p s m meth c Z own nm bytes maxL ret) {x : Int64} {y : Int32} (hd : own_D bytes pc (.lshl) 1 pc') (hr : own_G w p l e R s m args below meth c Z Q h k n (mkF m pc' Ls (.long (x <<< (y.toInt64 &&& 63)) :: st))) : own_G w p l e R s m args below meth c Z Q h k n (mkF m pc Ls (.int y :: .long x :: st)) := by
  obtain ⟨hd, rfl⟩ := hd
  exact own_pure K (fun X _ _ _ _ q => XT.lshl X.here K.1 rfl (hb K.2.1 hd) rfl q) hr
theorem own_lshr (K : own_Cx p s m meth c Z own nm bytes maxL ret) {x : Int64} {y : Int32} (hd : own_D bytes pc (.lshr) 1 pc') (hr : own_G w p l e R s m args below meth c Z Q h k n (mkF m pc' Ls (.long (x >>> (y.toInt64 &&& 63)) :: st))) : own_G w p l e R s m args below meth c Z Q h k n (mkF m pc Ls (.int y :: .long x :: st)) := by
  obtain ⟨hd, rfl⟩ := hd
  exact own_pure K (fun X _ _ _ _ q => XT.lshr X.here K.1 rfl (hb K.2.1 hd) rfl q) hr
theorem own_lushr (K : own_Cx p s m meth c Z own nm bytes maxL ret) {x : Int64} {y : Int32} (hd : own_D bytes pc (.lushr) 1 pc') (hr : own_G w p l e R s m args below meth c Z Q h k n (mkF m pc' Ls (.long (XT.ushrL x y) :: st))) : own_G w p l e R s m args below meth c Z Q h k n (mkF m pc Ls (.int y :: .long x :: st)) := by
  obtain ⟨hd, rfl⟩ := hd
  exact own_pure K (fun X _ _ _ _ q => XT.lushr X.here K.1 rfl (hb K.2.1 hd) rfl q) hr
theorem own_lcmp (K : own_Cx p s m meth c Z own nm bytes maxL ret) {x y : Int64} (hd : own_D bytes pc (.lcmp) 1 pc') (hr : own_G w p l e R s m args below meth c Z Q h k n (mkF m pc' Ls (.int (XT.cmpL x y) :: st))) : own_G w p l e R s m args below meth c Z Q h k n (mkF m pc Ls (.long y :: .long x :: st)) := by
  obtain ⟨hd, rfl⟩ := hd
  exact own_pure K (fun X _ _ _ _ q => XT.lcmp X.here K.1 rfl (hb K.2.1 hd) rfl q) hr
theorem own_idiv (K : own_Cx p s m meth c Z own nm bytes maxL ret) {x y : Int32} (hd : own_D bytes pc (.idiv) 1 pc') (hy : y ≠ 0) (hr : own_G w p l e R s m args below meth c Z Q h k n (mkF m pc' Ls (.int (x / y) :: st))) : own_G w p l e R s m args below meth c Z Q h k n (mkF m pc Ls (.int y :: .int x :: st)) := by
  obtain ⟨hd, rfl⟩ := hd
  exact own_pure K (fun X _ _ _ _ q => XS.idiv X.here K.1 rfl (hb K.2.1 hd) rfl hy q) hr
theorem own_ldiv (K : own_Cx p s m meth c Z own nm bytes maxL ret) {x y : Int64} (hd : own_D bytes pc (.ldiv) 1 pc') (hy : y ≠ 0) (hr : own_G w p l e R s m args below meth c Z Q h k n (mkF m pc' Ls (.long (x / y) :: st))) : own_G w p l e R s m args below meth c Z Q h k n (mkF m pc Ls (.long y :: .long x :: st)) := by
  obtain ⟨hd, rfl⟩ := hd
  exact own_pure K (fun X _ _ _ _ q => XT.ldiv X.here K.1 rfl (hb K.2.1 hd) rfl hy q) hr
theorem own_irem (K : own_Cx p s m meth c Z own nm bytes maxL ret) {x y : Int32} (hd : own_D bytes pc .irem 1 pc') (hy : y ≠ 0) (hr : own_G w p l e R s m args below meth c Z Q h k n (mkF m pc' Ls (.int (x % y) :: st))) : own_G w p l e R s m args below meth c Z Q h k n (mkF m pc Ls (.int y :: .int x :: st)) := by
  obtain ⟨hd, rfl⟩ := hd
  exact own_pure K (fun X _ _ _ _ q => iremM X K.1 rfl (hb K.2.1 hd) rfl hy q) hr
theorem own_ineg (K : own_Cx p s m meth c Z own nm bytes maxL ret) {x : Int32} (hd : own_D bytes pc (.ineg) 1 pc') (hr : own_G w p l e R s m args below meth c Z Q h k n (mkF m pc' Ls (.int (-x) :: st))) : own_G w p l e R s m args below meth c Z Q h k n (mkF m pc Ls (.int x :: st)) := by
  obtain ⟨hd, rfl⟩ := hd
  exact own_pure K (fun X _ _ _ _ q => XS.ineg X.here K.1 rfl (hb K.2.1 hd) rfl q) hr
theorem own_lneg (K : own_Cx p s m meth c Z own nm bytes maxL ret) {x : Int64} (hd : own_D bytes pc (.lneg) 1 pc') (hr : own_G w p l e R s m args below meth c Z Q h k n (mkF m pc' Ls (.long (-x) :: st))) : own_G w p l e R s m args below meth c Z Q h k n (mkF m pc Ls (.long x :: st)) := by
  obtain ⟨hd, rfl⟩ := hd
  exact own_pure K (fun X _ _ _ _ q => XT.lneg X.here K.1 rfl (hb K.2.1 hd) rfl q) hr
theorem own_i2l (K : own_Cx p s m meth c Z own nm bytes maxL ret) {x : Int32} (hd : own_D bytes pc (.i2l) 1 pc') (hr : own_G w p l e R s m args below meth c Z Q h k n (mkF m pc' Ls (.long (x.toInt64) :: st))) : own_G w p l e R s m args below meth c Z Q h k n (mkF m pc Ls (.int x :: st)) := by
  obtain ⟨hd, rfl⟩ := hd
  exact own_pure K (fun X _ _ _ _ q => XT.i2l X.here K.1 rfl (hb K.2.1 hd) rfl q) hr
theorem own_l2i (K : own_Cx p s m meth c Z own nm bytes maxL ret) {x : Int64} (hd : own_D bytes pc (.l2i) 1 pc') (hr : own_G w p l e R s m args below meth c Z Q h k n (mkF m pc' Ls (.int (x.toInt32) :: st))) : own_G w p l e R s m args below meth c Z Q h k n (mkF m pc Ls (.long x :: st)) := by
  obtain ⟨hd, rfl⟩ := hd
  exact own_pure K (fun X _ _ _ _ q => XT.l2i X.here K.1 rfl (hb K.2.1 hd) rfl q) hr
theorem own_i2b (K : own_Cx p s m meth c Z own nm bytes maxL ret) {x : Int32} (hd : own_D bytes pc (.i2b) 1 pc') (hr : own_G w p l e R s m args below meth c Z Q h k n (mkF m pc' Ls (.int (x.toInt8.toInt32) :: st))) : own_G w p l e R s m args below meth c Z Q h k n (mkF m pc Ls (.int x :: st)) := by
  obtain ⟨hd, rfl⟩ := hd
  exact own_pure K (fun X _ _ _ _ q => XT.i2b X.here K.1 rfl (hb K.2.1 hd) rfl q) hr
theorem own_i2c (K : own_Cx p s m meth c Z own nm bytes maxL ret) {x : Int32} (hd : own_D bytes pc (.i2c) 1 pc') (hr : own_G w p l e R s m args below meth c Z Q h k n (mkF m pc' Ls (.int (x.toUInt32.toUInt16.toUInt32.toInt32) :: st))) : own_G w p l e R s m args below meth c Z Q h k n (mkF m pc Ls (.int x :: st)) := by
  obtain ⟨hd, rfl⟩ := hd
  exact own_pure K (fun X _ _ _ _ q => XT.i2c X.here K.1 rfl (hb K.2.1 hd) rfl q) hr
theorem own_i2s (K : own_Cx p s m meth c Z own nm bytes maxL ret) {x : Int32} (hd : own_D bytes pc (.i2s) 1 pc') (hr : own_G w p l e R s m args below meth c Z Q h k n (mkF m pc' Ls (.int (x.toInt16.toInt32) :: st))) : own_G w p l e R s m args below meth c Z Q h k n (mkF m pc Ls (.int x :: st)) := by
  obtain ⟨hd, rfl⟩ := hd
  exact own_pure K (fun X _ _ _ _ q => XT.i2s X.here K.1 rfl (hb K.2.1 hd) rfl q) hr
theorem own_i2d (K : own_Cx p s m meth c Z own nm bytes maxL ret) {x : Int32} (hd : own_D bytes pc (.i2d) 1 pc') (hr : own_G w p l e R s m args below meth c Z Q h k n (mkF m pc' Ls (.double (FP.i2d x) :: st))) : own_G w p l e R s m args below meth c Z Q h k n (mkF m pc Ls (.int x :: st)) := by
  obtain ⟨hd, rfl⟩ := hd
  exact own_pure K (fun X _ _ _ _ q => XS.i2dS X.here K.1 rfl (hb K.2.1 hd) rfl rfl q) hr
theorem own_l2d (K : own_Cx p s m meth c Z own nm bytes maxL ret) {x : Int64} (hd : own_D bytes pc (.l2d) 1 pc') (hr : own_G w p l e R s m args below meth c Z Q h k n (mkF m pc' Ls (.double (FP.l2d x) :: st))) : own_G w p l e R s m args below meth c Z Q h k n (mkF m pc Ls (.long x :: st)) := by
  obtain ⟨hd, rfl⟩ := hd
  exact own_pure K (fun X _ _ _ _ q => XS.l2dS X.here K.1 rfl (hb K.2.1 hd) rfl rfl q) hr
theorem own_dneg (K : own_Cx p s m meth c Z own nm bytes maxL ret) {x : UInt64} (hd : own_D bytes pc (.dneg) 1 pc') (hr : own_G w p l e R s m args below meth c Z Q h k n (mkF m pc' Ls (.double (FP.dneg x) :: st))) : own_G w p l e R s m args below meth c Z Q h k n (mkF m pc Ls (.double x :: st)) := by
  obtain ⟨hd, rfl⟩ := hd
  exact own_pure K (fun X _ _ _ _ q => XS.dnegS X.here K.1 rfl (hb K.2.1 hd) rfl rfl q) hr
theorem own_dcmp (K : own_Cx p s m meth c Z own nm bytes maxL ret) {oo : CmpOp} {x y : UInt64} (hd : own_D bytes pc (.dcmp oo) 1 pc') (hr : own_G w p l e R s m args below meth c Z Q h k n (mkF m pc' Ls (.int (cmpValue (FP.dcmp x y) oo) :: st))) : own_G w p l e R s m args below meth c Z Q h k n (mkF m pc Ls (.double y :: .double x :: st)) := by
  obtain ⟨hd, rfl⟩ := hd
  exact own_pure K (fun X _ _ _ _ q => XS.dcmpS X.here K.1 rfl (hb K.2.1 hd) rfl rfl q) hr
theorem own_dadd (K : own_Cx p s m meth c Z own nm bytes maxL ret) {x y : UInt64} (hd : own_D bytes pc (.dadd) 1 pc') (hn : Jvm.Free.Fl.NoNaN64 (FP.dadd x y)) (hr : own_G w p l e R s m args below meth c Z Q h k n (mkF m pc' Ls (.double (FP.dadd x y) :: st))) : own_G w p l e R s m args below meth c Z Q h k n (mkF m pc Ls (.double y :: .double x :: st)) := by
  obtain ⟨hd, rfl⟩ := hd
  exact own_pure K (fun X _ _ _ _ q => XS.daddS X.here K.1 rfl (hb K.2.1 hd) rfl hn rfl q) hr
theorem own_dsub (K : own_Cx p s m meth c Z own nm bytes maxL ret) {x y : UInt64} (hd : own_D bytes pc (.dsub) 1 pc') (hn : Jvm.Free.Fl.NoNaN64 (FP.dsub x y)) (hr : own_G w p l e R s m args below meth c Z Q h k n (mkF m pc' Ls (.double (FP.dsub x y) :: st))) : own_G w p l e R s m args below meth c Z Q h k n (mkF m pc Ls (.double y :: .double x :: st)) := by
  obtain ⟨hd, rfl⟩ := hd
  exact own_pure K (fun X _ _ _ _ q => XS.dsubS X.here K.1 rfl (hb K.2.1 hd) rfl hn rfl q) hr
theorem own_dmul (K : own_Cx p s m meth c Z own nm bytes maxL ret) {x y : UInt64} (hd : own_D bytes pc (.dmul) 1 pc') (hn : Jvm.Free.Fl.NoNaN64 (FP.dmul x y)) (hr : own_G w p l e R s m args below meth c Z Q h k n (mkF m pc' Ls (.double (FP.dmul x y) :: st))) : own_G w p l e R s m args below meth c Z Q h k n (mkF m pc Ls (.double y :: .double x :: st)) := by
  obtain ⟨hd, rfl⟩ := hd
  exact own_pure K (fun X _ _ _ _ q => XS.dmulS X.here K.1 rfl (hb K.2.1 hd) rfl hn rfl q) hr
theorem own_ddiv (K : own_Cx p s m meth c Z own nm bytes maxL ret) {x y : UInt64} (hd : own_D bytes pc (.ddiv) 1 pc') (hn : Jvm.Free.Fl.NoNaN64 (FP.ddiv x y)) (hr : own_G w p l e R s m args below meth c Z Q h k n (mkF m pc' Ls (.double (FP.ddiv x y) :: st))) : own_G w p l e R s m args below meth c Z Q h k n (mkF m pc Ls (.double y :: .double x :: st)) := by
  obtain ⟨hd, rfl⟩ := hd
  exact own_pure K (fun X _ _ _ _ q => XS.ddivS X.here K.1 rfl (hb K.2.1 hd) rfl hn rfl q) hr
theorem own_dup (K : own_Cx p s m meth c Z own nm bytes maxL ret) {x : Value} (hd : own_D bytes pc (.dup) 1 pc') (hc : x.category = 1) (hr : own_G w p l e R s m args below meth c Z Q h k n (mkF m pc' Ls (x :: x :: st))) : own_G w p l e R s m args below meth c Z Q h k n (mkF m pc Ls (x :: st)) := by
  obtain ⟨hd, rfl⟩ := hd
  exact own_pure K (fun X _ _ _ _ q => XS.dup X.here K.1 rfl (hb K.2.1 hd) rfl hc q) hr
theorem own_pop (K : own_Cx p s m meth c Z own nm bytes maxL ret) {x : Value} (hd : own_D bytes pc (.pop) 1 pc') (hc : x.category = 1) (hr : own_G w p l e R s m args below meth c Z Q h k n (mkF m pc' Ls (st))) : own_G w p l e R s m args below meth c Z Q h k n (mkF m pc Ls (x :: st)) := by
  obtain ⟨hd, rfl⟩ := hd
  exact own_pure K (fun X _ _ _ _ q => XT.pop X.here K.1 rfl (hb K.2.1 hd) rfl hc q) hr
theorem own_dupX1 (K : own_Cx p s m meth c Z own nm bytes maxL ret) {x y : Value} (hd : own_D bytes pc (.dup_x1) 1 pc') (hc : x.category = 1) (hc' : y.category = 1) (hr : own_G w p l e R s m args below meth c Z Q h k n (mkF m pc' Ls (x :: y :: x :: st))) : own_G w p l e R s m args below meth c Z Q h k n (mkF m pc Ls (x :: y :: st)) := by
  obtain ⟨hd, rfl⟩ := hd
  exact own_pure K (fun X _ _ _ _ q => XT.dupX1 X.here K.1 rfl (hb K.2.1 hd) rfl hc hc' q) hr
theorem own_dup2 (K : own_Cx p s m meth c Z own nm bytes maxL ret) {x y : Value} (hd : own_D bytes pc (.dup2) 1 pc') (hc : x.category = 1) (hc' : y.category = 1) (hr : own_G w p l e R s m args below meth c Z Q h k n (mkF m pc' Ls (x :: y :: x :: y :: st))) : own_G w p l e R s m args below meth c Z Q h k n (mkF m pc Ls (x :: y :: st)) := by
  obtain ⟨hd, rfl⟩ := hd
  exact own_pure K (fun X _ _ _ _ q => XT.dup2 X.here K.1 rfl (hb K.2.1 hd) rfl hc hc' q) hr
theorem own_iinc (K : own_Cx p s m meth c Z own nm bytes maxL ret) {kk : Nat} {cst : Int} {x y : Int32} (hd : own_D bytes pc (.iinc kk cst) 3 pc') (hl : Ls[kk]? = some (.val (.int x))) (hy : x + Int32.ofInt cst = y) (hl' : storeLocals Ls kk (.int y) = some Ls') (hr : own_G w p l e R s m args below meth c Z Q h k n (mkF m pc' Ls' st)) : own_G w p l e R s m args below meth c Z Q h k n (mkF m pc Ls st) := by
  obtain ⟨hd, rfl⟩ := hd
  subst hy
  exact own_pure K (fun X _ _ _ _ q => XS.iinc X.here K.1 rfl (hb K.2.1 hd) hl hl' q) hr
theorem own_goto (K : own_Cx p s m meth c Z own nm bytes maxL ret) {off : Int} {pcF : Nat} (hd : own_B bytes pc (.goto off) off pcF pcT) (hr : own_G w p l e R s m args below meth c Z Q h k n (mkF m pcT Ls st)) : own_G w p l e R s m args below meth c Z Q h k n (mkF m pc Ls st) := by
  obtain ⟨hd, -, h1, h2⟩ := hd
  exact own_pure K (fun X _ _ _ _ q => XS.goto X.here K.1 rfl rfl (hb K.2.1 hd) h1 h2 q) hr
theorem own_ldcI (K : own_Cx p s m meth c Z own nm bytes maxL ret) {i : Nat} {v : Int32} (hd : own_D bytes pc (.ldc i) 2 pc') (wc : (Cond.constant own i v).before a0 Z = true) (hr : own_G w p l e R s m args below meth c Z Q h k n (mkF m pc' Ls (.int v :: st))) : own_G w p l e R s m args below meth c Z Q h k n (mkF m pc Ls st) := by
  obtain ⟨hd, rfl⟩ := hd
  exact own_pure K (fun X hZ ho _ _ q => X.ldcI K.1 ho (mvT hZ wc) rfl (hb K.2.1 hd) q) hr
theorem own_ldc2J (K : own_Cx p s m meth c Z own nm bytes maxL ret) {i : Nat} {v : Int64} (hd : own_D bytes pc (.ldc2_w i) 3 pc') (wc : (Cond.constantLong own i v).before a0 Z = true) (hr : own_G w p l e R s m args below meth c Z Q h k n (mkF m pc' Ls (.long v :: st))) : own_G w p l e R s m args below meth c Z Q h k n (mkF m pc Ls st) := by
  obtain ⟨hd, rfl⟩ := hd
  exact own_pure K (fun X hZ ho _ _ q => X.ldc2J K.1 ho (mvT hZ wc) rfl (hb K.2.1 hd) q) hr
theorem own_ldc2D (K : own_Cx p s m meth c Z own nm bytes maxL ret) {i : Nat} {v : UInt64} (hd : own_D bytes pc (.ldc2_w i) 3 pc') (wc : (Cond.constantDouble own i v).before a0 Z = true) (hr : own_G w p l e R s m args below meth c Z Q h k n (mkF m pc' Ls (.double v :: st))) : own_G w p l e R s m args below meth c Z Q h k n (mkF m pc Ls st) := by
  obtain ⟨hd, rfl⟩ := hd
  exact own_pure K (fun X hZ ho _ _ q => X.ldc2DoubleC K.1 ho (mvT hZ wc) (g := mkF m pc Ls st) rfl (hb K.2.1 hd) _ q) hr
theorem own_i0_eq (x : Int32) : (ifCond.holds .eq x = true) = (x = 0) := by simp [ifCond.holds, Int32.lt_iff_toInt_lt, Int32.le_iff_toInt_le]
theorem own_ii_eq (x y : Int32) : (if_icmp.holds .eq x y = true) = (x = y) := by simp [if_icmp.holds, Int32.lt_iff_toInt_lt, Int32.le_iff_toInt_le]
theorem own_ifeq (K : own_Cx p s m meth c Z own nm bytes maxL ret) {off : Int} {pcF : Nat} {x : Int32} (hd : own_B bytes pc (.ifCond .eq off) off pcF pcT) (hT : (x = 0) → own_G w p l e R s m args below meth c Z Q h k n (mkF m pcT Ls st)) (hF : ¬ (x = 0) → own_G w p l e R s m args below meth c Z Q h k n (mkF m pcF Ls st)) : own_G w p l e R s m args below meth c Z Q h k n (mkF m pc Ls (.int x :: st)) := by
  obtain ⟨hd, rfl, h1, h2⟩ := hd
  by_cases q : ifCond.holds .eq x = true
  · exact own_pure K (fun X _ _ _ _ r => XS.ifYes X.here K.1 rfl rfl (hb K.2.1 hd) rfl q h1 h2 r) (hT ((own_i0_eq x).mp q))
  · exact own_pure K (fun X _ _ _ _ r => XS.ifNo X.here K.1 rfl (hb K.2.1 hd) rfl (Bool.eq_false_iff.mpr q) r) (hF fun z => q ((own_i0_eq x).mpr z))
theorem own_icmpeq (K : own_Cx p s m meth c Z own nm bytes maxL ret) {off : Int} {pcF : Nat} {x y : Int32} (hd : own_B bytes pc (.if_icmp .eq off) off pcF pcT) (hT : (x = y) → own_G w p l e R s m args below meth c Z Q h k n (mkF m pcT Ls st)) (hF : ¬ (x = y) → own_G w p l e R s m args below meth c Z Q h k n (mkF m pcF Ls st)) : own_G w p l e R s m args below meth c Z Q h k n (mkF m pc Ls (.int y :: .int x :: st)) := by
  obtain ⟨hd, rfl, h1, h2⟩ := hd
  by_cases q : if_icmp.holds .eq x y = true
  · exact own_pure K (fun X _ _ _ _ r => XS.icmpYes X.here K.1 rfl rfl (hb K.2.1 hd) rfl q h1 h2 r) (hT ((own_ii_eq x y).mp q))
  · exact own_pure K (fun X _ _ _ _ r => XS.icmpNo X.here K.1 rfl (hb K.2.1 hd) rfl (Bool.eq_false_iff.mpr q) r) (hF fun z => q ((own_ii_eq x y).mpr z))
theorem own_i0_ne (x : Int32) : (ifCond.holds .ne x = true) = (x ≠ 0) := by simp [ifCond.holds, Int32.lt_iff_toInt_lt, Int32.le_iff_toInt_le]
theorem own_ii_ne (x y : Int32) : (if_icmp.holds .ne x y = true) = (x ≠ y) := by simp [if_icmp.holds, Int32.lt_iff_toInt_lt, Int32.le_iff_toInt_le]
theorem own_ifne (K : own_Cx p s m meth c Z own nm bytes maxL ret) {off : Int} {pcF : Nat} {x : Int32} (hd : own_B bytes pc (.ifCond .ne off) off pcF pcT) (hT : (x ≠ 0) → own_G w p l e R s m args below meth c Z Q h k n (mkF m pcT Ls st)) (hF : ¬ (x ≠ 0) → own_G w p l e R s m args below meth c Z Q h k n (mkF m pcF Ls st)) : own_G w p l e R s m args below meth c Z Q h k n (mkF m pc Ls (.int x :: st)) := by
  obtain ⟨hd, rfl, h1, h2⟩ := hd
  by_cases q : ifCond.holds .ne x = true
  · exact own_pure K (fun X _ _ _ _ r => XS.ifYes X.here K.1 rfl rfl (hb K.2.1 hd) rfl q h1 h2 r) (hT ((own_i0_ne x).mp q))
  · exact own_pure K (fun X _ _ _ _ r => XS.ifNo X.here K.1 rfl (hb K.2.1 hd) rfl (Bool.eq_false_iff.mpr q) r) (hF fun z => q ((own_i0_ne x).mpr z))
theorem own_icmpne (K : own_Cx p s m meth c Z own nm bytes maxL ret) {off : Int} {pcF : Nat} {x y : Int32} (hd : own_B bytes pc (.if_icmp .ne off) off pcF pcT) (hT : (x ≠ y) → own_G w p l e R s m args below meth c Z Q h k n (mkF m pcT Ls st)) (hF : ¬ (x ≠ y) → own_G w p l e R s m args below meth c Z Q h k n (mkF m pcF Ls st)) : own_G w p l e R s m args below meth c Z Q h k n (mkF m pc Ls (.int y :: .int x :: st)) := by
  obtain ⟨hd, rfl, h1, h2⟩ := hd
  by_cases q : if_icmp.holds .ne x y = true
  · exact own_pure K (fun X _ _ _ _ r => XS.icmpYes X.here K.1 rfl rfl (hb K.2.1 hd) rfl q h1 h2 r) (hT ((own_ii_ne x y).mp q))
  · exact own_pure K (fun X _ _ _ _ r => XS.icmpNo X.here K.1 rfl (hb K.2.1 hd) rfl (Bool.eq_false_iff.mpr q) r) (hF fun z => q ((own_ii_ne x y).mpr z))
theorem own_i0_lt (x : Int32) : (ifCond.holds .lt x = true) = (x.toInt < 0) := by simp [ifCond.holds, Int32.lt_iff_toInt_lt, Int32.le_iff_toInt_le]
theorem own_ii_lt (x y : Int32) : (if_icmp.holds .lt x y = true) = (x.toInt < y.toInt) := by simp [if_icmp.holds, Int32.lt_iff_toInt_lt, Int32.le_iff_toInt_le]
theorem own_iflt (K : own_Cx p s m meth c Z own nm bytes maxL ret) {off : Int} {pcF : Nat} {x : Int32} (hd : own_B bytes pc (.ifCond .lt off) off pcF pcT) (hT : (x.toInt < 0) → own_G w p l e R s m args below meth c Z Q h k n (mkF m pcT Ls st)) (hF : ¬ (x.toInt < 0) → own_G w p l e R s m args below meth c Z Q h k n (mkF m pcF Ls st)) : own_G w p l e R s m args below meth c Z Q h k n (mkF m pc Ls (.int x :: st)) := by
  obtain ⟨hd, rfl, h1, h2⟩ := hd
  by_cases q : ifCond.holds .lt x = true
  · exact own_pure K (fun X _ _ _ _ r => XS.ifYes X.here K.1 rfl rfl (hb K.2.1 hd) rfl q h1 h2 r) (hT ((own_i0_lt x).mp q))
  · exact own_pure K (fun X _ _ _ _ r => XS.ifNo X.here K.1 rfl (hb K.2.1 hd) rfl (Bool.eq_false_iff.mpr q) r) (hF fun z => q ((own_i0_lt x).mpr z))
theorem own_icmplt (K : own_Cx p s m meth c Z own nm bytes maxL ret) {off : Int} {pcF : Nat} {x y : Int32} (hd : own_B bytes pc (.if_icmp .lt off) off pcF pcT) (hT : (x.toInt < y.toInt) → own_G w p l e R s m args below meth c Z Q h k n (mkF m pcT Ls st)) (hF : ¬ (x.toInt < y.toInt) → own_G w p l e R s m args below meth c Z Q h k n (mkF m pcF Ls st)) : own_G w p l e R s m args below meth c Z Q h k n (mkF m pc Ls (.int y :: .int x :: st)) := by
  obtain ⟨hd, rfl, h1, h2⟩ := hd
  by_cases q : if_icmp.holds .lt x y = true
  · exact own_pure K (fun X _ _ _ _ r => XS.icmpYes X.here K.1 rfl rfl (hb K.2.1 hd) rfl q h1 h2 r) (hT ((own_ii_lt x y).mp q))
  · exact own_pure K (fun X _ _ _ _ r => XS.icmpNo X.here K.1 rfl (hb K.2.1 hd) rfl (Bool.eq_false_iff.mpr q) r) (hF fun z => q ((own_ii_lt x y).mpr z))
theorem own_i0_ge (x : Int32) : (ifCond.holds .ge x = true) = (0 ≤ x.toInt) := by simp [ifCond.holds, Int32.lt_iff_toInt_lt, Int32.le_iff_toInt_le]
theorem own_ii_ge (x y : Int32) : (if_icmp.holds .ge x y = true) = (y.toInt ≤ x.toInt) := by simp [if_icmp.holds, Int32.lt_iff_toInt_lt, Int32.le_iff_toInt_le]
theorem own_ifge (K : own_Cx p s m meth c Z own nm bytes maxL ret) {off : Int} {pcF : Nat} {x : Int32} (hd : own_B bytes pc (.ifCond .ge off) off pcF pcT) (hT : (0 ≤ x.toInt) → own_G w p l e R s m args below meth c Z Q h k n (mkF m pcT Ls st)) (hF : ¬ (0 ≤ x.toInt) → own_G w p l e R s m args below meth c Z Q h k n (mkF m pcF Ls st)) : own_G w p l e R s m args below meth c Z Q h k n (mkF m pc Ls (.int x :: st)) := by
  obtain ⟨hd, rfl, h1, h2⟩ := hd
  by_cases q : ifCond.holds .ge x = true
  · exact own_pure K (fun X _ _ _ _ r => XS.ifYes X.here K.1 rfl rfl (hb K.2.1 hd) rfl q h1 h2 r) (hT ((own_i0_ge x).mp q))
  · exact own_pure K (fun X _ _ _ _ r => XS.ifNo X.here K.1 rfl (hb K.2.1 hd) rfl (Bool.eq_false_iff.mpr q) r) (hF fun z => q ((own_i0_ge x).mpr z))
theorem own_icmpge (K : own_Cx p s m meth c Z own nm bytes maxL ret) {off : Int} {pcF : Nat} {x y : Int32} (hd : own_B bytes pc (.if_icmp .ge off) off pcF pcT) (hT : (y.toInt ≤ x.toInt) → own_G w p l e R s m args below meth c Z Q h k n (mkF m pcT Ls st)) (hF : ¬ (y.toInt ≤ x.toInt) → own_G w p l e R s m args below meth c Z Q h k n (mkF m pcF Ls st)) : own_G w p l e R s m args below meth c Z Q h k n (mkF m pc Ls (.int y :: .int x :: st)) := by
  obtain ⟨hd, rfl, h1, h2⟩ := hd
  by_cases q : if_icmp.holds .ge x y = true
  · exact own_pure K (fun X _ _ _ _ r => XS.icmpYes X.here K.1 rfl rfl (hb K.2.1 hd) rfl q h1 h2 r) (hT ((own_ii_ge x y).mp q))
  · exact own_pure K (fun X _ _ _ _ r => XS.icmpNo X.here K.1 rfl (hb K.2.1 hd) rfl (Bool.eq_false_iff.mpr q) r) (hF fun z => q ((own_ii_ge x y).mpr z))
theorem own_i0_gt (x : Int32) : (ifCond.holds .gt x = true) = (0 < x.toInt) := by simp [ifCond.holds, Int32.lt_iff_toInt_lt, Int32.le_iff_toInt_le]
theorem own_ii_gt (x y : Int32) : (if_icmp.holds .gt x y = true) = (y.toInt < x.toInt) := by simp [if_icmp.holds, Int32.lt_iff_toInt_lt, Int32.le_iff_toInt_le]
theorem own_ifgt (K : own_Cx p s m meth c Z own nm bytes maxL ret) {off : Int} {pcF : Nat} {x : Int32} (hd : own_B bytes pc (.ifCond .gt off) off pcF pcT) (hT : (0 < x.toInt) → own_G w p l e R s m args below meth c Z Q h k n (mkF m pcT Ls st)) (hF : ¬ (0 < x.toInt) → own_G w p l e R s m args below meth c Z Q h k n (mkF m pcF Ls st)) : own_G w p l e R s m args below meth c Z Q h k n (mkF m pc Ls (.int x :: st)) := by
  obtain ⟨hd, rfl, h1, h2⟩ := hd
  by_cases q : ifCond.holds .gt x = true
  · exact own_pure K (fun X _ _ _ _ r => XS.ifYes X.here K.1 rfl rfl (hb K.2.1 hd) rfl q h1 h2 r) (hT ((own_i0_gt x).mp q))
  · exact own_pure K (fun X _ _ _ _ r => XS.ifNo X.here K.1 rfl (hb K.2.1 hd) rfl (Bool.eq_false_iff.mpr q) r) (hF fun z => q ((own_i0_gt x).mpr z))
theorem own_icmpgt (K : own_Cx p s m meth c Z own nm bytes maxL ret) {off : Int} {pcF : Nat} {x y : Int32} (hd : own_B bytes pc (.if_icmp .gt off) off pcF pcT) (hT : (y.toInt < x.toInt) → own_G w p l e R s m args below meth c Z Q h k n (mkF m pcT Ls st)) (hF : ¬ (y.toInt < x.toInt) → own_G w p l e R s m args below meth c Z Q h k n (mkF m pcF Ls st)) : own_G w p l e R s m args below meth c Z Q h k n (mkF m pc Ls (.int y :: .int x :: st)) := by
  obtain ⟨hd, rfl, h1, h2⟩ := hd
  by_cases q : if_icmp.holds .gt x y = true
  · exact own_pure K (fun X _ _ _ _ r => XS.icmpYes X.here K.1 rfl rfl (hb K.2.1 hd) rfl q h1 h2 r) (hT ((own_ii_gt x y).mp q))
  · exact own_pure K (fun X _ _ _ _ r => XS.icmpNo X.here K.1 rfl (hb K.2.1 hd) rfl (Bool.eq_false_iff.mpr q) r) (hF fun z => q ((own_ii_gt x y).mpr z))
theorem own_i0_le (x : Int32) : (ifCond.holds .le x = true) = (x.toInt ≤ 0) := by simp [ifCond.holds, Int32.lt_iff_toInt_lt, Int32.le_iff_toInt_le]
theorem own_ii_le (x y : Int32) : (if_icmp.holds .le x y = true) = (x.toInt ≤ y.toInt) := by simp [if_icmp.holds, Int32.lt_iff_toInt_lt, Int32.le_iff_toInt_le]
theorem own_ifle (K : own_Cx p s m meth c Z own nm bytes maxL ret) {off : Int} {pcF : Nat} {x : Int32} (hd : own_B bytes pc (.ifCond .le off) off pcF pcT) (hT : (x.toInt ≤ 0) → own_G w p l e R s m args below meth c Z Q h k n (mkF m pcT Ls st)) (hF : ¬ (x.toInt ≤ 0) → own_G w p l e R s m args below meth c Z Q h k n (mkF m pcF Ls st)) : own_G w p l e R s m args below meth c Z Q h k n (mkF m pc Ls (.int x :: st)) := by
  obtain ⟨hd, rfl, h1, h2⟩ := hd
  by_cases q : ifCond.holds .le x = true
  · exact own_pure K (fun X _ _ _ _ r => XS.ifYes X.here K.1 rfl rfl (hb K.2.1 hd) rfl q h1 h2 r) (hT ((own_i0_le x).mp q))
  · exact own_pure K (fun X _ _ _ _ r => XS.ifNo X.here K.1 rfl (hb K.2.1 hd) rfl (Bool.eq_false_iff.mpr q) r) (hF fun z => q ((own_i0_le x).mpr z))
theorem own_icmple (K : own_Cx p s m meth c Z own nm bytes maxL ret) {off : Int} {pcF : Nat} {x y : Int32} (hd : own_B bytes pc (.if_icmp .le off) off pcF pcT) (hT : (x.toInt ≤ y.toInt) → own_G w p l e R s m args below meth c Z Q h k n (mkF m pcT Ls st)) (hF : ¬ (x.toInt ≤ y.toInt) → own_G w p l e R s m args below meth c Z Q h k n (mkF m pcF Ls st)) : own_G w p l e R s m args below meth c Z Q h k n (mkF m pc Ls (.int y :: .int x :: st)) := by
  obtain ⟨hd, rfl, h1, h2⟩ := hd
  by_cases q : if_icmp.holds .le x y = true
  · exact own_pure K (fun X _ _ _ _ r => XS.icmpYes X.here K.1 rfl rfl (hb K.2.1 hd) rfl q h1 h2 r) (hT ((own_ii_le x y).mp q))
  · exact own_pure K (fun X _ _ _ _ r => XS.icmpNo X.here K.1 rfl (hb K.2.1 hd) rfl (Bool.eq_false_iff.mpr q) r) (hF fun z => q ((own_ii_le x y).mpr z))
theorem own_ifnullN (K : own_Cx p s m meth c Z own nm bytes maxL ret) {off : Int} {pcF : Nat} (hd : own_B bytes pc (.ifnull off) off pcF pcT) (hr : own_G w p l e R s m args below meth c Z Q h k n (mkF m pcT Ls st)) : own_G w p l e R s m args below meth c Z Q h k n (mkF m pc Ls (.null :: st)) := by
  obtain ⟨hd, rfl, h1, h2⟩ := hd
  exact own_pure K (fun X _ _ _ _ r => XS.ifnullYes X.here K.1 rfl rfl (hb K.2.1 hd) rfl h1 h2 r) hr
theorem own_ifnullR (K : own_Cx p s m meth c Z own nm bytes maxL ret) {off : Int} {pcF : Nat} {b : Addr} (hd : own_B bytes pc (.ifnull off) off pcF pcT) (hr : own_G w p l e R s m args below meth c Z Q h k n (mkF m pcF Ls st)) : own_G w p l e R s m args below meth c Z Q h k n (mkF m pc Ls (.ref b :: st)) := by
  obtain ⟨hd, rfl, h1, h2⟩ := hd
  exact own_pure K (fun X _ _ _ _ r => XS.ifnullNo X.here K.1 rfl (hb K.2.1 hd) rfl r) hr
theorem own_ifnonnullN (K : own_Cx p s m meth c Z own nm bytes maxL ret) {off : Int} {pcF : Nat} (hd : own_B bytes pc (.ifnonnull off) off pcF pcT) (hr : own_G w p l e R s m args below meth c Z Q h k n (mkF m pcF Ls st)) : own_G w p l e R s m args below meth c Z Q h k n (mkF m pc Ls (.null :: st)) := by
  obtain ⟨hd, rfl, h1, h2⟩ := hd
  exact own_pure K (fun X _ _ _ _ r => XT.ifnonnullNo X.here K.1 rfl (hb K.2.1 hd) rfl r) hr
theorem own_ifnonnullR (K : own_Cx p s m meth c Z own nm bytes maxL ret) {off : Int} {pcF : Nat} {b : Addr} (hd : own_B bytes pc (.ifnonnull off) off pcF pcT) (hr : own_G w p l e R s m args below meth c Z Q h k n (mkF m pcT Ls st)) : own_G w p l e R s m args below meth c Z Q h k n (mkF m pc Ls (.ref b :: st)) := by
  obtain ⟨hd, rfl, h1, h2⟩ := hd
  exact own_pure K (fun X _ _ _ _ r => XT.ifnonnullYes X.here K.1 rfl rfl (hb K.2.1 hd) rfl h1 h2 r) hr
theorem own_acmpeq (K : own_Cx p s m meth c Z own nm bytes maxL ret) {off : Int} {pcF : Nat} {x y : Value} (hd : own_B bytes pc (.if_acmp .eq off) off pcF pcT) (h1' : x.isRef = true) (h2' : y.isRef = true) (hT : (x = y) → own_G w p l e R s m args below meth c Z Q h k n (mkF m pcT Ls st)) (hF : ¬ (x = y) → own_G w p l e R s m args below meth c Z Q h k n (mkF m pcF Ls st)) : own_G w p l e R s m args below meth c Z Q h k n (mkF m pc Ls (y :: x :: st)) := by
  obtain ⟨hd, rfl, h1, h2⟩ := hd
  by_cases q : x = y
  · exact own_pure K (fun X _ _ _ _ r => XT.acmpYes X.here K.1 rfl rfl (hb K.2.1 hd) rfl h1' h2' (decide_eq_true q) h1 h2 r) (hT q)
  · exact own_pure K (fun X _ _ _ _ r => XT.acmpNo X.here K.1 rfl (hb K.2.1 hd) rfl h1' h2' (decide_eq_false q) r) (hF q)
theorem own_acmpne (K : own_Cx p s m meth c Z own nm bytes maxL ret) {off : Int} {pcF : Nat} {x y : Value} (hd : own_B bytes pc (.if_acmp .ne off) off pcF pcT) (h1' : x.isRef = true) (h2' : y.isRef = true) (hT : (x ≠ y) → own_G w p l e R s m args below meth c Z Q h k n (mkF m pcT Ls st)) (hF : ¬ (x ≠ y) → own_G w p l e R s m args below meth c Z Q h k n (mkF m pcF Ls st)) : own_G w p l e R s m args below meth c Z Q h k n (mkF m pc Ls (y :: x :: st)) := by
  obtain ⟨hd, rfl, h1, h2⟩ := hd
  by_cases q : x ≠ y
  · exact own_pure K (fun X _ _ _ _ r => XT.acmpYes X.here K.1 rfl rfl (hb K.2.1 hd) rfl h1' h2' (decide_eq_true q) h1 h2 r) (hT q)
  · exact own_pure K (fun X _ _ _ _ r => XT.acmpNo X.here K.1 rfl (hb K.2.1 hd) rfl h1' h2' (decide_eq_false q) r) (hF q)
theorem own_getfield (K : own_Cx p s m meth c Z own nm bytes maxL ret) {i j q : Nat} {R0 O f d host C : String} {v : Value} {a : Addr} {fs : List (String × String × String × Value)} (hd : own_D bytes pc (.getfield i) 3 pc') (wl : (Cond.fieldLink own i R0 f d).before a0 Z = true ∨ (Cond.fieldLinkNest own i R0 f d host).before a0 Z = true) (via : Via Z R0 O f d) (H : own_H Z h os as) (ho : os[j]? = some (a, C, fs)) (hf : fs[q]? = some (O, f, d, v)) (hr : own_G w p l e R s m args below meth c Z Q h k n (mkF m pc' Ls (v :: st))) : own_G w p l e R s m args below meth c Z Q h k n (mkF m pc Ls (.ref a :: st)) := by
  obtain ⟨hd, rfl⟩ := hd
  refine own_step K (P := fun h' => h' = h) (fun X hZ hw eT N => ?_) (fun h' e => by subst e; exact hr)
  obtain ⟨T', X', e', st⟩ := getF X K.1 hZ hw wl via eT (H.fld ho hf) (g := mkF m pc Ls (.ref a :: st)) rfl rfl (hb K.2.1 hd)
  exact ⟨T', _, _, X', N, e', Nat.le_refl _, rfl, st⟩
theorem own_putfield (K : own_Cx p s m meth c Z own nm bytes maxL ret) {i j q kk : Nat} {R0 O f d host C : String} {v v0 : Value} {a : Addr} {fs : List (String × String × String × Value)} {ty : FieldType} (hd : own_D bytes pc (.putfield i) 3 pc') (wl : (Cond.fieldLink own i R0 f d).before a0 Z = true ∨ (Cond.fieldLinkNest own i R0 f d host).before a0 Z = true) (via : Via Z R0 O f d) (H : own_H Z h os as) (ho : os[j]? = some (a, C, fs)) (hf : fs[q]? = some (O, f, d, v0))
    (L : (Cond.lays C O f d).before a0 Z = true ∨ ((Cond.laysFinal C O f d).before a0 Z = true ∧ own = O ∧ nm = "<init>")) (wi : (Cond.instantiable C kk).before a0 Z = true) (hty : parseFieldDescriptor d = some ty) (hn : narrow ty v = v) (hfit : fits ty v = true) (hr : ∀ h', own_H Z h' (os.set j (a, C, fs.set q (O, f, d, v))) as → own_G w p l e R s m args below meth c Z Q h' k n (mkF m pc' Ls st)) : own_G w p l e R s m args below meth c Z Q h k n (mkF m pc Ls (v :: .ref a :: st)) := by
  obtain ⟨hd, rfl⟩ := hd
  refine own_step K (P := fun h' => own_H Z h' (os.set j (a, C, fs.set q (O, f, d, v))) as) (fun X hZ hw eT N => ?_) hr
  obtain ⟨T', h', X', e', W, st⟩ := putF X K.1 hZ hw wl via eT (H.fld ho hf) (H.atO ho) (L.imp id (fun z => ⟨z.1, z.2.1, K.2.2.2.2.2.2.2.trans z.2.2⟩)) wi hty hn hfit (g := mkF m pc Ls (v :: .ref a :: st)) rfl rfl (hb K.2.1 hd)
  exact ⟨T', h', _, X', Fr.snoc X' N (H.newO ho), e', Nat.le_of_eq (Wr.size W).symm, H.wrO ho hf W, st⟩
theorem own_new (K : own_Cx p s m meth c Z own nm bytes maxL ret) {i kk : Nat} {C : String} {fs : List (String × String × String × Value)} (hd : own_D bytes pc (.new i) 3 pc') (w1 : (Cond.classLink own i C).before a0 Z = true) (w2 : (Cond.instantiable C kk).before a0 Z = true) (w3 : (Cond.initialized C).before a0 Z = true) (H : own_H Z h os as)
    (hF : ∀ f ∈ fs, Laid Z a0 C f.1 f.2.1 f.2.2.1 ∧ ∃ ty, parseFieldDescriptor f.2.2.1 = some ty ∧ f.2.2.2 = defaultValue ty) (hP : fs.Pairwise (fun f g => slotOf Z f.1 f.2.1 f.2.2.1 ≠ slotOf Z g.1 g.2.1 g.2.2.1)) (hc : k + 1 ≤ R.cells) (hl : n + kk ≤ R.slots)
    (hr : ∀ h' a, own_H Z h' ((a, C, fs) :: os) as → own_G w p l e R s m args below meth c Z Q h' (k + 1) (n + kk) (mkF m pc' Ls (.ref a :: st))) : own_G w p l e R s m args below meth c Z Q h k n (mkF m pc Ls st) := by
  obtain ⟨hd, rfl⟩ := hd
  refine own_step K (P := fun h' => own_H Z h' ((h.size, C, fs) :: os) as) (fun X hZ hw eT N => ?_) (fun h' H' => hr h' _ H')
  obtain ⟨T', h', X', e', E, A, D, -, st⟩ := newO X K.1 hZ hw w1 w2 w3 eT (g := mkF m pc Ls st) rfl (hb K.2.1 hd) hc hl
  exact ⟨T', h', _, X', N, e', E.1, H.addO E ⟨A, fun f hf => by obtain ⟨hL, ty, t1, t2⟩ := hF f hf; show Fld Z h' h.size f.1 f.2.1 f.2.2.1 f.2.2.2; rw [t2]; exact D hL t1, hP⟩, st⟩
theorem own_newarray (K : own_Cx p s m meth c Z own nm bytes maxL ret) {aty : ArrayType} {ty : FieldType} {N : Int32} {q : Nat} {ad : String} {vs : List Value} (hd : own_D bytes pc (.newarray aty) 2 pc') (hty : newarray.typeOf aty = ty) (w1 : (Cond.arrayClass ty).before a0 Z = true) (H : own_H Z h os as) (hN : N.toInt = (q : Int)) (had : "[" ++ ty.toString = ad) (hvs : vs = List.replicate q (defaultValue ty)) (hq : q * 8 ≤ 536870912) (hc : k + 1 ≤ R.cells) (hl : n + q ≤ R.slots)
    (hr : ∀ h' a, own_H Z h' os ((a, ty, ad, vs) :: as) → own_G w p l e R s m args below meth c Z Q h' (k + 1) (n + q) (mkF m pc' Ls (.ref a :: st))) : own_G w p l e R s m args below meth c Z Q h k n (mkF m pc Ls (.int N :: st)) := by
  obtain ⟨hd, rfl⟩ := hd
  subst hty
  refine own_step K (P := fun h' => own_H Z h' os ((h.size, newarray.typeOf aty, ad, vs) :: as)) (fun X hZ hw eT N => ?_) (fun h' H' => hr h' _ H')
  have hNq := own_idx hN
  obtain ⟨T', h', cA, X', e', E, A, Ex, st⟩ := newPE X K.1 hZ w1 eT (g := mkF m pc Ls (.int _ :: st)) rfl (hb K.2.1 hd) rfl (by rw [Int32.lt_iff_toInt_lt, hN, show (0 : Int32).toInt = 0 from rfl]; omega) (cap := q) (Nat.le_of_eq hNq) hq hc hl had
  refine ⟨T', h', _, X', N, e', E.1, H.addA E ⟨_, A, ?_, ?_, fun _ => Ex, fun C hC => ?_⟩, st⟩
  · show (newA cA (newarray.typeOf aty) _).slots.toList = vs
    simp [newA, hNq, hvs]
  · intro v hv
    rw [show v = defaultValue (newarray.typeOf aty) from List.eq_of_mem_replicate (hvs ▸ hv)]
    cases aty <;> rfl
  · cases aty <;> cases hC
theorem own_iaload (K : own_Cx p s m meth c Z own nm bytes maxL ret) {i q : Nat} {a : Addr} {ad : String} {vs : List Value} {v : Value} {j : Int32} (hd : own_D bytes pc .iaload 1 pc') (H : own_H Z h os as) (ha : as[i]? = some (a, .int, ad, vs)) (hj : j.toInt = (q : Int)) (hv : vs[q]? = some v) (hr : own_G w p l e R s m args below meth c Z Q h k n (mkF m pc' Ls (v :: st))) : own_G w p l e R s m args below meth c Z Q h k n (mkF m pc Ls (.int j :: .ref a :: st)) := by
  obtain ⟨hd, rfl⟩ := hd
  obtain ⟨-, cl, A, e1, -⟩ := H.2.2.1 _ (own_mem ha)
  have hq := (List.getElem?_eq_some_iff.mp hv).1
  have hsz : cl.slots.size = vs.length := by rw [← Array.length_toList]; exact congrArg List.length e1
  exact own_pure K (fun X hZ _ eT _ r => X.iaload K.1 (by rw [eT]; exact A.1) (State.isArrayOf_alike hZ.alike A.2.1) A.2.2 (by rw [hsz]; exact own_in hj hq) (by rw [own_idx hj, ← Array.getElem?_toList]; exact (show cl.slots.toList = vs from e1) ▸ hv) (g := mkF m pc Ls (.int j :: .ref a :: st)) rfl rfl (hb K.2.1 hd) _ r) hr
theorem own_laload (K : own_Cx p s m meth c Z own nm bytes maxL ret) {i q : Nat} {a : Addr} {ad : String} {vs : List Value} {v : Value} {j : Int32} (hd : own_D bytes pc .laload 1 pc') (H : own_H Z h os as) (ha : as[i]? = some (a, .long, ad, vs)) (hj : j.toInt = (q : Int)) (hv : vs[q]? = some v) (hr : own_G w p l e R s m args below meth c Z Q h k n (mkF m pc' Ls (v :: st))) : own_G w p l e R s m args below meth c Z Q h k n (mkF m pc Ls (.int j :: .ref a :: st)) := by
  obtain ⟨hd, rfl⟩ := hd
  obtain ⟨-, cl, A, e1, -⟩ := H.2.2.1 _ (own_mem ha)
  have hq := (List.getElem?_eq_some_iff.mp hv).1
  have hsz : cl.slots.size = vs.length := by rw [← Array.length_toList]; exact congrArg List.length e1
  exact own_pure K (fun X hZ _ eT _ r => X.laload K.1 (by rw [eT]; exact A.1) (State.isArrayOf_alike hZ.alike A.2.1) A.2.2 (by rw [hsz]; exact own_in hj hq) (by rw [own_idx hj, ← Array.getElem?_toList]; exact (show cl.slots.toList = vs from e1) ▸ hv) (g := mkF m pc Ls (.int j :: .ref a :: st)) rfl rfl (hb K.2.1 hd) _ r) hr
theorem own_daload (K : own_Cx p s m meth c Z own nm bytes maxL ret) {i q : Nat} {a : Addr} {ad : String} {vs : List Value} {v : Value} {j : Int32} (hd : own_D bytes pc .daload 1 pc') (H : own_H Z h os as) (ha : as[i]? = some (a, .double, ad, vs)) (hj : j.toInt = (q : Int)) (hv : vs[q]? = some v) (hr : own_G w p l e R s m args below meth c Z Q h k n (mkF m pc' Ls (v :: st))) : own_G w p l e R s m args below meth c Z Q h k n (mkF m pc Ls (.int j :: .ref a :: st)) := by
  obtain ⟨hd, rfl⟩ := hd
  obtain ⟨-, cl, A, e1, -⟩ := H.2.2.1 _ (own_mem ha)
  have hq := (List.getElem?_eq_some_iff.mp hv).1
  have hsz : cl.slots.size = vs.length := by rw [← Array.length_toList]; exact congrArg List.length e1
  exact own_pure K (fun X hZ _ eT _ r => X.daload K.1 (by rw [eT]; exact A.1) (State.isArrayOf_alike hZ.alike A.2.1) A.2.2 (by rw [hsz]; exact own_in hj hq) (by rw [own_idx hj, ← Array.getElem?_toList]; exact (show cl.slots.toList = vs from e1) ▸ hv) (g := mkF m pc Ls (.int j :: .ref a :: st)) rfl rfl (hb K.2.1 hd) _ r) hr
theorem own_caload (K : own_Cx p s m meth c Z own nm bytes maxL ret) {i q : Nat} {a : Addr} {ad : String} {vs : List Value} {v : Value} {j : Int32} (hd : own_D bytes pc .caload 1 pc') (H : own_H Z h os as) (ha : as[i]? = some (a, .char, ad, vs)) (hj : j.toInt = (q : Int)) (hv : vs[q]? = some v) (hr : own_G w p l e R s m args below meth c Z Q h k n (mkF m pc' Ls (v :: st))) : own_G w p l e R s m args below meth c Z Q h k n (mkF m pc Ls (.int j :: .ref a :: st)) := by
  obtain ⟨hd, rfl⟩ := hd
  obtain ⟨-, cl, A, e1, -⟩ := H.2.2.1 _ (own_mem ha)
  have hq := (List.getElem?_eq_some_iff.mp hv).1
  have hsz : cl.slots.size = vs.length := by rw [← Array.length_toList]; exact congrArg List.length e1
  exact own_pure K (fun X hZ _ eT _ r => X.caload K.1 (by rw [eT]; exact A.1) (State.isArrayOf_alike hZ.alike A.2.1) A.2.2 (by rw [hsz]; exact own_in hj hq) (by rw [own_idx hj, ← Array.getElem?_toList]; exact (show cl.slots.toList = vs from e1) ▸ hv) (g := mkF m pc Ls (.int j :: .ref a :: st)) rfl rfl (hb K.2.1 hd) _ r) hr
theorem own_baload (K : own_Cx p s m meth c Z own nm bytes maxL ret) {i q : Nat} {a : Addr} {ad : String} {vs : List Value} {v : Value} {j : Int32} (hd : own_D bytes pc .baload 1 pc') (H : own_H Z h os as) (ha : as[i]? = some (a, .byte, ad, vs)) (hj : j.toInt = (q : Int)) (hv : vs[q]? = some v) (hr : own_G w p l e R s m args below meth c Z Q h k n (mkF m pc' Ls (v :: st))) : own_G w p l e R s m args below meth c Z Q h k n (mkF m pc Ls (.int j :: .ref a :: st)) := by
  obtain ⟨hd, rfl⟩ := hd
  obtain ⟨-, cl, A, e1, -⟩ := H.2.2.1 _ (own_mem ha)
  have hq := (List.getElem?_eq_some_iff.mp hv).1
  have hsz : cl.slots.size = vs.length := by rw [← Array.length_toList]; exact congrArg List.length e1
  exact own_pure K (fun X hZ _ eT _ r => X.baloadBytes K.1 (by rw [eT]; exact A.1) (State.isArrayOf_alike hZ.alike A.2.1) A.2.2 (by rw [hsz]; exact own_in hj hq) (by rw [own_idx hj, ← Array.getElem?_toList]; exact (show cl.slots.toList = vs from e1) ▸ hv) (g := mkF m pc Ls (.int j :: .ref a :: st)) rfl rfl (hb K.2.1 hd) _ r) hr
theorem own_aaload (K : own_Cx p s m meth c Z own nm bytes maxL ret) {i q : Nat} {a : Addr} {ad : String} {ty : FieldType} {vs : List Value} {v : Value} {j : Int32} (hd : own_D bytes pc .aaload 1 pc') (H : own_H Z h os as) (ha : as[i]? = some (a, ty, ad, vs)) (hty : ty.isReference = true) (hj : j.toInt = (q : Int)) (hv : vs[q]? = some v) (hr : own_G w p l e R s m args below meth c Z Q h k n (mkF m pc' Ls (v :: st))) : own_G w p l e R s m args below meth c Z Q h k n (mkF m pc Ls (.int j :: .ref a :: st)) := by
  obtain ⟨hd, rfl⟩ := hd
  obtain ⟨-, cl, A, e1, -⟩ := H.2.2.1 _ (own_mem ha)
  have hq := (List.getElem?_eq_some_iff.mp hv).1
  have hsz : cl.slots.size = vs.length := by rw [← Array.length_toList]; exact congrArg List.length e1
  exact own_pure K (fun X hZ _ eT _ r => X.aaload K.1 (by rw [eT]; exact A.1) (State.isArrayOf_alike hZ.alike A.2.1) hty A.2.2 (by rw [hsz]; exact own_in hj hq) (by rw [own_idx hj, ← Array.getElem?_toList]; exact (show cl.slots.toList = vs from e1) ▸ hv) (g := mkF m pc Ls (.int j :: .ref a :: st)) rfl rfl (hb K.2.1 hd) _ r) hr
theorem own_iastore (K : own_Cx p s m meth c Z own nm bytes maxL ret) {i q : Nat} {a : Addr} {ad : String} {vs : List Value} {j : Int32} {x : Int32} (hd : own_D bytes pc .iastore 1 pc') (H : own_H Z h os as) (ha : as[i]? = some (a, .int, ad, vs)) (hj : j.toInt = (q : Int)) (hq : q < vs.length) (hr : ∀ h', own_H Z h' os (as.set i (a, .int, ad, vs.set q (.int x))) → own_G w p l e R s m args below meth c Z Q h' k n (mkF m pc' Ls st)) : own_G w p l e R s m args below meth c Z Q h k n (mkF m pc Ls (.int x :: .int j :: .ref a :: st)) := by
  obtain ⟨hd, rfl⟩ := hd
  obtain ⟨na, cl, A, e1, -⟩ := H.2.2.1 _ (own_mem ha)
  have hsz : cl.slots.size = vs.length := by rw [← Array.length_toList]; exact congrArg List.length e1
  refine own_step K (P := fun h' => own_H Z h' os (as.set i (a, .int, ad, vs.set q (.int x)))) (fun X hZ _ eT N => ?_) hr
  obtain ⟨T', h', X', e', W, st⟩ := stI X K.1 hZ eT A (by rw [hsz]; exact own_in hj hq) (g := mkF m pc Ls (.int x :: .int j :: .ref a :: st)) rfl rfl (hb K.2.1 hd)
  exact ⟨T', h', _, X', Fr.snoc X' N na, e', Nat.le_of_eq (Wr.size W).symm, H.wrA ha hq (rfl) (by rw [own_idx hj] at W; exact W), st⟩
theorem own_lastore (K : own_Cx p s m meth c Z own nm bytes maxL ret) {i q : Nat} {a : Addr} {ad : String} {vs : List Value} {j : Int32} {x : Int64} (hd : own_D bytes pc .lastore 1 pc') (H : own_H Z h os as) (ha : as[i]? = some (a, .long, ad, vs)) (hj : j.toInt = (q : Int)) (hq : q < vs.length) (hr : ∀ h', own_H Z h' os (as.set i (a, .long, ad, vs.set q (.long x))) → own_G w p l e R s m args below meth c Z Q h' k n (mkF m pc' Ls st)) : own_G w p l e R s m args below meth c Z Q h k n (mkF m pc Ls (.long x :: .int j :: .ref a :: st)) := by
  obtain ⟨hd, rfl⟩ := hd
  obtain ⟨na, cl, A, e1, -⟩ := H.2.2.1 _ (own_mem ha)
  have hsz : cl.slots.size = vs.length := by rw [← Array.length_toList]; exact congrArg List.length e1
  refine own_step K (P := fun h' => own_H Z h' os (as.set i (a, .long, ad, vs.set q (.long x)))) (fun X hZ _ eT N => ?_) hr
  obtain ⟨T', h', X', e', W, st⟩ := stJ X K.1 hZ eT A (by rw [hsz]; exact own_in hj hq) (g := mkF m pc Ls (.long x :: .int j :: .ref a :: st)) rfl rfl (hb K.2.1 hd)
  exact ⟨T', h', _, X', Fr.snoc X' N na, e', Nat.le_of_eq (Wr.size W).symm, H.wrA ha hq (rfl) (by rw [own_idx hj] at W; exact W), st⟩
theorem own_dastore (K : own_Cx p s m meth c Z own nm bytes maxL ret) {i q : Nat} {a : Addr} {ad : String} {vs : List Value} {j : Int32} {x : UInt64} (hd : own_D bytes pc .dastore 1 pc') (H : own_H Z h os as) (ha : as[i]? = some (a, .double, ad, vs)) (hj : j.toInt = (q : Int)) (hq : q < vs.length) (hr : ∀ h', own_H Z h' os (as.set i (a, .double, ad, vs.set q (.double x))) → own_G w p l e R s m args below meth c Z Q h' k n (mkF m pc' Ls st)) : own_G w p l e R s m args below meth c Z Q h k n (mkF m pc Ls (.double x :: .int j :: .ref a :: st)) := by
  obtain ⟨hd, rfl⟩ := hd
  obtain ⟨na, cl, A, e1, -⟩ := H.2.2.1 _ (own_mem ha)
  have hsz : cl.slots.size = vs.length := by rw [← Array.length_toList]; exact congrArg List.length e1
  refine own_step K (P := fun h' => own_H Z h' os (as.set i (a, .double, ad, vs.set q (.double x)))) (fun X hZ _ eT N => ?_) hr
  obtain ⟨T', h', X', e', W, st⟩ := stD X K.1 hZ eT A (by rw [hsz]; exact own_in hj hq) (g := mkF m pc Ls (.double x :: .int j :: .ref a :: st)) rfl rfl (hb K.2.1 hd)
  exact ⟨T', h', _, X', Fr.snoc X' N na, e', Nat.le_of_eq (Wr.size W).symm, H.wrA ha hq (rfl) (by rw [own_idx hj] at W; exact W), st⟩
theorem own_castore (K : own_Cx p s m meth c Z own nm bytes maxL ret) {i q : Nat} {a : Addr} {ad : String} {vs : List Value} {j : Int32} {x : Int32} (hd : own_D bytes pc .castore 1 pc') (H : own_H Z h os as) (ha : as[i]? = some (a, .char, ad, vs)) (hj : j.toInt = (q : Int)) (hq : q < vs.length) (hr : ∀ h', own_H Z h' os (as.set i (a, .char, ad, vs.set q (.int (nar .char x)))) → own_G w p l e R s m args below meth c Z Q h' k n (mkF m pc' Ls st)) : own_G w p l e R s m args below meth c Z Q h k n (mkF m pc Ls (.int x :: .int j :: .ref a :: st)) := by
  obtain ⟨hd, rfl⟩ := hd
  obtain ⟨na, cl, A, e1, -⟩ := H.2.2.1 _ (own_mem ha)
  have hsz : cl.slots.size = vs.length := by rw [← Array.length_toList]; exact congrArg List.length e1
  refine own_step K (P := fun h' => own_H Z h' os (as.set i (a, .char, ad, vs.set q (.int (nar .char x))))) (fun X hZ _ eT N => ?_) hr
  obtain ⟨T', h', X', e', W, st⟩ := stC X K.1 hZ eT A (by rw [hsz]; exact own_in hj hq) (g := mkF m pc Ls (.int x :: .int j :: .ref a :: st)) rfl rfl (hb K.2.1 hd)
  exact ⟨T', h', _, X', Fr.snoc X' N na, e', Nat.le_of_eq (Wr.size W).symm, H.wrA ha hq (by first | exact fits_nar_char _ | exact fits_nar_char | (simp [fits_nar_char]; done)) (by rw [own_idx hj] at W; exact W), st⟩
theorem own_bastore (K : own_Cx p s m meth c Z own nm bytes maxL ret) {i q : Nat} {a : Addr} {ad : String} {vs : List Value} {j : Int32} {x : Int32} (hd : own_D bytes pc .bastore 1 pc') (H : own_H Z h os as) (ha : as[i]? = some (a, .byte, ad, vs)) (hj : j.toInt = (q : Int)) (hq : q < vs.length) (hr : ∀ h', own_H Z h' os (as.set i (a, .byte, ad, vs.set q (.int (nar .byte x)))) → own_G w p l e R s m args below meth c Z Q h' k n (mkF m pc' Ls st)) : own_G w p l e R s m args below meth c Z Q h k n (mkF m pc Ls (.int x :: .int j :: .ref a :: st)) := by
  obtain ⟨hd, rfl⟩ := hd
  obtain ⟨na, cl, A, e1, -⟩ := H.2.2.1 _ (own_mem ha)
  have hsz : cl.slots.size = vs.length := by rw [← Array.length_toList]; exact congrArg List.length e1
  refine own_step K (P := fun h' => own_H Z h' os (as.set i (a, .byte, ad, vs.set q (.int (nar .byte x))))) (fun X hZ _ eT N => ?_) hr
  obtain ⟨T', h', X', e', W, st⟩ := stB X K.1 hZ eT A (by rw [hsz]; exact own_in hj hq) (g := mkF m pc Ls (.int x :: .int j :: .ref a :: st)) rfl rfl (hb K.2.1 hd)
  exact ⟨T', h', _, X', Fr.snoc X' N na, e', Nat.le_of_eq (Wr.size W).symm, H.wrA ha hq (by first | exact fits_nar_byte _ | exact fits_nar_byte | (simp [fits_nar_byte]; done)) (by rw [own_idx hj] at W; exact W), st⟩
theorem own_arraylength (K : own_Cx p s m meth c Z own nm bytes maxL ret) {i : Nat} {a : Addr} {ad : String} {ty : FieldType} {vs : List Value} {N : Int32} (hd : own_D bytes pc .arraylength 1 pc') (H : own_H Z h os as) (ha : as[i]? = some (a, ty, ad, vs)) (hN : N.toInt = (vs.length : Int)) (hr : own_G w p l e R s m args below meth c Z Q h k n (mkF m pc' Ls (.int N :: st))) : own_G w p l e R s m args below meth c Z Q h k n (mkF m pc Ls (.ref a :: st)) := by
  obtain ⟨hd, rfl⟩ := hd
  obtain ⟨-, cl, A, e1, -⟩ := H.2.2.1 _ (own_mem ha)
  have hsz : cl.slots.size = vs.length := by rw [← Array.length_toList]; exact congrArg List.length e1
  have e2 : cl.slots.size.toInt32 = N := by rw [hsz]; exact own_len hN
  exact own_pure K (fun X hZ _ eT _ r => X.arraylength K.1 (by rw [eT]; exact A.1) (State.isArrayOf_alike hZ.alike A.2.1) (g := mkF m pc Ls (.ref a :: st)) rfl rfl (hb K.2.1 hd) _ (by rw [e2]; exact r)) hr
theorem own_checkcast (K : own_Cx p s m meth c Z own nm bytes maxL ret) {i : Nat} {a : Addr} {Kn : String} (hd : own_D bytes pc (.checkcast i) 3 pc') (w1 : (Cond.classLink own i Kn).before a0 Z = true) (I : Ins Z h a Kn true) (hr : own_G w p l e R s m args below meth c Z Q h k n (mkF m pc' Ls (.ref a :: st))) : own_G w p l e R s m args below meth c Z Q h k n (mkF m pc Ls (.ref a :: st)) := by
  obtain ⟨hd, rfl⟩ := hd
  refine own_step K (P := fun h' => h' = h) (fun X hZ hw eT N => ?_) (fun h' e => by subst e; exact hr)
  obtain ⟨T', X', e', st⟩ := castY X K.1 hZ hw w1 eT I (g := mkF m pc Ls (.ref a :: st)) rfl rfl (hb K.2.1 hd)
  exact ⟨T', _, _, X', N, e', Nat.le_refl _, rfl, st⟩
theorem own_H.exaA (H : own_H Z h os as) {i : Nat} {a : Addr} {ty : FieldType} {ad : String} {vs : List Value} (ha : as[i]? = some (a, ty, ad, vs)) (hn : ad ≠ "") : Exa Z h a ad := by
  obtain ⟨-, cl, -, -, -, h4, -⟩ := H.2.2.1 _ (own_mem ha); exact h4 hn
theorem own_clone (K : own_Cx p s m meth c Z own nm bytes maxL ret) {i j : Nat} {a : Addr} {ty : FieldType} {ad : String} {vs : List Value} (hd : own_D bytes pc (.invokevirtual i) 3 pc') (w1 : (Cond.methodLink own i ⟨ad, "clone", "()Ljava/lang/Object;"⟩).before a0 Z = true) (w2 : (Cond.sameMethod ad "java/lang/Object" "clone" "()Ljava/lang/Object;").before a0 Z = true) (w3 : (Cond.native ⟨"java/lang/Object", "clone", "()Ljava/lang/Object;"⟩).before a0 Z = true)
    (w4 : (Cond.instanceMethod ⟨"java/lang/Object", "clone", "()Ljava/lang/Object;"⟩).before a0 Z = true) (w5 : (Cond.selects ad ⟨ad, "clone", "()Ljava/lang/Object;"⟩ ⟨"java/lang/Object", "clone", "()Ljava/lang/Object;"⟩).before a0 Z = true) (w6 : (Cond.castable ad "java/lang/Cloneable").before a0 Z = true)
    (H : own_H Z h os as) (ha : as[j]? = some (a, ty, ad, vs)) (hn : ad ≠ "") (hsz : Ls.size = maxL) (hf : 1 ≤ R.frames) {W : Nat} (hW : (st.map fun v => v.category).sum ≤ W) (hl : W + 14 ≤ R.locals) (hc : k + 1 ≤ R.cells) (hsl : n + vs.length ≤ R.slots)
    (hr : ∀ h' b, own_H Z h' os ((b, ty, ad, vs) :: as) → own_G w p l e R s m args below meth c Z Q h' (k + 1) (n + vs.length) (mkF m pc' Ls (.ref b :: st))) : own_G w p l e R s m args below meth c Z Q h k n (mkF m pc Ls (.ref a :: st)) := by
  obtain ⟨hd, rfl⟩ := hd
  obtain ⟨-, cl, A, e1, e3, e4, e5⟩ := H.2.2.1 _ (own_mem ha)
  have hsz' : cl.slots.size = vs.length := by rw [← Array.length_toList]; exact congrArg List.length e1
  have F : FitC Z cl := fun i v hv => by
    obtain ⟨hs, k, hk, comp, hkind⟩ := A.2.1
    have hm : v ∈ vs := by
      have : cl.slots.toList[i]? = some v := by rw [Array.getElem?_toList]; exact hv
      exact (show cl.slots.toList = vs from e1) ▸ own_mem this
    simp [State.fitsSlot, State.slotType?, hk, hkind, show fits ty v = true from e3 v hm]
  refine own_step K (P := fun h' => own_H Z h' os ((h.size, ty, ad, vs) :: as)) (fun X hZ hw eT N => ?_) (fun h' H' => hr h' _ H')
  obtain ⟨T', h', X', e', E, A', Ex, st⟩ := cloneA X K.1 hZ hw w1 w2 w3 w4 w5 w6 eT A (e4 hn) F (g := mkF m pc Ls (.ref a :: st)) rfl (hsz.trans K.2.2.1.symm) rfl (hb K.2.1 hd) hf (W := W) (by show 2 * 0 + _ ≤ W; simpa using hW) hl (cap := vs.length) (Nat.le_of_eq hsz') hc hsl
  exact ⟨T', h', _, X', N, e', E.1, H.addA E ⟨_, A', e1, e3, fun _ => Ex, e5⟩, st⟩
theorem own_initO (K : own_Cx p s m meth c Z own nm bytes maxL ret) {i : Nat} {a : Addr} (hd : own_D bytes pc (.invokespecial i) 3 pc') (w1 : (Cond.methodLink own i Lib.objectInit).before a0 Z = true) (w2 : (Cond.instanceMethod Lib.objectInit).before a0 Z = true) (w3 : (Cond.code Lib.objectInit ⟨#[0xb1]⟩ 1 none).before a0 Z = true) (hsz : Ls.size = maxL) (hf : 1 ≤ R.frames) {W : Nat} (hW : (st.map fun v => v.category).sum ≤ W) (hl : W + 12 ≤ R.locals) (hr : own_G w p l e R s m args below meth c Z Q h k n (mkF m pc' Ls st)) : own_G w p l e R s m args below meth c Z Q h k n (mkF m pc Ls (.ref a :: st)) := by
  obtain ⟨hd, rfl⟩ := hd
  refine own_step K (P := fun h' => h' = h) (fun X hZ hw eT N => ?_) (fun h' e => by subst e; exact hr)
  obtain ⟨T', X', e', st⟩ := initO X K.1 hZ hw w1 w2 w3 eT (g := mkF m pc Ls (.ref a :: st)) rfl (hsz.trans K.2.2.1.symm) rfl (hb K.2.1 hd) hf (W := W) (by show 2 * 0 + _ ≤ W; simpa using hW) hl
  exact ⟨T', _, _, X', N, e', Nat.le_refl _, rfl, st⟩
theorem own_static (K : own_Cx p s m meth c Z own nm bytes maxL ret) {i ml W : Nat} {y : MethodName} {b : ByteArray} {rt : Option FieldType} {rm : Room} {argsL : List Value} {Qc : Option Value → Heap → Prop} {ps : List FieldType} {r : Option FieldType} (hd : own_D bytes pc (.invokestatic i) 3 pc') (w1 : (Cond.methodLink own i y).before a0 Z = true) (w2 : (Cond.static y).before a0 Z = true) (w3 : (Cond.initialized y.cls).before a0 Z = true) (w4 : (Cond.code y b ml rt).before a0 Z = true)
    (hM : own_Met false l Z y b ml rt [] rm argsL.toArray h Qc) (hp : parseMethodDescriptor y.desc = some ⟨ps, r⟩) (hlen : argsL.length = ps.length) (hst : st = argsL.reverse ++ rest) (hsz : Ls.size = maxL) (hy : y.cls ≠ "java/lang/invoke/MethodHandle" ∧ y.cls ≠ "java/lang/invoke/VarHandle") (hW : (rest.map fun v => v.category).sum ≤ W) (hf : rm.frames + 1 ≤ R.frames) (hl : W + (ml + 11) + rm.locals ≤ R.locals) (hc : k + rm.cells ≤ R.cells) (hs : n + rm.slots ≤ R.slots)
    (hr : ∀ v h', Qc v h' → own_G w p l e R s m args below meth c Z Q h' (k + rm.cells) (n + rm.slots) (mkF m (pc') Ls (v.toList ++ rest))) : own_G w p l e R s m args below meth c Z Q h k n (mkF m pc Ls st) := by
  obtain ⟨hd, rfl⟩ := hd
  intro T hX
  obtain ⟨L, vm, X, N, eT, hw, hS⟩ := hX
  have hZ := own_zw K.2.2.2.2.2.1 hS
  have hown : (s.setVm vm).vm.findClass own = some m.cls := by rw [show (s.setVm vm).vm = vm from rfl, hS.1.alike.findClass]; exact K.2.2.2.2.2.2.1
  obtain ⟨v, vm1, ⟨T1, L1, k1, n1⟩, -, X1, ⟨Lc, ⟨hQ, N1, z1⟩, l1, y1, x1⟩, st1⟩ := Jvm.LawKit.callS X K.1 (y := y) hown (mvT hZ w1) (mvT hZ w2) (mvT hZ w3) (mvT hZ w4) hy (backOf (W := W) (Q := fun v h'' L => Qc v h'' ∧ Fr Z.heap.size L ∧ h.size ≤ h''.size) (show MetFree _ _ _ _ _ _ from hM) hZ w4 w3 hf hl) (g := mkF m pc Ls st) rfl (hsz.trans K.2.2.1.symm) (argsL := argsL) (rest := rest) (lenOf hp hlen) hst (by show 2 * 0 + _ ≤ W; simpa using hW) (hb K.2.1 hd) (fun _ _ => ⟨rfl, eT, hc, hs⟩)
  dsimp only [Pt.U, Pt.locs, Pt.cells, Pt.slots] at X1 l1 y1 x1 st1 hQ z1
  subst l1 y1 x1
  obtain ⟨T', v', h', k', n', hX', r1, r2, r3, r4, r5⟩ := hr v T1.heap hQ T1 ⟨_, vm, X1, N.app N1, rfl, hw, own_since hS z1⟩
  exact ⟨T', v', h', k', n', hX', r1, r2, r3, r4, fun fs q => st1 _ (r5 fs q)⟩
theorem own_special (K : own_Cx p s m meth c Z own nm bytes maxL ret) {i ml W : Nat} {y : MethodName} {b : ByteArray} {rm : Room} {a : Addr} {argsL : List Value} {Qc : Option Value → Heap → Prop} {ps : List FieldType} {r : Option FieldType} (hd : own_D bytes pc (.invokespecial i) 3 pc') (hy1 : y.name = "<init>") (w1 : (Cond.methodLink own i y).before a0 Z = true) (w2 : (Cond.instanceMethod y).before a0 Z = true) (w3 : (Cond.initialized y.cls).before a0 Z = true) (w4 : (Cond.code y b ml none).before a0 Z = true)
    (hM : own_Met false l Z y b ml none [] rm (.ref a :: argsL).toArray h Qc) (hp : parseMethodDescriptor y.desc = some ⟨ps, r⟩) (hlen : argsL.length = ps.length) (hst : st = argsL.reverse ++ .ref a :: rest) (hsz : Ls.size = maxL) (hy : y.cls ≠ "java/lang/invoke/MethodHandle" ∧ y.cls ≠ "java/lang/invoke/VarHandle") (hW : (rest.map fun v => v.category).sum ≤ W) (hf : rm.frames + 1 ≤ R.frames) (hl : W + (ml + 11) + rm.locals ≤ R.locals) (hc : k + rm.cells ≤ R.cells) (hs : n + rm.slots ≤ R.slots)
    (hr : ∀ v h', Qc v h' → own_G w p l e R s m args below meth c Z Q h' (k + rm.cells) (n + rm.slots) (mkF m (pc') Ls (v.toList ++ rest))) : own_G w p l e R s m args below meth c Z Q h k n (mkF m pc Ls st) := by
  obtain ⟨hd, rfl⟩ := hd
  intro T hX
  obtain ⟨L, vm, X, N, eT, hw, hS⟩ := hX
  have hZ := own_zw K.2.2.2.2.2.1 hS
  have hown : (s.setVm vm).vm.findClass own = some m.cls := by rw [show (s.setVm vm).vm = vm from rfl, hS.1.alike.findClass]; exact K.2.2.2.2.2.2.1
  obtain ⟨v, vm1, ⟨T1, L1, k1, n1⟩, -, X1, ⟨Lc, ⟨hQ, N1, z1⟩, l1, y1, x1⟩, st1⟩ := X.specialBack K.1 (y := y) hy1 hown (mvT hZ w1) (mvT hZ w2) (mvT hZ w4) hy (backOf (W := W) (Q := fun v h'' L => Qc v h'' ∧ Fr Z.heap.size L ∧ h.size ≤ h''.size) (show MetFree _ _ _ _ _ _ from hM) hZ w4 w3 hf hl) (g := mkF m pc Ls st) rfl (hsz.trans K.2.2.1.symm) (Steps.refl _) (a := a) (argsL := argsL) (rest := rest) (lenOf hp hlen) hst (by show 2 * 0 + _ ≤ W; simpa using hW) (hb K.2.1 hd) (fun _ _ => ⟨rfl, eT, hc, hs⟩)
  dsimp only [Pt.U, Pt.locs, Pt.cells, Pt.slots] at X1 l1 y1 x1 st1 hQ z1
  subst l1 y1 x1
  obtain ⟨T', v', h', k', n', hX', r1, r2, r3, r4, r5⟩ := hr v T1.heap hQ T1 ⟨_, vm, X1, N.app N1, rfl, hw, own_since hS z1⟩
  exact ⟨T', v', h', k', n', hX', r1, r2, r3, r4, fun fs q => st1.trans (r5 fs q)⟩
theorem own_virtual (K : own_Cx p s m meth c Z own nm bytes maxL ret) {i ml W : Nat} {y : MethodName} {C : String} {b : ByteArray} {rt : Option FieldType} {rm : Room} {a : Addr} {argsL : List Value} {Qc : Option Value → Heap → Prop} {ps : List FieldType} {r : Option FieldType} (hd : own_D bytes pc (.invokevirtual i) 3 pc') (w1 : (Cond.methodLink own i y).before a0 Z = true) (w2 : (Cond.declares y).before a0 Z = true) (w5 : (Cond.selects C y y).before a0 Z = true) (w6 : (Cond.instanceMethod y).before a0 Z = true) (w3 : (Cond.initialized y.cls).before a0 Z = true) (w4 : (Cond.code y b ml rt).before a0 Z = true)
    (E : Exa Z h a C) (hM : own_Met false l Z y b ml rt [] rm (.ref a :: argsL).toArray h Qc) (hp : parseMethodDescriptor y.desc = some ⟨ps, r⟩) (hlen : argsL.length = ps.length) (hst : st = argsL.reverse ++ .ref a :: rest) (hsz : Ls.size = maxL) (hy : y.cls ≠ "java/lang/invoke/MethodHandle" ∧ y.cls ≠ "java/lang/invoke/VarHandle") (hW : (rest.map fun v => v.category).sum ≤ W) (hf : rm.frames + 1 ≤ R.frames) (hl : W + (ml + 11) + rm.locals ≤ R.locals) (hc : k + rm.cells ≤ R.cells) (hs : n + rm.slots ≤ R.slots)
    (hr : ∀ v h', Qc v h' → own_G w p l e R s m args below meth c Z Q h' (k + rm.cells) (n + rm.slots) (mkF m (pc') Ls (v.toList ++ rest))) : own_G w p l e R s m args below meth c Z Q h k n (mkF m pc Ls st) := by
  obtain ⟨hd, rfl⟩ := hd
  intro T hX
  obtain ⟨L, vm, X, N, eT, hw, hS⟩ := hX
  have hZ := own_zw K.2.2.2.2.2.1 hS
  have hown : (s.setVm vm).vm.findClass own = some m.cls := by rw [show (s.setVm vm).vm = vm from rfl, hS.1.alike.findClass]; exact K.2.2.2.2.2.2.1
  obtain ⟨cq, kq, qa, qb, qc⟩ := isOf (s := s.setVm vm) hZ eT E
  obtain ⟨v, vm1, ⟨T1, L1, k1, n1⟩, -, X1, ⟨Lc, ⟨hQ, N1, z1⟩, l1, y1, x1⟩, st1⟩ := X.virtualBack K.1 (y := y) (z := y) hown (mvT hZ w1) (mvT hZ w2) (notFace_of_selects (C := C) (args := #[]) (mvT hZ w5)) (mvT hZ w5) (mvT hZ w6) hy (backOf (W := W) (Q := fun v h'' L => Qc v h'' ∧ Fr Z.heap.size L ∧ h.size ≤ h''.size) (show MetFree _ _ _ _ _ _ from hM) hZ w4 w3 hf hl) qa qc (g := mkF m pc Ls st) rfl (hsz.trans K.2.2.1.symm) (Steps.refl _) (argsL := argsL) (rest := rest) (lenOf hp hlen) hst (by show 2 * 0 + _ ≤ W; simpa using hW) (hb K.2.1 hd) (fun _ _ => ⟨rfl, eT, hc, hs⟩)
  dsimp only [Pt.U, Pt.locs, Pt.cells, Pt.slots] at X1 l1 y1 x1 st1 hQ z1
  subst l1 y1 x1
  obtain ⟨T', v', h', k', n', hX', r1, r2, r3, r4, r5⟩ := hr v T1.heap hQ T1 ⟨_, vm, X1, N.app N1, rfl, hw, own_since hS z1⟩
  exact ⟨T', v', h', k', n', hX', r1, r2, r3, r4, fun fs q => st1.trans (r5 fs q)⟩
theorem own_virtualZ (K : own_Cx p s m meth c Z own nm bytes maxL ret) {i ml W : Nat} {y z : MethodName} {C : String} {b : ByteArray} {rt : Option FieldType} {rm : Room} {a : Addr} {argsL : List Value} {Qc : Option Value → Heap → Prop} {ps : List FieldType} {r : Option FieldType} (hd : own_D bytes pc (.invokevirtual i) 3 pc') (w1 : (Cond.methodLink own i y).before a0 Z = true) (w2 : (Cond.declares y).before a0 Z = true) (w5 : (Cond.selects C y z).before a0 Z = true) (w6 : (Cond.instanceMethod z).before a0 Z = true) (w3 : (Cond.initialized z.cls).before a0 Z = true) (w4 : (Cond.code z b ml rt).before a0 Z = true)
    (E : Exa Z h a C) (hnf : ∀ vm, s.Warmed39 vm → NotFace (s.setVm vm) y) (hM : own_Met false l Z z b ml rt [] rm (.ref a :: argsL).toArray h Qc) (hp : parseMethodDescriptor y.desc = some ⟨ps, r⟩) (hlen : argsL.length = ps.length) (hst : st = argsL.reverse ++ .ref a :: rest) (hsz : Ls.size = maxL) (hy : y.cls ≠ "java/lang/invoke/MethodHandle" ∧ y.cls ≠ "java/lang/invoke/VarHandle") (hW : (rest.map fun v => v.category).sum ≤ W) (hf : rm.frames + 1 ≤ R.frames) (hl : W + (ml + 11) + rm.locals ≤ R.locals) (hc : k + rm.cells ≤ R.cells) (hs : n + rm.slots ≤ R.slots)
    (hr : ∀ v h', Qc v h' → own_G w p l e R s m args below meth c Z Q h' (k + rm.cells) (n + rm.slots) (mkF m (pc') Ls (v.toList ++ rest))) : own_G w p l e R s m args below meth c Z Q h k n (mkF m pc Ls st) := by
  obtain ⟨hd, rfl⟩ := hd
  intro T hX
  obtain ⟨L, vm, X, N, eT, hw, hS⟩ := hX
  have hZ := own_zw K.2.2.2.2.2.1 hS
  have hown : (s.setVm vm).vm.findClass own = some m.cls := by rw [show (s.setVm vm).vm = vm from rfl, hS.1.alike.findClass]; exact K.2.2.2.2.2.2.1
  obtain ⟨cq, kq, qa, qb, qc⟩ := isOf (s := s.setVm vm) hZ eT E
  obtain ⟨v, vm1, ⟨T1, L1, k1, n1⟩, -, X1, ⟨Lc, ⟨hQ, N1, z1⟩, l1, y1, x1⟩, st1⟩ := X.virtualBack K.1 (y := y) (z := z) hown (mvT hZ w1) (mvT hZ w2) (hnf vm hS.1) (mvT hZ w5) (mvT hZ w6) hy (backOf (W := W) (Q := fun v h'' L => Qc v h'' ∧ Fr Z.heap.size L ∧ h.size ≤ h''.size) (show MetFree _ _ _ _ _ _ from hM) hZ w4 w3 hf hl) qa qc (g := mkF m pc Ls st) rfl (hsz.trans K.2.2.1.symm) (Steps.refl _) (argsL := argsL) (rest := rest) (lenOf hp hlen) hst (by show 2 * 0 + _ ≤ W; simpa using hW) (hb K.2.1 hd) (fun _ _ => ⟨rfl, eT, hc, hs⟩)
  dsimp only [Pt.U, Pt.locs, Pt.cells, Pt.slots] at X1 l1 y1 x1 st1 hQ z1
  subst l1 y1 x1
  obtain ⟨T', v', h', k', n', hX', r1, r2, r3, r4, r5⟩ := hr v T1.heap hQ T1 ⟨_, vm, X1, N.app N1, rfl, hw, own_since hS z1⟩
  exact ⟨T', v', h', k', n', hX', r1, r2, r3, r4, fun fs q => st1.trans (r5 fs q)⟩
theorem own_retI (K : own_Cx p s m meth c Z own nm bytes maxL (some .int)) {z : Int32} (hd : own_D bytes pc .ireturn 1 pc') (hk : k ≤ R.cells) (hn : n ≤ R.slots) (hQ : Q (some (.int z)) h) : own_G w p l e R s m args below meth c Z Q h k n (mkF m pc Ls (.int z :: st)) := by
  obtain ⟨hd, -⟩ := hd
  intro T hX
  obtain ⟨L, vm, X, N, eT, hw, hS⟩ := hX
  exact ⟨T, some (.int z), h, k, n, ⟨L, vm, X, N, eT, hw, hS⟩, hk, hn, (fun q => by rw [K.2.2.2.1] at q; cases q), hQ, fun fs q => retOut X K.1 K.2.2.2.1 (rfl) (Or.inl ⟨rfl, Or.inl rfl, z, rfl⟩) (hb K.2.1 hd) q⟩
theorem own_retZ (K : own_Cx p s m meth c Z own nm bytes maxL (some .boolean)) {z : Int32} (hz : z = 0 ∨ z = 1) (hd : own_D bytes pc .ireturn 1 pc') (hk : k ≤ R.cells) (hn : n ≤ R.slots) (hQ : Q (some (.int z)) h) : own_G w p l e R s m args below meth c Z Q h k n (mkF m pc Ls (.int z :: st)) := by
  obtain ⟨hd, -⟩ := hd
  intro T hX
  obtain ⟨L, vm, X, N, eT, hw, hS⟩ := hX
  exact ⟨T, some (.int z), h, k, n, ⟨L, vm, X, N, eT, hw, hS⟩, hk, hn, (fun q => by rw [K.2.2.2.1] at q; cases q), hQ, fun fs q => retOut X K.1 K.2.2.2.1 (by rcases hz with rfl | rfl <;> decide) (Or.inl ⟨rfl, Or.inr (Or.inl rfl), z, rfl⟩) (hb K.2.1 hd) q⟩
theorem own_retC (K : own_Cx p s m meth c Z own nm bytes maxL (some .char)) {z : Int32} (hz : narrow .char (.int z) = .int z) (hd : own_D bytes pc .ireturn 1 pc') (hk : k ≤ R.cells) (hn : n ≤ R.slots) (hQ : Q (some (.int z)) h) : own_G w p l e R s m args below meth c Z Q h k n (mkF m pc Ls (.int z :: st)) := by
  obtain ⟨hd, -⟩ := hd
  intro T hX
  obtain ⟨L, vm, X, N, eT, hw, hS⟩ := hX
  exact ⟨T, some (.int z), h, k, n, ⟨L, vm, X, N, eT, hw, hS⟩, hk, hn, (fun q => by rw [K.2.2.2.1] at q; cases q), hQ, fun fs q => retOut X K.1 K.2.2.2.1 (hz) (Or.inl ⟨rfl, Or.inr (Or.inr (Or.inr (Or.inl rfl))), z, rfl⟩) (hb K.2.1 hd) q⟩
theorem own_retBy (K : own_Cx p s m meth c Z own nm bytes maxL (some .byte)) {z : Int32} (hz : narrow .byte (.int z) = .int z) (hd : own_D bytes pc .ireturn 1 pc') (hk : k ≤ R.cells) (hn : n ≤ R.slots) (hQ : Q (some (.int z)) h) : own_G w p l e R s m args below meth c Z Q h k n (mkF m pc Ls (.int z :: st)) := by
  obtain ⟨hd, -⟩ := hd
  intro T hX
  obtain ⟨L, vm, X, N, eT, hw, hS⟩ := hX
  exact ⟨T, some (.int z), h, k, n, ⟨L, vm, X, N, eT, hw, hS⟩, hk, hn, (fun q => by rw [K.2.2.2.1] at q; cases q), hQ, fun fs q => retOut X K.1 K.2.2.2.1 (hz) (Or.inl ⟨rfl, Or.inr (Or.inr (Or.inl rfl)), z, rfl⟩) (hb K.2.1 hd) q⟩
theorem own_retL (K : own_Cx p s m meth c Z own nm bytes maxL (some .long)) {z : Int64} (hd : own_D bytes pc .lreturn 1 pc') (hk : k ≤ R.cells) (hn : n ≤ R.slots) (hQ : Q (some (.long z)) h) : own_G w p l e R s m args below meth c Z Q h k n (mkF m pc Ls (.long z :: st)) := by
  obtain ⟨hd, -⟩ := hd
  intro T hX
  obtain ⟨L, vm, X, N, eT, hw, hS⟩ := hX
  exact ⟨T, some (.long z), h, k, n, ⟨L, vm, X, N, eT, hw, hS⟩, hk, hn, (fun q => by rw [K.2.2.2.1] at q; cases q), hQ, fun fs q => retOut X K.1 K.2.2.2.1 (rfl) (Or.inr (Or.inl ⟨rfl, rfl, z, rfl⟩)) (hb K.2.1 hd) q⟩
theorem own_retD (K : own_Cx p s m meth c Z own nm bytes maxL (some .double)) {z : UInt64} (hd : own_D bytes pc .dreturn 1 pc') (hk : k ≤ R.cells) (hn : n ≤ R.slots) (hQ : Q (some (.double z)) h) : own_G w p l e R s m args below meth c Z Q h k n (mkF m pc Ls (.double z :: st)) := by
  obtain ⟨hd, -⟩ := hd
  intro T hX
  obtain ⟨L, vm, X, N, eT, hw, hS⟩ := hX
  exact ⟨T, some (.double z), h, k, n, ⟨L, vm, X, N, eT, hw, hS⟩, hk, hn, (fun q => by rw [K.2.2.2.1] at q; cases q), hQ, fun fs q => retOut X K.1 K.2.2.2.1 (rfl) (Or.inr (Or.inr (Or.inl ⟨rfl, rfl, z, rfl⟩))) (hb K.2.1 hd) q⟩
theorem own_retA (K : own_Cx p s m meth c Z own nm bytes maxL (some tyR)) {v : Value} (hty : tyR.isReference = true) (hv : v.isRef = true) (hd : own_D bytes pc .areturn 1 pc') (hk : k ≤ R.cells) (hn : n ≤ R.slots) (hQ : Q (some (v)) h) : own_G w p l e R s m args below meth c Z Q h k n (mkF m pc Ls (v :: st)) := by
  obtain ⟨hd, -⟩ := hd
  intro T hX
  obtain ⟨L, vm, X, N, eT, hw, hS⟩ := hX
  exact ⟨T, some (v), h, k, n, ⟨L, vm, X, N, eT, hw, hS⟩, hk, hn, (fun q => by rw [K.2.2.2.1] at q; cases q), hQ, fun fs q => retOut X K.1 K.2.2.2.1 (by rcases ref_cases hv with rfl | ⟨a, rfl⟩ <;> cases tyR <;> first | rfl | cases hty) (Or.inr (Or.inr (Or.inr (Or.inr ⟨rfl, hty, hv⟩)))) (hb K.2.1 hd) q⟩
theorem own_retV (K : own_Cx p s m meth c Z own nm bytes maxL none) (hd : own_D bytes pc .return_ 1 pc') (hk : k ≤ R.cells) (hn : n ≤ R.slots) (hQ : Q none h) : own_G w p l e R s m args below meth c Z Q h k n (mkF m pc Ls []) := by
  obtain ⟨hd, -⟩ := hd
  intro T hX
  obtain ⟨L, vm, X, N, eT, hw, hS⟩ := hX
  exact ⟨T, none, h, k, n, ⟨L, vm, X, N, eT, hw, hS⟩, hk, hn, (fun _ => rfl), hQ, fun fs q => X.returnOut K.1 K.2.2.2.1 (hb K.2.1 hd) q⟩
theorem own_met {y : MethodName} {ws : List Cond} {rm : Room} {as' : Array Value} (hpn : plainFor y = true)
    (body : ∀ (p : Program) (e : Env) (s : State) (m : MethodId) (below : List Frame) (meth : Method) (c : Code), own_Cx p s m meth c Z y.cls y.name bytes maxL ret → own_G w p l e rm s m as' below meth c Z Q h 0 0 (entryFrame m as' maxL)) :
    own_Met w l Z y bytes maxL ret ws rm as' h Q := by
  refine MetFree.of_bodySF hpn hisR ?_
  intro p e s m args below meth c s₁ Bd hml0 hP hK
  obtain ⟨rfl, hZ, hh⟩ := hP
  have X0 : Stand p l e rm s m args below meth c s₁ [] 0 0 := Stand.of_body Bd
  have e0 : s₁.heap = h := by rw [← hh, Bd.state]; rfl
  have hlk : meth.locks = false := BodyLoose.notSynchronized Bd
  obtain ⟨T', v, h', k', n', ⟨L, vm, X, N, eT, hw, hS⟩, r1, r2, r3, r4, r5⟩ := body p e s m below meth c ⟨Bd.exec, Bd.bytes, hml0, Bd.returns, hlk, hZ, findClass_of_methodNamed Bd.named, (name_of_methodNamed Bd.named Bd.method).1⟩ s₁
    ⟨[], s.vm, X0, Fr.nil _, e0, fun _ => rfl, (State.WarmedH.refl s).since _⟩
  have hgr : h.size ≤ h'.size := by rw [← eT, ← hh]; exact X.same.2.1
  cases w with
  | false =>
    obtain rfl := hw rfl
    obtain ⟨fs, hr, hrun, hended, hW, hsame⟩ := Stand.leave (s := s) X r3
    exact ⟨_, _, r5 fs hr, hrun, hended, v, L, rfl, ⟨by show Q v T'.heap; rw [eT]; exact r4, N, by show h.size ≤ T'.heap.size; rw [eT]; exact hgr⟩, ⟨_, rfl⟩, hW, hsame.mono r1 r2⟩
  | true =>
    obtain ⟨fs, hr, hrun, hended, q1, q2, q3, q4⟩ := Stand.leaveW X hS (Nat.le_of_eq (congrArg Array.size eT.symm)) r3
    exact ⟨_, _, r5 fs hr, hrun, hended, v, L, rfl, ⟨by show Q v T'.heap; rw [eT]; exact r4, N, by show h.size ≤ T'.heap.size; rw [eT]; exact hgr⟩, q1, q2, q3, q4.mono r1 r2⟩
theorem own_list_getD {vs : List Value} {cl : Cell} (e : cl.slots.toList = vs) (d : Value) {i : Nat} (hi : i < cl.slots.size) : cl.slots[i]? = some (vs.getD i d) := by
  subst e
  rw [List.getD_eq_getElem?_getD, Array.getElem?_toList, Array.getElem?_eq_getElem hi]; rfl
theorem own_arv {a : Addr} {ty : FieldType} {ad : String} {vs : List Value} (F : own_AK Z h (a, ty, ad, vs)) (hl : vs.length < 2147483648) : ∃ (kc : ClassId) (z : Int32), z.toNatClampNeg = vs.length ∧ ¬ z < 0 ∧ Arv Z h a kc ty z vs .null := by
  obtain ⟨cl, A, e1, e3, -, -⟩ := F
  have e1' : cl.slots.toList = vs := e1
  have hsz : cl.slots.size = vs.length := by rw [← Array.length_toList, e1']
  have q := len_toInt (n := vs.length) (by omega)
  have z0 : ¬ vs.length.toInt32 < 0 := by rw [Int32.lt_iff_toInt_lt, q, show (0 : Int32).toInt = 0 from rfl]; omega
  have zc : vs.length.toInt32.toNatClampNeg = vs.length := by simp only [Int32.toNatClampNeg, q]; rfl
  refine ⟨cl.cls, vs.length.toInt32, zc, z0, cl, A, rfl, by rw [zc]; exact hsz, z0, fun i hi => own_list_getD e1' _ hi, fun i hi => ?_⟩
  have hi' : i < vs.length := by omega
  rw [List.getD_eq_getElem?_getD, List.getElem?_eq_getElem hi']
  exact e3 _ (List.getElem_mem hi')
theorem own_of_arv {a : Addr} {ty : FieldType} {vs : List Value} {kc : ClassId} {z : Int32} {d : Value} (F : Arv Z h a kc ty z vs d) (hz : z.toNatClampNeg = vs.length) : ∃ cl : Cell, Arr Z h a cl ty ∧ cl.cls = kc ∧ cl.slots.toList = vs ∧ ∀ v ∈ vs, fits ty v = true := by
  obtain ⟨cl, A, e1, e2, -, H, G⟩ := F
  have hsz : cl.slots.size = vs.length := e2.trans hz
  refine ⟨cl, A, e1, ?_, fun v hv => ?_⟩
  · apply List.ext_getElem?
    intro i
    rw [Array.getElem?_toList]
    by_cases hi : i < cl.slots.size
    · rw [H i hi, List.getD_eq_getElem?_getD, List.getElem?_eq_getElem (by omega)]; rfl
    · rw [Array.getElem?_eq_none (by omega), List.getElem?_eq_none (by omega)]
  · obtain ⟨i, hi, rfl⟩ := List.getElem_of_mem hv
    have := G i (by omega)
    rw [List.getD_eq_getElem?_getD, List.getElem?_eq_getElem hi] at this
    exact this
theorem own_H.keepA (H : own_H Z h os as) {b : Addr} {ty : FieldType} {ad : String} {vd vd' : List Value} {i : Nat} (hb : as[i]? = some (b, ty, ad, vd)) (Kp : Keep h h' [b]) (F : ∃ cl : Cell, Arr Z h' b cl ty ∧ cl.slots.toList = vd' ∧ ∀ v ∈ vd', fits ty v = true) (hty : ∀ C, ty ≠ .object C) : own_H Z h' os (as.set i (b, ty, ad, vd')) := by
  have nb := (H.2.2.1 _ (own_mem hb)).1
  have hlen := (List.getElem?_eq_some_iff.mp hb).1
  refine ⟨⟨Nat.le_trans H.1.1 Kp.1, fun x cx hx => Kp.2.1 x cx (H.1.2 x cx hx) fun q => ?_⟩, fun o ho => ?_, fun y hy => ?_, ?_⟩
  · cases List.mem_singleton.mp q; exact absurd (Array.getElem?_eq_some_iff.mp hx).1 (Nat.not_lt.mpr nb)
  · obtain ⟨n1, E, F', Pw⟩ := H.2.1 o ho
    exact ⟨n1, E.keep Kp, fun f hf => (F' f hf).keep Kp fun q => H.neOA ho (own_mem hb) (List.mem_singleton.mp q), Pw⟩
  · obtain ⟨j, hj⟩ := List.mem_iff_getElem?.mp hy
    rw [List.getElem?_set] at hj
    by_cases ij : i = j
    · subst ij
      rw [if_pos rfl, if_pos hlen] at hj
      obtain rfl := Option.some.inj hj
      obtain ⟨cl, A, e1, e2⟩ := F
      obtain ⟨-, cl0, -, -, -, e4, -⟩ := H.2.2.1 _ (own_mem hb)
      exact ⟨nb, cl, A, e1, e2, fun q => (e4 q).keep Kp, fun C hC => absurd hC (hty C)⟩
    · rw [if_neg ij] at hj
      obtain ⟨n1, cl, h1, h2, h3, h4, h5⟩ := H.2.2.1 _ (own_mem hj)
      exact ⟨n1, cl, ⟨Kp.2.1 _ _ h1.1 fun q => H.neAA hj hb (Ne.symm ij) (List.mem_singleton.mp q), h1.2⟩, h2, h3, fun q => (h4 q).keep Kp, h5⟩
  · rw [own_set_map (f := fun z => z.1) (x' := (b, ty, ad, vd')) hb rfl]; exact H.2.2.2
theorem own_range_take {vs : List Value} {sq nq : Nat} {d : Value} (hq : sq + nq ≤ vs.length) : (vs.drop sq).take nq = (List.range nq).map fun i => vs.getD (sq + i) d := by
  apply List.ext_getElem?
  intro i
  by_cases hi : i < nq
  · rw [List.getElem?_take_of_lt hi, List.getElem?_drop, List.getElem?_map, List.getElem?_range hi, Option.map_some, List.getD_eq_getElem?_getD, List.getElem?_eq_getElem (by omega)]; rfl
  · rw [List.getElem?_eq_none (by simp; omega), List.getElem?_eq_none (by simp; omega)]
theorem own_arraycopy (K : own_Cx p s m meth c Z own nm bytes maxL ret) {i ia ib : Nat} {a b : Addr} {ty : FieldType} {ada adb : String} {vs vd : List Value} {sp dp nn : Int32} {sq dq nq : Nat} (hd : own_D bytes pc (.invokestatic i) 3 pc') (w1 : (Cond.methodLink own i Jvm.Stand.acN).before a0 Z = true) (w2 : (Cond.native Jvm.Stand.acN).before a0 Z = true) (w3 : (Cond.static Jvm.Stand.acN).before a0 Z = true) (w4 : (Cond.initialized "java/lang/System").before a0 Z = true) (H : own_H Z h os as)
    (ha : as[ia]? = some (a, ty, ada, vs)) (hb' : as[ib]? = some (b, ty, adb, vd)) (hty : refKind ty = false) (hto : ∀ C, ty ≠ .object C) (hsp : sp.toInt = (sq : Int)) (hdp : dp.toInt = (dq : Int)) (hnn : nn.toInt = (nq : Int)) (h4 : sq + nq ≤ vs.length) (h5 : dq + nq ≤ vd.length) (hvl : vs.length < 2147483648) (hvd : vd.length < 2147483648) (hsz : Ls.size = maxL) (hf : 1 ≤ R.frames) {W : Nat} (hW : (st.map fun v => v.category).sum ≤ W) (hlo : W + (nativeFrameWords "java/lang/System" "arraycopy" 5 + 11) ≤ R.locals)
    (hr : ∀ h', own_H Z h' os (as.set ib (b, ty, adb, vd.take dq ++ (vs.drop sq).take nq ++ vd.drop (dq + nq))) → own_G w p l e R s m args below meth c Z Q h' k n (mkF m pc' Ls st)) : own_G w p l e R s m args below meth c Z Q h k n (mkF m pc Ls (.int nn :: .int dp :: .ref b :: .int sp :: .ref a :: st)) := by
  obtain ⟨hd, rfl⟩ := hd
  refine own_step K (P := fun h' => own_H Z h' os (as.set ib (b, ty, adb, vd.take dq ++ (vs.drop sq).take nq ++ vd.drop (dq + nq)))) (fun X hZ hw eT N => ?_) hr
  obtain ⟨ka, za, qa1, qa2, A⟩ := own_arv (H.2.2.1 _ (own_mem ha)).2 hvl
  obtain ⟨kb, zb, qb1, qb2, B⟩ := own_arv (H.2.2.1 _ (own_mem hb')).2 hvd
  have i1 := own_idx hsp
  have i2 := own_idx hdp
  have i3 := own_idx hnn
  have neg : ∀ {x : Int32} {q : Nat}, x.toInt = (q : Int) → ¬ x < 0 := fun {x q} e => by rw [Int32.lt_iff_toInt_lt, e, show (0 : Int32).toInt = 0 from rfl]; omega
  obtain ⟨T', h', L, X', e', N', Kp, A', st⟩ := cpA X K.1 hZ hw w1 w2 w3 w4 eT A B (Or.inl ⟨rfl, hty⟩) (neg hsp) (neg hdp) (neg hnn) (by rw [i1, i3, qa1]; exact h4) (by rw [i2, i3, qb1]; exact h5) (by rw [i1, i3]) (by rw [i2, i3]; exact h5) N (H.2.2.1 _ (own_mem hb')).1 (g := mkF m pc Ls (.int nn :: .int dp :: .ref b :: .int sp :: .ref a :: st)) rfl (hsz.trans K.2.2.1.symm) rfl (hb K.2.1 hd) hf (W := W) (by show 2 * 0 + _ ≤ W; simpa using hW) hlo
  rw [i2, i3, ← own_range_take h4] at A'
  obtain ⟨cl, c1, -, c3, c4⟩ := own_of_arv A' (by rw [qb1]; simp; omega)
  exact ⟨T', h', L, X', N', e', Kp.1, H.keepA hb' Kp ⟨cl, c1, c3, c4⟩ hto, st⟩
theorem own_cast {g g' : JFrame} (q : g = g') (hr : own_G w p l e R s m args below meth c Z Q h k n g') : own_G w p l e R s m args below meth c Z Q h k n g := q ▸ hr
theorem own_topI {x x' : Int32} (q : x = x') (hr : own_G w p l e R s m args below meth c Z Q h k n (mkF m pc Ls (.int x' :: st))) : own_G w p l e R s m args below meth c Z Q h k n (mkF m pc Ls (.int x :: st)) := q ▸ hr
theorem own_topL {x x' : Int64} (q : x = x') (hr : own_G w p l e R s m args below meth c Z Q h k n (mkF m pc Ls (.long x' :: st))) : own_G w p l e R s m args below meth c Z Q h k n (mkF m pc Ls (.long x :: st)) := q ▸ hr
theorem own_topD {x x' : UInt64} (q : x = x') (hr : own_G w p l e R s m args below meth c Z Q h k n (mkF m pc Ls (.double x' :: st))) : own_G w p l e R s m args below meth c Z Q h k n (mkF m pc Ls (.double x :: st)) := q ▸ hr
theorem own_H.perm (H : own_H Z h os as) (po : os.Perm os') (pa : as.Perm as') : own_H Z h os' as' :=
  ⟨H.1, fun o ho => H.2.1 o (po.mem_iff.mpr ho), fun a ha => H.2.2.1 a (pa.mem_iff.mpr ha), ((po.map _).append (pa.map _)).nodup_iff.mp H.2.2.2⟩
theorem own_front {α : Type} {L : List α} {x : α} : ∀ {i : Nat}, L[i]? = some x → L.Perm (x :: L.eraseIdx i) := by
  induction L with
  | nil => intro i hx; cases hx
  | cons y L ih =>
    intro i hx
    cases i with
    | zero => cases hx; exact List.Perm.refl _
    | succ i =>
      have q := ih (i := i) (by simpa using hx)
      exact ((q.cons y).trans (List.Perm.swap x y _))
theorem own_H.frontO (H : own_H Z h os as) (i : Nat) {x : own_O} (hx : os[i]? = some x) : own_H Z h (x :: os.eraseIdx i) as := H.perm (own_front hx) (List.Perm.refl _)
theorem own_H.frontA (H : own_H Z h os as) (i : Nat) {x : own_A} (hx : as[i]? = some x) : own_H Z h os (x :: as.eraseIdx i) := H.perm (List.Perm.refl _) (own_front hx)
end OwnKit
end Jvm.RoadKit
namespace Jvm.Pilot.@@N@@
open Jvm Jvm.ClassFile Sem Op Lib Jvm.Free Jvm.Stand Jvm.LawKit Jvm.RoadKit Bundle Jvm.Pilot.@@N@@.Jvm.D
def own_Z (Z : State) (a0 : Array Value) : Prop := ∀ d ∈ tables_1, d.before a0 Z = true
theorem own_w0 {Z : State} {a0 : Array Value} (hw : own_Z Z a0) : (Jvm.Cond.constant "com/example/fielder/fielder/service/ScoredDocumentsAddScoresPinLaw" (9 : Nat) (2147483627 : Int32)).before a0 Z = true := hw _ (List.mem_of_getElem? (i := 0) rfl)
theorem own_w1 {Z : State} {a0 : Array Value} (hw : own_Z Z a0) : (Jvm.Cond.methodLink "com/example/fielder/fielder/service/ScoredDocumentsAddScoresPinLaw" (10 : Nat) ({ cls := "java/lang/Math", name := "min", desc := "(II)I" } : Jvm.MethodName)).before a0 Z = true := hw _ (List.mem_of_getElem? (i := 1) rfl)
theorem own_w2 {Z : State} {a0 : Array Value} (hw : own_Z Z a0) : (Jvm.Cond.static ({ cls := "java/lang/Math", name := "min", desc := "(II)I" } : Jvm.MethodName)).before a0 Z = true := hw _ (List.mem_of_getElem? (i := 2) rfl)
theorem own_w3 {Z : State} {a0 : Array Value} (hw : own_Z Z a0) : (Jvm.Cond.initialized "java/lang/Math").before a0 Z = true := hw _ (List.mem_of_getElem? (i := 3) rfl)
theorem own_w4 {Z : State} {a0 : Array Value} (hw : own_Z Z a0) : (Jvm.Cond.code ({ cls := "java/lang/Math", name := "min", desc := "(II)I" } : Jvm.MethodName) jdk_29_method_69_code (2 : Nat) (Option.some Jvm.ClassFile.FieldType.int)).before a0 Z = true := hw _ (List.mem_of_getElem? (i := 4) rfl)
theorem own_w5 {Z : State} {a0 : Array Value} (hw : own_Z Z a0) : (Jvm.Cond.classLink "com/example/fielder/fielder/service/ScoredDocumentsAddScoresPinLaw" (16 : Nat) "com/example/fielder/fielder/service/ScoredDocuments").before a0 Z = true := hw _ (List.mem_of_getElem? (i := 5) rfl)
theorem own_w6 {Z : State} {a0 : Array Value} (hw : own_Z Z a0) : (Jvm.Cond.instantiable "com/example/fielder/fielder/service/ScoredDocuments" (3 : Nat)).before a0 Z = true := hw _ (List.mem_of_getElem? (i := 6) rfl)
theorem own_w7 {Z : State} {a0 : Array Value} (hw : own_Z Z a0) : (Jvm.Cond.initialized "com/example/fielder/fielder/service/ScoredDocuments").before a0 Z = true := hw _ (List.mem_of_getElem? (i := 7) rfl)
theorem own_w8 {Z : State} {a0 : Array Value} (hw : own_Z Z a0) : (Jvm.Cond.methodLink "com/example/fielder/fielder/service/ScoredDocumentsAddScoresPinLaw" (18 : Nat) ({ cls := "com/example/fielder/fielder/service/ScoredDocuments", name := "<init>", desc := "()V" } : Jvm.MethodName)).before a0 Z = true := hw _ (List.mem_of_getElem? (i := 8) rfl)
theorem own_w9 {Z : State} {a0 : Array Value} (hw : own_Z Z a0) : (Jvm.Cond.instanceMethod ({ cls := "com/example/fielder/fielder/service/ScoredDocuments", name := "<init>", desc := "()V" } : Jvm.MethodName)).before a0 Z = true := hw _ (List.mem_of_getElem? (i := 9) rfl)
theorem own_w10 {Z : State} {a0 : Array Value} (hw : own_Z Z a0) : (Jvm.Cond.code ({ cls := "com/example/fielder/fielder/service/ScoredDocuments", name := "<init>", desc := "()V" } : Jvm.MethodName) prog_38_method_1_code (1 : Nat) (Option.none : Option Jvm.ClassFile.FieldType)).before a0 Z = true := hw _ (List.mem_of_getElem? (i := 10) rfl)
theorem own_w11 {Z : State} {a0 : Array Value} (hw : own_Z Z a0) : (Jvm.Cond.methodLink "com/example/fielder/fielder/service/ScoredDocuments" (1 : Nat) ({ cls := "java/lang/Object", name := "<init>", desc := "()V" } : Jvm.MethodName)).before a0 Z = true := hw _ (List.mem_of_getElem? (i := 11) rfl)
theorem own_w12 {Z : State} {a0 : Array Value} (hw : own_Z Z a0) : (Jvm.Cond.instanceMethod ({ cls := "java/lang/Object", name := "<init>", desc := "()V" } : Jvm.MethodName)).before a0 Z = true := hw _ (List.mem_of_getElem? (i := 12) rfl)
theorem own_w13 {Z : State} {a0 : Array Value} (hw : own_Z Z a0) : (Jvm.Cond.code ({ cls := "java/lang/Object", name := "<init>", desc := "()V" } : Jvm.MethodName) object_method_1_code (1 : Nat) (Option.none : Option Jvm.ClassFile.FieldType)).before a0 Z = true := hw _ (List.mem_of_getElem? (i := 13) rfl)
theorem own_w14 {Z : State} {a0 : Array Value} (hw : own_Z Z a0) : (Jvm.Cond.arrayClass Jvm.ClassFile.FieldType.int).before a0 Z = true := hw _ (List.mem_of_getElem? (i := 14) rfl)
theorem own_w15 {Z : State} {a0 : Array Value} (hw : own_Z Z a0) : (Jvm.Cond.fieldLink "com/example/fielder/fielder/service/ScoredDocuments" (7 : Nat) "com/example/fielder/fielder/service/ScoredDocuments" "documents" "[I").before a0 Z = true := hw _ (List.mem_of_getElem? (i := 15) rfl)
theorem own_w16 {Z : State} {a0 : Array Value} (hw : own_Z Z a0) : (Jvm.Cond.lays "com/example/fielder/fielder/service/ScoredDocuments" "com/example/fielder/fielder/service/ScoredDocuments" "documents" "[I").before a0 Z = true := hw _ (List.mem_of_getElem? (i := 16) rfl)
theorem own_w17 {Z : State} {a0 : Array Value} (hw : own_Z Z a0) : (Jvm.Cond.arrayClass Jvm.ClassFile.FieldType.double).before a0 Z = true := hw _ (List.mem_of_getElem? (i := 17) rfl)
theorem own_w18 {Z : State} {a0 : Array Value} (hw : own_Z Z a0) : (Jvm.Cond.fieldLink "com/example/fielder/fielder/service/ScoredDocuments" (13 : Nat) "com/example/fielder/fielder/service/ScoredDocuments" "scores" "[D").before a0 Z = true := hw _ (List.mem_of_getElem? (i := 18) rfl)
theorem own_w19 {Z : State} {a0 : Array Value} (hw : own_Z Z a0) : (Jvm.Cond.lays "com/example/fielder/fielder/service/ScoredDocuments" "com/example/fielder/fielder/service/ScoredDocuments" "scores" "[D").before a0 Z = true := hw _ (List.mem_of_getElem? (i := 19) rfl)
theorem own_w20 {Z : State} {a0 : Array Value} (hw : own_Z Z a0) : (Jvm.Cond.methodLink "com/example/fielder/fielder/service/ScoredDocumentsAddScoresPinLaw" (23 : Nat) ({ cls := "com/example/fielder/fielder/service/ScoredDocuments", name := "addScores", desc := "(Lcom/example/fielder/fielder/service/ScoredDocuments;)V" } : Jvm.MethodName)).before a0 Z = true := hw _ (List.mem_of_getElem? (i := 20) rfl)
theorem own_w21 {Z : State} {a0 : Array Value} (hw : own_Z Z a0) : (Jvm.Cond.declares ({ cls := "com/example/fielder/fielder/service/ScoredDocuments", name := "addScores", desc := "(Lcom/example/fielder/fielder/service/ScoredDocuments;)V" } : Jvm.MethodName)).before a0 Z = true := hw _ (List.mem_of_getElem? (i := 21) rfl)
theorem own_w22 {Z : State} {a0 : Array Value} (hw : own_Z Z a0) : (Jvm.Cond.instanceMethod ({ cls := "com/example/fielder/fielder/service/ScoredDocuments", name := "addScores", desc := "(Lcom/example/fielder/fielder/service/ScoredDocuments;)V" } : Jvm.MethodName)).before a0 Z = true := hw _ (List.mem_of_getElem? (i := 22) rfl)
theorem own_w23 {Z : State} {a0 : Array Value} (hw : own_Z Z a0) : (Jvm.Cond.selects "com/example/fielder/fielder/service/ScoredDocuments" ({ cls := "com/example/fielder/fielder/service/ScoredDocuments", name := "addScores", desc := "(Lcom/example/fielder/fielder/service/ScoredDocuments;)V" } : Jvm.MethodName) ({ cls := "com/example/fielder/fielder/service/ScoredDocuments", name := "addScores", desc := "(Lcom/example/fielder/fielder/service/ScoredDocuments;)V" } : Jvm.MethodName)).before a0 Z = true := hw _ (List.mem_of_getElem? (i := 23) rfl)
theorem own_w24 {Z : State} {a0 : Array Value} (hw : own_Z Z a0) : (Jvm.Cond.code ({ cls := "com/example/fielder/fielder/service/ScoredDocuments", name := "addScores", desc := "(Lcom/example/fielder/fielder/service/ScoredDocuments;)V" } : Jvm.MethodName) prog_38_method_8_code (4 : Nat) (Option.none : Option Jvm.ClassFile.FieldType)).before a0 Z = true := hw _ (List.mem_of_getElem? (i := 24) rfl)
theorem own_w25 {Z : State} {a0 : Array Value} (hw : own_Z Z a0) : (Jvm.Cond.fieldLink "com/example/fielder/fielder/service/ScoredDocuments" (17 : Nat) "com/example/fielder/fielder/service/ScoredDocuments" "size" "I").before a0 Z = true := hw _ (List.mem_of_getElem? (i := 25) rfl)
theorem own_w26 {Z : State} {a0 : Array Value} (hw : own_Z Z a0) : (Jvm.Cond.lays "com/example/fielder/fielder/service/ScoredDocuments" "com/example/fielder/fielder/service/ScoredDocuments" "size" "I").before a0 Z = true := hw _ (List.mem_of_getElem? (i := 26) rfl)
theorem own_w27 {Z : State} {a0 : Array Value} (hw : own_Z Z a0) : (Jvm.Cond.methodLink "com/example/fielder/fielder/service/ScoredDocumentsAddScoresPinLaw" (27 : Nat) ({ cls := "com/example/fielder/fielder/service/ScoredDocuments", name := "size", desc := "()I" } : Jvm.MethodName)).before a0 Z = true := hw _ (List.mem_of_getElem? (i := 27) rfl)
theorem own_w28 {Z : State} {a0 : Array Value} (hw : own_Z Z a0) : (Jvm.Cond.declares ({ cls := "com/example/fielder/fielder/service/ScoredDocuments", name := "size", desc := "()I" } : Jvm.MethodName)).before a0 Z = true := hw _ (List.mem_of_getElem? (i := 28) rfl)
theorem own_w29 {Z : State} {a0 : Array Value} (hw : own_Z Z a0) : (Jvm.Cond.instanceMethod ({ cls := "com/example/fielder/fielder/service/ScoredDocuments", name := "size", desc := "()I" } : Jvm.MethodName)).before a0 Z = true := hw _ (List.mem_of_getElem? (i := 29) rfl)
theorem own_w30 {Z : State} {a0 : Array Value} (hw : own_Z Z a0) : (Jvm.Cond.selects "com/example/fielder/fielder/service/ScoredDocuments" ({ cls := "com/example/fielder/fielder/service/ScoredDocuments", name := "size", desc := "()I" } : Jvm.MethodName) ({ cls := "com/example/fielder/fielder/service/ScoredDocuments", name := "size", desc := "()I" } : Jvm.MethodName)).before a0 Z = true := hw _ (List.mem_of_getElem? (i := 30) rfl)
theorem own_w31 {Z : State} {a0 : Array Value} (hw : own_Z Z a0) : (Jvm.Cond.code ({ cls := "com/example/fielder/fielder/service/ScoredDocuments", name := "size", desc := "()I" } : Jvm.MethodName) prog_38_method_3_code (1 : Nat) (Option.some Jvm.ClassFile.FieldType.int)).before a0 Z = true := hw _ (List.mem_of_getElem? (i := 31) rfl)
theorem own_w32 {Z : State} {a0 : Array Value} (hw : own_Z Z a0) : (Jvm.Cond.methodLink "com/example/fielder/fielder/service/ScoredDocumentsAddScoresPinLaw" (19 : Nat) ({ cls := "com/example/fielder/fielder/service/ScoredDocuments", name := "add", desc := "(ID)V" } : Jvm.MethodName)).before a0 Z = true := hw _ (List.mem_of_getElem? (i := 32) rfl)
theorem own_w33 {Z : State} {a0 : Array Value} (hw : own_Z Z a0) : (Jvm.Cond.declares ({ cls := "com/example/fielder/fielder/service/ScoredDocuments", name := "add", desc := "(ID)V" } : Jvm.MethodName)).before a0 Z = true := hw _ (List.mem_of_getElem? (i := 33) rfl)
theorem own_w34 {Z : State} {a0 : Array Value} (hw : own_Z Z a0) : (Jvm.Cond.instanceMethod ({ cls := "com/example/fielder/fielder/service/ScoredDocuments", name := "add", desc := "(ID)V" } : Jvm.MethodName)).before a0 Z = true := hw _ (List.mem_of_getElem? (i := 34) rfl)
theorem own_w35 {Z : State} {a0 : Array Value} (hw : own_Z Z a0) : (Jvm.Cond.selects "com/example/fielder/fielder/service/ScoredDocuments" ({ cls := "com/example/fielder/fielder/service/ScoredDocuments", name := "add", desc := "(ID)V" } : Jvm.MethodName) ({ cls := "com/example/fielder/fielder/service/ScoredDocuments", name := "add", desc := "(ID)V" } : Jvm.MethodName)).before a0 Z = true := hw _ (List.mem_of_getElem? (i := 35) rfl)
theorem own_w36 {Z : State} {a0 : Array Value} (hw : own_Z Z a0) : (Jvm.Cond.code ({ cls := "com/example/fielder/fielder/service/ScoredDocuments", name := "add", desc := "(ID)V" } : Jvm.MethodName) prog_38_method_2_code (4 : Nat) (Option.none : Option Jvm.ClassFile.FieldType)).before a0 Z = true := hw _ (List.mem_of_getElem? (i := 36) rfl)
theorem own_w37 {Z : State} {a0 : Array Value} (hw : own_Z Z a0) : (Jvm.Cond.methodLink "com/example/fielder/fielder/service/ScoredDocumentsAddScoresPinLaw" (31 : Nat) ({ cls := "com/example/fielder/fielder/service/ScoredDocuments", name := "score", desc := "(I)D" } : Jvm.MethodName)).before a0 Z = true := hw _ (List.mem_of_getElem? (i := 37) rfl)
theorem own_w38 {Z : State} {a0 : Array Value} (hw : own_Z Z a0) : (Jvm.Cond.declares ({ cls := "com/example/fielder/fielder/service/ScoredDocuments", name := "score", desc := "(I)D" } : Jvm.MethodName)).before a0 Z = true := hw _ (List.mem_of_getElem? (i := 38) rfl)
theorem own_w39 {Z : State} {a0 : Array Value} (hw : own_Z Z a0) : (Jvm.Cond.instanceMethod ({ cls := "com/example/fielder/fielder/service/ScoredDocuments", name := "score", desc := "(I)D" } : Jvm.MethodName)).before a0 Z = true := hw _ (List.mem_of_getElem? (i := 39) rfl)
theorem own_w40 {Z : State} {a0 : Array Value} (hw : own_Z Z a0) : (Jvm.Cond.selects "com/example/fielder/fielder/service/ScoredDocuments" ({ cls := "com/example/fielder/fielder/service/ScoredDocuments", name := "score", desc := "(I)D" } : Jvm.MethodName) ({ cls := "com/example/fielder/fielder/service/ScoredDocuments", name := "score", desc := "(I)D" } : Jvm.MethodName)).before a0 Z = true := hw _ (List.mem_of_getElem? (i := 40) rfl)
theorem own_w41 {Z : State} {a0 : Array Value} (hw : own_Z Z a0) : (Jvm.Cond.code ({ cls := "com/example/fielder/fielder/service/ScoredDocuments", name := "score", desc := "(I)D" } : Jvm.MethodName) prog_38_method_5_code (2 : Nat) (Option.some Jvm.ClassFile.FieldType.double)).before a0 Z = true := hw _ (List.mem_of_getElem? (i := 41) rfl)
theorem own_w42 {Z : State} {a0 : Array Value} (hw : own_Z Z a0) : (Jvm.Cond.methodLink "com/example/fielder/fielder/service/ScoredDocumentsAddScoresPinLaw" (35 : Nat) ({ cls := "com/example/fielder/fielder/service/ScoredDocumentsAddScoresPinLaw", name := "expect", desc := "(IDIIIIDDD)D" } : Jvm.MethodName)).before a0 Z = true := hw _ (List.mem_of_getElem? (i := 42) rfl)
theorem own_w43 {Z : State} {a0 : Array Value} (hw : own_Z Z a0) : (Jvm.Cond.static ({ cls := "com/example/fielder/fielder/service/ScoredDocumentsAddScoresPinLaw", name := "expect", desc := "(IDIIIIDDD)D" } : Jvm.MethodName)).before a0 Z = true := hw _ (List.mem_of_getElem? (i := 43) rfl)
theorem own_w44 {Z : State} {a0 : Array Value} (hw : own_Z Z a0) : (Jvm.Cond.initialized "com/example/fielder/fielder/service/ScoredDocumentsAddScoresPinLaw").before a0 Z = true := hw _ (List.mem_of_getElem? (i := 44) rfl)
theorem own_w45 {Z : State} {a0 : Array Value} (hw : own_Z Z a0) : (Jvm.Cond.code ({ cls := "com/example/fielder/fielder/service/ScoredDocumentsAddScoresPinLaw", name := "expect", desc := "(IDIIIIDDD)D" } : Jvm.MethodName) method_2_code (13 : Nat) (Option.some Jvm.ClassFile.FieldType.double)).before a0 Z = true := hw _ (List.mem_of_getElem? (i := 45) rfl)
theorem own_d0_0 : own_D prog_38_method_1_code 0 (.aload_n 0) 1 1 := ⟨by decide +kernel, rfl⟩
theorem own_d0_1 : own_D prog_38_method_1_code 1 (.invokespecial 1) 3 4 := ⟨by decide +kernel, rfl⟩
theorem own_d0_4 : own_D prog_38_method_1_code 4 (.aload_n 0) 1 5 := ⟨by decide +kernel, rfl⟩
theorem own_d0_5 : own_D prog_38_method_1_code 5 (.iconst 4) 1 6 := ⟨by decide +kernel, rfl⟩
theorem own_d0_6 : own_D prog_38_method_1_code 6 (.newarray .int) 2 8 := ⟨by decide +kernel, rfl⟩
theorem own_d0_8 : own_D prog_38_method_1_code 8 (.putfield 7) 3 11 := ⟨by decide +kernel, rfl⟩
theorem own_d0_11 : own_D prog_38_method_1_code 11 (.aload_n 0) 1 12 := ⟨by decide +kernel, rfl⟩
theorem own_d0_12 : own_D prog_38_method_1_code 12 (.iconst 4) 1 13 := ⟨by decide +kernel, rfl⟩
theorem own_d0_13 : own_D prog_38_method_1_code 13 (.newarray .double) 2 15 := ⟨by decide +kernel, rfl⟩
theorem own_d0_15 : own_D prog_38_method_1_code 15 (.putfield 13) 3 18 := ⟨by decide +kernel, rfl⟩
theorem own_d0_18 : own_D prog_38_method_1_code 18 (.return_) 1 19 := ⟨by decide +kernel, rfl⟩
theorem own_d1_0 : own_D prog_38_method_3_code 0 (.aload_n 0) 1 1 := ⟨by decide +kernel, rfl⟩
theorem own_d1_1 : own_D prog_38_method_3_code 1 (.getfield 17) 3 4 := ⟨by decide +kernel, rfl⟩
theorem own_d1_4 : own_D prog_38_method_3_code 4 (.ireturn) 1 5 := ⟨by decide +kernel, rfl⟩
theorem own_d2_0 : own_D prog_38_method_5_code 0 (.aload_n 0) 1 1 := ⟨by decide +kernel, rfl⟩
theorem own_d2_1 : own_D prog_38_method_5_code 1 (.getfield 13) 3 4 := ⟨by decide +kernel, rfl⟩
theorem own_d2_4 : own_D prog_38_method_5_code 4 (.iload_n 1) 1 5 := ⟨by decide +kernel, rfl⟩
theorem own_d2_5 : own_D prog_38_method_5_code 5 (.daload) 1 6 := ⟨by decide +kernel, rfl⟩
theorem own_d2_6 : own_D prog_38_method_5_code 6 (.dreturn) 1 7 := ⟨by decide +kernel, rfl⟩
theorem own_d3_0 : own_D jdk_29_method_69_code 0 (.iload_n 0) 1 1 := ⟨by decide +kernel, rfl⟩
theorem own_d3_1 : own_D jdk_29_method_69_code 1 (.iload_n 1) 1 2 := ⟨by decide +kernel, rfl⟩
theorem own_d3_2 : own_B jdk_29_method_69_code 2 (.if_icmp .gt 7) 7 5 9 := ⟨by decide +kernel, rfl, by decide, by decide⟩
theorem own_d3_9 : own_D jdk_29_method_69_code 9 (.iload_n 1) 1 10 := ⟨by decide +kernel, rfl⟩
theorem own_d3_10 : own_D jdk_29_method_69_code 10 (.ireturn) 1 11 := ⟨by decide +kernel, rfl⟩
theorem own_d3_5 : own_D jdk_29_method_69_code 5 (.iload_n 0) 1 6 := ⟨by decide +kernel, rfl⟩
theorem own_d3_6 : own_B jdk_29_method_69_code 6 (.goto 4) 4 9 10 := ⟨by decide +kernel, rfl, by decide, by decide⟩
theorem own_d4_0 : own_D prog_38_method_2_code 0 (.aload_n 0) 1 1 := ⟨by decide +kernel, rfl⟩
theorem own_d4_1 : own_D prog_38_method_2_code 1 (.getfield 17) 3 4 := ⟨by decide +kernel, rfl⟩
theorem own_d4_4 : own_D prog_38_method_2_code 4 (.aload_n 0) 1 5 := ⟨by decide +kernel, rfl⟩
theorem own_d4_5 : own_D prog_38_method_2_code 5 (.getfield 7) 3 8 := ⟨by decide +kernel, rfl⟩
theorem own_d4_8 : own_D prog_38_method_2_code 8 (.arraylength) 1 9 := ⟨by decide +kernel, rfl⟩
theorem own_d4_9 : own_B prog_38_method_2_code 9 (.if_icmp .ne 37) 37 12 46 := ⟨by decide +kernel, rfl, by decide, by decide⟩
theorem own_d4_46 : own_D prog_38_method_2_code 46 (.aload_n 0) 1 47 := ⟨by decide +kernel, rfl⟩
theorem own_d4_47 : own_D prog_38_method_2_code 47 (.getfield 7) 3 50 := ⟨by decide +kernel, rfl⟩
theorem own_d4_50 : own_D prog_38_method_2_code 50 (.aload_n 0) 1 51 := ⟨by decide +kernel, rfl⟩
theorem own_d4_51 : own_D prog_38_method_2_code 51 (.getfield 17) 3 54 := ⟨by decide +kernel, rfl⟩
theorem own_d4_54 : own_D prog_38_method_2_code 54 (.iload_n 1) 1 55 := ⟨by decide +kernel, rfl⟩
theorem own_d4_55 : own_D prog_38_method_2_code 55 (.iastore) 1 56 := ⟨by decide +kernel, rfl⟩
theorem own_d4_56 : own_D prog_38_method_2_code 56 (.aload_n 0) 1 57 := ⟨by decide +kernel, rfl⟩
theorem own_d4_57 : own_D prog_38_method_2_code 57 (.getfield 13) 3 60 := ⟨by decide +kernel, rfl⟩
theorem own_d4_60 : own_D prog_38_method_2_code 60 (.aload_n 0) 1 61 := ⟨by decide +kernel, rfl⟩
theorem own_d4_61 : own_D prog_38_method_2_code 61 (.getfield 17) 3 64 := ⟨by decide +kernel, rfl⟩
theorem own_d4_64 : own_D prog_38_method_2_code 64 (.dload_n 2) 1 65 := ⟨by decide +kernel, rfl⟩
theorem own_d4_65 : own_D prog_38_method_2_code 65 (.dastore) 1 66 := ⟨by decide +kernel, rfl⟩
theorem own_d4_66 : own_D prog_38_method_2_code 66 (.aload_n 0) 1 67 := ⟨by decide +kernel, rfl⟩
theorem own_d4_67 : own_D prog_38_method_2_code 67 (.dup) 1 68 := ⟨by decide +kernel, rfl⟩
theorem own_d4_68 : own_D prog_38_method_2_code 68 (.getfield 17) 3 71 := ⟨by decide +kernel, rfl⟩
theorem own_d4_71 : own_D prog_38_method_2_code 71 (.iconst 1) 1 72 := ⟨by decide +kernel, rfl⟩
theorem own_d4_72 : own_D prog_38_method_2_code 72 (.iadd) 1 73 := ⟨by decide +kernel, rfl⟩
theorem own_d4_73 : own_D prog_38_method_2_code 73 (.putfield 17) 3 76 := ⟨by decide +kernel, rfl⟩
theorem own_d4_76 : own_D prog_38_method_2_code 76 (.return_) 1 77 := ⟨by decide +kernel, rfl⟩
theorem own_d5_0 : own_D method_2_code 0 (.iload_n 3) 1 1 := ⟨by decide +kernel, rfl⟩
theorem own_d5_1 : own_B method_2_code 1 (.ifCond .le 14) 14 4 15 := ⟨by decide +kernel, rfl, by decide, by decide⟩
theorem own_d5_15 : own_D method_2_code 15 (.iload_n 3) 1 16 := ⟨by decide +kernel, rfl⟩
theorem own_d5_16 : own_D method_2_code 16 (.iconst 1) 1 17 := ⟨by decide +kernel, rfl⟩
theorem own_d5_17 : own_B method_2_code 17 (.if_icmp .le 14) 14 20 31 := ⟨by decide +kernel, rfl, by decide, by decide⟩
theorem own_d5_31 : own_D method_2_code 31 (.iload_n 3) 1 32 := ⟨by decide +kernel, rfl⟩
theorem own_d5_32 : own_D method_2_code 32 (.iconst 2) 1 33 := ⟨by decide +kernel, rfl⟩
theorem own_d5_33 : own_B method_2_code 33 (.if_icmp .le 14) 14 36 47 := ⟨by decide +kernel, rfl, by decide, by decide⟩
theorem own_d5_47 : own_D method_2_code 47 (.dload_n 1) 1 48 := ⟨by decide +kernel, rfl⟩
theorem own_d5_48 : own_D method_2_code 48 (.dreturn) 1 49 := ⟨by decide +kernel, rfl⟩
theorem own_d5_4 : own_D method_2_code 4 (.iload 4) 2 6 := ⟨by decide +kernel, rfl⟩
theorem own_d5_6 : own_D method_2_code 6 (.iload_n 0) 1 7 := ⟨by decide +kernel, rfl⟩
theorem own_d5_7 : own_B method_2_code 7 (.if_icmp .ne 8) 8 10 15 := ⟨by decide +kernel, rfl, by decide, by decide⟩
theorem own_d5_10 : own_D method_2_code 10 (.dload_n 1) 1 11 := ⟨by decide +kernel, rfl⟩
theorem own_d5_11 : own_D method_2_code 11 (.dload 7) 2 13 := ⟨by decide +kernel, rfl⟩
theorem own_d5_13 : own_D method_2_code 13 (.dadd) 1 14 := ⟨by decide +kernel, rfl⟩
theorem own_d5_14 : own_D method_2_code 14 (.dreturn) 1 15 := ⟨by decide +kernel, rfl⟩
theorem own_d5_20 : own_D method_2_code 20 (.iload 5) 2 22 := ⟨by decide +kernel, rfl⟩
theorem own_d5_22 : own_D method_2_code 22 (.iload_n 0) 1 23 := ⟨by decide +kernel, rfl⟩
theorem own_d5_23 : own_B method_2_code 23 (.if_icmp .ne 8) 8 26 31 := ⟨by decide +kernel, rfl, by decide, by decide⟩
theorem own_d5_26 : own_D method_2_code 26 (.dload_n 1) 1 27 := ⟨by decide +kernel, rfl⟩
theorem own_d5_27 : own_D method_2_code 27 (.dload 9) 2 29 := ⟨by decide +kernel, rfl⟩
theorem own_d5_29 : own_D method_2_code 29 (.dadd) 1 30 := ⟨by decide +kernel, rfl⟩
theorem own_d5_30 : own_D method_2_code 30 (.dreturn) 1 31 := ⟨by decide +kernel, rfl⟩
theorem own_d5_36 : own_D method_2_code 36 (.iload 6) 2 38 := ⟨by decide +kernel, rfl⟩
theorem own_d5_38 : own_D method_2_code 38 (.iload_n 0) 1 39 := ⟨by decide +kernel, rfl⟩
theorem own_d5_39 : own_B method_2_code 39 (.if_icmp .ne 8) 8 42 47 := ⟨by decide +kernel, rfl, by decide, by decide⟩
theorem own_d5_42 : own_D method_2_code 42 (.dload_n 1) 1 43 := ⟨by decide +kernel, rfl⟩
theorem own_d5_43 : own_D method_2_code 43 (.dload 11) 2 45 := ⟨by decide +kernel, rfl⟩
theorem own_d5_45 : own_D method_2_code 45 (.dadd) 1 46 := ⟨by decide +kernel, rfl⟩
theorem own_d5_46 : own_D method_2_code 46 (.dreturn) 1 47 := ⟨by decide +kernel, rfl⟩
theorem own_d6_0 : own_D prog_38_method_8_code 0 (.iconst 0) 1 1 := ⟨by decide +kernel, rfl⟩
theorem own_d6_1 : own_D prog_38_method_8_code 1 (.istore_n 2) 1 2 := ⟨by decide +kernel, rfl⟩
theorem own_d6_2 : own_D prog_38_method_8_code 2 (.iconst 0) 1 3 := ⟨by decide +kernel, rfl⟩
theorem own_d6_3 : own_D prog_38_method_8_code 3 (.istore_n 3) 1 4 := ⟨by decide +kernel, rfl⟩
theorem own_d6_4 : own_D prog_38_method_8_code 4 (.iload_n 3) 1 5 := ⟨by decide +kernel, rfl⟩
theorem own_d6_5 : own_D prog_38_method_8_code 5 (.aload_n 0) 1 6 := ⟨by decide +kernel, rfl⟩
theorem own_d6_6 : own_D prog_38_method_8_code 6 (.getfield 17) 3 9 := ⟨by decide +kernel, rfl⟩
theorem own_d6_9 : own_B prog_38_method_8_code 9 (.if_icmp .ge 76) 76 12 85 := ⟨by decide +kernel, rfl, by decide, by decide⟩
theorem own_d6_85 : own_D prog_38_method_8_code 85 (.return_) 1 86 := ⟨by decide +kernel, rfl⟩
theorem own_d6_12 : own_D prog_38_method_8_code 12 (.iload_n 2) 1 13 := ⟨by decide +kernel, rfl⟩
theorem own_d6_13 : own_D prog_38_method_8_code 13 (.aload_n 1) 1 14 := ⟨by decide +kernel, rfl⟩
theorem own_d6_14 : own_D prog_38_method_8_code 14 (.getfield 17) 3 17 := ⟨by decide +kernel, rfl⟩
theorem own_d6_17 : own_B prog_38_method_8_code 17 (.if_icmp .ge 24) 24 20 41 := ⟨by decide +kernel, rfl, by decide, by decide⟩
theorem own_d6_41 : own_D prog_38_method_8_code 41 (.iload_n 2) 1 42 := ⟨by decide +kernel, rfl⟩
theorem own_d6_42 : own_D prog_38_method_8_code 42 (.aload_n 1) 1 43 := ⟨by decide +kernel, rfl⟩
theorem own_d6_43 : own_D prog_38_method_8_code 43 (.getfield 17) 3 46 := ⟨by decide +kernel, rfl⟩
theorem own_d6_46 : own_B prog_38_method_8_code 46 (.if_icmp .ge 33) 33 49 79 := ⟨by decide +kernel, rfl, by decide, by decide⟩
theorem own_d6_79 : own_D prog_38_method_8_code 79 (.iinc 3 1) 3 82 := ⟨by decide +kernel, rfl⟩
theorem own_d6_82 : own_B prog_38_method_8_code 82 (.goto (-78)) (-78) 85 4 := ⟨by decide +kernel, rfl, by decide, by decide⟩
theorem own_d6_20 : own_D prog_38_method_8_code 20 (.aload_n 1) 1 21 := ⟨by decide +kernel, rfl⟩
theorem own_d6_21 : own_D prog_38_method_8_code 21 (.getfield 7) 3 24 := ⟨by decide +kernel, rfl⟩
theorem own_d6_24 : own_D prog_38_method_8_code 24 (.iload_n 2) 1 25 := ⟨by decide +kernel, rfl⟩
theorem own_d6_25 : own_D prog_38_method_8_code 25 (.iaload) 1 26 := ⟨by decide +kernel, rfl⟩
theorem own_d6_26 : own_D prog_38_method_8_code 26 (.aload_n 0) 1 27 := ⟨by decide +kernel, rfl⟩
theorem own_d6_27 : own_D prog_38_method_8_code 27 (.getfield 7) 3 30 := ⟨by decide +kernel, rfl⟩
theorem own_d6_30 : own_D prog_38_method_8_code 30 (.iload_n 3) 1 31 := ⟨by decide +kernel, rfl⟩
theorem own_d6_31 : own_D prog_38_method_8_code 31 (.iaload) 1 32 := ⟨by decide +kernel, rfl⟩
theorem own_d6_32 : own_B prog_38_method_8_code 32 (.if_icmp .ge 9) 9 35 41 := ⟨by decide +kernel, rfl, by decide, by decide⟩
theorem own_d6_49 : own_D prog_38_method_8_code 49 (.aload_n 1) 1 50 := ⟨by decide +kernel, rfl⟩
theorem own_d6_50 : own_D prog_38_method_8_code 50 (.getfield 7) 3 53 := ⟨by decide +kernel, rfl⟩
theorem own_d6_53 : own_D prog_38_method_8_code 53 (.iload_n 2) 1 54 := ⟨by decide +kernel, rfl⟩
theorem own_d6_54 : own_D prog_38_method_8_code 54 (.iaload) 1 55 := ⟨by decide +kernel, rfl⟩
theorem own_d6_55 : own_D prog_38_method_8_code 55 (.aload_n 0) 1 56 := ⟨by decide +kernel, rfl⟩
theorem own_d6_56 : own_D prog_38_method_8_code 56 (.getfield 7) 3 59 := ⟨by decide +kernel, rfl⟩
theorem own_d6_59 : own_D prog_38_method_8_code 59 (.iload_n 3) 1 60 := ⟨by decide +kernel, rfl⟩
theorem own_d6_60 : own_D prog_38_method_8_code 60 (.iaload) 1 61 := ⟨by decide +kernel, rfl⟩
theorem own_d6_61 : own_B prog_38_method_8_code 61 (.if_icmp .ne 18) 18 64 79 := ⟨by decide +kernel, rfl, by decide, by decide⟩
theorem own_d6_64 : own_D prog_38_method_8_code 64 (.aload_n 0) 1 65 := ⟨by decide +kernel, rfl⟩
theorem own_d6_65 : own_D prog_38_method_8_code 65 (.getfield 13) 3 68 := ⟨by decide +kernel, rfl⟩
theorem own_d6_68 : own_D prog_38_method_8_code 68 (.iload_n 3) 1 69 := ⟨by decide +kernel, rfl⟩
theorem own_d6_69 : own_D prog_38_method_8_code 69 (.dup2) 1 70 := ⟨by decide +kernel, rfl⟩
theorem own_d6_70 : own_D prog_38_method_8_code 70 (.daload) 1 71 := ⟨by decide +kernel, rfl⟩
theorem own_d6_71 : own_D prog_38_method_8_code 71 (.aload_n 1) 1 72 := ⟨by decide +kernel, rfl⟩
theorem own_d6_72 : own_D prog_38_method_8_code 72 (.getfield 13) 3 75 := ⟨by decide +kernel, rfl⟩
theorem own_d6_75 : own_D prog_38_method_8_code 75 (.iload_n 2) 1 76 := ⟨by decide +kernel, rfl⟩
theorem own_d6_76 : own_D prog_38_method_8_code 76 (.daload) 1 77 := ⟨by decide +kernel, rfl⟩
theorem own_d6_77 : own_D prog_38_method_8_code 77 (.dadd) 1 78 := ⟨by decide +kernel, rfl⟩
theorem own_d6_78 : own_D prog_38_method_8_code 78 (.dastore) 1 79 := ⟨by decide +kernel, rfl⟩
theorem own_d6_35 : own_D prog_38_method_8_code 35 (.iinc 2 1) 3 38 := ⟨by decide +kernel, rfl⟩
theorem own_d6_38 : own_B prog_38_method_8_code 38 (.goto (-26)) (-26) 41 12 := ⟨by decide +kernel, rfl, by decide, by decide⟩
theorem own_d7_0 : own_D code 0 (.iload_n 0) 1 1 := ⟨by decide +kernel, rfl⟩
theorem own_d7_1 : own_D code 1 (.iconst 3) 1 2 := ⟨by decide +kernel, rfl⟩
theorem own_d7_2 : own_D code 2 (.iand) 1 3 := ⟨by decide +kernel, rfl⟩
theorem own_d7_3 : own_D code 3 (.iconst 3) 1 4 := ⟨by decide +kernel, rfl⟩
theorem own_d7_4 : own_D code 4 (.irem) 1 5 := ⟨by decide +kernel, rfl⟩
theorem own_d7_5 : own_D code 5 (.istore 6) 2 7 := ⟨by decide +kernel, rfl⟩
theorem own_d7_7 : own_D code 7 (.iload_n 0) 1 8 := ⟨by decide +kernel, rfl⟩
theorem own_d7_8 : own_D code 8 (.iconst 2) 1 9 := ⟨by decide +kernel, rfl⟩
theorem own_d7_9 : own_D code 9 (.iushr) 1 10 := ⟨by decide +kernel, rfl⟩
theorem own_d7_10 : own_D code 10 (.iconst 3) 1 11 := ⟨by decide +kernel, rfl⟩
theorem own_d7_11 : own_D code 11 (.iand) 1 12 := ⟨by decide +kernel, rfl⟩
theorem own_d7_12 : own_D code 12 (.istore 7) 2 14 := ⟨by decide +kernel, rfl⟩
theorem own_d7_14 : own_D code 14 (.iload_n 3) 1 15 := ⟨by decide +kernel, rfl⟩
theorem own_d7_15 : own_D code 15 (.ldc 9) 2 17 := ⟨by decide +kernel, rfl⟩
theorem own_d7_17 : own_D code 17 (.invokestatic 10) 3 20 := ⟨by decide +kernel, rfl⟩
theorem own_d7_20 : own_D code 20 (.istore 8) 2 22 := ⟨by decide +kernel, rfl⟩
theorem own_d7_22 : own_D code 22 (.iload 8) 2 24 := ⟨by decide +kernel, rfl⟩
theorem own_d7_24 : own_D code 24 (.iload_n 1) 1 25 := ⟨by decide +kernel, rfl⟩
theorem own_d7_25 : own_D code 25 (.iconst 3) 1 26 := ⟨by decide +kernel, rfl⟩
theorem own_d7_26 : own_D code 26 (.iand) 1 27 := ⟨by decide +kernel, rfl⟩
theorem own_d7_27 : own_D code 27 (.iadd) 1 28 := ⟨by decide +kernel, rfl⟩
theorem own_d7_28 : own_D code 28 (.istore 9) 2 30 := ⟨by decide +kernel, rfl⟩
theorem own_d7_30 : own_D code 30 (.iload 9) 2 32 := ⟨by decide +kernel, rfl⟩
theorem own_d7_32 : own_D code 32 (.iconst 1) 1 33 := ⟨by decide +kernel, rfl⟩
theorem own_d7_33 : own_D code 33 (.iadd) 1 34 := ⟨by decide +kernel, rfl⟩
theorem own_d7_34 : own_D code 34 (.iload_n 1) 1 35 := ⟨by decide +kernel, rfl⟩
theorem own_d7_35 : own_D code 35 (.iconst 2) 1 36 := ⟨by decide +kernel, rfl⟩
theorem own_d7_36 : own_D code 36 (.ishr) 1 37 := ⟨by decide +kernel, rfl⟩
theorem own_d7_37 : own_D code 37 (.iconst 3) 1 38 := ⟨by decide +kernel, rfl⟩
theorem own_d7_38 : own_D code 38 (.iand) 1 39 := ⟨by decide +kernel, rfl⟩
theorem own_d7_39 : own_D code 39 (.iadd) 1 40 := ⟨by decide +kernel, rfl⟩
theorem own_d7_40 : own_D code 40 (.istore 10) 2 42 := ⟨by decide +kernel, rfl⟩
theorem own_d7_42 : own_D code 42 (.iload 8) 2 44 := ⟨by decide +kernel, rfl⟩
theorem own_d7_44 : own_D code 44 (.iload_n 2) 1 45 := ⟨by decide +kernel, rfl⟩
theorem own_d7_45 : own_D code 45 (.iconst 3) 1 46 := ⟨by decide +kernel, rfl⟩
theorem own_d7_46 : own_D code 46 (.iand) 1 47 := ⟨by decide +kernel, rfl⟩
theorem own_d7_47 : own_D code 47 (.iadd) 1 48 := ⟨by decide +kernel, rfl⟩
theorem own_d7_48 : own_D code 48 (.istore 11) 2 50 := ⟨by decide +kernel, rfl⟩
theorem own_d7_50 : own_D code 50 (.iload 11) 2 52 := ⟨by decide +kernel, rfl⟩
theorem own_d7_52 : own_D code 52 (.iconst 1) 1 53 := ⟨by decide +kernel, rfl⟩
theorem own_d7_53 : own_D code 53 (.iadd) 1 54 := ⟨by decide +kernel, rfl⟩
theorem own_d7_54 : own_D code 54 (.iload_n 2) 1 55 := ⟨by decide +kernel, rfl⟩
theorem own_d7_55 : own_D code 55 (.iconst 2) 1 56 := ⟨by decide +kernel, rfl⟩
theorem own_d7_56 : own_D code 56 (.ishr) 1 57 := ⟨by decide +kernel, rfl⟩
theorem own_d7_57 : own_D code 57 (.iconst 3) 1 58 := ⟨by decide +kernel, rfl⟩
theorem own_d7_58 : own_D code 58 (.iand) 1 59 := ⟨by decide +kernel, rfl⟩
theorem own_d7_59 : own_D code 59 (.iadd) 1 60 := ⟨by decide +kernel, rfl⟩
theorem own_d7_60 : own_D code 60 (.istore 12) 2 62 := ⟨by decide +kernel, rfl⟩
theorem own_d7_62 : own_D code 62 (.iload 12) 2 64 := ⟨by decide +kernel, rfl⟩
theorem own_d7_64 : own_D code 64 (.iconst 1) 1 65 := ⟨by decide +kernel, rfl⟩
theorem own_d7_65 : own_D code 65 (.iadd) 1 66 := ⟨by decide +kernel, rfl⟩
theorem own_d7_66 : own_D code 66 (.iload_n 2) 1 67 := ⟨by decide +kernel, rfl⟩
theorem own_d7_67 : own_D code 67 (.iconst 4) 1 68 := ⟨by decide +kernel, rfl⟩
theorem own_d7_68 : own_D code 68 (.ishr) 1 69 := ⟨by decide +kernel, rfl⟩
theorem own_d7_69 : own_D code 69 (.iconst 3) 1 70 := ⟨by decide +kernel, rfl⟩
theorem own_d7_70 : own_D code 70 (.iand) 1 71 := ⟨by decide +kernel, rfl⟩
theorem own_d7_71 : own_D code 71 (.iadd) 1 72 := ⟨by decide +kernel, rfl⟩
theorem own_d7_72 : own_D code 72 (.istore 13) 2 74 := ⟨by decide +kernel, rfl⟩
theorem own_d7_74 : own_D code 74 (.iload 4) 2 76 := ⟨by decide +kernel, rfl⟩
theorem own_d7_76 : own_D code 76 (.sipush 255) 3 79 := ⟨by decide +kernel, rfl⟩
theorem own_d7_79 : own_D code 79 (.iand) 1 80 := ⟨by decide +kernel, rfl⟩
theorem own_d7_80 : own_D code 80 (.sipush 128) 3 83 := ⟨by decide +kernel, rfl⟩
theorem own_d7_83 : own_D code 83 (.isub) 1 84 := ⟨by decide +kernel, rfl⟩
theorem own_d7_84 : own_D code 84 (.i2d) 1 85 := ⟨by decide +kernel, rfl⟩
theorem own_d7_85 : own_D code 85 (.dstore 14) 2 87 := ⟨by decide +kernel, rfl⟩
theorem own_d7_87 : own_D code 87 (.iload 4) 2 89 := ⟨by decide +kernel, rfl⟩
theorem own_d7_89 : own_D code 89 (.bipush 8) 2 91 := ⟨by decide +kernel, rfl⟩
theorem own_d7_91 : own_D code 91 (.ishr) 1 92 := ⟨by decide +kernel, rfl⟩
theorem own_d7_92 : own_D code 92 (.sipush 255) 3 95 := ⟨by decide +kernel, rfl⟩
theorem own_d7_95 : own_D code 95 (.iand) 1 96 := ⟨by decide +kernel, rfl⟩
theorem own_d7_96 : own_D code 96 (.sipush 128) 3 99 := ⟨by decide +kernel, rfl⟩
theorem own_d7_99 : own_D code 99 (.isub) 1 100 := ⟨by decide +kernel, rfl⟩
theorem own_d7_100 : own_D code 100 (.i2d) 1 101 := ⟨by decide +kernel, rfl⟩
theorem own_d7_101 : own_D code 101 (.dstore 16) 2 103 := ⟨by decide +kernel, rfl⟩
theorem own_d7_103 : own_D code 103 (.iload 5) 2 105 := ⟨by decide +kernel, rfl⟩
theorem own_d7_105 : own_D code 105 (.sipush 255) 3 108 := ⟨by decide +kernel, rfl⟩
theorem own_d7_108 : own_D code 108 (.iand) 1 109 := ⟨by decide +kernel, rfl⟩
theorem own_d7_109 : own_D code 109 (.sipush 128) 3 112 := ⟨by decide +kernel, rfl⟩
theorem own_d7_112 : own_D code 112 (.isub) 1 113 := ⟨by decide +kernel, rfl⟩
theorem own_d7_113 : own_D code 113 (.i2d) 1 114 := ⟨by decide +kernel, rfl⟩
theorem own_d7_114 : own_D code 114 (.dstore 18) 2 116 := ⟨by decide +kernel, rfl⟩
theorem own_d7_116 : own_D code 116 (.iload 5) 2 118 := ⟨by decide +kernel, rfl⟩
theorem own_d7_118 : own_D code 118 (.bipush 8) 2 120 := ⟨by decide +kernel, rfl⟩
theorem own_d7_120 : own_D code 120 (.ishr) 1 121 := ⟨by decide +kernel, rfl⟩
theorem own_d7_121 : own_D code 121 (.sipush 255) 3 124 := ⟨by decide +kernel, rfl⟩
theorem own_d7_124 : own_D code 124 (.iand) 1 125 := ⟨by decide +kernel, rfl⟩
theorem own_d7_125 : own_D code 125 (.sipush 128) 3 128 := ⟨by decide +kernel, rfl⟩
theorem own_d7_128 : own_D code 128 (.isub) 1 129 := ⟨by decide +kernel, rfl⟩
theorem own_d7_129 : own_D code 129 (.i2d) 1 130 := ⟨by decide +kernel, rfl⟩
theorem own_d7_130 : own_D code 130 (.dstore 20) 2 132 := ⟨by decide +kernel, rfl⟩
theorem own_d7_132 : own_D code 132 (.iload 5) 2 134 := ⟨by decide +kernel, rfl⟩
theorem own_d7_134 : own_D code 134 (.bipush 16) 2 136 := ⟨by decide +kernel, rfl⟩
theorem own_d7_136 : own_D code 136 (.ishr) 1 137 := ⟨by decide +kernel, rfl⟩
theorem own_d7_137 : own_D code 137 (.sipush 255) 3 140 := ⟨by decide +kernel, rfl⟩
theorem own_d7_140 : own_D code 140 (.iand) 1 141 := ⟨by decide +kernel, rfl⟩
theorem own_d7_141 : own_D code 141 (.sipush 128) 3 144 := ⟨by decide +kernel, rfl⟩
theorem own_d7_144 : own_D code 144 (.isub) 1 145 := ⟨by decide +kernel, rfl⟩
theorem own_d7_145 : own_D code 145 (.i2d) 1 146 := ⟨by decide +kernel, rfl⟩
theorem own_d7_146 : own_D code 146 (.dstore 22) 2 148 := ⟨by decide +kernel, rfl⟩
theorem own_d7_148 : own_D code 148 (.new 16) 3 151 := ⟨by decide +kernel, rfl⟩
theorem own_d7_151 : own_D code 151 (.dup) 1 152 := ⟨by decide +kernel, rfl⟩
theorem own_d7_152 : own_D code 152 (.invokespecial 18) 3 155 := ⟨by decide +kernel, rfl⟩
theorem own_d7_155 : own_D code 155 (.astore 24) 2 157 := ⟨by decide +kernel, rfl⟩
theorem own_d7_157 : own_D code 157 (.new 16) 3 160 := ⟨by decide +kernel, rfl⟩
theorem own_d7_160 : own_D code 160 (.dup) 1 161 := ⟨by decide +kernel, rfl⟩
theorem own_d7_161 : own_D code 161 (.invokespecial 18) 3 164 := ⟨by decide +kernel, rfl⟩
theorem own_d7_164 : own_D code 164 (.astore 25) 2 166 := ⟨by decide +kernel, rfl⟩
theorem own_d7_166 : own_D code 166 (.iload 6) 2 168 := ⟨by decide +kernel, rfl⟩
theorem own_d7_168 : own_B code 168 (.ifCond .le 12) 12 171 180 := ⟨by decide +kernel, rfl, by decide, by decide⟩
theorem own_d7_180 : own_D code 180 (.iload 6) 2 182 := ⟨by decide +kernel, rfl⟩
theorem own_d7_182 : own_D code 182 (.iconst 1) 1 183 := ⟨by decide +kernel, rfl⟩
theorem own_d7_183 : own_B code 183 (.if_icmp .le 12) 12 186 195 := ⟨by decide +kernel, rfl, by decide, by decide⟩
theorem own_d7_195 : own_D code 195 (.iload 7) 2 197 := ⟨by decide +kernel, rfl⟩
theorem own_d7_197 : own_B code 197 (.ifCond .le 12) 12 200 209 := ⟨by decide +kernel, rfl, by decide, by decide⟩
theorem own_d7_209 : own_D code 209 (.iload 7) 2 211 := ⟨by decide +kernel, rfl⟩
theorem own_d7_211 : own_D code 211 (.iconst 1) 1 212 := ⟨by decide +kernel, rfl⟩
theorem own_d7_212 : own_B code 212 (.if_icmp .le 12) 12 215 224 := ⟨by decide +kernel, rfl, by decide, by decide⟩
theorem own_d7_224 : own_D code 224 (.iload 7) 2 226 := ⟨by decide +kernel, rfl⟩
theorem own_d7_226 : own_D code 226 (.iconst 2) 1 227 := ⟨by decide +kernel, rfl⟩
theorem own_d7_227 : own_B code 227 (.if_icmp .le 12) 12 230 239 := ⟨by decide +kernel, rfl, by decide, by decide⟩
theorem own_d7_239 : own_D code 239 (.aload 24) 2 241 := ⟨by decide +kernel, rfl⟩
theorem own_d7_241 : own_D code 241 (.aload 25) 2 243 := ⟨by decide +kernel, rfl⟩
theorem own_d7_243 : own_D code 243 (.invokevirtual 23) 3 246 := ⟨by decide +kernel, rfl⟩
theorem own_d7_246 : own_D code 246 (.aload 24) 2 248 := ⟨by decide +kernel, rfl⟩
theorem own_d7_248 : own_D code 248 (.invokevirtual 27) 3 251 := ⟨by decide +kernel, rfl⟩
theorem own_d7_251 : own_D code 251 (.iload 6) 2 253 := ⟨by decide +kernel, rfl⟩
theorem own_d7_253 : own_B code 253 (.if_icmp .eq 5) 5 256 258 := ⟨by decide +kernel, rfl, by decide, by decide⟩
theorem own_d7_258 : own_D code 258 (.iconst 1) 1 259 := ⟨by decide +kernel, rfl⟩
theorem own_d7_259 : own_D code 259 (.istore 26) 2 261 := ⟨by decide +kernel, rfl⟩
theorem own_d7_261 : own_D code 261 (.iload 6) 2 263 := ⟨by decide +kernel, rfl⟩
theorem own_d7_263 : own_B code 263 (.ifCond .le 46) 46 266 309 := ⟨by decide +kernel, rfl, by decide, by decide⟩
theorem own_d7_309 : own_D code 309 (.iload 6) 2 311 := ⟨by decide +kernel, rfl⟩
theorem own_d7_311 : own_D code 311 (.iconst 1) 1 312 := ⟨by decide +kernel, rfl⟩
theorem own_d7_312 : own_B code 312 (.if_icmp .le 46) 46 315 358 := ⟨by decide +kernel, rfl, by decide, by decide⟩
theorem own_d7_358 : own_D code 358 (.iload 26) 2 360 := ⟨by decide +kernel, rfl⟩
theorem own_d7_360 : own_D code 360 (.ireturn) 1 361 := ⟨by decide +kernel, rfl⟩
theorem own_d7_200 : own_D code 200 (.aload 25) 2 202 := ⟨by decide +kernel, rfl⟩
theorem own_d7_202 : own_D code 202 (.iload 11) 2 204 := ⟨by decide +kernel, rfl⟩
theorem own_d7_204 : own_D code 204 (.dload 18) 2 206 := ⟨by decide +kernel, rfl⟩
theorem own_d7_206 : own_D code 206 (.invokevirtual 19) 3 209 := ⟨by decide +kernel, rfl⟩
theorem own_d7_215 : own_D code 215 (.aload 25) 2 217 := ⟨by decide +kernel, rfl⟩
theorem own_d7_217 : own_D code 217 (.iload 12) 2 219 := ⟨by decide +kernel, rfl⟩
theorem own_d7_219 : own_D code 219 (.dload 20) 2 221 := ⟨by decide +kernel, rfl⟩
theorem own_d7_221 : own_D code 221 (.invokevirtual 19) 3 224 := ⟨by decide +kernel, rfl⟩
theorem own_d7_230 : own_D code 230 (.aload 25) 2 232 := ⟨by decide +kernel, rfl⟩
theorem own_d7_232 : own_D code 232 (.iload 13) 2 234 := ⟨by decide +kernel, rfl⟩
theorem own_d7_234 : own_D code 234 (.dload 22) 2 236 := ⟨by decide +kernel, rfl⟩
theorem own_d7_236 : own_D code 236 (.invokevirtual 19) 3 239 := ⟨by decide +kernel, rfl⟩
theorem own_d7_171 : own_D code 171 (.aload 24) 2 173 := ⟨by decide +kernel, rfl⟩
theorem own_d7_173 : own_D code 173 (.iload 9) 2 175 := ⟨by decide +kernel, rfl⟩
theorem own_d7_175 : own_D code 175 (.dload 14) 2 177 := ⟨by decide +kernel, rfl⟩
theorem own_d7_177 : own_D code 177 (.invokevirtual 19) 3 180 := ⟨by decide +kernel, rfl⟩
theorem own_d7_266 : own_D code 266 (.iload 26) 2 268 := ⟨by decide +kernel, rfl⟩
theorem own_d7_268 : own_B code 268 (.ifCond .eq 38) 38 271 306 := ⟨by decide +kernel, rfl, by decide, by decide⟩
theorem own_d7_271 : own_D code 271 (.aload 24) 2 273 := ⟨by decide +kernel, rfl⟩
theorem own_d7_273 : own_D code 273 (.iconst 0) 1 274 := ⟨by decide +kernel, rfl⟩
theorem own_d7_274 : own_D code 274 (.invokevirtual 31) 3 277 := ⟨by decide +kernel, rfl⟩
theorem own_d7_277 : own_D code 277 (.iload 9) 2 279 := ⟨by decide +kernel, rfl⟩
theorem own_d7_279 : own_D code 279 (.dload 14) 2 281 := ⟨by decide +kernel, rfl⟩
theorem own_d7_281 : own_D code 281 (.iload 7) 2 283 := ⟨by decide +kernel, rfl⟩
theorem own_d7_283 : own_D code 283 (.iload 11) 2 285 := ⟨by decide +kernel, rfl⟩
theorem own_d7_285 : own_D code 285 (.iload 12) 2 287 := ⟨by decide +kernel, rfl⟩
theorem own_d7_287 : own_D code 287 (.iload 13) 2 289 := ⟨by decide +kernel, rfl⟩
theorem own_d7_289 : own_D code 289 (.dload 18) 2 291 := ⟨by decide +kernel, rfl⟩
theorem own_d7_291 : own_D code 291 (.dload 20) 2 293 := ⟨by decide +kernel, rfl⟩
theorem own_d7_293 : own_D code 293 (.dload 22) 2 295 := ⟨by decide +kernel, rfl⟩
theorem own_d7_295 : own_D code 295 (.invokestatic 35) 3 298 := ⟨by decide +kernel, rfl⟩
theorem own_d7_298 : own_D code 298 (.dcmp .l) 1 299 := ⟨by decide +kernel, rfl⟩
theorem own_d7_299 : own_B code 299 (.ifCond .ne 7) 7 302 306 := ⟨by decide +kernel, rfl, by decide, by decide⟩
theorem own_d7_302 : own_D code 302 (.iconst 1) 1 303 := ⟨by decide +kernel, rfl⟩
theorem own_d7_303 : own_B code 303 (.goto 4) 4 306 307 := ⟨by decide +kernel, rfl, by decide, by decide⟩
theorem own_d7_307 : own_D code 307 (.istore 26) 2 309 := ⟨by decide +kernel, rfl⟩
theorem own_d7_186 : own_D code 186 (.aload 24) 2 188 := ⟨by decide +kernel, rfl⟩
theorem own_d7_188 : own_D code 188 (.iload 10) 2 190 := ⟨by decide +kernel, rfl⟩
theorem own_d7_190 : own_D code 190 (.dload 16) 2 192 := ⟨by decide +kernel, rfl⟩
theorem own_d7_192 : own_D code 192 (.invokevirtual 19) 3 195 := ⟨by decide +kernel, rfl⟩
theorem own_d7_315 : own_D code 315 (.iload 26) 2 317 := ⟨by decide +kernel, rfl⟩
theorem own_d7_317 : own_B code 317 (.ifCond .eq 38) 38 320 355 := ⟨by decide +kernel, rfl, by decide, by decide⟩
theorem own_d7_320 : own_D code 320 (.aload 24) 2 322 := ⟨by decide +kernel, rfl⟩
theorem own_d7_322 : own_D code 322 (.iconst 1) 1 323 := ⟨by decide +kernel, rfl⟩
theorem own_d7_323 : own_D code 323 (.invokevirtual 31) 3 326 := ⟨by decide +kernel, rfl⟩
theorem own_d7_326 : own_D code 326 (.iload 10) 2 328 := ⟨by decide +kernel, rfl⟩
theorem own_d7_328 : own_D code 328 (.dload 16) 2 330 := ⟨by decide +kernel, rfl⟩
theorem own_d7_330 : own_D code 330 (.iload 7) 2 332 := ⟨by decide +kernel, rfl⟩
theorem own_d7_332 : own_D code 332 (.iload 11) 2 334 := ⟨by decide +kernel, rfl⟩
theorem own_d7_334 : own_D code 334 (.iload 12) 2 336 := ⟨by decide +kernel, rfl⟩
theorem own_d7_336 : own_D code 336 (.iload 13) 2 338 := ⟨by decide +kernel, rfl⟩
theorem own_d7_338 : own_D code 338 (.dload 18) 2 340 := ⟨by decide +kernel, rfl⟩
theorem own_d7_340 : own_D code 340 (.dload 20) 2 342 := ⟨by decide +kernel, rfl⟩
theorem own_d7_342 : own_D code 342 (.dload 22) 2 344 := ⟨by decide +kernel, rfl⟩
theorem own_d7_344 : own_D code 344 (.invokestatic 35) 3 347 := ⟨by decide +kernel, rfl⟩
theorem own_d7_347 : own_D code 347 (.dcmp .l) 1 348 := ⟨by decide +kernel, rfl⟩
theorem own_d7_348 : own_B code 348 (.ifCond .ne 7) 7 351 355 := ⟨by decide +kernel, rfl, by decide, by decide⟩
theorem own_d7_351 : own_D code 351 (.iconst 1) 1 352 := ⟨by decide +kernel, rfl⟩
theorem own_d7_352 : own_B code 352 (.goto 4) 4 355 356 := ⟨by decide +kernel, rfl, by decide, by decide⟩
theorem own_d7_356 : own_D code 356 (.istore 26) 2 358 := ⟨by decide +kernel, rfl⟩
theorem own_pd0 : parseMethodDescriptor "(II)I" = some ⟨[.int, .int], some .int⟩ := by decide +kernel
theorem own_pd1 : parseMethodDescriptor "()V" = some ⟨[], none⟩ := by decide +kernel
theorem own_pd2 : parseMethodDescriptor "(Lcom/example/fielder/fielder/service/ScoredDocuments;)V" = some ⟨[(.object "com/example/fielder/fielder/service/ScoredDocuments")], none⟩ := by decide +kernel
theorem own_pd3 : parseMethodDescriptor "()I" = some ⟨[], some .int⟩ := by decide +kernel
theorem own_pd4 : parseMethodDescriptor "(ID)V" = some ⟨[.int, .double], none⟩ := by decide +kernel
theorem own_pd5 : parseMethodDescriptor "(I)D" = some ⟨[.int], some .double⟩ := by decide +kernel
theorem own_pd6 : parseMethodDescriptor "(IDIIIIDDD)D" = some ⟨[.int, .double, .int, .int, .int, .int, .double, .double, .double], some .double⟩ := by decide +kernel
abbrev own_SD (a : Addr) (f0 f1 f2 : Value) : own_O := (a, "com/example/fielder/fielder/service/ScoredDocuments", [("com/example/fielder/fielder/service/ScoredDocuments", "documents", "[I", f0), ("com/example/fielder/fielder/service/ScoredDocuments", "scores", "[D", f1), ("com/example/fielder/fielder/service/ScoredDocuments", "size", "I", f2)])
theorem own_SD_F {Z : State} {a0 : Array Value} (hw : own_Z Z a0) : ∀ f ∈ ([("com/example/fielder/fielder/service/ScoredDocuments", "documents", "[I", .null), ("com/example/fielder/fielder/service/ScoredDocuments", "scores", "[D", .null), ("com/example/fielder/fielder/service/ScoredDocuments", "size", "I", (.int (0 : Int32)))] : List (String × String × String × Value)), Laid Z a0 "com/example/fielder/fielder/service/ScoredDocuments" f.1 f.2.1 f.2.2.1 ∧ ∃ ty, parseFieldDescriptor f.2.2.1 = some ty ∧ f.2.2.2 = defaultValue ty := by
  intro f hf
  simp only [List.mem_cons, List.not_mem_nil, or_false] at hf
  rcases hf with rfl | rfl | rfl
  · exact ⟨Or.inl (own_w16 hw), (.array .int), by decide +kernel, rfl⟩
  · exact ⟨Or.inl (own_w19 hw), (.array .double), by decide +kernel, rfl⟩
  · exact ⟨Or.inl (own_w26 hw), .int, by decide +kernel, rfl⟩
theorem own_SD_P {Z : State} {a0 : Array Value} (hw : own_Z Z a0) : ([("com/example/fielder/fielder/service/ScoredDocuments", "documents", "[I", .null), ("com/example/fielder/fielder/service/ScoredDocuments", "scores", "[D", .null), ("com/example/fielder/fielder/service/ScoredDocuments", "size", "I", (.int (0 : Int32)))] : List (String × String × String × Value)).Pairwise (fun f g => Jvm.RoadKit.slotOf Z f.1 f.2.1 f.2.2.1 ≠ Jvm.RoadKit.slotOf Z g.1 g.2.1 g.2.2.1) := by
  simp only [List.pairwise_cons, List.mem_cons, List.not_mem_nil, or_false, forall_eq_or_imp, forall_eq, List.Pairwise.nil, and_true, false_implies, implies_true]
  exact ⟨⟨slot_ne (C := "com/example/fielder/fielder/service/ScoredDocuments") (Or.inl (own_w16 hw)) (Or.inl (own_w19 hw)) (by decide) (t := (.array .int)) (by decide +kernel) (t' := (.array .double)) (by decide +kernel), slot_ne (C := "com/example/fielder/fielder/service/ScoredDocuments") (Or.inl (own_w16 hw)) (Or.inl (own_w26 hw)) (by decide) (t := (.array .int)) (by decide +kernel) (t' := .int) (by decide +kernel)⟩, slot_ne (C := "com/example/fielder/fielder/service/ScoredDocuments") (Or.inl (own_w19 hw)) (Or.inl (own_w26 hw)) (by decide) (t := (.array .double)) (by decide +kernel) (t' := .int) (by decide +kernel)⟩

theorem own_and3 (k : Int32) : k &&& 3 = 0 ∨ k &&& 3 = 1 ∨ k &&& 3 = 2 ∨ k &&& 3 = 3 := by
  have h : ∀ b : BitVec 32, b &&& 3#32 = 0#32 ∨ b &&& 3#32 = 1#32 ∨ b &&& 3#32 = 2#32 ∨ b &&& 3#32 = 3#32 := by
    intro b
    have q : (b &&& 3#32).toNat ≤ 3 := by rw [BitVec.toNat_and]; exact Nat.and_le_right
    bv_omega
  rcases h k.toBitVec with q | q | q | q
  · exact Or.inl (Int32.toBitVec_inj.mp q)
  · exact Or.inr (Or.inl (Int32.toBitVec_inj.mp q))
  · exact Or.inr (Or.inr (Or.inl (Int32.toBitVec_inj.mp q)))
  · exact Or.inr (Or.inr (Or.inr (Int32.toBitVec_inj.mp q)))
theorem own_and_bound (a b : Int32) (hb : 0 ≤ b.toInt) : 0 ≤ (a &&& b).toInt ∧ (a &&& b).toInt ≤ b.toInt := by
  have q : (a &&& b).toBitVec.toNat ≤ b.toBitVec.toNat := by
    show (a.toBitVec &&& b.toBitVec).toNat ≤ _
    rw [BitVec.toNat_and]; exact Nat.and_le_right
  have hb' : b.toInt = (b.toBitVec.toNat : Int) := by
    have : b.toInt = b.toBitVec.toInt := rfl
    rw [this] at hb ⊢
    rw [BitVec.toInt_eq_toNat_cond] at hb ⊢
    have := b.toBitVec.isLt
    split at hb <;> split <;> omega
  have hlt : 2 * b.toBitVec.toNat < 2 ^ 32 := by have := Int32.toInt_lt b; omega
  have : (a &&& b).toInt = (a &&& b).toBitVec.toInt := rfl
  rw [this, BitVec.toInt_eq_toNat_cond]
  split <;> omega
theorem own_add32 {a b : Int32} (h1 : -2147483648 ≤ a.toInt + b.toInt) (h2 : a.toInt + b.toInt ≤ 2147483647) : (a + b).toInt = a.toInt + b.toInt := by
  rw [Int32.toInt_add]; exact Int.bmod_eq_of_le (by omega) (by omega)
theorem own_sub32 {a b : Int32} (h1 : -2147483648 ≤ a.toInt - b.toInt) (h2 : a.toInt - b.toInt ≤ 2147483647) : (a - b).toInt = a.toInt - b.toInt := by
  rw [Int32.toInt_sub]; exact Int.bmod_eq_of_le (by omega) (by omega)
theorem own_mul32 {a b : Int32} (h1 : -2147483648 ≤ a.toInt * b.toInt) (h2 : a.toInt * b.toInt ≤ 2147483647) : (a * b).toInt = a.toInt * b.toInt := by
  rw [Int32.toInt_mul]; exact Int.bmod_eq_of_le (by omega) (by omega)
theorem own_rem32 {a b : Int32} (ha : 0 ≤ a.toInt) (hb : 0 < b.toInt) : 0 ≤ (a % b).toInt ∧ (a % b).toInt < b.toInt := by
  rw [Int32.toInt_mod]
  have h1 := Int.tmod_nonneg b.toInt ha
  have h2 := Int.tmod_lt_of_pos a.toInt hb
  omega
theorem own_i64 (a : Int32) : a.toInt64.toInt = a.toInt := by simp

set_option maxRecDepth 65536 in
set_option maxHeartbeats 40000000 in
theorem own_init_ef (m : MethodId) (x0 : Addr) : entryFrame m #[(.ref x0)] 1 = mkF m 0 #[.val (.ref x0)] [] := by first | (simp [entryFrame, mkF, argsToLocals, Value.category]; done) | rfl
set_option maxRecDepth 65536 in
set_option maxHeartbeats 40000000 in
theorem own_init {l : Launch} {Z : State} {a0 : Array Value} (hw : own_Z Z a0) {h : Heap} {os : List own_O} {as : List own_A} {a : Addr} (H : own_H Z h (own_SD a .null .null (.int (0 : Int32)) :: os) as) : own_Met false l Z (⟨"com/example/fielder/fielder/service/ScoredDocuments", "<init>", "()V"⟩ : MethodName) prog_38_method_1_code 1 none [] ({ frames := 1, cells := 2, slots := 8, locals := 12 } : Room) #[(.ref a)] h (fun v h' => v = none ∧ ∃ sa da, own_H Z h' (own_SD a (.ref da) (.ref sa) (.int (0 : Int32)) :: os) ((sa, .double, "[D", [(.double (0 : UInt64)), (.double (0 : UInt64)), (.double (0 : UInt64)), (.double (0 : UInt64))]) :: (da, .int, "[I", [(.int (0 : Int32)), (.int (0 : Int32)), (.int (0 : Int32)), (.int (0 : Int32))]) :: as)) := by
  refine own_met (by first | exact plainFor_of_name (by decide +kernel) | decide +kernel) ?_
  intro p e s m below meth c K
  refine own_cast (own_init_ef m _) ?_
  refine own_aloadN K own_d0_0 rfl rfl ?_
  refine own_initO K own_d0_1 (own_w11 hw) (own_w12 hw) (own_w13 hw) rfl (by decide) (W := 0) (Nat.le_of_eq rfl) (by decide) ?_
  refine own_aloadN K own_d0_4 rfl rfl ?_
  refine own_iconst K own_d0_5 (v := (4 : Int32)) rfl ?_
  refine own_newarray K own_d0_6 (ty := .int) rfl (own_w14 hw) H (q := 4) (by decide) (ad := "[I") (by decide +kernel) (vs := [(.int (0 : Int32)), (.int (0 : Int32)), (.int (0 : Int32)), (.int (0 : Int32))]) rfl (by decide) (by decide) (by decide) ?_
  intro h1 a3 H2
  replace H2 : own_H Z h1 (own_SD a .null .null (.int (0 : Int32)) :: os) ((a3, .int, "[I", [(.int (0 : Int32)), (.int (0 : Int32)), (.int (0 : Int32)), (.int (0 : Int32))]) :: as) := H2
  refine own_putfield K own_d0_8 (host := "") (Or.inl (own_w15 hw)) Via.refl H2 (j := 0) rfl (q := 0) rfl (Or.inl (own_w16 hw)) (own_w6 hw) (ty := (.array .int)) (by decide +kernel) (rfl) rfl ?_
  intro h4 H5
  replace H5 : own_H Z h4 (own_SD a (.ref a3) .null (.int (0 : Int32)) :: os) ((a3, .int, "[I", [(.int (0 : Int32)), (.int (0 : Int32)), (.int (0 : Int32)), (.int (0 : Int32))]) :: as) := H5
  refine own_aloadN K own_d0_11 rfl rfl ?_
  refine own_iconst K own_d0_12 (v := (4 : Int32)) rfl ?_
  refine own_newarray K own_d0_13 (ty := .double) rfl (own_w17 hw) H5 (q := 4) (by decide) (ad := "[D") (by decide +kernel) (vs := [(.double (0 : UInt64)), (.double (0 : UInt64)), (.double (0 : UInt64)), (.double (0 : UInt64))]) rfl (by decide) (by decide) (by decide) ?_
  intro h6 a8 H7
  replace H7 : own_H Z h6 (own_SD a (.ref a3) .null (.int (0 : Int32)) :: os) ((a8, .double, "[D", [(.double (0 : UInt64)), (.double (0 : UInt64)), (.double (0 : UInt64)), (.double (0 : UInt64))]) :: (a3, .int, "[I", [(.int (0 : Int32)), (.int (0 : Int32)), (.int (0 : Int32)), (.int (0 : Int32))]) :: as) := H7
  refine own_putfield K own_d0_15 (host := "") (Or.inl (own_w18 hw)) Via.refl H7 (j := 0) rfl (q := 1) rfl (Or.inl (own_w19 hw)) (own_w6 hw) (ty := (.array .double)) (by decide +kernel) (rfl) rfl ?_
  intro h9 H10
  replace H10 : own_H Z h9 (own_SD a (.ref a3) (.ref a8) (.int (0 : Int32)) :: os) ((a8, .double, "[D", [(.double (0 : UInt64)), (.double (0 : UInt64)), (.double (0 : UInt64)), (.double (0 : UInt64))]) :: (a3, .int, "[I", [(.int (0 : Int32)), (.int (0 : Int32)), (.int (0 : Int32)), (.int (0 : Int32))]) :: as) := H10
  exact own_retV K own_d0_18 (by decide) (by decide) (⟨rfl, _, _, H10⟩)
set_option maxRecDepth 65536 in
set_option maxHeartbeats 40000000 in
theorem own_size_ef (m : MethodId) (x0 : Addr) : entryFrame m #[(.ref x0)] 1 = mkF m 0 #[.val (.ref x0)] [] := by first | (simp [entryFrame, mkF, argsToLocals, Value.category]; done) | rfl
set_option maxRecDepth 65536 in
set_option maxHeartbeats 40000000 in
theorem own_size {l : Launch} {Z : State} {a0 : Array Value} (hw : own_Z Z a0) {h : Heap} {os : List own_O} {as : List own_A} {a da sa : Addr} {n : Int32} (H : own_H Z h (own_SD a (.ref da) (.ref sa) (.int n) :: os) as) : own_Met false l Z (⟨"com/example/fielder/fielder/service/ScoredDocuments", "size", "()I"⟩ : MethodName) prog_38_method_3_code 1 (some .int) [] ({ frames := 0, cells := 0, slots := 0, locals := 0 } : Room) #[(.ref a)] h (fun v h' => v = some (.int n) ∧ h = h') := by
  refine own_met (by first | exact plainFor_of_name (by decide +kernel) | decide +kernel) ?_
  intro p e s m below meth c K
  refine own_cast (own_size_ef m _) ?_
  refine own_aloadN K own_d1_0 rfl rfl ?_
  refine own_getfield K own_d1_1 (host := "") (Or.inl (own_w25 hw)) Via.refl H (j := 0) rfl (q := 2) rfl ?_
  exact own_retI K own_d1_4 (by decide) (by decide) (⟨rfl, rfl⟩)
set_option maxRecDepth 65536 in
set_option maxHeartbeats 40000000 in
theorem own_score_ef (m : MethodId) (x0 : Addr) (x1 : Int32) : entryFrame m #[(.ref x0), (.int x1)] 2 = mkF m 0 #[.val (.ref x0), .val (.int x1)] [] := by first | (simp [entryFrame, mkF, argsToLocals, Value.category]; done) | rfl
set_option maxRecDepth 65536 in
set_option maxHeartbeats 40000000 in
theorem own_score {l : Launch} {Z : State} {a0 : Array Value} (hw : own_Z Z a0) {h : Heap} {os : List own_O} {as : List own_A} {a da sa : Addr} {n i : Int32} {vs : List Value} {q : Nat} {d : UInt64} (H : own_H Z h (own_SD a (.ref da) (.ref sa) (.int n) :: os) ((sa, .double, "[D", vs) :: as)) (hi : i.toInt = (q : Int)) (hv : vs[q]? = some (.double d)) : own_Met false l Z (⟨"com/example/fielder/fielder/service/ScoredDocuments", "score", "(I)D"⟩ : MethodName) prog_38_method_5_code 2 (some .double) [] ({ frames := 0, cells := 0, slots := 0, locals := 0 } : Room) #[(.ref a), (.int i)] h (fun v h' => v = some (.double d) ∧ h = h') := by
  refine own_met (by first | exact plainFor_of_name (by decide +kernel) | decide +kernel) ?_
  intro p e s m below meth c K
  refine own_cast (own_score_ef m _ _) ?_
  refine own_aloadN K own_d2_0 rfl rfl ?_
  refine own_getfield K own_d2_1 (host := "") (Or.inl (own_w18 hw)) Via.refl H (j := 0) rfl (q := 1) rfl ?_
  refine own_iloadN K own_d2_4 rfl ?_
  refine own_daload K own_d2_5 H (i := 0) rfl (q := q) (hi) (hv) ?_
  exact own_retD K own_d2_6 (by decide) (by decide) (⟨rfl, rfl⟩)
set_option maxRecDepth 65536 in
set_option maxHeartbeats 40000000 in
theorem own_min_ef (m : MethodId) (x0 : Int32) (x1 : Int32) : entryFrame m #[(.int x0), (.int x1)] 2 = mkF m 0 #[.val (.int x0), .val (.int x1)] [] := by first | (simp [entryFrame, mkF, argsToLocals, Value.category]; done) | rfl
set_option maxRecDepth 65536 in
set_option maxHeartbeats 40000000 in
theorem own_min {l : Launch} {Z : State} {a0 : Array Value} (hw : own_Z Z a0) {h : Heap} {x y : Int32} : own_Met false l Z (⟨"java/lang/Math", "min", "(II)I"⟩ : MethodName) jdk_29_method_69_code 2 (some .int) [] ({ frames := 0, cells := 0, slots := 0, locals := 0 } : Room) #[(.int x), (.int y)] h (fun v h' => (∃ z : Int32, v = some (.int z) ∧ z.toInt ≤ y.toInt) ∧ h = h') := by
  refine own_met (by first | exact plainFor_of_name (by decide +kernel) | decide +kernel) ?_
  intro p e s m below meth c K
  refine own_cast (own_min_ef m _ _) ?_
  refine own_iloadN K own_d3_0 rfl ?_
  refine own_iloadN K own_d3_1 rfl ?_
  refine own_icmpgt K own_d3_2 (fun g => ?_) (fun g => ?_)
  · refine own_iloadN K own_d3_9 rfl ?_
    exact own_retI K own_d3_10 (by decide) (by decide) (⟨⟨_, rfl, by omega⟩, rfl⟩)
  · refine own_iloadN K own_d3_5 rfl ?_
    refine own_goto K own_d3_6 ?_
    exact own_retI K own_d3_10 (by decide) (by decide) (⟨⟨_, rfl, by omega⟩, rfl⟩)
set_option maxRecDepth 65536 in
set_option maxHeartbeats 40000000 in
theorem own_add0_ef (m : MethodId) (x0 : Addr) (x1 : Int32) (x2 : UInt64) : entryFrame m #[(.ref x0), (.int x1), (.double x2)] 4 = mkF m 0 #[.val (.ref x0), .val (.int x1), .val (.double x2), .second] [] := by first | (simp [entryFrame, mkF, argsToLocals, Value.category]; done) | rfl
set_option maxRecDepth 65536 in
set_option maxHeartbeats 40000000 in
theorem own_add0 {l : Launch} {Z : State} {a0 : Array Value} (hw : own_Z Z a0) {h : Heap} {os : List own_O} {as : List own_A} {a da sa : Addr} {dc : Int32} {sc : UInt64} {x0 x1 x2 x3 y0 y1 y2 y3 : Value} (H : own_H Z h (own_SD a (.ref da) (.ref sa) (.int (0 : Int32)) :: os) ((da, .int, "[I", [x0, x1, x2, x3]) :: (sa, .double, "[D", [y0, y1, y2, y3]) :: as)) : own_Met false l Z (⟨"com/example/fielder/fielder/service/ScoredDocuments", "add", "(ID)V"⟩ : MethodName) prog_38_method_2_code 4 none [] ({ frames := 0, cells := 0, slots := 0, locals := 0 } : Room) #[(.ref a), (.int dc), (.double sc)] h (fun v h' => v = none ∧ own_H Z h' (own_SD a (.ref da) (.ref sa) (.int (1 : Int32)) :: os) ((da, .int, "[I", [(.int dc), x1, x2, x3]) :: (sa, .double, "[D", [(.double sc), y1, y2, y3]) :: as)) := by
  refine own_met (by first | exact plainFor_of_name (by decide +kernel) | decide +kernel) ?_
  intro p e s m below meth c K
  refine own_cast (own_add0_ef m _ _ _) ?_
  refine own_aloadN K own_d4_0 rfl rfl ?_
  refine own_getfield K own_d4_1 (host := "") (Or.inl (own_w25 hw)) Via.refl H (j := 0) rfl (q := 2) rfl ?_
  refine own_aloadN K own_d4_4 rfl rfl ?_
  refine own_getfield K own_d4_5 (host := "") (Or.inl (own_w15 hw)) Via.refl H (j := 0) rfl (q := 0) rfl ?_
  refine own_arraylength K own_d4_8 H (i := 0) rfl (N := (4 : Int32)) (rfl) ?_
  refine own_icmpne K own_d4_9 (fun _ => ?_) (fun q => absurd (by decide) q)
  refine own_aloadN K own_d4_46 rfl rfl ?_
  refine own_getfield K own_d4_47 (host := "") (Or.inl (own_w15 hw)) Via.refl H (j := 0) rfl (q := 0) rfl ?_
  refine own_aloadN K own_d4_50 rfl rfl ?_
  refine own_getfield K own_d4_51 (host := "") (Or.inl (own_w25 hw)) Via.refl H (j := 0) rfl (q := 2) rfl ?_
  refine own_iloadN K own_d4_54 rfl ?_
  refine own_iastore K own_d4_55 H (i := 0) rfl (q := 0) (by decide) (own_le rfl) ?_
  intro h1 H2
  replace H2 : own_H Z h1 (own_SD a (.ref da) (.ref sa) (.int (0 : Int32)) :: os) ((da, .int, "[I", [(.int dc), x1, x2, x3]) :: (sa, .double, "[D", [y0, y1, y2, y3]) :: as) := H2
  refine own_aloadN K own_d4_56 rfl rfl ?_
  refine own_getfield K own_d4_57 (host := "") (Or.inl (own_w18 hw)) Via.refl H2 (j := 0) rfl (q := 1) rfl ?_
  refine own_aloadN K own_d4_60 rfl rfl ?_
  refine own_getfield K own_d4_61 (host := "") (Or.inl (own_w25 hw)) Via.refl H2 (j := 0) rfl (q := 2) rfl ?_
  refine own_dloadN K own_d4_64 rfl ?_
  refine own_dastore K own_d4_65 H2 (i := 1) rfl (q := 0) (by decide) (own_le rfl) ?_
  intro h3 H4
  replace H4 : own_H Z h3 (own_SD a (.ref da) (.ref sa) (.int (0 : Int32)) :: os) ((da, .int, "[I", [(.int dc), x1, x2, x3]) :: (sa, .double, "[D", [(.double sc), y1, y2, y3]) :: as) := H4
  refine own_aloadN K own_d4_66 rfl rfl ?_
  refine own_dup K own_d4_67 rfl ?_
  refine own_getfield K own_d4_68 (host := "") (Or.inl (own_w25 hw)) Via.refl H4 (j := 0) rfl (q := 2) rfl ?_
  refine own_iconst K own_d4_71 (v := (1 : Int32)) rfl ?_
  refine own_iadd K own_d4_72 ?_
  refine own_topI (x' := (1 : Int32)) (by decide) ?_
  refine own_putfield K own_d4_73 (host := "") (Or.inl (own_w25 hw)) Via.refl H4 (j := 0) rfl (q := 2) rfl (Or.inl (own_w26 hw)) (own_w6 hw) (ty := .int) (by decide +kernel) (rfl) rfl ?_
  intro h5 H6
  replace H6 : own_H Z h5 (own_SD a (.ref da) (.ref sa) (.int (1 : Int32)) :: os) ((da, .int, "[I", [(.int dc), x1, x2, x3]) :: (sa, .double, "[D", [(.double sc), y1, y2, y3]) :: as) := H6
  exact own_retV K own_d4_76 (by decide) (by decide) (⟨rfl, H6⟩)
set_option maxRecDepth 65536 in
set_option maxHeartbeats 40000000 in
theorem own_add1_ef (m : MethodId) (x0 : Addr) (x1 : Int32) (x2 : UInt64) : entryFrame m #[(.ref x0), (.int x1), (.double x2)] 4 = mkF m 0 #[.val (.ref x0), .val (.int x1), .val (.double x2), .second] [] := by first | (simp [entryFrame, mkF, argsToLocals, Value.category]; done) | rfl
set_option maxRecDepth 65536 in
set_option maxHeartbeats 40000000 in
theorem own_add1 {l : Launch} {Z : State} {a0 : Array Value} (hw : own_Z Z a0) {h : Heap} {os : List own_O} {as : List own_A} {a da sa : Addr} {dc : Int32} {sc : UInt64} {x0 x1 x2 x3 y0 y1 y2 y3 : Value} (H : own_H Z h (own_SD a (.ref da) (.ref sa) (.int (1 : Int32)) :: os) ((da, .int, "[I", [x0, x1, x2, x3]) :: (sa, .double, "[D", [y0, y1, y2, y3]) :: as)) : own_Met false l Z (⟨"com/example/fielder/fielder/service/ScoredDocuments", "add", "(ID)V"⟩ : MethodName) prog_38_method_2_code 4 none [] ({ frames := 0, cells := 0, slots := 0, locals := 0 } : Room) #[(.ref a), (.int dc), (.double sc)] h (fun v h' => v = none ∧ own_H Z h' (own_SD a (.ref da) (.ref sa) (.int (2 : Int32)) :: os) ((da, .int, "[I", [x0, (.int dc), x2, x3]) :: (sa, .double, "[D", [y0, (.double sc), y2, y3]) :: as)) := by
  refine own_met (by first | exact plainFor_of_name (by decide +kernel) | decide +kernel) ?_
  intro p e s m below meth c K
  refine own_cast (own_add1_ef m _ _ _) ?_
  refine own_aloadN K own_d4_0 rfl rfl ?_
  refine own_getfield K own_d4_1 (host := "") (Or.inl (own_w25 hw)) Via.refl H (j := 0) rfl (q := 2) rfl ?_
  refine own_aloadN K own_d4_4 rfl rfl ?_
  refine own_getfield K own_d4_5 (host := "") (Or.inl (own_w15 hw)) Via.refl H (j := 0) rfl (q := 0) rfl ?_
  refine own_arraylength K own_d4_8 H (i := 0) rfl (N := (4 : Int32)) (rfl) ?_
  refine own_icmpne K own_d4_9 (fun _ => ?_) (fun q => absurd (by decide) q)
  refine own_aloadN K own_d4_46 rfl rfl ?_
  refine own_getfield K own_d4_47 (host := "") (Or.inl (own_w15 hw)) Via.refl H (j := 0) rfl (q := 0) rfl ?_
  refine own_aloadN K own_d4_50 rfl rfl ?_
  refine own_getfield K own_d4_51 (host := "") (Or.inl (own_w25 hw)) Via.refl H (j := 0) rfl (q := 2) rfl ?_
  refine own_iloadN K own_d4_54 rfl ?_
  refine own_iastore K own_d4_55 H (i := 0) rfl (q := 1) (by decide) (own_le rfl) ?_
  intro h1 H2
  replace H2 : own_H Z h1 (own_SD a (.ref da) (.ref sa) (.int (1 : Int32)) :: os) ((da, .int, "[I", [x0, (.int dc), x2, x3]) :: (sa, .double, "[D", [y0, y1, y2, y3]) :: as) := H2
  refine own_aloadN K own_d4_56 rfl rfl ?_
  refine own_getfield K own_d4_57 (host := "") (Or.inl (own_w18 hw)) Via.refl H2 (j := 0) rfl (q := 1) rfl ?_
  refine own_aloadN K own_d4_60 rfl rfl ?_
  refine own_getfield K own_d4_61 (host := "") (Or.inl (own_w25 hw)) Via.refl H2 (j := 0) rfl (q := 2) rfl ?_
  refine own_dloadN K own_d4_64 rfl ?_
  refine own_dastore K own_d4_65 H2 (i := 1) rfl (q := 1) (by decide) (own_le rfl) ?_
  intro h3 H4
  replace H4 : own_H Z h3 (own_SD a (.ref da) (.ref sa) (.int (1 : Int32)) :: os) ((da, .int, "[I", [x0, (.int dc), x2, x3]) :: (sa, .double, "[D", [y0, (.double sc), y2, y3]) :: as) := H4
  refine own_aloadN K own_d4_66 rfl rfl ?_
  refine own_dup K own_d4_67 rfl ?_
  refine own_getfield K own_d4_68 (host := "") (Or.inl (own_w25 hw)) Via.refl H4 (j := 0) rfl (q := 2) rfl ?_
  refine own_iconst K own_d4_71 (v := (1 : Int32)) rfl ?_
  refine own_iadd K own_d4_72 ?_
  refine own_topI (x' := (2 : Int32)) (by decide) ?_
  refine own_putfield K own_d4_73 (host := "") (Or.inl (own_w25 hw)) Via.refl H4 (j := 0) rfl (q := 2) rfl (Or.inl (own_w26 hw)) (own_w6 hw) (ty := .int) (by decide +kernel) (rfl) rfl ?_
  intro h5 H6
  replace H6 : own_H Z h5 (own_SD a (.ref da) (.ref sa) (.int (2 : Int32)) :: os) ((da, .int, "[I", [x0, (.int dc), x2, x3]) :: (sa, .double, "[D", [y0, (.double sc), y2, y3]) :: as) := H6
  exact own_retV K own_d4_76 (by decide) (by decide) (⟨rfl, H6⟩)
set_option maxRecDepth 65536 in
set_option maxHeartbeats 40000000 in
theorem own_add2_ef (m : MethodId) (x0 : Addr) (x1 : Int32) (x2 : UInt64) : entryFrame m #[(.ref x0), (.int x1), (.double x2)] 4 = mkF m 0 #[.val (.ref x0), .val (.int x1), .val (.double x2), .second] [] := by first | (simp [entryFrame, mkF, argsToLocals, Value.category]; done) | rfl
set_option maxRecDepth 65536 in
set_option maxHeartbeats 40000000 in
theorem own_add2 {l : Launch} {Z : State} {a0 : Array Value} (hw : own_Z Z a0) {h : Heap} {os : List own_O} {as : List own_A} {a da sa : Addr} {dc : Int32} {sc : UInt64} {x0 x1 x2 x3 y0 y1 y2 y3 : Value} (H : own_H Z h (own_SD a (.ref da) (.ref sa) (.int (2 : Int32)) :: os) ((da, .int, "[I", [x0, x1, x2, x3]) :: (sa, .double, "[D", [y0, y1, y2, y3]) :: as)) : own_Met false l Z (⟨"com/example/fielder/fielder/service/ScoredDocuments", "add", "(ID)V"⟩ : MethodName) prog_38_method_2_code 4 none [] ({ frames := 0, cells := 0, slots := 0, locals := 0 } : Room) #[(.ref a), (.int dc), (.double sc)] h (fun v h' => v = none ∧ own_H Z h' (own_SD a (.ref da) (.ref sa) (.int (3 : Int32)) :: os) ((da, .int, "[I", [x0, x1, (.int dc), x3]) :: (sa, .double, "[D", [y0, y1, (.double sc), y3]) :: as)) := by
  refine own_met (by first | exact plainFor_of_name (by decide +kernel) | decide +kernel) ?_
  intro p e s m below meth c K
  refine own_cast (own_add2_ef m _ _ _) ?_
  refine own_aloadN K own_d4_0 rfl rfl ?_
  refine own_getfield K own_d4_1 (host := "") (Or.inl (own_w25 hw)) Via.refl H (j := 0) rfl (q := 2) rfl ?_
  refine own_aloadN K own_d4_4 rfl rfl ?_
  refine own_getfield K own_d4_5 (host := "") (Or.inl (own_w15 hw)) Via.refl H (j := 0) rfl (q := 0) rfl ?_
  refine own_arraylength K own_d4_8 H (i := 0) rfl (N := (4 : Int32)) (rfl) ?_
  refine own_icmpne K own_d4_9 (fun _ => ?_) (fun q => absurd (by decide) q)
  refine own_aloadN K own_d4_46 rfl rfl ?_
  refine own_getfield K own_d4_47 (host := "") (Or.inl (own_w15 hw)) Via.refl H (j := 0) rfl (q := 0) rfl ?_
  refine own_aloadN K own_d4_50 rfl rfl ?_
  refine own_getfield K own_d4_51 (host := "") (Or.inl (own_w25 hw)) Via.refl H (j := 0) rfl (q := 2) rfl ?_
  refine own_iloadN K own_d4_54 rfl ?_
  refine own_iastore K own_d4_55 H (i := 0) rfl (q := 2) (by decide) (own_le rfl) ?_
  intro h1 H2
  replace H2 : own_H Z h1 (own_SD a (.ref da) (.ref sa) (.int (2 : Int32)) :: os) ((da, .int, "[I", [x0, x1, (.int dc), x3]) :: (sa, .double, "[D", [y0, y1, y2, y3]) :: as) := H2
  refine own_aloadN K own_d4_56 rfl rfl ?_
  refine own_getfield K own_d4_57 (host := "") (Or.inl (own_w18 hw)) Via.refl H2 (j := 0) rfl (q := 1) rfl ?_
  refine own_aloadN K own_d4_60 rfl rfl ?_
  refine own_getfield K own_d4_61 (host := "") (Or.inl (own_w25 hw)) Via.refl H2 (j := 0) rfl (q := 2) rfl ?_
  refine own_dloadN K own_d4_64 rfl ?_
  refine own_dastore K own_d4_65 H2 (i := 1) rfl (q := 2) (by decide) (own_le rfl) ?_
  intro h3 H4
  replace H4 : own_H Z h3 (own_SD a (.ref da) (.ref sa) (.int (2 : Int32)) :: os) ((da, .int, "[I", [x0, x1, (.int dc), x3]) :: (sa, .double, "[D", [y0, y1, (.double sc), y3]) :: as) := H4
  refine own_aloadN K own_d4_66 rfl rfl ?_
  refine own_dup K own_d4_67 rfl ?_
  refine own_getfield K own_d4_68 (host := "") (Or.inl (own_w25 hw)) Via.refl H4 (j := 0) rfl (q := 2) rfl ?_
  refine own_iconst K own_d4_71 (v := (1 : Int32)) rfl ?_
  refine own_iadd K own_d4_72 ?_
  refine own_topI (x' := (3 : Int32)) (by decide) ?_
  refine own_putfield K own_d4_73 (host := "") (Or.inl (own_w25 hw)) Via.refl H4 (j := 0) rfl (q := 2) rfl (Or.inl (own_w26 hw)) (own_w6 hw) (ty := .int) (by decide +kernel) (rfl) rfl ?_
  intro h5 H6
  replace H6 : own_H Z h5 (own_SD a (.ref da) (.ref sa) (.int (3 : Int32)) :: os) ((da, .int, "[I", [x0, x1, (.int dc), x3]) :: (sa, .double, "[D", [y0, y1, (.double sc), y3]) :: as) := H6
  exact own_retV K own_d4_76 (by decide) (by decide) (⟨rfl, H6⟩)
set_option maxRecDepth 65536 in
set_option maxHeartbeats 40000000 in
theorem own_exp0_ef (m : MethodId) (x0 : Int32) (x1 : UInt64) (x2 : Int32) (x3 : Int32) (x4 : Int32) (x5 : Int32) (x6 : UInt64) (x7 : UInt64) (x8 : UInt64) : entryFrame m #[(.int x0), (.double x1), (.int x2), (.int x3), (.int x4), (.int x5), (.double x6), (.double x7), (.double x8)] 13 = mkF m 0 #[.val (.int x0), .val (.double x1), .second, .val (.int x2), .val (.int x3), .val (.int x4), .val (.int x5), .val (.double x6), .second, .val (.double x7), .second, .val (.double x8), .second] [] := by first | (simp [entryFrame, mkF, argsToLocals, Value.category]; done) | rfl
set_option maxRecDepth 65536 in
set_option maxHeartbeats 40000000 in
theorem own_exp0 {l : Launch} {Z : State} {a0 : Array Value} (hw : own_Z Z a0) {h : Heap} {d e0 e1 e2 : Int32} {s f0 f1 f2 : UInt64} (fs : Fl.Fin64 s) (ff0 : Fl.Fin64 f0) (ff1 : Fl.Fin64 f1) (ff2 : Fl.Fin64 f2) : own_Met false l Z (⟨"com/example/fielder/fielder/service/ScoredDocumentsAddScoresPinLaw", "expect", "(IDIIIIDDD)D"⟩ : MethodName) method_2_code 13 (some .double) [] ({ frames := 0, cells := 0, slots := 0, locals := 0 } : Room) #[(.int d), (.double s), (.int (0 : Int32)), (.int e0), (.int e1), (.int e2), (.double f0), (.double f1), (.double f2)] h (fun v h' => v = some (.double s) ∧ h = h') := by
  refine own_met (by first | exact plainFor_of_name (by decide +kernel) | decide +kernel) ?_
  intro p e s m below meth c K
  refine own_cast (own_exp0_ef m _ _ _ _ _ _ _ _ _) ?_
  refine own_iloadN K own_d5_0 rfl ?_
  refine own_ifle K own_d5_1 (fun _ => ?_) (fun q => absurd (by decide) q)
  refine own_iloadN K own_d5_15 rfl ?_
  refine own_iconst K own_d5_16 (v := (1 : Int32)) rfl ?_
  refine own_icmple K own_d5_17 (fun _ => ?_) (fun q => absurd (by decide) q)
  refine own_iloadN K own_d5_31 rfl ?_
  refine own_iconst K own_d5_32 (v := (2 : Int32)) rfl ?_
  refine own_icmple K own_d5_33 (fun _ => ?_) (fun q => absurd (by decide) q)
  refine own_dloadN K own_d5_47 rfl ?_
  exact own_retD K own_d5_48 (by decide) (by decide) (⟨by first | rfl | (congr 2; repeat' split) <;> first | rfl | (exfalso; simp_all; done), rfl⟩)
set_option maxRecDepth 65536 in
set_option maxHeartbeats 40000000 in
theorem own_exp1_ef (m : MethodId) (x0 : Int32) (x1 : UInt64) (x2 : Int32) (x3 : Int32) (x4 : Int32) (x5 : Int32) (x6 : UInt64) (x7 : UInt64) (x8 : UInt64) : entryFrame m #[(.int x0), (.double x1), (.int x2), (.int x3), (.int x4), (.int x5), (.double x6), (.double x7), (.double x8)] 13 = mkF m 0 #[.val (.int x0), .val (.double x1), .second, .val (.int x2), .val (.int x3), .val (.int x4), .val (.int x5), .val (.double x6), .second, .val (.double x7), .second, .val (.double x8), .second] [] := by first | (simp [entryFrame, mkF, argsToLocals, Value.category]; done) | rfl
set_option maxRecDepth 65536 in
set_option maxHeartbeats 40000000 in
theorem own_exp1 {l : Launch} {Z : State} {a0 : Array Value} (hw : own_Z Z a0) {h : Heap} {d e0 e1 e2 : Int32} {s f0 f1 f2 : UInt64} (fs : Fl.Fin64 s) (ff0 : Fl.Fin64 f0) (ff1 : Fl.Fin64 f1) (ff2 : Fl.Fin64 f2) : own_Met false l Z (⟨"com/example/fielder/fielder/service/ScoredDocumentsAddScoresPinLaw", "expect", "(IDIIIIDDD)D"⟩ : MethodName) method_2_code 13 (some .double) [] ({ frames := 0, cells := 0, slots := 0, locals := 0 } : Room) #[(.int d), (.double s), (.int (1 : Int32)), (.int e0), (.int e1), (.int e2), (.double f0), (.double f1), (.double f2)] h (fun v h' => v = some (.double (if e0 = d then FP.dadd s f0 else s)) ∧ h = h') := by
  refine own_met (by first | exact plainFor_of_name (by decide +kernel) | decide +kernel) ?_
  intro p e s m below meth c K
  refine own_cast (own_exp1_ef m _ _ _ _ _ _ _ _ _) ?_
  refine own_iloadN K own_d5_0 rfl ?_
  refine own_ifle K own_d5_1 (fun q => absurd q (by decide)) (fun _ => ?_)
  refine own_iload K own_d5_4 rfl ?_
  refine own_iloadN K own_d5_6 rfl ?_
  refine own_icmpne K own_d5_7 (fun g0 => ?_) (fun g0 => ?_)
  · refine own_iloadN K own_d5_15 rfl ?_
    refine own_iconst K own_d5_16 (v := (1 : Int32)) rfl ?_
    refine own_icmple K own_d5_17 (fun _ => ?_) (fun q => absurd (by decide) q)
    refine own_iloadN K own_d5_31 rfl ?_
    refine own_iconst K own_d5_32 (v := (2 : Int32)) rfl ?_
    refine own_icmple K own_d5_33 (fun _ => ?_) (fun q => absurd (by decide) q)
    refine own_dloadN K own_d5_47 rfl ?_
    exact own_retD K own_d5_48 (by decide) (by decide) (⟨by first | rfl | (congr 2; repeat' split) <;> first | rfl | (exfalso; simp_all; done), rfl⟩)
  · refine own_dloadN K own_d5_10 rfl ?_
    refine own_dload K own_d5_11 rfl ?_
    refine own_dadd K own_d5_13 (Fl.dadd_out fs.noNaN ff0) ?_
    exact own_retD K own_d5_14 (by decide) (by decide) (⟨by first | rfl | (congr 2; repeat' split) <;> first | rfl | (exfalso; simp_all; done), rfl⟩)
set_option maxRecDepth 65536 in
set_option maxHeartbeats 40000000 in
theorem own_exp2_ef (m : MethodId) (x0 : Int32) (x1 : UInt64) (x2 : Int32) (x3 : Int32) (x4 : Int32) (x5 : Int32) (x6 : UInt64) (x7 : UInt64) (x8 : UInt64) : entryFrame m #[(.int x0), (.double x1), (.int x2), (.int x3), (.int x4), (.int x5), (.double x6), (.double x7), (.double x8)] 13 = mkF m 0 #[.val (.int x0), .val (.double x1), .second, .val (.int x2), .val (.int x3), .val (.int x4), .val (.int x5), .val (.double x6), .second, .val (.double x7), .second, .val (.double x8), .second] [] := by first | (simp [entryFrame, mkF, argsToLocals, Value.category]; done) | rfl
set_option maxRecDepth 65536 in
set_option maxHeartbeats 40000000 in
theorem own_exp2 {l : Launch} {Z : State} {a0 : Array Value} (hw : own_Z Z a0) {h : Heap} {d e0 e1 e2 : Int32} {s f0 f1 f2 : UInt64} (fs : Fl.Fin64 s) (ff0 : Fl.Fin64 f0) (ff1 : Fl.Fin64 f1) (ff2 : Fl.Fin64 f2) : own_Met false l Z (⟨"com/example/fielder/fielder/service/ScoredDocumentsAddScoresPinLaw", "expect", "(IDIIIIDDD)D"⟩ : MethodName) method_2_code 13 (some .double) [] ({ frames := 0, cells := 0, slots := 0, locals := 0 } : Room) #[(.int d), (.double s), (.int (2 : Int32)), (.int e0), (.int e1), (.int e2), (.double f0), (.double f1), (.double f2)] h (fun v h' => v = some (.double (if e0 = d then FP.dadd s f0 else (if e1 = d then FP.dadd s f1 else s))) ∧ h = h') := by
  refine own_met (by first | exact plainFor_of_name (by decide +kernel) | decide +kernel) ?_
  intro p e s m below meth c K
  refine own_cast (own_exp2_ef m _ _ _ _ _ _ _ _ _) ?_
  refine own_iloadN K own_d5_0 rfl ?_
  refine own_ifle K own_d5_1 (fun q => absurd q (by decide)) (fun _ => ?_)
  refine own_iload K own_d5_4 rfl ?_
  refine own_iloadN K own_d5_6 rfl ?_
  refine own_icmpne K own_d5_7 (fun g0 => ?_) (fun g0 => ?_)
  · refine own_iloadN K own_d5_15 rfl ?_
    refine own_iconst K own_d5_16 (v := (1 : Int32)) rfl ?_
    refine own_icmple K own_d5_17 (fun q => absurd q (by decide)) (fun _ => ?_)
    refine own_iload K own_d5_20 rfl ?_
    refine own_iloadN K own_d5_22 rfl ?_
    refine own_icmpne K own_d5_23 (fun g1 => ?_) (fun g1 => ?_)
    · refine own_iloadN K own_d5_31 rfl ?_
      refine own_iconst K own_d5_32 (v := (2 : Int32)) rfl ?_
      refine own_icmple K own_d5_33 (fun _ => ?_) (fun q => absurd (by decide) q)
      refine own_dloadN K own_d5_47 rfl ?_
      exact own_retD K own_d5_48 (by decide) (by decide) (⟨by first | rfl | (congr 2; repeat' split) <;> first | rfl | (exfalso; simp_all; done), rfl⟩)
    · refine own_dloadN K own_d5_26 rfl ?_
      refine own_dload K own_d5_27 rfl ?_
      refine own_dadd K own_d5_29 (Fl.dadd_out fs.noNaN ff1) ?_
      exact own_retD K own_d5_30 (by decide) (by decide) (⟨by first | rfl | (congr 2; repeat' split) <;> first | rfl | (exfalso; simp_all; done), rfl⟩)
  · refine own_dloadN K own_d5_10 rfl ?_
    refine own_dload K own_d5_11 rfl ?_
    refine own_dadd K own_d5_13 (Fl.dadd_out fs.noNaN ff0) ?_
    exact own_retD K own_d5_14 (by decide) (by decide) (⟨by first | rfl | (congr 2; repeat' split) <;> first | rfl | (exfalso; simp_all; done), rfl⟩)
set_option maxRecDepth 65536 in
set_option maxHeartbeats 40000000 in
theorem own_exp3_ef (m : MethodId) (x0 : Int32) (x1 : UInt64) (x2 : Int32) (x3 : Int32) (x4 : Int32) (x5 : Int32) (x6 : UInt64) (x7 : UInt64) (x8 : UInt64) : entryFrame m #[(.int x0), (.double x1), (.int x2), (.int x3), (.int x4), (.int x5), (.double x6), (.double x7), (.double x8)] 13 = mkF m 0 #[.val (.int x0), .val (.double x1), .second, .val (.int x2), .val (.int x3), .val (.int x4), .val (.int x5), .val (.double x6), .second, .val (.double x7), .second, .val (.double x8), .second] [] := by first | (simp [entryFrame, mkF, argsToLocals, Value.category]; done) | rfl
set_option maxRecDepth 65536 in
set_option maxHeartbeats 40000000 in
theorem own_exp3 {l : Launch} {Z : State} {a0 : Array Value} (hw : own_Z Z a0) {h : Heap} {d e0 e1 e2 : Int32} {s f0 f1 f2 : UInt64} (fs : Fl.Fin64 s) (ff0 : Fl.Fin64 f0) (ff1 : Fl.Fin64 f1) (ff2 : Fl.Fin64 f2) : own_Met false l Z (⟨"com/example/fielder/fielder/service/ScoredDocumentsAddScoresPinLaw", "expect", "(IDIIIIDDD)D"⟩ : MethodName) method_2_code 13 (some .double) [] ({ frames := 0, cells := 0, slots := 0, locals := 0 } : Room) #[(.int d), (.double s), (.int (3 : Int32)), (.int e0), (.int e1), (.int e2), (.double f0), (.double f1), (.double f2)] h (fun v h' => v = some (.double (if e0 = d then FP.dadd s f0 else (if e1 = d then FP.dadd s f1 else (if e2 = d then FP.dadd s f2 else s)))) ∧ h = h') := by
  refine own_met (by first | exact plainFor_of_name (by decide +kernel) | decide +kernel) ?_
  intro p e s m below meth c K
  refine own_cast (own_exp3_ef m _ _ _ _ _ _ _ _ _) ?_
  refine own_iloadN K own_d5_0 rfl ?_
  refine own_ifle K own_d5_1 (fun q => absurd q (by decide)) (fun _ => ?_)
  refine own_iload K own_d5_4 rfl ?_
  refine own_iloadN K own_d5_6 rfl ?_
  refine own_icmpne K own_d5_7 (fun g0 => ?_) (fun g0 => ?_)
  · refine own_iloadN K own_d5_15 rfl ?_
    refine own_iconst K own_d5_16 (v := (1 : Int32)) rfl ?_
    refine own_icmple K own_d5_17 (fun q => absurd q (by decide)) (fun _ => ?_)
    refine own_iload K own_d5_20 rfl ?_
    refine own_iloadN K own_d5_22 rfl ?_
    refine own_icmpne K own_d5_23 (fun g1 => ?_) (fun g1 => ?_)
    · refine own_iloadN K own_d5_31 rfl ?_
      refine own_iconst K own_d5_32 (v := (2 : Int32)) rfl ?_
      refine own_icmple K own_d5_33 (fun q => absurd q (by decide)) (fun _ => ?_)
      refine own_iload K own_d5_36 rfl ?_
      refine own_iloadN K own_d5_38 rfl ?_
      refine own_icmpne K own_d5_39 (fun g2 => ?_) (fun g2 => ?_)
      · refine own_dloadN K own_d5_47 rfl ?_
        exact own_retD K own_d5_48 (by decide) (by decide) (⟨by first | rfl | (congr 2; repeat' split) <;> first | rfl | (exfalso; simp_all; done), rfl⟩)
      · refine own_dloadN K own_d5_42 rfl ?_
        refine own_dload K own_d5_43 rfl ?_
        refine own_dadd K own_d5_45 (Fl.dadd_out fs.noNaN ff2) ?_
        exact own_retD K own_d5_46 (by decide) (by decide) (⟨by first | rfl | (congr 2; repeat' split) <;> first | rfl | (exfalso; simp_all; done), rfl⟩)
    · refine own_dloadN K own_d5_26 rfl ?_
      refine own_dload K own_d5_27 rfl ?_
      refine own_dadd K own_d5_29 (Fl.dadd_out fs.noNaN ff1) ?_
      exact own_retD K own_d5_30 (by decide) (by decide) (⟨by first | rfl | (congr 2; repeat' split) <;> first | rfl | (exfalso; simp_all; done), rfl⟩)
  · refine own_dloadN K own_d5_10 rfl ?_
    refine own_dload K own_d5_11 rfl ?_
    refine own_dadd K own_d5_13 (Fl.dadd_out fs.noNaN ff0) ?_
    exact own_retD K own_d5_14 (by decide) (by decide) (⟨by first | rfl | (congr 2; repeat' split) <;> first | rfl | (exfalso; simp_all; done), rfl⟩)
set_option maxRecDepth 65536 in
set_option maxHeartbeats 40000000 in
theorem own_adds_0_0_ef (m : MethodId) (x0 : Addr) (x1 : Addr) : entryFrame m #[(.ref x0), (.ref x1)] 4 = mkF m 0 #[.val (.ref x0), .val (.ref x1), .unset, .unset] [] := by first | (simp [entryFrame, mkF, argsToLocals, Value.category]; done) | rfl
set_option maxRecDepth 65536 in
set_option maxHeartbeats 40000000 in
theorem own_adds_0_0 {l : Launch} {Z : State} {a0 : Array Value} (hw : own_Z Z a0) {h : Heap} {os : List own_O} {as : List own_A} {a b da sa db sb : Addr} {x0 y0 x1 y1 x2 y2 x3 y3 u0 w0 u1 w1 u2 w2 u3 w3 : Value} (H : own_H Z h (own_SD a (.ref da) (.ref sa) (.int (0 : Int32)) :: own_SD b (.ref db) (.ref sb) (.int (0 : Int32)) :: os) ((da, .int, "[I", [x0, x1, x2, x3]) :: (sa, .double, "[D", [y0, y1, y2, y3]) :: (db, .int, "[I", [u0, u1, u2, u3]) :: (sb, .double, "[D", [w0, w1, w2, w3]) :: as))   : own_Met false l Z (⟨"com/example/fielder/fielder/service/ScoredDocuments", "addScores", "(Lcom/example/fielder/fielder/service/ScoredDocuments;)V"⟩ : MethodName) prog_38_method_8_code 4 none [] ({ frames := 0, cells := 0, slots := 0, locals := 0 } : Room) #[(.ref a), (.ref b)] h (fun v h' => v = none ∧ own_H Z h' (own_SD a (.ref da) (.ref sa) (.int (0 : Int32)) :: own_SD b (.ref db) (.ref sb) (.int (0 : Int32)) :: os) ((da, .int, "[I", [x0, x1, x2, x3]) :: (sa, .double, "[D", [y0, y1, y2, y3]) :: (db, .int, "[I", [u0, u1, u2, u3]) :: (sb, .double, "[D", [w0, w1, w2, w3]) :: as)) := by
  refine own_met (by first | exact plainFor_of_name (by decide +kernel) | decide +kernel) ?_
  intro p e s m below meth c K
  refine own_cast (own_adds_0_0_ef m _ _) ?_
  refine own_iconst K own_d6_0 (v := (0 : Int32)) rfl ?_
  refine own_istoreN K own_d6_1 (Ls' := #[.val (.ref a), .val (.ref b), .val (.int (0 : Int32)), .unset]) rfl ?_
  refine own_iconst K own_d6_2 (v := (0 : Int32)) rfl ?_
  refine own_istoreN K own_d6_3 (Ls' := #[.val (.ref a), .val (.ref b), .val (.int (0 : Int32)), .val (.int (0 : Int32))]) rfl ?_
  refine own_iloadN K own_d6_4 rfl ?_
  refine own_aloadN K own_d6_5 rfl rfl ?_
  refine own_getfield K own_d6_6 (host := "") (Or.inl (own_w25 hw)) Via.refl H (j := 0) rfl (q := 2) rfl ?_
  refine own_icmpge K own_d6_9 (fun _ => ?_) (fun q => absurd (by decide) q)
  exact own_retV K own_d6_85 (by decide) (by decide) (⟨rfl, H⟩)
set_option maxRecDepth 65536 in
set_option maxHeartbeats 40000000 in
theorem own_adds_0_1_ef (m : MethodId) (x0 : Addr) (x1 : Addr) : entryFrame m #[(.ref x0), (.ref x1)] 4 = mkF m 0 #[.val (.ref x0), .val (.ref x1), .unset, .unset] [] := by first | (simp [entryFrame, mkF, argsToLocals, Value.category]; done) | rfl
set_option maxRecDepth 65536 in
set_option maxHeartbeats 40000000 in
theorem own_adds_0_1 {l : Launch} {Z : State} {a0 : Array Value} (hw : own_Z Z a0) {h : Heap} {os : List own_O} {as : List own_A} {a b da sa db sb : Addr} {e0 : Int32} {f0 : UInt64} {x0 y0 x1 y1 x2 y2 x3 y3 u1 w1 u2 w2 u3 w3 : Value} (H : own_H Z h (own_SD a (.ref da) (.ref sa) (.int (0 : Int32)) :: own_SD b (.ref db) (.ref sb) (.int (1 : Int32)) :: os) ((da, .int, "[I", [x0, x1, x2, x3]) :: (sa, .double, "[D", [y0, y1, y2, y3]) :: (db, .int, "[I", [(.int e0), u1, u2, u3]) :: (sb, .double, "[D", [(.double f0), w1, w2, w3]) :: as))  (ff0 : Fl.Fin64 f0) : own_Met false l Z (⟨"com/example/fielder/fielder/service/ScoredDocuments", "addScores", "(Lcom/example/fielder/fielder/service/ScoredDocuments;)V"⟩ : MethodName) prog_38_method_8_code 4 none [] ({ frames := 0, cells := 0, slots := 0, locals := 0 } : Room) #[(.ref a), (.ref b)] h (fun v h' => v = none ∧ own_H Z h' (own_SD a (.ref da) (.ref sa) (.int (0 : Int32)) :: own_SD b (.ref db) (.ref sb) (.int (1 : Int32)) :: os) ((da, .int, "[I", [x0, x1, x2, x3]) :: (sa, .double, "[D", [y0, y1, y2, y3]) :: (db, .int, "[I", [(.int e0), u1, u2, u3]) :: (sb, .double, "[D", [(.double f0), w1, w2, w3]) :: as)) := by
  refine own_met (by first | exact plainFor_of_name (by decide +kernel) | decide +kernel) ?_
  intro p e s m below meth c K
  refine own_cast (own_adds_0_1_ef m _ _) ?_
  refine own_iconst K own_d6_0 (v := (0 : Int32)) rfl ?_
  refine own_istoreN K own_d6_1 (Ls' := #[.val (.ref a), .val (.ref b), .val (.int (0 : Int32)), .unset]) rfl ?_
  refine own_iconst K own_d6_2 (v := (0 : Int32)) rfl ?_
  refine own_istoreN K own_d6_3 (Ls' := #[.val (.ref a), .val (.ref b), .val (.int (0 : Int32)), .val (.int (0 : Int32))]) rfl ?_
  refine own_iloadN K own_d6_4 rfl ?_
  refine own_aloadN K own_d6_5 rfl rfl ?_
  refine own_getfield K own_d6_6 (host := "") (Or.inl (own_w25 hw)) Via.refl H (j := 0) rfl (q := 2) rfl ?_
  refine own_icmpge K own_d6_9 (fun _ => ?_) (fun q => absurd (by decide) q)
  exact own_retV K own_d6_85 (by decide) (by decide) (⟨rfl, H⟩)
set_option maxRecDepth 65536 in
set_option maxHeartbeats 40000000 in
theorem own_adds_0_2_ef (m : MethodId) (x0 : Addr) (x1 : Addr) : entryFrame m #[(.ref x0), (.ref x1)] 4 = mkF m 0 #[.val (.ref x0), .val (.ref x1), .unset, .unset] [] := by first | (simp [entryFrame, mkF, argsToLocals, Value.category]; done) | rfl
set_option maxRecDepth 65536 in
set_option maxHeartbeats 40000000 in
theorem own_adds_0_2 {l : Launch} {Z : State} {a0 : Array Value} (hw : own_Z Z a0) {h : Heap} {os : List own_O} {as : List own_A} {a b da sa db sb : Addr} {e0 e1 : Int32} {f0 f1 : UInt64} {x0 y0 x1 y1 x2 y2 x3 y3 u2 w2 u3 w3 : Value} (H : own_H Z h (own_SD a (.ref da) (.ref sa) (.int (0 : Int32)) :: own_SD b (.ref db) (.ref sb) (.int (2 : Int32)) :: os) ((da, .int, "[I", [x0, x1, x2, x3]) :: (sa, .double, "[D", [y0, y1, y2, y3]) :: (db, .int, "[I", [(.int e0), (.int e1), u2, u3]) :: (sb, .double, "[D", [(.double f0), (.double f1), w2, w3]) :: as))  (ff0 : Fl.Fin64 f0) (ff1 : Fl.Fin64 f1) (le0 : e0.toInt < e1.toInt) : own_Met false l Z (⟨"com/example/fielder/fielder/service/ScoredDocuments", "addScores", "(Lcom/example/fielder/fielder/service/ScoredDocuments;)V"⟩ : MethodName) prog_38_method_8_code 4 none [] ({ frames := 0, cells := 0, slots := 0, locals := 0 } : Room) #[(.ref a), (.ref b)] h (fun v h' => v = none ∧ own_H Z h' (own_SD a (.ref da) (.ref sa) (.int (0 : Int32)) :: own_SD b (.ref db) (.ref sb) (.int (2 : Int32)) :: os) ((da, .int, "[I", [x0, x1, x2, x3]) :: (sa, .double, "[D", [y0, y1, y2, y3]) :: (db, .int, "[I", [(.int e0), (.int e1), u2, u3]) :: (sb, .double, "[D", [(.double f0), (.double f1), w2, w3]) :: as)) := by
  refine own_met (by first | exact plainFor_of_name (by decide +kernel) | decide +kernel) ?_
  intro p e s m below meth c K
  refine own_cast (own_adds_0_2_ef m _ _) ?_
  refine own_iconst K own_d6_0 (v := (0 : Int32)) rfl ?_
  refine own_istoreN K own_d6_1 (Ls' := #[.val (.ref a), .val (.ref b), .val (.int (0 : Int32)), .unset]) rfl ?_
  refine own_iconst K own_d6_2 (v := (0 : Int32)) rfl ?_
  refine own_istoreN K own_d6_3 (Ls' := #[.val (.ref a), .val (.ref b), .val (.int (0 : Int32)), .val (.int (0 : Int32))]) rfl ?_
  refine own_iloadN K own_d6_4 rfl ?_
  refine own_aloadN K own_d6_5 rfl rfl ?_
  refine own_getfield K own_d6_6 (host := "") (Or.inl (own_w25 hw)) Via.refl H (j := 0) rfl (q := 2) rfl ?_
  refine own_icmpge K own_d6_9 (fun _ => ?_) (fun q => absurd (by decide) q)
  exact own_retV K own_d6_85 (by decide) (by decide) (⟨rfl, H⟩)
set_option maxRecDepth 65536 in
set_option maxHeartbeats 40000000 in
theorem own_adds_0_3_ef (m : MethodId) (x0 : Addr) (x1 : Addr) : entryFrame m #[(.ref x0), (.ref x1)] 4 = mkF m 0 #[.val (.ref x0), .val (.ref x1), .unset, .unset] [] := by first | (simp [entryFrame, mkF, argsToLocals, Value.category]; done) | rfl
set_option maxRecDepth 65536 in
set_option maxHeartbeats 40000000 in
theorem own_adds_0_3 {l : Launch} {Z : State} {a0 : Array Value} (hw : own_Z Z a0) {h : Heap} {os : List own_O} {as : List own_A} {a b da sa db sb : Addr} {e0 e1 e2 : Int32} {f0 f1 f2 : UInt64} {x0 y0 x1 y1 x2 y2 x3 y3 u3 w3 : Value} (H : own_H Z h (own_SD a (.ref da) (.ref sa) (.int (0 : Int32)) :: own_SD b (.ref db) (.ref sb) (.int (3 : Int32)) :: os) ((da, .int, "[I", [x0, x1, x2, x3]) :: (sa, .double, "[D", [y0, y1, y2, y3]) :: (db, .int, "[I", [(.int e0), (.int e1), (.int e2), u3]) :: (sb, .double, "[D", [(.double f0), (.double f1), (.double f2), w3]) :: as))  (ff0 : Fl.Fin64 f0) (ff1 : Fl.Fin64 f1) (ff2 : Fl.Fin64 f2) (le0 : e0.toInt < e1.toInt) (le1 : e1.toInt < e2.toInt) : own_Met false l Z (⟨"com/example/fielder/fielder/service/ScoredDocuments", "addScores", "(Lcom/example/fielder/fielder/service/ScoredDocuments;)V"⟩ : MethodName) prog_38_method_8_code 4 none [] ({ frames := 0, cells := 0, slots := 0, locals := 0 } : Room) #[(.ref a), (.ref b)] h (fun v h' => v = none ∧ own_H Z h' (own_SD a (.ref da) (.ref sa) (.int (0 : Int32)) :: own_SD b (.ref db) (.ref sb) (.int (3 : Int32)) :: os) ((da, .int, "[I", [x0, x1, x2, x3]) :: (sa, .double, "[D", [y0, y1, y2, y3]) :: (db, .int, "[I", [(.int e0), (.int e1), (.int e2), u3]) :: (sb, .double, "[D", [(.double f0), (.double f1), (.double f2), w3]) :: as)) := by
  refine own_met (by first | exact plainFor_of_name (by decide +kernel) | decide +kernel) ?_
  intro p e s m below meth c K
  refine own_cast (own_adds_0_3_ef m _ _) ?_
  refine own_iconst K own_d6_0 (v := (0 : Int32)) rfl ?_
  refine own_istoreN K own_d6_1 (Ls' := #[.val (.ref a), .val (.ref b), .val (.int (0 : Int32)), .unset]) rfl ?_
  refine own_iconst K own_d6_2 (v := (0 : Int32)) rfl ?_
  refine own_istoreN K own_d6_3 (Ls' := #[.val (.ref a), .val (.ref b), .val (.int (0 : Int32)), .val (.int (0 : Int32))]) rfl ?_
  refine own_iloadN K own_d6_4 rfl ?_
  refine own_aloadN K own_d6_5 rfl rfl ?_
  refine own_getfield K own_d6_6 (host := "") (Or.inl (own_w25 hw)) Via.refl H (j := 0) rfl (q := 2) rfl ?_
  refine own_icmpge K own_d6_9 (fun _ => ?_) (fun q => absurd (by decide) q)
  exact own_retV K own_d6_85 (by decide) (by decide) (⟨rfl, H⟩)
set_option maxRecDepth 65536 in
set_option maxHeartbeats 40000000 in
theorem own_adds_1_0_ef (m : MethodId) (x0 : Addr) (x1 : Addr) : entryFrame m #[(.ref x0), (.ref x1)] 4 = mkF m 0 #[.val (.ref x0), .val (.ref x1), .unset, .unset] [] := by first | (simp [entryFrame, mkF, argsToLocals, Value.category]; done) | rfl
set_option maxRecDepth 65536 in
set_option maxHeartbeats 40000000 in
theorem own_adds_1_0 {l : Launch} {Z : State} {a0 : Array Value} (hw : own_Z Z a0) {h : Heap} {os : List own_O} {as : List own_A} {a b da sa db sb : Addr} {r0 : Int32} {s0 : UInt64} {x1 y1 x2 y2 x3 y3 u0 w0 u1 w1 u2 w2 u3 w3 : Value} (H : own_H Z h (own_SD a (.ref da) (.ref sa) (.int (1 : Int32)) :: own_SD b (.ref db) (.ref sb) (.int (0 : Int32)) :: os) ((da, .int, "[I", [(.int r0), x1, x2, x3]) :: (sa, .double, "[D", [(.double s0), y1, y2, y3]) :: (db, .int, "[I", [u0, u1, u2, u3]) :: (sb, .double, "[D", [w0, w1, w2, w3]) :: as)) (fs0 : Fl.Fin64 s0)  : own_Met false l Z (⟨"com/example/fielder/fielder/service/ScoredDocuments", "addScores", "(Lcom/example/fielder/fielder/service/ScoredDocuments;)V"⟩ : MethodName) prog_38_method_8_code 4 none [] ({ frames := 0, cells := 0, slots := 0, locals := 0 } : Room) #[(.ref a), (.ref b)] h (fun v h' => v = none ∧ own_H Z h' (own_SD a (.ref da) (.ref sa) (.int (1 : Int32)) :: own_SD b (.ref db) (.ref sb) (.int (0 : Int32)) :: os) ((da, .int, "[I", [(.int r0), x1, x2, x3]) :: (sa, .double, "[D", [(.double s0), y1, y2, y3]) :: (db, .int, "[I", [u0, u1, u2, u3]) :: (sb, .double, "[D", [w0, w1, w2, w3]) :: as)) := by
  refine own_met (by first | exact plainFor_of_name (by decide +kernel) | decide +kernel) ?_
  intro p e s m below meth c K
  refine own_cast (own_adds_1_0_ef m _ _) ?_
  refine own_iconst K own_d6_0 (v := (0 : Int32)) rfl ?_
  refine own_istoreN K own_d6_1 (Ls' := #[.val (.ref a), .val (.ref b), .val (.int (0 : Int32)), .unset]) rfl ?_
  refine own_iconst K own_d6_2 (v := (0 : Int32)) rfl ?_
  refine own_istoreN K own_d6_3 (Ls' := #[.val (.ref a), .val (.ref b), .val (.int (0 : Int32)), .val (.int (0 : Int32))]) rfl ?_
  refine own_iloadN K own_d6_4 rfl ?_
  refine own_aloadN K own_d6_5 rfl rfl ?_
  refine own_getfield K own_d6_6 (host := "") (Or.inl (own_w25 hw)) Via.refl H (j := 0) rfl (q := 2) rfl ?_
  refine own_icmpge K own_d6_9 (fun q => absurd q (by decide)) (fun _ => ?_)
  refine own_iloadN K own_d6_12 rfl ?_
  refine own_aloadN K own_d6_13 rfl rfl ?_
  refine own_getfield K own_d6_14 (host := "") (Or.inl (own_w25 hw)) Via.refl H (j := 1) rfl (q := 2) rfl ?_
  refine own_icmpge K own_d6_17 (fun _ => ?_) (fun q => absurd (by decide) q)
  refine own_iloadN K own_d6_41 rfl ?_
  refine own_aloadN K own_d6_42 rfl rfl ?_
  refine own_getfield K own_d6_43 (host := "") (Or.inl (own_w25 hw)) Via.refl H (j := 1) rfl (q := 2) rfl ?_
  refine own_icmpge K own_d6_46 (fun _ => ?_) (fun q => absurd (by decide) q)
  refine own_iinc K own_d6_79 rfl (y := (1 : Int32)) (by decide) (Ls' := #[.val (.ref a), .val (.ref b), .val (.int (0 : Int32)), .val (.int (1 : Int32))]) rfl ?_
  refine own_goto K own_d6_82 ?_
  refine own_iloadN K own_d6_4 rfl ?_
  refine own_aloadN K own_d6_5 rfl rfl ?_
  refine own_getfield K own_d6_6 (host := "") (Or.inl (own_w25 hw)) Via.refl H (j := 0) rfl (q := 2) rfl ?_
  refine own_icmpge K own_d6_9 (fun _ => ?_) (fun q => absurd (by decide) q)
  exact own_retV K own_d6_85 (by decide) (by decide) (⟨rfl, H⟩)
set_option maxRecDepth 65536 in
set_option maxHeartbeats 40000000 in
theorem own_adds_1_1_ef (m : MethodId) (x0 : Addr) (x1 : Addr) : entryFrame m #[(.ref x0), (.ref x1)] 4 = mkF m 0 #[.val (.ref x0), .val (.ref x1), .unset, .unset] [] := by first | (simp [entryFrame, mkF, argsToLocals, Value.category]; done) | rfl
set_option maxRecDepth 65536 in
set_option maxHeartbeats 40000000 in
theorem own_adds_1_1 {l : Launch} {Z : State} {a0 : Array Value} (hw : own_Z Z a0) {h : Heap} {os : List own_O} {as : List own_A} {a b da sa db sb : Addr} {r0 : Int32} {s0 : UInt64} {e0 : Int32} {f0 : UInt64} {x1 y1 x2 y2 x3 y3 u1 w1 u2 w2 u3 w3 : Value} (H : own_H Z h (own_SD a (.ref da) (.ref sa) (.int (1 : Int32)) :: own_SD b (.ref db) (.ref sb) (.int (1 : Int32)) :: os) ((da, .int, "[I", [(.int r0), x1, x2, x3]) :: (sa, .double, "[D", [(.double s0), y1, y2, y3]) :: (db, .int, "[I", [(.int e0), u1, u2, u3]) :: (sb, .double, "[D", [(.double f0), w1, w2, w3]) :: as)) (fs0 : Fl.Fin64 s0) (ff0 : Fl.Fin64 f0) : own_Met false l Z (⟨"com/example/fielder/fielder/service/ScoredDocuments", "addScores", "(Lcom/example/fielder/fielder/service/ScoredDocuments;)V"⟩ : MethodName) prog_38_method_8_code 4 none [] ({ frames := 0, cells := 0, slots := 0, locals := 0 } : Room) #[(.ref a), (.ref b)] h (fun v h' => v = none ∧ own_H Z h' (own_SD a (.ref da) (.ref sa) (.int (1 : Int32)) :: own_SD b (.ref db) (.ref sb) (.int (1 : Int32)) :: os) ((da, .int, "[I", [(.int r0), x1, x2, x3]) :: (sa, .double, "[D", [(.double (if e0 = r0 then FP.dadd s0 f0 else s0)), y1, y2, y3]) :: (db, .int, "[I", [(.int e0), u1, u2, u3]) :: (sb, .double, "[D", [(.double f0), w1, w2, w3]) :: as)) := by
  refine own_met (by first | exact plainFor_of_name (by decide +kernel) | decide +kernel) ?_
  intro p e s m below meth c K
  refine own_cast (own_adds_1_1_ef m _ _) ?_
  refine own_iconst K own_d6_0 (v := (0 : Int32)) rfl ?_
  refine own_istoreN K own_d6_1 (Ls' := #[.val (.ref a), .val (.ref b), .val (.int (0 : Int32)), .unset]) rfl ?_
  refine own_iconst K own_d6_2 (v := (0 : Int32)) rfl ?_
  refine own_istoreN K own_d6_3 (Ls' := #[.val (.ref a), .val (.ref b), .val (.int (0 : Int32)), .val (.int (0 : Int32))]) rfl ?_
  refine own_iloadN K own_d6_4 rfl ?_
  refine own_aloadN K own_d6_5 rfl rfl ?_
  refine own_getfield K own_d6_6 (host := "") (Or.inl (own_w25 hw)) Via.refl H (j := 0) rfl (q := 2) rfl ?_
  refine own_icmpge K own_d6_9 (fun q => absurd q (by decide)) (fun _ => ?_)
  refine own_iloadN K own_d6_12 rfl ?_
  refine own_aloadN K own_d6_13 rfl rfl ?_
  refine own_getfield K own_d6_14 (host := "") (Or.inl (own_w25 hw)) Via.refl H (j := 1) rfl (q := 2) rfl ?_
  refine own_icmpge K own_d6_17 (fun q => absurd q (by decide)) (fun _ => ?_)
  refine own_aloadN K own_d6_20 rfl rfl ?_
  refine own_getfield K own_d6_21 (host := "") (Or.inl (own_w15 hw)) Via.refl H (j := 1) rfl (q := 0) rfl ?_
  refine own_iloadN K own_d6_24 rfl ?_
  refine own_iaload K own_d6_25 H (i := 2) rfl (q := 0) (by decide) (rfl) ?_
  refine own_aloadN K own_d6_26 rfl rfl ?_
  refine own_getfield K own_d6_27 (host := "") (Or.inl (own_w15 hw)) Via.refl H (j := 0) rfl (q := 0) rfl ?_
  refine own_iloadN K own_d6_30 rfl ?_
  refine own_iaload K own_d6_31 H (i := 0) rfl (q := 0) (by decide) (rfl) ?_
  refine own_icmpge K own_d6_32 (fun g1 => ?_) (fun g1 => ?_)
  · refine own_iloadN K own_d6_41 rfl ?_
    refine own_aloadN K own_d6_42 rfl rfl ?_
    refine own_getfield K own_d6_43 (host := "") (Or.inl (own_w25 hw)) Via.refl H (j := 1) rfl (q := 2) rfl ?_
    refine own_icmpge K own_d6_46 (fun q => absurd q (by decide)) (fun _ => ?_)
    refine own_aloadN K own_d6_49 rfl rfl ?_
    refine own_getfield K own_d6_50 (host := "") (Or.inl (own_w15 hw)) Via.refl H (j := 1) rfl (q := 0) rfl ?_
    refine own_iloadN K own_d6_53 rfl ?_
    refine own_iaload K own_d6_54 H (i := 2) rfl (q := 0) (by decide) (rfl) ?_
    refine own_aloadN K own_d6_55 rfl rfl ?_
    refine own_getfield K own_d6_56 (host := "") (Or.inl (own_w15 hw)) Via.refl H (j := 0) rfl (q := 0) rfl ?_
    refine own_iloadN K own_d6_59 rfl ?_
    refine own_iaload K own_d6_60 H (i := 0) rfl (q := 0) (by decide) (rfl) ?_
    refine own_icmpne K own_d6_61 (fun g2 => ?_) (fun g2 => ?_)
    · refine own_iinc K own_d6_79 rfl (y := (1 : Int32)) (by decide) (Ls' := #[.val (.ref a), .val (.ref b), .val (.int (0 : Int32)), .val (.int (1 : Int32))]) rfl ?_
      refine own_goto K own_d6_82 ?_
      refine own_iloadN K own_d6_4 rfl ?_
      refine own_aloadN K own_d6_5 rfl rfl ?_
      refine own_getfield K own_d6_6 (host := "") (Or.inl (own_w25 hw)) Via.refl H (j := 0) rfl (q := 2) rfl ?_
      refine own_icmpge K own_d6_9 (fun _ => ?_) (fun q => absurd (by decide) q)
      have k0 : (if e0 = r0 then FP.dadd s0 f0 else s0) = s0 := by (repeat' split) <;> first | rfl | (exfalso; simp only [← Int32.toInt_inj, ne_eq, Decidable.not_not] at *; omega)
      simp only [k0]
      exact own_retV K own_d6_85 (by decide) (by decide) (⟨rfl, H⟩)
    · refine own_aloadN K own_d6_64 rfl rfl ?_
      refine own_getfield K own_d6_65 (host := "") (Or.inl (own_w18 hw)) Via.refl H (j := 0) rfl (q := 1) rfl ?_
      refine own_iloadN K own_d6_68 rfl ?_
      refine own_dup2 K own_d6_69 rfl rfl ?_
      refine own_daload K own_d6_70 H (i := 1) rfl (q := 0) (by decide) (rfl) ?_
      refine own_aloadN K own_d6_71 rfl rfl ?_
      refine own_getfield K own_d6_72 (host := "") (Or.inl (own_w18 hw)) Via.refl H (j := 1) rfl (q := 1) rfl ?_
      refine own_iloadN K own_d6_75 rfl ?_
      refine own_daload K own_d6_76 H (i := 3) rfl (q := 0) (by decide) (rfl) ?_
      refine own_dadd K own_d6_77 (Fl.dadd_out fs0.noNaN ff0) ?_
      refine own_dastore K own_d6_78 H (i := 1) rfl (q := 0) (by decide) (own_le rfl) ?_
      intro h3 H4
      replace H4 : own_H Z h3 (own_SD a (.ref da) (.ref sa) (.int (1 : Int32)) :: own_SD b (.ref db) (.ref sb) (.int (1 : Int32)) :: os) ((da, .int, "[I", [(.int r0), x1, x2, x3]) :: (sa, .double, "[D", [(.double (FP.dadd s0 f0)), y1, y2, y3]) :: (db, .int, "[I", [(.int e0), u1, u2, u3]) :: (sb, .double, "[D", [(.double f0), w1, w2, w3]) :: as) := H4
      refine own_iinc K own_d6_79 rfl (y := (1 : Int32)) (by decide) (Ls' := #[.val (.ref a), .val (.ref b), .val (.int (0 : Int32)), .val (.int (1 : Int32))]) rfl ?_
      refine own_goto K own_d6_82 ?_
      refine own_iloadN K own_d6_4 rfl ?_
      refine own_aloadN K own_d6_5 rfl rfl ?_
      refine own_getfield K own_d6_6 (host := "") (Or.inl (own_w25 hw)) Via.refl H4 (j := 0) rfl (q := 2) rfl ?_
      refine own_icmpge K own_d6_9 (fun _ => ?_) (fun q => absurd (by decide) q)
      have k0 : (if e0 = r0 then FP.dadd s0 f0 else s0) = (FP.dadd s0 f0) := by (repeat' split) <;> first | rfl | (exfalso; simp only [← Int32.toInt_inj, ne_eq, Decidable.not_not] at *; omega)
      simp only [k0]
      exact own_retV K own_d6_85 (by decide) (by decide) (⟨rfl, H4⟩)
  · refine own_iinc K own_d6_35 rfl (y := (1 : Int32)) (by decide) (Ls' := #[.val (.ref a), .val (.ref b), .val (.int (1 : Int32)), .val (.int (0 : Int32))]) rfl ?_
    refine own_goto K own_d6_38 ?_
    refine own_iloadN K own_d6_12 rfl ?_
    refine own_aloadN K own_d6_13 rfl rfl ?_
    refine own_getfield K own_d6_14 (host := "") (Or.inl (own_w25 hw)) Via.refl H (j := 1) rfl (q := 2) rfl ?_
    refine own_icmpge K own_d6_17 (fun _ => ?_) (fun q => absurd (by decide) q)
    refine own_iloadN K own_d6_41 rfl ?_
    refine own_aloadN K own_d6_42 rfl rfl ?_
    refine own_getfield K own_d6_43 (host := "") (Or.inl (own_w25 hw)) Via.refl H (j := 1) rfl (q := 2) rfl ?_
    refine own_icmpge K own_d6_46 (fun _ => ?_) (fun q => absurd (by decide) q)
    refine own_iinc K own_d6_79 rfl (y := (1 : Int32)) (by decide) (Ls' := #[.val (.ref a), .val (.ref b), .val (.int (1 : Int32)), .val (.int (1 : Int32))]) rfl ?_
    refine own_goto K own_d6_82 ?_
    refine own_iloadN K own_d6_4 rfl ?_
    refine own_aloadN K own_d6_5 rfl rfl ?_
    refine own_getfield K own_d6_6 (host := "") (Or.inl (own_w25 hw)) Via.refl H (j := 0) rfl (q := 2) rfl ?_
    refine own_icmpge K own_d6_9 (fun _ => ?_) (fun q => absurd (by decide) q)
    have k0 : (if e0 = r0 then FP.dadd s0 f0 else s0) = s0 := by (repeat' split) <;> first | rfl | (exfalso; simp only [← Int32.toInt_inj, ne_eq, Decidable.not_not] at *; omega)
    simp only [k0]
    exact own_retV K own_d6_85 (by decide) (by decide) (⟨rfl, H⟩)
set_option maxRecDepth 65536 in
set_option maxHeartbeats 40000000 in
theorem own_adds_1_2_ef (m : MethodId) (x0 : Addr) (x1 : Addr) : entryFrame m #[(.ref x0), (.ref x1)] 4 = mkF m 0 #[.val (.ref x0), .val (.ref x1), .unset, .unset] [] := by first | (simp [entryFrame, mkF, argsToLocals, Value.category]; done) | rfl
set_option maxRecDepth 65536 in
set_option maxHeartbeats 40000000 in
theorem own_adds_1_2 {l : Launch} {Z : State} {a0 : Array Value} (hw : own_Z Z a0) {h : Heap} {os : List own_O} {as : List own_A} {a b da sa db sb : Addr} {r0 : Int32} {s0 : UInt64} {e0 e1 : Int32} {f0 f1 : UInt64} {x1 y1 x2 y2 x3 y3 u2 w2 u3 w3 : Value} (H : own_H Z h (own_SD a (.ref da) (.ref sa) (.int (1 : Int32)) :: own_SD b (.ref db) (.ref sb) (.int (2 : Int32)) :: os) ((da, .int, "[I", [(.int r0), x1, x2, x3]) :: (sa, .double, "[D", [(.double s0), y1, y2, y3]) :: (db, .int, "[I", [(.int e0), (.int e1), u2, u3]) :: (sb, .double, "[D", [(.double f0), (.double f1), w2, w3]) :: as)) (fs0 : Fl.Fin64 s0) (ff0 : Fl.Fin64 f0) (ff1 : Fl.Fin64 f1) (le0 : e0.toInt < e1.toInt) : own_Met false l Z (⟨"com/example/fielder/fielder/service/ScoredDocuments", "addScores", "(Lcom/example/fielder/fielder/service/ScoredDocuments;)V"⟩ : MethodName) prog_38_method_8_code 4 none [] ({ frames := 0, cells := 0, slots := 0, locals := 0 } : Room) #[(.ref a), (.ref b)] h (fun v h' => v = none ∧ own_H Z h' (own_SD a (.ref da) (.ref sa) (.int (1 : Int32)) :: own_SD b (.ref db) (.ref sb) (.int (2 : Int32)) :: os) ((da, .int, "[I", [(.int r0), x1, x2, x3]) :: (sa, .double, "[D", [(.double (if e0 = r0 then FP.dadd s0 f0 else (if e1 = r0 then FP.dadd s0 f1 else s0))), y1, y2, y3]) :: (db, .int, "[I", [(.int e0), (.int e1), u2, u3]) :: (sb, .double, "[D", [(.double f0), (.double f1), w2, w3]) :: as)) := by
  refine own_met (by first | exact plainFor_of_name (by decide +kernel) | decide +kernel) ?_
  intro p e s m below meth c K
  refine own_cast (own_adds_1_2_ef m _ _) ?_
  refine own_iconst K own_d6_0 (v := (0 : Int32)) rfl ?_
  refine own_istoreN K own_d6_1 (Ls' := #[.val (.ref a), .val (.ref b), .val (.int (0 : Int32)), .unset]) rfl ?_
  refine own_iconst K own_d6_2 (v := (0 : Int32)) rfl ?_
  refine own_istoreN K own_d6_3 (Ls' := #[.val (.ref a), .val (.ref b), .val (.int (0 : Int32)), .val (.int (0 : Int32))]) rfl ?_
  refine own_iloadN K own_d6_4 rfl ?_
  refine own_aloadN K own_d6_5 rfl rfl ?_
  refine own_getfield K own_d6_6 (host := "") (Or.inl (own_w25 hw)) Via.refl H (j := 0) rfl (q := 2) rfl ?_
  refine own_icmpge K own_d6_9 (fun q => absurd q (by decide)) (fun _ => ?_)
  refine own_iloadN K own_d6_12 rfl ?_
  refine own_aloadN K own_d6_13 rfl rfl ?_
  refine own_getfield K own_d6_14 (host := "") (Or.inl (own_w25 hw)) Via.refl H (j := 1) rfl (q := 2) rfl ?_
  refine own_icmpge K own_d6_17 (fun q => absurd q (by decide)) (fun _ => ?_)
  refine own_aloadN K own_d6_20 rfl rfl ?_
  refine own_getfield K own_d6_21 (host := "") (Or.inl (own_w15 hw)) Via.refl H (j := 1) rfl (q := 0) rfl ?_
  refine own_iloadN K own_d6_24 rfl ?_
  refine own_iaload K own_d6_25 H (i := 2) rfl (q := 0) (by decide) (rfl) ?_
  refine own_aloadN K own_d6_26 rfl rfl ?_
  refine own_getfield K own_d6_27 (host := "") (Or.inl (own_w15 hw)) Via.refl H (j := 0) rfl (q := 0) rfl ?_
  refine own_iloadN K own_d6_30 rfl ?_
  refine own_iaload K own_d6_31 H (i := 0) rfl (q := 0) (by decide) (rfl) ?_
  refine own_icmpge K own_d6_32 (fun g1 => ?_) (fun g1 => ?_)
  · refine own_iloadN K own_d6_41 rfl ?_
    refine own_aloadN K own_d6_42 rfl rfl ?_
    refine own_getfield K own_d6_43 (host := "") (Or.inl (own_w25 hw)) Via.refl H (j := 1) rfl (q := 2) rfl ?_
    refine own_icmpge K own_d6_46 (fun q => absurd q (by decide)) (fun _ => ?_)
    refine own_aloadN K own_d6_49 rfl rfl ?_
    refine own_getfield K own_d6_50 (host := "") (Or.inl (own_w15 hw)) Via.refl H (j := 1) rfl (q := 0) rfl ?_
    refine own_iloadN K own_d6_53 rfl ?_
    refine own_iaload K own_d6_54 H (i := 2) rfl (q := 0) (by decide) (rfl) ?_
    refine own_aloadN K own_d6_55 rfl rfl ?_
    refine own_getfield K own_d6_56 (host := "") (Or.inl (own_w15 hw)) Via.refl H (j := 0) rfl (q := 0) rfl ?_
    refine own_iloadN K own_d6_59 rfl ?_
    refine own_iaload K own_d6_60 H (i := 0) rfl (q := 0) (by decide) (rfl) ?_
    refine own_icmpne K own_d6_61 (fun g2 => ?_) (fun g2 => ?_)
    · refine own_iinc K own_d6_79 rfl (y := (1 : Int32)) (by decide) (Ls' := #[.val (.ref a), .val (.ref b), .val (.int (0 : Int32)), .val (.int (1 : Int32))]) rfl ?_
      refine own_goto K own_d6_82 ?_
      refine own_iloadN K own_d6_4 rfl ?_
      refine own_aloadN K own_d6_5 rfl rfl ?_
      refine own_getfield K own_d6_6 (host := "") (Or.inl (own_w25 hw)) Via.refl H (j := 0) rfl (q := 2) rfl ?_
      refine own_icmpge K own_d6_9 (fun _ => ?_) (fun q => absurd (by decide) q)
      have k0 : (if e0 = r0 then FP.dadd s0 f0 else (if e1 = r0 then FP.dadd s0 f1 else s0)) = s0 := by (repeat' split) <;> first | rfl | (exfalso; simp only [← Int32.toInt_inj, ne_eq, Decidable.not_not] at *; omega)
      simp only [k0]
      exact own_retV K own_d6_85 (by decide) (by decide) (⟨rfl, H⟩)
    · refine own_aloadN K own_d6_64 rfl rfl ?_
      refine own_getfield K own_d6_65 (host := "") (Or.inl (own_w18 hw)) Via.refl H (j := 0) rfl (q := 1) rfl ?_
      refine own_iloadN K own_d6_68 rfl ?_
      refine own_dup2 K own_d6_69 rfl rfl ?_
      refine own_daload K own_d6_70 H (i := 1) rfl (q := 0) (by decide) (rfl) ?_
      refine own_aloadN K own_d6_71 rfl rfl ?_
      refine own_getfield K own_d6_72 (host := "") (Or.inl (own_w18 hw)) Via.refl H (j := 1) rfl (q := 1) rfl ?_
      refine own_iloadN K own_d6_75 rfl ?_
      refine own_daload K own_d6_76 H (i := 3) rfl (q := 0) (by decide) (rfl) ?_
      refine own_dadd K own_d6_77 (Fl.dadd_out fs0.noNaN ff0) ?_
      refine own_dastore K own_d6_78 H (i := 1) rfl (q := 0) (by decide) (own_le rfl) ?_
      intro h3 H4
      replace H4 : own_H Z h3 (own_SD a (.ref da) (.ref sa) (.int (1 : Int32)) :: own_SD b (.ref db) (.ref sb) (.int (2 : Int32)) :: os) ((da, .int, "[I", [(.int r0), x1, x2, x3]) :: (sa, .double, "[D", [(.double (FP.dadd s0 f0)), y1, y2, y3]) :: (db, .int, "[I", [(.int e0), (.int e1), u2, u3]) :: (sb, .double, "[D", [(.double f0), (.double f1), w2, w3]) :: as) := H4
      refine own_iinc K own_d6_79 rfl (y := (1 : Int32)) (by decide) (Ls' := #[.val (.ref a), .val (.ref b), .val (.int (0 : Int32)), .val (.int (1 : Int32))]) rfl ?_
      refine own_goto K own_d6_82 ?_
      refine own_iloadN K own_d6_4 rfl ?_
      refine own_aloadN K own_d6_5 rfl rfl ?_
      refine own_getfield K own_d6_6 (host := "") (Or.inl (own_w25 hw)) Via.refl H4 (j := 0) rfl (q := 2) rfl ?_
      refine own_icmpge K own_d6_9 (fun _ => ?_) (fun q => absurd (by decide) q)
      have k0 : (if e0 = r0 then FP.dadd s0 f0 else (if e1 = r0 then FP.dadd s0 f1 else s0)) = (FP.dadd s0 f0) := by (repeat' split) <;> first | rfl | (exfalso; simp only [← Int32.toInt_inj, ne_eq, Decidable.not_not] at *; omega)
      simp only [k0]
      exact own_retV K own_d6_85 (by decide) (by decide) (⟨rfl, H4⟩)
  · refine own_iinc K own_d6_35 rfl (y := (1 : Int32)) (by decide) (Ls' := #[.val (.ref a), .val (.ref b), .val (.int (1 : Int32)), .val (.int (0 : Int32))]) rfl ?_
    refine own_goto K own_d6_38 ?_
    refine own_iloadN K own_d6_12 rfl ?_
    refine own_aloadN K own_d6_13 rfl rfl ?_
    refine own_getfield K own_d6_14 (host := "") (Or.inl (own_w25 hw)) Via.refl H (j := 1) rfl (q := 2) rfl ?_
    refine own_icmpge K own_d6_17 (fun q => absurd q (by decide)) (fun _ => ?_)
    refine own_aloadN K own_d6_20 rfl rfl ?_
    refine own_getfield K own_d6_21 (host := "") (Or.inl (own_w15 hw)) Via.refl H (j := 1) rfl (q := 0) rfl ?_
    refine own_iloadN K own_d6_24 rfl ?_
    refine own_iaload K own_d6_25 H (i := 2) rfl (q := 1) (by decide) (rfl) ?_
    refine own_aloadN K own_d6_26 rfl rfl ?_
    refine own_getfield K own_d6_27 (host := "") (Or.inl (own_w15 hw)) Via.refl H (j := 0) rfl (q := 0) rfl ?_
    refine own_iloadN K own_d6_30 rfl ?_
    refine own_iaload K own_d6_31 H (i := 0) rfl (q := 0) (by decide) (rfl) ?_
    refine own_icmpge K own_d6_32 (fun g5 => ?_) (fun g5 => ?_)
    · refine own_iloadN K own_d6_41 rfl ?_
      refine own_aloadN K own_d6_42 rfl rfl ?_
      refine own_getfield K own_d6_43 (host := "") (Or.inl (own_w25 hw)) Via.refl H (j := 1) rfl (q := 2) rfl ?_
      refine own_icmpge K own_d6_46 (fun q => absurd q (by decide)) (fun _ => ?_)
      refine own_aloadN K own_d6_49 rfl rfl ?_
      refine own_getfield K own_d6_50 (host := "") (Or.inl (own_w15 hw)) Via.refl H (j := 1) rfl (q := 0) rfl ?_
      refine own_iloadN K own_d6_53 rfl ?_
      refine own_iaload K own_d6_54 H (i := 2) rfl (q := 1) (by decide) (rfl) ?_
      refine own_aloadN K own_d6_55 rfl rfl ?_
      refine own_getfield K own_d6_56 (host := "") (Or.inl (own_w15 hw)) Via.refl H (j := 0) rfl (q := 0) rfl ?_
      refine own_iloadN K own_d6_59 rfl ?_
      refine own_iaload K own_d6_60 H (i := 0) rfl (q := 0) (by decide) (rfl) ?_
      refine own_icmpne K own_d6_61 (fun g6 => ?_) (fun g6 => ?_)
      · refine own_iinc K own_d6_79 rfl (y := (1 : Int32)) (by decide) (Ls' := #[.val (.ref a), .val (.ref b), .val (.int (1 : Int32)), .val (.int (1 : Int32))]) rfl ?_
        refine own_goto K own_d6_82 ?_
        refine own_iloadN K own_d6_4 rfl ?_
        refine own_aloadN K own_d6_5 rfl rfl ?_
        refine own_getfield K own_d6_6 (host := "") (Or.inl (own_w25 hw)) Via.refl H (j := 0) rfl (q := 2) rfl ?_
        refine own_icmpge K own_d6_9 (fun _ => ?_) (fun q => absurd (by decide) q)
        have k0 : (if e0 = r0 then FP.dadd s0 f0 else (if e1 = r0 then FP.dadd s0 f1 else s0)) = s0 := by (repeat' split) <;> first | rfl | (exfalso; simp only [← Int32.toInt_inj, ne_eq, Decidable.not_not] at *; omega)
        simp only [k0]
        exact own_retV K own_d6_85 (by decide) (by decide) (⟨rfl, H⟩)
      · refine own_aloadN K own_d6_64 rfl rfl ?_
        refine own_getfield K own_d6_65 (host := "") (Or.inl (own_w18 hw)) Via.refl H (j := 0) rfl (q := 1) rfl ?_
        refine own_iloadN K own_d6_68 rfl ?_
        refine own_dup2 K own_d6_69 rfl rfl ?_
        refine own_daload K own_d6_70 H (i := 1) rfl (q := 0) (by decide) (rfl) ?_
        refine own_aloadN K own_d6_71 rfl rfl ?_
        refine own_getfield K own_d6_72 (host := "") (Or.inl (own_w18 hw)) Via.refl H (j := 1) rfl (q := 1) rfl ?_
        refine own_iloadN K own_d6_75 rfl ?_
        refine own_daload K own_d6_76 H (i := 3) rfl (q := 1) (by decide) (rfl) ?_
        refine own_dadd K own_d6_77 (Fl.dadd_out fs0.noNaN ff1) ?_
        refine own_dastore K own_d6_78 H (i := 1) rfl (q := 0) (by decide) (own_le rfl) ?_
        intro h7 H8
        replace H8 : own_H Z h7 (own_SD a (.ref da) (.ref sa) (.int (1 : Int32)) :: own_SD b (.ref db) (.ref sb) (.int (2 : Int32)) :: os) ((da, .int, "[I", [(.int r0), x1, x2, x3]) :: (sa, .double, "[D", [(.double (FP.dadd s0 f1)), y1, y2, y3]) :: (db, .int, "[I", [(.int e0), (.int e1), u2, u3]) :: (sb, .double, "[D", [(.double f0), (.double f1), w2, w3]) :: as) := H8
        refine own_iinc K own_d6_79 rfl (y := (1 : Int32)) (by decide) (Ls' := #[.val (.ref a), .val (.ref b), .val (.int (1 : Int32)), .val (.int (1 : Int32))]) rfl ?_
        refine own_goto K own_d6_82 ?_
        refine own_iloadN K own_d6_4 rfl ?_
        refine own_aloadN K own_d6_5 rfl rfl ?_
        refine own_getfield K own_d6_6 (host := "") (Or.inl (own_w25 hw)) Via.refl H8 (j := 0) rfl (q := 2) rfl ?_
        refine own_icmpge K own_d6_9 (fun _ => ?_) (fun q => absurd (by decide) q)
        have k0 : (if e0 = r0 then FP.dadd s0 f0 else (if e1 = r0 then FP.dadd s0 f1 else s0)) = (FP.dadd s0 f1) := by (repeat' split) <;> first | rfl | (exfalso; simp only [← Int32.toInt_inj, ne_eq, Decidable.not_not] at *; omega)
        simp only [k0]
        exact own_retV K own_d6_85 (by decide) (by decide) (⟨rfl, H8⟩)
    · refine own_iinc K own_d6_35 rfl (y := (2 : Int32)) (by decide) (Ls' := #[.val (.ref a), .val (.ref b), .val (.int (2 : Int32)), .val (.int (0 : Int32))]) rfl ?_
      refine own_goto K own_d6_38 ?_
      refine own_iloadN K own_d6_12 rfl ?_
      refine own_aloadN K own_d6_13 rfl rfl ?_
      refine own_getfield K own_d6_14 (host := "") (Or.inl (own_w25 hw)) Via.refl H (j := 1) rfl (q := 2) rfl ?_
      refine own_icmpge K own_d6_17 (fun _ => ?_) (fun q => absurd (by decide) q)
      refine own_iloadN K own_d6_41 rfl ?_
      refine own_aloadN K own_d6_42 rfl rfl ?_
      refine own_getfield K own_d6_43 (host := "") (Or.inl (own_w25 hw)) Via.refl H (j := 1) rfl (q := 2) rfl ?_
      refine own_icmpge K own_d6_46 (fun _ => ?_) (fun q => absurd (by decide) q)
      refine own_iinc K own_d6_79 rfl (y := (1 : Int32)) (by decide) (Ls' := #[.val (.ref a), .val (.ref b), .val (.int (2 : Int32)), .val (.int (1 : Int32))]) rfl ?_
      refine own_goto K own_d6_82 ?_
      refine own_iloadN K own_d6_4 rfl ?_
      refine own_aloadN K own_d6_5 rfl rfl ?_
      refine own_getfield K own_d6_6 (host := "") (Or.inl (own_w25 hw)) Via.refl H (j := 0) rfl (q := 2) rfl ?_
      refine own_icmpge K own_d6_9 (fun _ => ?_) (fun q => absurd (by decide) q)
      have k0 : (if e0 = r0 then FP.dadd s0 f0 else (if e1 = r0 then FP.dadd s0 f1 else s0)) = s0 := by (repeat' split) <;> first | rfl | (exfalso; simp only [← Int32.toInt_inj, ne_eq, Decidable.not_not] at *; omega)
      simp only [k0]
      exact own_retV K own_d6_85 (by decide) (by decide) (⟨rfl, H⟩)
set_option maxRecDepth 65536 in
set_option maxHeartbeats 40000000 in
theorem own_adds_1_3_ef (m : MethodId) (x0 : Addr) (x1 : Addr) : entryFrame m #[(.ref x0), (.ref x1)] 4 = mkF m 0 #[.val (.ref x0), .val (.ref x1), .unset, .unset] [] := by first | (simp [entryFrame, mkF, argsToLocals, Value.category]; done) | rfl
set_option maxRecDepth 65536 in
set_option maxHeartbeats 40000000 in
theorem own_adds_1_3 {l : Launch} {Z : State} {a0 : Array Value} (hw : own_Z Z a0) {h : Heap} {os : List own_O} {as : List own_A} {a b da sa db sb : Addr} {r0 : Int32} {s0 : UInt64} {e0 e1 e2 : Int32} {f0 f1 f2 : UInt64} {x1 y1 x2 y2 x3 y3 u3 w3 : Value} (H : own_H Z h (own_SD a (.ref da) (.ref sa) (.int (1 : Int32)) :: own_SD b (.ref db) (.ref sb) (.int (3 : Int32)) :: os) ((da, .int, "[I", [(.int r0), x1, x2, x3]) :: (sa, .double, "[D", [(.double s0), y1, y2, y3]) :: (db, .int, "[I", [(.int e0), (.int e1), (.int e2), u3]) :: (sb, .double, "[D", [(.double f0), (.double f1), (.double f2), w3]) :: as)) (fs0 : Fl.Fin64 s0) (ff0 : Fl.Fin64 f0) (ff1 : Fl.Fin64 f1) (ff2 : Fl.Fin64 f2) (le0 : e0.toInt < e1.toInt) (le1 : e1.toInt < e2.toInt) : own_Met false l Z (⟨"com/example/fielder/fielder/service/ScoredDocuments", "addScores", "(Lcom/example/fielder/fielder/service/ScoredDocuments;)V"⟩ : MethodName) prog_38_method_8_code 4 none [] ({ frames := 0, cells := 0, slots := 0, locals := 0 } : Room) #[(.ref a), (.ref b)] h (fun v h' => v = none ∧ own_H Z h' (own_SD a (.ref da) (.ref sa) (.int (1 : Int32)) :: own_SD b (.ref db) (.ref sb) (.int (3 : Int32)) :: os) ((da, .int, "[I", [(.int r0), x1, x2, x3]) :: (sa, .double, "[D", [(.double (if e0 = r0 then FP.dadd s0 f0 else (if e1 = r0 then FP.dadd s0 f1 else (if e2 = r0 then FP.dadd s0 f2 else s0)))), y1, y2, y3]) :: (db, .int, "[I", [(.int e0), (.int e1), (.int e2), u3]) :: (sb, .double, "[D", [(.double f0), (.double f1), (.double f2), w3]) :: as)) := by
  refine own_met (by first | exact plainFor_of_name (by decide +kernel) | decide +kernel) ?_
  intro p e s m below meth c K
  refine own_cast (own_adds_1_3_ef m _ _) ?_
  refine own_iconst K own_d6_0 (v := (0 : Int32)) rfl ?_
  refine own_istoreN K own_d6_1 (Ls' := #[.val (.ref a), .val (.ref b), .val (.int (0 : Int32)), .unset]) rfl ?_
  refine own_iconst K own_d6_2 (v := (0 : Int32)) rfl ?_
  refine own_istoreN K own_d6_3 (Ls' := #[.val (.ref a), .val (.ref b), .val (.int (0 : Int32)), .val (.int (0 : Int32))]) rfl ?_
  refine own_iloadN K own_d6_4 rfl ?_
  refine own_aloadN K own_d6_5 rfl rfl ?_
  refine own_getfield K own_d6_6 (host := "") (Or.inl (own_w25 hw)) Via.refl H (j := 0) rfl (q := 2) rfl ?_
  refine own_icmpge K own_d6_9 (fun q => absurd q (by decide)) (fun _ => ?_)
  refine own_iloadN K own_d6_12 rfl ?_
  refine own_aloadN K own_d6_13 rfl rfl ?_
  refine own_getfield K own_d6_14 (host := "") (Or.inl (own_w25 hw)) Via.refl H (j := 1) rfl (q := 2) rfl ?_
  refine own_icmpge K own_d6_17 (fun q => absurd q (by decide)) (fun _ => ?_)
  refine own_aloadN K own_d6_20 rfl rfl ?_
  refine own_getfield K own_d6_21 (host := "") (Or.inl (own_w15 hw)) Via.refl H (j := 1) rfl (q := 0) rfl ?_
  refine own_iloadN K own_d6_24 rfl ?_
  refine own_iaload K own_d6_25 H (i := 2) rfl (q := 0) (by decide) (rfl) ?_
  refine own_aloadN K own_d6_26 rfl rfl ?_
  refine own_getfield K own_d6_27 (host := "") (Or.inl (own_w15 hw)) Via.refl H (j := 0) rfl (q := 0) rfl ?_
  refine own_iloadN K own_d6_30 rfl ?_
  refine own_iaload K own_d6_31 H (i := 0) rfl (q := 0) (by decide) (rfl) ?_
  refine own_icmpge K own_d6_32 (fun g1 => ?_) (fun g1 => ?_)
  · refine own_iloadN K own_d6_41 rfl ?_
    refine own_aloadN K own_d6_42 rfl rfl ?_
    refine own_getfield K own_d6_43 (host := "") (Or.inl (own_w25 hw)) Via.refl H (j := 1) rfl (q := 2) rfl ?_
    refine own_icmpge K own_d6_46 (fun q => absurd q (by decide)) (fun _ => ?_)
    refine own_aloadN K own_d6_49 rfl rfl ?_
    refine own_getfield K own_d6_50 (host := "") (Or.inl (own_w15 hw)) Via.refl H (j := 1) rfl (q := 0) rfl ?_
    refine own_iloadN K own_d6_53 rfl ?_
    refine own_iaload K own_d6_54 H (i := 2) rfl (q := 0) (by decide) (rfl) ?_
    refine own_aloadN K own_d6_55 rfl rfl ?_
    refine own_getfield K own_d6_56 (host := "") (Or.inl (own_w15 hw)) Via.refl H (j := 0) rfl (q := 0) rfl ?_
    refine own_iloadN K own_d6_59 rfl ?_
    refine own_iaload K own_d6_60 H (i := 0) rfl (q := 0) (by decide) (rfl) ?_
    refine own_icmpne K own_d6_61 (fun g2 => ?_) (fun g2 => ?_)
    · refine own_iinc K own_d6_79 rfl (y := (1 : Int32)) (by decide) (Ls' := #[.val (.ref a), .val (.ref b), .val (.int (0 : Int32)), .val (.int (1 : Int32))]) rfl ?_
      refine own_goto K own_d6_82 ?_
      refine own_iloadN K own_d6_4 rfl ?_
      refine own_aloadN K own_d6_5 rfl rfl ?_
      refine own_getfield K own_d6_6 (host := "") (Or.inl (own_w25 hw)) Via.refl H (j := 0) rfl (q := 2) rfl ?_
      refine own_icmpge K own_d6_9 (fun _ => ?_) (fun q => absurd (by decide) q)
      have k0 : (if e0 = r0 then FP.dadd s0 f0 else (if e1 = r0 then FP.dadd s0 f1 else (if e2 = r0 then FP.dadd s0 f2 else s0))) = s0 := by (repeat' split) <;> first | rfl | (exfalso; simp only [← Int32.toInt_inj, ne_eq, Decidable.not_not] at *; omega)
      simp only [k0]
      exact own_retV K own_d6_85 (by decide) (by decide) (⟨rfl, H⟩)
    · refine own_aloadN K own_d6_64 rfl rfl ?_
      refine own_getfield K own_d6_65 (host := "") (Or.inl (own_w18 hw)) Via.refl H (j := 0) rfl (q := 1) rfl ?_
      refine own_iloadN K own_d6_68 rfl ?_
      refine own_dup2 K own_d6_69 rfl rfl ?_
      refine own_daload K own_d6_70 H (i := 1) rfl (q := 0) (by decide) (rfl) ?_
      refine own_aloadN K own_d6_71 rfl rfl ?_
      refine own_getfield K own_d6_72 (host := "") (Or.inl (own_w18 hw)) Via.refl H (j := 1) rfl (q := 1) rfl ?_
      refine own_iloadN K own_d6_75 rfl ?_
      refine own_daload K own_d6_76 H (i := 3) rfl (q := 0) (by decide) (rfl) ?_
      refine own_dadd K own_d6_77 (Fl.dadd_out fs0.noNaN ff0) ?_
      refine own_dastore K own_d6_78 H (i := 1) rfl (q := 0) (by decide) (own_le rfl) ?_
      intro h3 H4
      replace H4 : own_H Z h3 (own_SD a (.ref da) (.ref sa) (.int (1 : Int32)) :: own_SD b (.ref db) (.ref sb) (.int (3 : Int32)) :: os) ((da, .int, "[I", [(.int r0), x1, x2, x3]) :: (sa, .double, "[D", [(.double (FP.dadd s0 f0)), y1, y2, y3]) :: (db, .int, "[I", [(.int e0), (.int e1), (.int e2), u3]) :: (sb, .double, "[D", [(.double f0), (.double f1), (.double f2), w3]) :: as) := H4
      refine own_iinc K own_d6_79 rfl (y := (1 : Int32)) (by decide) (Ls' := #[.val (.ref a), .val (.ref b), .val (.int (0 : Int32)), .val (.int (1 : Int32))]) rfl ?_
      refine own_goto K own_d6_82 ?_
      refine own_iloadN K own_d6_4 rfl ?_
      refine own_aloadN K own_d6_5 rfl rfl ?_
      refine own_getfield K own_d6_6 (host := "") (Or.inl (own_w25 hw)) Via.refl H4 (j := 0) rfl (q := 2) rfl ?_
      refine own_icmpge K own_d6_9 (fun _ => ?_) (fun q => absurd (by decide) q)
      have k0 : (if e0 = r0 then FP.dadd s0 f0 else (if e1 = r0 then FP.dadd s0 f1 else (if e2 = r0 then FP.dadd s0 f2 else s0))) = (FP.dadd s0 f0) := by (repeat' split) <;> first | rfl | (exfalso; simp only [← Int32.toInt_inj, ne_eq, Decidable.not_not] at *; omega)
      simp only [k0]
      exact own_retV K own_d6_85 (by decide) (by decide) (⟨rfl, H4⟩)
  · refine own_iinc K own_d6_35 rfl (y := (1 : Int32)) (by decide) (Ls' := #[.val (.ref a), .val (.ref b), .val (.int (1 : Int32)), .val (.int (0 : Int32))]) rfl ?_
    refine own_goto K own_d6_38 ?_
    refine own_iloadN K own_d6_12 rfl ?_
    refine own_aloadN K own_d6_13 rfl rfl ?_
    refine own_getfield K own_d6_14 (host := "") (Or.inl (own_w25 hw)) Via.refl H (j := 1) rfl (q := 2) rfl ?_
    refine own_icmpge K own_d6_17 (fun q => absurd q (by decide)) (fun _ => ?_)
    refine own_aloadN K own_d6_20 rfl rfl ?_
    refine own_getfield K own_d6_21 (host := "") (Or.inl (own_w15 hw)) Via.refl H (j := 1) rfl (q := 0) rfl ?_
    refine own_iloadN K own_d6_24 rfl ?_
    refine own_iaload K own_d6_25 H (i := 2) rfl (q := 1) (by decide) (rfl) ?_
    refine own_aloadN K own_d6_26 rfl rfl ?_
    refine own_getfield K own_d6_27 (host := "") (Or.inl (own_w15 hw)) Via.refl H (j := 0) rfl (q := 0) rfl ?_
    refine own_iloadN K own_d6_30 rfl ?_
    refine own_iaload K own_d6_31 H (i := 0) rfl (q := 0) (by decide) (rfl) ?_
    refine own_icmpge K own_d6_32 (fun g5 => ?_) (fun g5 => ?_)
    · refine own_iloadN K own_d6_41 rfl ?_
      refine own_aloadN K own_d6_42 rfl rfl ?_
      refine own_getfield K own_d6_43 (host := "") (Or.inl (own_w25 hw)) Via.refl H (j := 1) rfl (q := 2) rfl ?_
      refine own_icmpge K own_d6_46 (fun q => absurd q (by decide)) (fun _ => ?_)
      refine own_aloadN K own_d6_49 rfl rfl ?_
      refine own_getfield K own_d6_50 (host := "") (Or.inl (own_w15 hw)) Via.refl H (j := 1) rfl (q := 0) rfl ?_
      refine own_iloadN K own_d6_53 rfl ?_
      refine own_iaload K own_d6_54 H (i := 2) rfl (q := 1) (by decide) (rfl) ?_
      refine own_aloadN K own_d6_55 rfl rfl ?_
      refine own_getfield K own_d6_56 (host := "") (Or.inl (own_w15 hw)) Via.refl H (j := 0) rfl (q := 0) rfl ?_
      refine own_iloadN K own_d6_59 rfl ?_
      refine own_iaload K own_d6_60 H (i := 0) rfl (q := 0) (by decide) (rfl) ?_
      refine own_icmpne K own_d6_61 (fun g6 => ?_) (fun g6 => ?_)
      · refine own_iinc K own_d6_79 rfl (y := (1 : Int32)) (by decide) (Ls' := #[.val (.ref a), .val (.ref b), .val (.int (1 : Int32)), .val (.int (1 : Int32))]) rfl ?_
        refine own_goto K own_d6_82 ?_
        refine own_iloadN K own_d6_4 rfl ?_
        refine own_aloadN K own_d6_5 rfl rfl ?_
        refine own_getfield K own_d6_6 (host := "") (Or.inl (own_w25 hw)) Via.refl H (j := 0) rfl (q := 2) rfl ?_
        refine own_icmpge K own_d6_9 (fun _ => ?_) (fun q => absurd (by decide) q)
        have k0 : (if e0 = r0 then FP.dadd s0 f0 else (if e1 = r0 then FP.dadd s0 f1 else (if e2 = r0 then FP.dadd s0 f2 else s0))) = s0 := by (repeat' split) <;> first | rfl | (exfalso; simp only [← Int32.toInt_inj, ne_eq, Decidable.not_not] at *; omega)
        simp only [k0]
        exact own_retV K own_d6_85 (by decide) (by decide) (⟨rfl, H⟩)
      · refine own_aloadN K own_d6_64 rfl rfl ?_
        refine own_getfield K own_d6_65 (host := "") (Or.inl (own_w18 hw)) Via.refl H (j := 0) rfl (q := 1) rfl ?_
        refine own_iloadN K own_d6_68 rfl ?_
        refine own_dup2 K own_d6_69 rfl rfl ?_
        refine own_daload K own_d6_70 H (i := 1) rfl (q := 0) (by decide) (rfl) ?_
        refine own_aloadN K own_d6_71 rfl rfl ?_
        refine own_getfield K own_d6_72 (host := "") (Or.inl (own_w18 hw)) Via.refl H (j := 1) rfl (q := 1) rfl ?_
        refine own_iloadN K own_d6_75 rfl ?_
        refine own_daload K own_d6_76 H (i := 3) rfl (q := 1) (by decide) (rfl) ?_
        refine own_dadd K own_d6_77 (Fl.dadd_out fs0.noNaN ff1) ?_
        refine own_dastore K own_d6_78 H (i := 1) rfl (q := 0) (by decide) (own_le rfl) ?_
        intro h7 H8
        replace H8 : own_H Z h7 (own_SD a (.ref da) (.ref sa) (.int (1 : Int32)) :: own_SD b (.ref db) (.ref sb) (.int (3 : Int32)) :: os) ((da, .int, "[I", [(.int r0), x1, x2, x3]) :: (sa, .double, "[D", [(.double (FP.dadd s0 f1)), y1, y2, y3]) :: (db, .int, "[I", [(.int e0), (.int e1), (.int e2), u3]) :: (sb, .double, "[D", [(.double f0), (.double f1), (.double f2), w3]) :: as) := H8
        refine own_iinc K own_d6_79 rfl (y := (1 : Int32)) (by decide) (Ls' := #[.val (.ref a), .val (.ref b), .val (.int (1 : Int32)), .val (.int (1 : Int32))]) rfl ?_
        refine own_goto K own_d6_82 ?_
        refine own_iloadN K own_d6_4 rfl ?_
        refine own_aloadN K own_d6_5 rfl rfl ?_
        refine own_getfield K own_d6_6 (host := "") (Or.inl (own_w25 hw)) Via.refl H8 (j := 0) rfl (q := 2) rfl ?_
        refine own_icmpge K own_d6_9 (fun _ => ?_) (fun q => absurd (by decide) q)
        have k0 : (if e0 = r0 then FP.dadd s0 f0 else (if e1 = r0 then FP.dadd s0 f1 else (if e2 = r0 then FP.dadd s0 f2 else s0))) = (FP.dadd s0 f1) := by (repeat' split) <;> first | rfl | (exfalso; simp only [← Int32.toInt_inj, ne_eq, Decidable.not_not] at *; omega)
        simp only [k0]
        exact own_retV K own_d6_85 (by decide) (by decide) (⟨rfl, H8⟩)
    · refine own_iinc K own_d6_35 rfl (y := (2 : Int32)) (by decide) (Ls' := #[.val (.ref a), .val (.ref b), .val (.int (2 : Int32)), .val (.int (0 : Int32))]) rfl ?_
      refine own_goto K own_d6_38 ?_
      refine own_iloadN K own_d6_12 rfl ?_
      refine own_aloadN K own_d6_13 rfl rfl ?_
      refine own_getfield K own_d6_14 (host := "") (Or.inl (own_w25 hw)) Via.refl H (j := 1) rfl (q := 2) rfl ?_
      refine own_icmpge K own_d6_17 (fun q => absurd q (by decide)) (fun _ => ?_)
      refine own_aloadN K own_d6_20 rfl rfl ?_
      refine own_getfield K own_d6_21 (host := "") (Or.inl (own_w15 hw)) Via.refl H (j := 1) rfl (q := 0) rfl ?_
      refine own_iloadN K own_d6_24 rfl ?_
      refine own_iaload K own_d6_25 H (i := 2) rfl (q := 2) (by decide) (rfl) ?_
      refine own_aloadN K own_d6_26 rfl rfl ?_
      refine own_getfield K own_d6_27 (host := "") (Or.inl (own_w15 hw)) Via.refl H (j := 0) rfl (q := 0) rfl ?_
      refine own_iloadN K own_d6_30 rfl ?_
      refine own_iaload K own_d6_31 H (i := 0) rfl (q := 0) (by decide) (rfl) ?_
      refine own_icmpge K own_d6_32 (fun g9 => ?_) (fun g9 => ?_)
      · refine own_iloadN K own_d6_41 rfl ?_
        refine own_aloadN K own_d6_42 rfl rfl ?_
        refine own_getfield K own_d6_43 (host := "") (Or.inl (own_w25 hw)) Via.refl H (j := 1) rfl (q := 2) rfl ?_
        refine own_icmpge K own_d6_46 (fun q => absurd q (by decide)) (fun _ => ?_)
        refine own_aloadN K own_d6_49 rfl rfl ?_
        refine own_getfield K own_d6_50 (host := "") (Or.inl (own_w15 hw)) Via.refl H (j := 1) rfl (q := 0) rfl ?_
        refine own_iloadN K own_d6_53 rfl ?_
        refine own_iaload K own_d6_54 H (i := 2) rfl (q := 2) (by decide) (rfl) ?_
        refine own_aloadN K own_d6_55 rfl rfl ?_
        refine own_getfield K own_d6_56 (host := "") (Or.inl (own_w15 hw)) Via.refl H (j := 0) rfl (q := 0) rfl ?_
        refine own_iloadN K own_d6_59 rfl ?_
        refine own_iaload K own_d6_60 H (i := 0) rfl (q := 0) (by decide) (rfl) ?_
        refine own_icmpne K own_d6_61 (fun g10 => ?_) (fun g10 => ?_)
        · refine own_iinc K own_d6_79 rfl (y := (1 : Int32)) (by decide) (Ls' := #[.val (.ref a), .val (.ref b), .val (.int (2 : Int32)), .val (.int (1 : Int32))]) rfl ?_
          refine own_goto K own_d6_82 ?_
          refine own_iloadN K own_d6_4 rfl ?_
          refine own_aloadN K own_d6_5 rfl rfl ?_
          refine own_getfield K own_d6_6 (host := "") (Or.inl (own_w25 hw)) Via.refl H (j := 0) rfl (q := 2) rfl ?_
          refine own_icmpge K own_d6_9 (fun _ => ?_) (fun q => absurd (by decide) q)
          have k0 : (if e0 = r0 then FP.dadd s0 f0 else (if e1 = r0 then FP.dadd s0 f1 else (if e2 = r0 then FP.dadd s0 f2 else s0))) = s0 := by (repeat' split) <;> first | rfl | (exfalso; simp only [← Int32.toInt_inj, ne_eq, Decidable.not_not] at *; omega)
          simp only [k0]
          exact own_retV K own_d6_85 (by decide) (by decide) (⟨rfl, H⟩)
        · refine own_aloadN K own_d6_64 rfl rfl ?_
          refine own_getfield K own_d6_65 (host := "") (Or.inl (own_w18 hw)) Via.refl H (j := 0) rfl (q := 1) rfl ?_
          refine own_iloadN K own_d6_68 rfl ?_
          refine own_dup2 K own_d6_69 rfl rfl ?_
          refine own_daload K own_d6_70 H (i := 1) rfl (q := 0) (by decide) (rfl) ?_
          refine own_aloadN K own_d6_71 rfl rfl ?_
          refine own_getfield K own_d6_72 (host := "") (Or.inl (own_w18 hw)) Via.refl H (j := 1) rfl (q := 1) rfl ?_
          refine own_iloadN K own_d6_75 rfl ?_
          refine own_daload K own_d6_76 H (i := 3) rfl (q := 2) (by decide) (rfl) ?_
          refine own_dadd K own_d6_77 (Fl.dadd_out fs0.noNaN ff2) ?_
          refine own_dastore K own_d6_78 H (i := 1) rfl (q := 0) (by decide) (own_le rfl) ?_
          intro h11 H12
          replace H12 : own_H Z h11 (own_SD a (.ref da) (.ref sa) (.int (1 : Int32)) :: own_SD b (.ref db) (.ref sb) (.int (3 : Int32)) :: os) ((da, .int, "[I", [(.int r0), x1, x2, x3]) :: (sa, .double, "[D", [(.double (FP.dadd s0 f2)), y1, y2, y3]) :: (db, .int, "[I", [(.int e0), (.int e1), (.int e2), u3]) :: (sb, .double, "[D", [(.double f0), (.double f1), (.double f2), w3]) :: as) := H12
          refine own_iinc K own_d6_79 rfl (y := (1 : Int32)) (by decide) (Ls' := #[.val (.ref a), .val (.ref b), .val (.int (2 : Int32)), .val (.int (1 : Int32))]) rfl ?_
          refine own_goto K own_d6_82 ?_
          refine own_iloadN K own_d6_4 rfl ?_
          refine own_aloadN K own_d6_5 rfl rfl ?_
          refine own_getfield K own_d6_6 (host := "") (Or.inl (own_w25 hw)) Via.refl H12 (j := 0) rfl (q := 2) rfl ?_
          refine own_icmpge K own_d6_9 (fun _ => ?_) (fun q => absurd (by decide) q)
          have k0 : (if e0 = r0 then FP.dadd s0 f0 else (if e1 = r0 then FP.dadd s0 f1 else (if e2 = r0 then FP.dadd s0 f2 else s0))) = (FP.dadd s0 f2) := by (repeat' split) <;> first | rfl | (exfalso; simp only [← Int32.toInt_inj, ne_eq, Decidable.not_not] at *; omega)
          simp only [k0]
          exact own_retV K own_d6_85 (by decide) (by decide) (⟨rfl, H12⟩)
      · refine own_iinc K own_d6_35 rfl (y := (3 : Int32)) (by decide) (Ls' := #[.val (.ref a), .val (.ref b), .val (.int (3 : Int32)), .val (.int (0 : Int32))]) rfl ?_
        refine own_goto K own_d6_38 ?_
        refine own_iloadN K own_d6_12 rfl ?_
        refine own_aloadN K own_d6_13 rfl rfl ?_
        refine own_getfield K own_d6_14 (host := "") (Or.inl (own_w25 hw)) Via.refl H (j := 1) rfl (q := 2) rfl ?_
        refine own_icmpge K own_d6_17 (fun _ => ?_) (fun q => absurd (by decide) q)
        refine own_iloadN K own_d6_41 rfl ?_
        refine own_aloadN K own_d6_42 rfl rfl ?_
        refine own_getfield K own_d6_43 (host := "") (Or.inl (own_w25 hw)) Via.refl H (j := 1) rfl (q := 2) rfl ?_
        refine own_icmpge K own_d6_46 (fun _ => ?_) (fun q => absurd (by decide) q)
        refine own_iinc K own_d6_79 rfl (y := (1 : Int32)) (by decide) (Ls' := #[.val (.ref a), .val (.ref b), .val (.int (3 : Int32)), .val (.int (1 : Int32))]) rfl ?_
        refine own_goto K own_d6_82 ?_
        refine own_iloadN K own_d6_4 rfl ?_
        refine own_aloadN K own_d6_5 rfl rfl ?_
        refine own_getfield K own_d6_6 (host := "") (Or.inl (own_w25 hw)) Via.refl H (j := 0) rfl (q := 2) rfl ?_
        refine own_icmpge K own_d6_9 (fun _ => ?_) (fun q => absurd (by decide) q)
        have k0 : (if e0 = r0 then FP.dadd s0 f0 else (if e1 = r0 then FP.dadd s0 f1 else (if e2 = r0 then FP.dadd s0 f2 else s0))) = s0 := by (repeat' split) <;> first | rfl | (exfalso; simp only [← Int32.toInt_inj, ne_eq, Decidable.not_not] at *; omega)
        simp only [k0]
        exact own_retV K own_d6_85 (by decide) (by decide) (⟨rfl, H⟩)
set_option maxRecDepth 65536 in
set_option maxHeartbeats 40000000 in
theorem own_adds_2_0_ef (m : MethodId) (x0 : Addr) (x1 : Addr) : entryFrame m #[(.ref x0), (.ref x1)] 4 = mkF m 0 #[.val (.ref x0), .val (.ref x1), .unset, .unset] [] := by first | (simp [entryFrame, mkF, argsToLocals, Value.category]; done) | rfl
set_option maxRecDepth 65536 in
set_option maxHeartbeats 40000000 in
theorem own_adds_2_0 {l : Launch} {Z : State} {a0 : Array Value} (hw : own_Z Z a0) {h : Heap} {os : List own_O} {as : List own_A} {a b da sa db sb : Addr} {r0 r1 : Int32} {s0 s1 : UInt64} {x2 y2 x3 y3 u0 w0 u1 w1 u2 w2 u3 w3 : Value} (H : own_H Z h (own_SD a (.ref da) (.ref sa) (.int (2 : Int32)) :: own_SD b (.ref db) (.ref sb) (.int (0 : Int32)) :: os) ((da, .int, "[I", [(.int r0), (.int r1), x2, x3]) :: (sa, .double, "[D", [(.double s0), (.double s1), y2, y3]) :: (db, .int, "[I", [u0, u1, u2, u3]) :: (sb, .double, "[D", [w0, w1, w2, w3]) :: as)) (fs0 : Fl.Fin64 s0) (fs1 : Fl.Fin64 s1)  (lr : r0.toInt < r1.toInt) : own_Met false l Z (⟨"com/example/fielder/fielder/service/ScoredDocuments", "addScores", "(Lcom/example/fielder/fielder/service/ScoredDocuments;)V"⟩ : MethodName) prog_38_method_8_code 4 none [] ({ frames := 0, cells := 0, slots := 0, locals := 0 } : Room) #[(.ref a), (.ref b)] h (fun v h' => v = none ∧ own_H Z h' (own_SD a (.ref da) (.ref sa) (.int (2 : Int32)) :: own_SD b (.ref db) (.ref sb) (.int (0 : Int32)) :: os) ((da, .int, "[I", [(.int r0), (.int r1), x2, x3]) :: (sa, .double, "[D", [(.double s0), (.double s1), y2, y3]) :: (db, .int, "[I", [u0, u1, u2, u3]) :: (sb, .double, "[D", [w0, w1, w2, w3]) :: as)) := by
  refine own_met (by first | exact plainFor_of_name (by decide +kernel) | decide +kernel) ?_
  intro p e s m below meth c K
  refine own_cast (own_adds_2_0_ef m _ _) ?_
  refine own_iconst K own_d6_0 (v := (0 : Int32)) rfl ?_
  refine own_istoreN K own_d6_1 (Ls' := #[.val (.ref a), .val (.ref b), .val (.int (0 : Int32)), .unset]) rfl ?_
  refine own_iconst K own_d6_2 (v := (0 : Int32)) rfl ?_
  refine own_istoreN K own_d6_3 (Ls' := #[.val (.ref a), .val (.ref b), .val (.int (0 : Int32)), .val (.int (0 : Int32))]) rfl ?_
  refine own_iloadN K own_d6_4 rfl ?_
  refine own_aloadN K own_d6_5 rfl rfl ?_
  refine own_getfield K own_d6_6 (host := "") (Or.inl (own_w25 hw)) Via.refl H (j := 0) rfl (q := 2) rfl ?_
  refine own_icmpge K own_d6_9 (fun q => absurd q (by decide)) (fun _ => ?_)
  refine own_iloadN K own_d6_12 rfl ?_
  refine own_aloadN K own_d6_13 rfl rfl ?_
  refine own_getfield K own_d6_14 (host := "") (Or.inl (own_w25 hw)) Via.refl H (j := 1) rfl (q := 2) rfl ?_
  refine own_icmpge K own_d6_17 (fun _ => ?_) (fun q => absurd (by decide) q)
  refine own_iloadN K own_d6_41 rfl ?_
  refine own_aloadN K own_d6_42 rfl rfl ?_
  refine own_getfield K own_d6_43 (host := "") (Or.inl (own_w25 hw)) Via.refl H (j := 1) rfl (q := 2) rfl ?_
  refine own_icmpge K own_d6_46 (fun _ => ?_) (fun q => absurd (by decide) q)
  refine own_iinc K own_d6_79 rfl (y := (1 : Int32)) (by decide) (Ls' := #[.val (.ref a), .val (.ref b), .val (.int (0 : Int32)), .val (.int (1 : Int32))]) rfl ?_
  refine own_goto K own_d6_82 ?_
  refine own_iloadN K own_d6_4 rfl ?_
  refine own_aloadN K own_d6_5 rfl rfl ?_
  refine own_getfield K own_d6_6 (host := "") (Or.inl (own_w25 hw)) Via.refl H (j := 0) rfl (q := 2) rfl ?_
  refine own_icmpge K own_d6_9 (fun q => absurd q (by decide)) (fun _ => ?_)
  refine own_iloadN K own_d6_12 rfl ?_
  refine own_aloadN K own_d6_13 rfl rfl ?_
  refine own_getfield K own_d6_14 (host := "") (Or.inl (own_w25 hw)) Via.refl H (j := 1) rfl (q := 2) rfl ?_
  refine own_icmpge K own_d6_17 (fun _ => ?_) (fun q => absurd (by decide) q)
  refine own_iloadN K own_d6_41 rfl ?_
  refine own_aloadN K own_d6_42 rfl rfl ?_
  refine own_getfield K own_d6_43 (host := "") (Or.inl (own_w25 hw)) Via.refl H (j := 1) rfl (q := 2) rfl ?_
  refine own_icmpge K own_d6_46 (fun _ => ?_) (fun q => absurd (by decide) q)
  refine own_iinc K own_d6_79 rfl (y := (2 : Int32)) (by decide) (Ls' := #[.val (.ref a), .val (.ref b), .val (.int (0 : Int32)), .val (.int (2 : Int32))]) rfl ?_
  refine own_goto K own_d6_82 ?_
  refine own_iloadN K own_d6_4 rfl ?_
  refine own_aloadN K own_d6_5 rfl rfl ?_
  refine own_getfield K own_d6_6 (host := "") (Or.inl (own_w25 hw)) Via.refl H (j := 0) rfl (q := 2) rfl ?_
  refine own_icmpge K own_d6_9 (fun _ => ?_) (fun q => absurd (by decide) q)
  exact own_retV K own_d6_85 (by decide) (by decide) (⟨rfl, H⟩)
set_option maxRecDepth 65536 in
set_option maxHeartbeats 40000000 in
theorem own_adds_2_1_ef (m : MethodId) (x0 : Addr) (x1 : Addr) : entryFrame m #[(.ref x0), (.ref x1)] 4 = mkF m 0 #[.val (.ref x0), .val (.ref x1), .unset, .unset] [] := by first | (simp [entryFrame, mkF, argsToLocals, Value.category]; done) | rfl
set_option maxRecDepth 65536 in
set_option maxHeartbeats 40000000 in
theorem own_adds_2_1 {l : Launch} {Z : State} {a0 : Array Value} (hw : own_Z Z a0) {h : Heap} {os : List own_O} {as : List own_A} {a b da sa db sb : Addr} {r0 r1 : Int32} {s0 s1 : UInt64} {e0 : Int32} {f0 : UInt64} {x2 y2 x3 y3 u1 w1 u2 w2 u3 w3 : Value} (H : own_H Z h (own_SD a (.ref da) (.ref sa) (.int (2 : Int32)) :: own_SD b (.ref db) (.ref sb) (.int (1 : Int32)) :: os) ((da, .int, "[I", [(.int r0), (.int r1), x2, x3]) :: (sa, .double, "[D", [(.double s0), (.double s1), y2, y3]) :: (db, .int, "[I", [(.int e0), u1, u2, u3]) :: (sb, .double, "[D", [(.double f0), w1, w2, w3]) :: as)) (fs0 : Fl.Fin64 s0) (fs1 : Fl.Fin64 s1) (ff0 : Fl.Fin64 f0) (lr : r0.toInt < r1.toInt) : own_Met false l Z (⟨"com/example/fielder/fielder/service/ScoredDocuments", "addScores", "(Lcom/example/fielder/fielder/service/ScoredDocuments;)V"⟩ : MethodName) prog_38_method_8_code 4 none [] ({ frames := 0, cells := 0, slots := 0, locals := 0 } : Room) #[(.ref a), (.ref b)] h (fun v h' => v = none ∧ own_H Z h' (own_SD a (.ref da) (.ref sa) (.int (2 : Int32)) :: own_SD b (.ref db) (.ref sb) (.int (1 : Int32)) :: os) ((da, .int, "[I", [(.int r0), (.int r1), x2, x3]) :: (sa, .double, "[D", [(.double (if e0 = r0 then FP.dadd s0 f0 else s0)), (.double (if e0 = r1 then FP.dadd s1 f0 else s1)), y2, y3]) :: (db, .int, "[I", [(.int e0), u1, u2, u3]) :: (sb, .double, "[D", [(.double f0), w1, w2, w3]) :: as)) := by
  refine own_met (by first | exact plainFor_of_name (by decide +kernel) | decide +kernel) ?_
  intro p e s m below meth c K
  refine own_cast (own_adds_2_1_ef m _ _) ?_
  refine own_iconst K own_d6_0 (v := (0 : Int32)) rfl ?_
  refine own_istoreN K own_d6_1 (Ls' := #[.val (.ref a), .val (.ref b), .val (.int (0 : Int32)), .unset]) rfl ?_
  refine own_iconst K own_d6_2 (v := (0 : Int32)) rfl ?_
  refine own_istoreN K own_d6_3 (Ls' := #[.val (.ref a), .val (.ref b), .val (.int (0 : Int32)), .val (.int (0 : Int32))]) rfl ?_
  refine own_iloadN K own_d6_4 rfl ?_
  refine own_aloadN K own_d6_5 rfl rfl ?_
  refine own_getfield K own_d6_6 (host := "") (Or.inl (own_w25 hw)) Via.refl H (j := 0) rfl (q := 2) rfl ?_
  refine own_icmpge K own_d6_9 (fun q => absurd q (by decide)) (fun _ => ?_)
  refine own_iloadN K own_d6_12 rfl ?_
  refine own_aloadN K own_d6_13 rfl rfl ?_
  refine own_getfield K own_d6_14 (host := "") (Or.inl (own_w25 hw)) Via.refl H (j := 1) rfl (q := 2) rfl ?_
  refine own_icmpge K own_d6_17 (fun q => absurd q (by decide)) (fun _ => ?_)
  refine own_aloadN K own_d6_20 rfl rfl ?_
  refine own_getfield K own_d6_21 (host := "") (Or.inl (own_w15 hw)) Via.refl H (j := 1) rfl (q := 0) rfl ?_
  refine own_iloadN K own_d6_24 rfl ?_
  refine own_iaload K own_d6_25 H (i := 2) rfl (q := 0) (by decide) (rfl) ?_
  refine own_aloadN K own_d6_26 rfl rfl ?_
  refine own_getfield K own_d6_27 (host := "") (Or.inl (own_w15 hw)) Via.refl H (j := 0) rfl (q := 0) rfl ?_
  refine own_iloadN K own_d6_30 rfl ?_
  refine own_iaload K own_d6_31 H (i := 0) rfl (q := 0) (by decide) (rfl) ?_
  refine own_icmpge K own_d6_32 (fun g1 => ?_) (fun g1 => ?_)
  · refine own_iloadN K own_d6_41 rfl ?_
    refine own_aloadN K own_d6_42 rfl rfl ?_
    refine own_getfield K own_d6_43 (host := "") (Or.inl (own_w25 hw)) Via.refl H (j := 1) rfl (q := 2) rfl ?_
    refine own_icmpge K own_d6_46 (fun q => absurd q (by decide)) (fun _ => ?_)
    refine own_aloadN K own_d6_49 rfl rfl ?_
    refine own_getfield K own_d6_50 (host := "") (Or.inl (own_w15 hw)) Via.refl H (j := 1) rfl (q := 0) rfl ?_
    refine own_iloadN K own_d6_53 rfl ?_
    refine own_iaload K own_d6_54 H (i := 2) rfl (q := 0) (by decide) (rfl) ?_
    refine own_aloadN K own_d6_55 rfl rfl ?_
    refine own_getfield K own_d6_56 (host := "") (Or.inl (own_w15 hw)) Via.refl H (j := 0) rfl (q := 0) rfl ?_
    refine own_iloadN K own_d6_59 rfl ?_
    refine own_iaload K own_d6_60 H (i := 0) rfl (q := 0) (by decide) (rfl) ?_
    refine own_icmpne K own_d6_61 (fun g2 => ?_) (fun g2 => ?_)
    · refine own_iinc K own_d6_79 rfl (y := (1 : Int32)) (by decide) (Ls' := #[.val (.ref a), .val (.ref b), .val (.int (0 : Int32)), .val (.int (1 : Int32))]) rfl ?_
      refine own_goto K own_d6_82 ?_
      refine own_iloadN K own_d6_4 rfl ?_
      refine own_aloadN K own_d6_5 rfl rfl ?_
      refine own_getfield K own_d6_6 (host := "") (Or.inl (own_w25 hw)) Via.refl H (j := 0) rfl (q := 2) rfl ?_
      refine own_icmpge K own_d6_9 (fun q => absurd q (by decide)) (fun _ => ?_)
      refine own_iloadN K own_d6_12 rfl ?_
      refine own_aloadN K own_d6_13 rfl rfl ?_
      refine own_getfield K own_d6_14 (host := "") (Or.inl (own_w25 hw)) Via.refl H (j := 1) rfl (q := 2) rfl ?_
      refine own_icmpge K own_d6_17 (fun q => absurd q (by decide)) (fun _ => ?_)
      refine own_aloadN K own_d6_20 rfl rfl ?_
      refine own_getfield K own_d6_21 (host := "") (Or.inl (own_w15 hw)) Via.refl H (j := 1) rfl (q := 0) rfl ?_
      refine own_iloadN K own_d6_24 rfl ?_
      refine own_iaload K own_d6_25 H (i := 2) rfl (q := 0) (by decide) (rfl) ?_
      refine own_aloadN K own_d6_26 rfl rfl ?_
      refine own_getfield K own_d6_27 (host := "") (Or.inl (own_w15 hw)) Via.refl H (j := 0) rfl (q := 0) rfl ?_
      refine own_iloadN K own_d6_30 rfl ?_
      refine own_iaload K own_d6_31 H (i := 0) rfl (q := 1) (by decide) (rfl) ?_
      refine own_icmpge K own_d6_32 (fun g3 => ?_) (fun g3 => ?_)
      · refine own_iloadN K own_d6_41 rfl ?_
        refine own_aloadN K own_d6_42 rfl rfl ?_
        refine own_getfield K own_d6_43 (host := "") (Or.inl (own_w25 hw)) Via.refl H (j := 1) rfl (q := 2) rfl ?_
        refine own_icmpge K own_d6_46 (fun q => absurd q (by decide)) (fun _ => ?_)
        refine own_aloadN K own_d6_49 rfl rfl ?_
        refine own_getfield K own_d6_50 (host := "") (Or.inl (own_w15 hw)) Via.refl H (j := 1) rfl (q := 0) rfl ?_
        refine own_iloadN K own_d6_53 rfl ?_
        refine own_iaload K own_d6_54 H (i := 2) rfl (q := 0) (by decide) (rfl) ?_
        refine own_aloadN K own_d6_55 rfl rfl ?_
        refine own_getfield K own_d6_56 (host := "") (Or.inl (own_w15 hw)) Via.refl H (j := 0) rfl (q := 0) rfl ?_
        refine own_iloadN K own_d6_59 rfl ?_
        refine own_iaload K own_d6_60 H (i := 0) rfl (q := 1) (by decide) (rfl) ?_
        refine own_icmpne K own_d6_61 (fun g4 => ?_) (fun g4 => ?_)
        · refine own_iinc K own_d6_79 rfl (y := (2 : Int32)) (by decide) (Ls' := #[.val (.ref a), .val (.ref b), .val (.int (0 : Int32)), .val (.int (2 : Int32))]) rfl ?_
          refine own_goto K own_d6_82 ?_
          refine own_iloadN K own_d6_4 rfl ?_
          refine own_aloadN K own_d6_5 rfl rfl ?_
          refine own_getfield K own_d6_6 (host := "") (Or.inl (own_w25 hw)) Via.refl H (j := 0) rfl (q := 2) rfl ?_
          refine own_icmpge K own_d6_9 (fun _ => ?_) (fun q => absurd (by decide) q)
          have k0 : (if e0 = r0 then FP.dadd s0 f0 else s0) = s0 := by (repeat' split) <;> first | rfl | (exfalso; simp only [← Int32.toInt_inj, ne_eq, Decidable.not_not] at *; omega)
          have k1 : (if e0 = r1 then FP.dadd s1 f0 else s1) = s1 := by (repeat' split) <;> first | rfl | (exfalso; simp only [← Int32.toInt_inj, ne_eq, Decidable.not_not] at *; omega)
          simp only [k0, k1]
          exact own_retV K own_d6_85 (by decide) (by decide) (⟨rfl, H⟩)
        · refine own_aloadN K own_d6_64 rfl rfl ?_
          refine own_getfield K own_d6_65 (host := "") (Or.inl (own_w18 hw)) Via.refl H (j := 0) rfl (q := 1) rfl ?_
          refine own_iloadN K own_d6_68 rfl ?_
          refine own_dup2 K own_d6_69 rfl rfl ?_
          refine own_daload K own_d6_70 H (i := 1) rfl (q := 1) (by decide) (rfl) ?_
          refine own_aloadN K own_d6_71 rfl rfl ?_
          refine own_getfield K own_d6_72 (host := "") (Or.inl (own_w18 hw)) Via.refl H (j := 1) rfl (q := 1) rfl ?_
          refine own_iloadN K own_d6_75 rfl ?_
          refine own_daload K own_d6_76 H (i := 3) rfl (q := 0) (by decide) (rfl) ?_
          refine own_dadd K own_d6_77 (Fl.dadd_out fs1.noNaN ff0) ?_
          refine own_dastore K own_d6_78 H (i := 1) rfl (q := 1) (by decide) (own_le rfl) ?_
          intro h5 H6
          replace H6 : own_H Z h5 (own_SD a (.ref da) (.ref sa) (.int (2 : Int32)) :: own_SD b (.ref db) (.ref sb) (.int (1 : Int32)) :: os) ((da, .int, "[I", [(.int r0), (.int r1), x2, x3]) :: (sa, .double, "[D", [(.double s0), (.double (FP.dadd s1 f0)), y2, y3]) :: (db, .int, "[I", [(.int e0), u1, u2, u3]) :: (sb, .double, "[D", [(.double f0), w1, w2, w3]) :: as) := H6
          refine own_iinc K own_d6_79 rfl (y := (2 : Int32)) (by decide) (Ls' := #[.val (.ref a), .val (.ref b), .val (.int (0 : Int32)), .val (.int (2 : Int32))]) rfl ?_
          refine own_goto K own_d6_82 ?_
          refine own_iloadN K own_d6_4 rfl ?_
          refine own_aloadN K own_d6_5 rfl rfl ?_
          refine own_getfield K own_d6_6 (host := "") (Or.inl (own_w25 hw)) Via.refl H6 (j := 0) rfl (q := 2) rfl ?_
          refine own_icmpge K own_d6_9 (fun _ => ?_) (fun q => absurd (by decide) q)
          have k0 : (if e0 = r0 then FP.dadd s0 f0 else s0) = s0 := by (repeat' split) <;> first | rfl | (exfalso; simp only [← Int32.toInt_inj, ne_eq, Decidable.not_not] at *; omega)
          have k1 : (if e0 = r1 then FP.dadd s1 f0 else s1) = (FP.dadd s1 f0) := by (repeat' split) <;> first | rfl | (exfalso; simp only [← Int32.toInt_inj, ne_eq, Decidable.not_not] at *; omega)
          simp only [k0, k1]
          exact own_retV K own_d6_85 (by decide) (by decide) (⟨rfl, H6⟩)
      · refine own_iinc K own_d6_35 rfl (y := (1 : Int32)) (by decide) (Ls' := #[.val (.ref a), .val (.ref b), .val (.int (1 : Int32)), .val (.int (1 : Int32))]) rfl ?_
        refine own_goto K own_d6_38 ?_
        refine own_iloadN K own_d6_12 rfl ?_
        refine own_aloadN K own_d6_13 rfl rfl ?_
        refine own_getfield K own_d6_14 (host := "") (Or.inl (own_w25 hw)) Via.refl H (j := 1) rfl (q := 2) rfl ?_
        refine own_icmpge K own_d6_17 (fun _ => ?_) (fun q => absurd (by decide) q)
        refine own_iloadN K own_d6_41 rfl ?_
        refine own_aloadN K own_d6_42 rfl rfl ?_
        refine own_getfield K own_d6_43 (host := "") (Or.inl (own_w25 hw)) Via.refl H (j := 1) rfl (q := 2) rfl ?_
        refine own_icmpge K own_d6_46 (fun _ => ?_) (fun q => absurd (by decide) q)
        refine own_iinc K own_d6_79 rfl (y := (2 : Int32)) (by decide) (Ls' := #[.val (.ref a), .val (.ref b), .val (.int (1 : Int32)), .val (.int (2 : Int32))]) rfl ?_
        refine own_goto K own_d6_82 ?_
        refine own_iloadN K own_d6_4 rfl ?_
        refine own_aloadN K own_d6_5 rfl rfl ?_
        refine own_getfield K own_d6_6 (host := "") (Or.inl (own_w25 hw)) Via.refl H (j := 0) rfl (q := 2) rfl ?_
        refine own_icmpge K own_d6_9 (fun _ => ?_) (fun q => absurd (by decide) q)
        have k0 : (if e0 = r0 then FP.dadd s0 f0 else s0) = s0 := by (repeat' split) <;> first | rfl | (exfalso; simp only [← Int32.toInt_inj, ne_eq, Decidable.not_not] at *; omega)
        have k1 : (if e0 = r1 then FP.dadd s1 f0 else s1) = s1 := by (repeat' split) <;> first | rfl | (exfalso; simp only [← Int32.toInt_inj, ne_eq, Decidable.not_not] at *; omega)
        simp only [k0, k1]
        exact own_retV K own_d6_85 (by decide) (by decide) (⟨rfl, H⟩)
    · refine own_aloadN K own_d6_64 rfl rfl ?_
      refine own_getfield K own_d6_65 (host := "") (Or.inl (own_w18 hw)) Via.refl H (j := 0) rfl (q := 1) rfl ?_
      refine own_iloadN K own_d6_68 rfl ?_
      refine own_dup2 K own_d6_69 rfl rfl ?_
      refine own_daload K own_d6_70 H (i := 1) rfl (q := 0) (by decide) (rfl) ?_
      refine own_aloadN K own_d6_71 rfl rfl ?_
      refine own_getfield K own_d6_72 (host := "") (Or.inl (own_w18 hw)) Via.refl H (j := 1) rfl (q := 1) rfl ?_
      refine own_iloadN K own_d6_75 rfl ?_
      refine own_daload K own_d6_76 H (i := 3) rfl (q := 0) (by decide) (rfl) ?_
      refine own_dadd K own_d6_77 (Fl.dadd_out fs0.noNaN ff0) ?_
      refine own_dastore K own_d6_78 H (i := 1) rfl (q := 0) (by decide) (own_le rfl) ?_
      intro h7 H8
      replace H8 : own_H Z h7 (own_SD a (.ref da) (.ref sa) (.int (2 : Int32)) :: own_SD b (.ref db) (.ref sb) (.int (1 : Int32)) :: os) ((da, .int, "[I", [(.int r0), (.int r1), x2, x3]) :: (sa, .double, "[D", [(.double (FP.dadd s0 f0)), (.double s1), y2, y3]) :: (db, .int, "[I", [(.int e0), u1, u2, u3]) :: (sb, .double, "[D", [(.double f0), w1, w2, w3]) :: as) := H8
      refine own_iinc K own_d6_79 rfl (y := (1 : Int32)) (by decide) (Ls' := #[.val (.ref a), .val (.ref b), .val (.int (0 : Int32)), .val (.int (1 : Int32))]) rfl ?_
      refine own_goto K own_d6_82 ?_
      refine own_iloadN K own_d6_4 rfl ?_
      refine own_aloadN K own_d6_5 rfl rfl ?_
      refine own_getfield K own_d6_6 (host := "") (Or.inl (own_w25 hw)) Via.refl H8 (j := 0) rfl (q := 2) rfl ?_
      refine own_icmpge K own_d6_9 (fun q => absurd q (by decide)) (fun _ => ?_)
      refine own_iloadN K own_d6_12 rfl ?_
      refine own_aloadN K own_d6_13 rfl rfl ?_
      refine own_getfield K own_d6_14 (host := "") (Or.inl (own_w25 hw)) Via.refl H8 (j := 1) rfl (q := 2) rfl ?_
      refine own_icmpge K own_d6_17 (fun q => absurd q (by decide)) (fun _ => ?_)
      refine own_aloadN K own_d6_20 rfl rfl ?_
      refine own_getfield K own_d6_21 (host := "") (Or.inl (own_w15 hw)) Via.refl H8 (j := 1) rfl (q := 0) rfl ?_
      refine own_iloadN K own_d6_24 rfl ?_
      refine own_iaload K own_d6_25 H8 (i := 2) rfl (q := 0) (by decide) (rfl) ?_
      refine own_aloadN K own_d6_26 rfl rfl ?_
      refine own_getfield K own_d6_27 (host := "") (Or.inl (own_w15 hw)) Via.refl H8 (j := 0) rfl (q := 0) rfl ?_
      refine own_iloadN K own_d6_30 rfl ?_
      refine own_iaload K own_d6_31 H8 (i := 0) rfl (q := 1) (by decide) (rfl) ?_
      refine own_icmpge K own_d6_32 (fun g9 => ?_) (fun g9 => ?_)
      · refine own_iloadN K own_d6_41 rfl ?_
        refine own_aloadN K own_d6_42 rfl rfl ?_
        refine own_getfield K own_d6_43 (host := "") (Or.inl (own_w25 hw)) Via.refl H8 (j := 1) rfl (q := 2) rfl ?_
        refine own_icmpge K own_d6_46 (fun q => absurd q (by decide)) (fun _ => ?_)
        refine own_aloadN K own_d6_49 rfl rfl ?_
        refine own_getfield K own_d6_50 (host := "") (Or.inl (own_w15 hw)) Via.refl H8 (j := 1) rfl (q := 0) rfl ?_
        refine own_iloadN K own_d6_53 rfl ?_
        refine own_iaload K own_d6_54 H8 (i := 2) rfl (q := 0) (by decide) (rfl) ?_
        refine own_aloadN K own_d6_55 rfl rfl ?_
        refine own_getfield K own_d6_56 (host := "") (Or.inl (own_w15 hw)) Via.refl H8 (j := 0) rfl (q := 0) rfl ?_
        refine own_iloadN K own_d6_59 rfl ?_
        refine own_iaload K own_d6_60 H8 (i := 0) rfl (q := 1) (by decide) (rfl) ?_
        refine own_icmpne K own_d6_61 (fun g10 => ?_) (fun g10 => ?_)
        · refine own_iinc K own_d6_79 rfl (y := (2 : Int32)) (by decide) (Ls' := #[.val (.ref a), .val (.ref b), .val (.int (0 : Int32)), .val (.int (2 : Int32))]) rfl ?_
          refine own_goto K own_d6_82 ?_
          refine own_iloadN K own_d6_4 rfl ?_
          refine own_aloadN K own_d6_5 rfl rfl ?_
          refine own_getfield K own_d6_6 (host := "") (Or.inl (own_w25 hw)) Via.refl H8 (j := 0) rfl (q := 2) rfl ?_
          refine own_icmpge K own_d6_9 (fun _ => ?_) (fun q => absurd (by decide) q)
          have k0 : (if e0 = r0 then FP.dadd s0 f0 else s0) = (FP.dadd s0 f0) := by (repeat' split) <;> first | rfl | (exfalso; simp only [← Int32.toInt_inj, ne_eq, Decidable.not_not] at *; omega)
          have k1 : (if e0 = r1 then FP.dadd s1 f0 else s1) = s1 := by (repeat' split) <;> first | rfl | (exfalso; simp only [← Int32.toInt_inj, ne_eq, Decidable.not_not] at *; omega)
          simp only [k0, k1]
          exact own_retV K own_d6_85 (by decide) (by decide) (⟨rfl, H8⟩)
        · refine own_aloadN K own_d6_64 rfl rfl ?_
          refine own_getfield K own_d6_65 (host := "") (Or.inl (own_w18 hw)) Via.refl H8 (j := 0) rfl (q := 1) rfl ?_
          refine own_iloadN K own_d6_68 rfl ?_
          refine own_dup2 K own_d6_69 rfl rfl ?_
          refine own_daload K own_d6_70 H8 (i := 1) rfl (q := 1) (by decide) (rfl) ?_
          refine own_aloadN K own_d6_71 rfl rfl ?_
          refine own_getfield K own_d6_72 (host := "") (Or.inl (own_w18 hw)) Via.refl H8 (j := 1) rfl (q := 1) rfl ?_
          refine own_iloadN K own_d6_75 rfl ?_
          refine own_daload K own_d6_76 H8 (i := 3) rfl (q := 0) (by decide) (rfl) ?_
          refine own_dadd K own_d6_77 (Fl.dadd_out fs1.noNaN ff0) ?_
          refine own_dastore K own_d6_78 H8 (i := 1) rfl (q := 1) (by decide) (own_le rfl) ?_
          intro h11 H12
          replace H12 : own_H Z h11 (own_SD a (.ref da) (.ref sa) (.int (2 : Int32)) :: own_SD b (.ref db) (.ref sb) (.int (1 : Int32)) :: os) ((da, .int, "[I", [(.int r0), (.int r1), x2, x3]) :: (sa, .double, "[D", [(.double (FP.dadd s0 f0)), (.double (FP.dadd s1 f0)), y2, y3]) :: (db, .int, "[I", [(.int e0), u1, u2, u3]) :: (sb, .double, "[D", [(.double f0), w1, w2, w3]) :: as) := H12
          refine own_iinc K own_d6_79 rfl (y := (2 : Int32)) (by decide) (Ls' := #[.val (.ref a), .val (.ref b), .val (.int (0 : Int32)), .val (.int (2 : Int32))]) rfl ?_
          refine own_goto K own_d6_82 ?_
          refine own_iloadN K own_d6_4 rfl ?_
          refine own_aloadN K own_d6_5 rfl rfl ?_
          refine own_getfield K own_d6_6 (host := "") (Or.inl (own_w25 hw)) Via.refl H12 (j := 0) rfl (q := 2) rfl ?_
          refine own_icmpge K own_d6_9 (fun _ => ?_) (fun q => absurd (by decide) q)
          have k0 : (if e0 = r0 then FP.dadd s0 f0 else s0) = (FP.dadd s0 f0) := by (repeat' split) <;> first | rfl | (exfalso; simp only [← Int32.toInt_inj, ne_eq, Decidable.not_not] at *; omega)
          have k1 : (if e0 = r1 then FP.dadd s1 f0 else s1) = (FP.dadd s1 f0) := by (repeat' split) <;> first | rfl | (exfalso; simp only [← Int32.toInt_inj, ne_eq, Decidable.not_not] at *; omega)
          simp only [k0, k1]
          exact own_retV K own_d6_85 (by decide) (by decide) (⟨rfl, H12⟩)
      · refine own_iinc K own_d6_35 rfl (y := (1 : Int32)) (by decide) (Ls' := #[.val (.ref a), .val (.ref b), .val (.int (1 : Int32)), .val (.int (1 : Int32))]) rfl ?_
        refine own_goto K own_d6_38 ?_
        refine own_iloadN K own_d6_12 rfl ?_
        refine own_aloadN K own_d6_13 rfl rfl ?_
        refine own_getfield K own_d6_14 (host := "") (Or.inl (own_w25 hw)) Via.refl H8 (j := 1) rfl (q := 2) rfl ?_
        refine own_icmpge K own_d6_17 (fun _ => ?_) (fun q => absurd (by decide) q)
        refine own_iloadN K own_d6_41 rfl ?_
        refine own_aloadN K own_d6_42 rfl rfl ?_
        refine own_getfield K own_d6_43 (host := "") (Or.inl (own_w25 hw)) Via.refl H8 (j := 1) rfl (q := 2) rfl ?_
        refine own_icmpge K own_d6_46 (fun _ => ?_) (fun q => absurd (by decide) q)
        refine own_iinc K own_d6_79 rfl (y := (2 : Int32)) (by decide) (Ls' := #[.val (.ref a), .val (.ref b), .val (.int (1 : Int32)), .val (.int (2 : Int32))]) rfl ?_
        refine own_goto K own_d6_82 ?_
        refine own_iloadN K own_d6_4 rfl ?_
        refine own_aloadN K own_d6_5 rfl rfl ?_
        refine own_getfield K own_d6_6 (host := "") (Or.inl (own_w25 hw)) Via.refl H8 (j := 0) rfl (q := 2) rfl ?_
        refine own_icmpge K own_d6_9 (fun _ => ?_) (fun q => absurd (by decide) q)
        have k0 : (if e0 = r0 then FP.dadd s0 f0 else s0) = (FP.dadd s0 f0) := by (repeat' split) <;> first | rfl | (exfalso; simp only [← Int32.toInt_inj, ne_eq, Decidable.not_not] at *; omega)
        have k1 : (if e0 = r1 then FP.dadd s1 f0 else s1) = s1 := by (repeat' split) <;> first | rfl | (exfalso; simp only [← Int32.toInt_inj, ne_eq, Decidable.not_not] at *; omega)
        simp only [k0, k1]
        exact own_retV K own_d6_85 (by decide) (by decide) (⟨rfl, H8⟩)
  · refine own_iinc K own_d6_35 rfl (y := (1 : Int32)) (by decide) (Ls' := #[.val (.ref a), .val (.ref b), .val (.int (1 : Int32)), .val (.int (0 : Int32))]) rfl ?_
    refine own_goto K own_d6_38 ?_
    refine own_iloadN K own_d6_12 rfl ?_
    refine own_aloadN K own_d6_13 rfl rfl ?_
    refine own_getfield K own_d6_14 (host := "") (Or.inl (own_w25 hw)) Via.refl H (j := 1) rfl (q := 2) rfl ?_
    refine own_icmpge K own_d6_17 (fun _ => ?_) (fun q => absurd (by decide) q)
    refine own_iloadN K own_d6_41 rfl ?_
    refine own_aloadN K own_d6_42 rfl rfl ?_
    refine own_getfield K own_d6_43 (host := "") (Or.inl (own_w25 hw)) Via.refl H (j := 1) rfl (q := 2) rfl ?_
    refine own_icmpge K own_d6_46 (fun _ => ?_) (fun q => absurd (by decide) q)
    refine own_iinc K own_d6_79 rfl (y := (1 : Int32)) (by decide) (Ls' := #[.val (.ref a), .val (.ref b), .val (.int (1 : Int32)), .val (.int (1 : Int32))]) rfl ?_
    refine own_goto K own_d6_82 ?_
    refine own_iloadN K own_d6_4 rfl ?_
    refine own_aloadN K own_d6_5 rfl rfl ?_
    refine own_getfield K own_d6_6 (host := "") (Or.inl (own_w25 hw)) Via.refl H (j := 0) rfl (q := 2) rfl ?_
    refine own_icmpge K own_d6_9 (fun q => absurd q (by decide)) (fun _ => ?_)
    refine own_iloadN K own_d6_12 rfl ?_
    refine own_aloadN K own_d6_13 rfl rfl ?_
    refine own_getfield K own_d6_14 (host := "") (Or.inl (own_w25 hw)) Via.refl H (j := 1) rfl (q := 2) rfl ?_
    refine own_icmpge K own_d6_17 (fun _ => ?_) (fun q => absurd (by decide) q)
    refine own_iloadN K own_d6_41 rfl ?_
    refine own_aloadN K own_d6_42 rfl rfl ?_
    refine own_getfield K own_d6_43 (host := "") (Or.inl (own_w25 hw)) Via.refl H (j := 1) rfl (q := 2) rfl ?_
    refine own_icmpge K own_d6_46 (fun _ => ?_) (fun q => absurd (by decide) q)
    refine own_iinc K own_d6_79 rfl (y := (2 : Int32)) (by decide) (Ls' := #[.val (.ref a), .val (.ref b), .val (.int (1 : Int32)), .val (.int (2 : Int32))]) rfl ?_
    refine own_goto K own_d6_82 ?_
    refine own_iloadN K own_d6_4 rfl ?_
    refine own_aloadN K own_d6_5 rfl rfl ?_
    refine own_getfield K own_d6_6 (host := "") (Or.inl (own_w25 hw)) Via.refl H (j := 0) rfl (q := 2) rfl ?_
    refine own_icmpge K own_d6_9 (fun _ => ?_) (fun q => absurd (by decide) q)
    have k0 : (if e0 = r0 then FP.dadd s0 f0 else s0) = s0 := by (repeat' split) <;> first | rfl | (exfalso; simp only [← Int32.toInt_inj, ne_eq, Decidable.not_not] at *; omega)
    have k1 : (if e0 = r1 then FP.dadd s1 f0 else s1) = s1 := by (repeat' split) <;> first | rfl | (exfalso; simp only [← Int32.toInt_inj, ne_eq, Decidable.not_not] at *; omega)
    simp only [k0, k1]
    exact own_retV K own_d6_85 (by decide) (by decide) (⟨rfl, H⟩)
set_option maxRecDepth 65536 in
set_option maxHeartbeats 40000000 in
theorem own_adds_2_2_ef (m : MethodId) (x0 : Addr) (x1 : Addr) : entryFrame m #[(.ref x0), (.ref x1)] 4 = mkF m 0 #[.val (.ref x0), .val (.ref x1), .unset, .unset] [] := by first | (simp [entryFrame, mkF, argsToLocals, Value.category]; done) | rfl
set_option maxRecDepth 65536 in
set_option maxHeartbeats 40000000 in
theorem own_adds_2_2 {l : Launch} {Z : State} {a0 : Array Value} (hw : own_Z Z a0) {h : Heap} {os : List own_O} {as : List own_A} {a b da sa db sb : Addr} {r0 r1 : Int32} {s0 s1 : UInt64} {e0 e1 : Int32} {f0 f1 : UInt64} {x2 y2 x3 y3 u2 w2 u3 w3 : Value} (H : own_H Z h (own_SD a (.ref da) (.ref sa) (.int (2 : Int32)) :: own_SD b (.ref db) (.ref sb) (.int (2 : Int32)) :: os) ((da, .int, "[I", [(.int r0), (.int r1), x2, x3]) :: (sa, .double, "[D", [(.double s0), (.double s1), y2, y3]) :: (db, .int, "[I", [(.int e0), (.int e1), u2, u3]) :: (sb, .double, "[D", [(.double f0), (.double f1), w2, w3]) :: as)) (fs0 : Fl.Fin64 s0) (fs1 : Fl.Fin64 s1) (ff0 : Fl.Fin64 f0) (ff1 : Fl.Fin64 f1) (lr : r0.toInt < r1.toInt) (le0 : e0.toInt < e1.toInt) : own_Met false l Z (⟨"com/example/fielder/fielder/service/ScoredDocuments", "addScores", "(Lcom/example/fielder/fielder/service/ScoredDocuments;)V"⟩ : MethodName) prog_38_method_8_code 4 none [] ({ frames := 0, cells := 0, slots := 0, locals := 0 } : Room) #[(.ref a), (.ref b)] h (fun v h' => v = none ∧ own_H Z h' (own_SD a (.ref da) (.ref sa) (.int (2 : Int32)) :: own_SD b (.ref db) (.ref sb) (.int (2 : Int32)) :: os) ((da, .int, "[I", [(.int r0), (.int r1), x2, x3]) :: (sa, .double, "[D", [(.double (if e0 = r0 then FP.dadd s0 f0 else (if e1 = r0 then FP.dadd s0 f1 else s0))), (.double (if e0 = r1 then FP.dadd s1 f0 else (if e1 = r1 then FP.dadd s1 f1 else s1))), y2, y3]) :: (db, .int, "[I", [(.int e0), (.int e1), u2, u3]) :: (sb, .double, "[D", [(.double f0), (.double f1), w2, w3]) :: as)) := by
  refine own_met (by first | exact plainFor_of_name (by decide +kernel) | decide +kernel) ?_
  intro p e s m below meth c K
  refine own_cast (own_adds_2_2_ef m _ _) ?_
  refine own_iconst K own_d6_0 (v := (0 : Int32)) rfl ?_
  refine own_istoreN K own_d6_1 (Ls' := #[.val (.ref a), .val (.ref b), .val (.int (0 : Int32)), .unset]) rfl ?_
  refine own_iconst K own_d6_2 (v := (0 : Int32)) rfl ?_
  refine own_istoreN K own_d6_3 (Ls' := #[.val (.ref a), .val (.ref b), .val (.int (0 : Int32)), .val (.int (0 : Int32))]) rfl ?_
  refine own_iloadN K own_d6_4 rfl ?_
  refine own_aloadN K own_d6_5 rfl rfl ?_
  refine own_getfield K own_d6_6 (host := "") (Or.inl (own_w25 hw)) Via.refl H (j := 0) rfl (q := 2) rfl ?_
  refine own_icmpge K own_d6_9 (fun q => absurd q (by decide)) (fun _ => ?_)
  refine own_iloadN K own_d6_12 rfl ?_
  refine own_aloadN K own_d6_13 rfl rfl ?_
  refine own_getfield K own_d6_14 (host := "") (Or.inl (own_w25 hw)) Via.refl H (j := 1) rfl (q := 2) rfl ?_
  refine own_icmpge K own_d6_17 (fun q => absurd q (by decide)) (fun _ => ?_)
  refine own_aloadN K own_d6_20 rfl rfl ?_
  refine own_getfield K own_d6_21 (host := "") (Or.inl (own_w15 hw)) Via.refl H (j := 1) rfl (q := 0) rfl ?_
  refine own_iloadN K own_d6_24 rfl ?_
  refine own_iaload K own_d6_25 H (i := 2) rfl (q := 0) (by decide) (rfl) ?_
  refine own_aloadN K own_d6_26 rfl rfl ?_
  refine own_getfield K own_d6_27 (host := "") (Or.inl (own_w15 hw)) Via.refl H (j := 0) rfl (q := 0) rfl ?_
  refine own_iloadN K own_d6_30 rfl ?_
  refine own_iaload K own_d6_31 H (i := 0) rfl (q := 0) (by decide) (rfl) ?_
  refine own_icmpge K own_d6_32 (fun g1 => ?_) (fun g1 => ?_)
  · refine own_iloadN K own_d6_41 rfl ?_
    refine own_aloadN K own_d6_42 rfl rfl ?_
    refine own_getfield K own_d6_43 (host := "") (Or.inl (own_w25 hw)) Via.refl H (j := 1) rfl (q := 2) rfl ?_
    refine own_icmpge K own_d6_46 (fun q => absurd q (by decide)) (fun _ => ?_)
    refine own_aloadN K own_d6_49 rfl rfl ?_
    refine own_getfield K own_d6_50 (host := "") (Or.inl (own_w15 hw)) Via.refl H (j := 1) rfl (q := 0) rfl ?_
    refine own_iloadN K own_d6_53 rfl ?_
    refine own_iaload K own_d6_54 H (i := 2) rfl (q := 0) (by decide) (rfl) ?_
    refine own_aloadN K own_d6_55 rfl rfl ?_
    refine own_getfield K own_d6_56 (host := "") (Or.inl (own_w15 hw)) Via.refl H (j := 0) rfl (q := 0) rfl ?_
    refine own_iloadN K own_d6_59 rfl ?_
    refine own_iaload K own_d6_60 H (i := 0) rfl (q := 0) (by decide) (rfl) ?_
    refine own_icmpne K own_d6_61 (fun g2 => ?_) (fun g2 => ?_)
    · refine own_iinc K own_d6_79 rfl (y := (1 : Int32)) (by decide) (Ls' := #[.val (.ref a), .val (.ref b), .val (.int (0 : Int32)), .val (.int (1 : Int32))]) rfl ?_
      refine own_goto K own_d6_82 ?_
      refine own_iloadN K own_d6_4 rfl ?_
      refine own_aloadN K own_d6_5 rfl rfl ?_
      refine own_getfield K own_d6_6 (host := "") (Or.inl (own_w25 hw)) Via.refl H (j := 0) rfl (q := 2) rfl ?_
      refine own_icmpge K own_d6_9 (fun q => absurd q (by decide)) (fun _ => ?_)
      refine own_iloadN K own_d6_12 rfl ?_
      refine own_aloadN K own_d6_13 rfl rfl ?_
      refine own_getfield K own_d6_14 (host := "") (Or.inl (own_w25 hw)) Via.refl H (j := 1) rfl (q := 2) rfl ?_
      refine own_icmpge K own_d6_17 (fun q => absurd q (by decide)) (fun _ => ?_)
      refine own_aloadN K own_d6_20 rfl rfl ?_
      refine own_getfield K own_d6_21 (host := "") (Or.inl (own_w15 hw)) Via.refl H (j := 1) rfl (q := 0) rfl ?_
      refine own_iloadN K own_d6_24 rfl ?_
      refine own_iaload K own_d6_25 H (i := 2) rfl (q := 0) (by decide) (rfl) ?_
      refine own_aloadN K own_d6_26 rfl rfl ?_
      refine own_getfield K own_d6_27 (host := "") (Or.inl (own_w15 hw)) Via.refl H (j := 0) rfl (q := 0) rfl ?_
      refine own_iloadN K own_d6_30 rfl ?_
      refine own_iaload K own_d6_31 H (i := 0) rfl (q := 1) (by decide) (rfl) ?_
      refine own_icmpge K own_d6_32 (fun g3 => ?_) (fun g3 => ?_)
      · refine own_iloadN K own_d6_41 rfl ?_
        refine own_aloadN K own_d6_42 rfl rfl ?_
        refine own_getfield K own_d6_43 (host := "") (Or.inl (own_w25 hw)) Via.refl H (j := 1) rfl (q := 2) rfl ?_
        refine own_icmpge K own_d6_46 (fun q => absurd q (by decide)) (fun _ => ?_)
        refine own_aloadN K own_d6_49 rfl rfl ?_
        refine own_getfield K own_d6_50 (host := "") (Or.inl (own_w15 hw)) Via.refl H (j := 1) rfl (q := 0) rfl ?_
        refine own_iloadN K own_d6_53 rfl ?_
        refine own_iaload K own_d6_54 H (i := 2) rfl (q := 0) (by decide) (rfl) ?_
        refine own_aloadN K own_d6_55 rfl rfl ?_
        refine own_getfield K own_d6_56 (host := "") (Or.inl (own_w15 hw)) Via.refl H (j := 0) rfl (q := 0) rfl ?_
        refine own_iloadN K own_d6_59 rfl ?_
        refine own_iaload K own_d6_60 H (i := 0) rfl (q := 1) (by decide) (rfl) ?_
        refine own_icmpne K own_d6_61 (fun g4 => ?_) (fun g4 => ?_)
        · refine own_iinc K own_d6_79 rfl (y := (2 : Int32)) (by decide) (Ls' := #[.val (.ref a), .val (.ref b), .val (.int (0 : Int32)), .val (.int (2 : Int32))]) rfl ?_
          refine own_goto K own_d6_82 ?_
          refine own_iloadN K own_d6_4 rfl ?_
          refine own_aloadN K own_d6_5 rfl rfl ?_
          refine own_getfield K own_d6_6 (host := "") (Or.inl (own_w25 hw)) Via.refl H (j := 0) rfl (q := 2) rfl ?_
          refine own_icmpge K own_d6_9 (fun _ => ?_) (fun q => absurd (by decide) q)
          have k0 : (if e0 = r0 then FP.dadd s0 f0 else (if e1 = r0 then FP.dadd s0 f1 else s0)) = s0 := by (repeat' split) <;> first | rfl | (exfalso; simp only [← Int32.toInt_inj, ne_eq, Decidable.not_not] at *; omega)
          have k1 : (if e0 = r1 then FP.dadd s1 f0 else (if e1 = r1 then FP.dadd s1 f1 else s1)) = s1 := by (repeat' split) <;> first | rfl | (exfalso; simp only [← Int32.toInt_inj, ne_eq, Decidable.not_not] at *; omega)
          simp only [k0, k1]
          exact own_retV K own_d6_85 (by decide) (by decide) (⟨rfl, H⟩)
        · refine own_aloadN K own_d6_64 rfl rfl ?_
          refine own_getfield K own_d6_65 (host := "") (Or.inl (own_w18 hw)) Via.refl H (j := 0) rfl (q := 1) rfl ?_
          refine own_iloadN K own_d6_68 rfl ?_
          refine own_dup2 K own_d6_69 rfl rfl ?_
          refine own_daload K own_d6_70 H (i := 1) rfl (q := 1) (by decide) (rfl) ?_
          refine own_aloadN K own_d6_71 rfl rfl ?_
          refine own_getfield K own_d6_72 (host := "") (Or.inl (own_w18 hw)) Via.refl H (j := 1) rfl (q := 1) rfl ?_
          refine own_iloadN K own_d6_75 rfl ?_
          refine own_daload K own_d6_76 H (i := 3) rfl (q := 0) (by decide) (rfl) ?_
          refine own_dadd K own_d6_77 (Fl.dadd_out fs1.noNaN ff0) ?_
          refine own_dastore K own_d6_78 H (i := 1) rfl (q := 1) (by decide) (own_le rfl) ?_
          intro h5 H6
          replace H6 : own_H Z h5 (own_SD a (.ref da) (.ref sa) (.int (2 : Int32)) :: own_SD b (.ref db) (.ref sb) (.int (2 : Int32)) :: os) ((da, .int, "[I", [(.int r0), (.int r1), x2, x3]) :: (sa, .double, "[D", [(.double s0), (.double (FP.dadd s1 f0)), y2, y3]) :: (db, .int, "[I", [(.int e0), (.int e1), u2, u3]) :: (sb, .double, "[D", [(.double f0), (.double f1), w2, w3]) :: as) := H6
          refine own_iinc K own_d6_79 rfl (y := (2 : Int32)) (by decide) (Ls' := #[.val (.ref a), .val (.ref b), .val (.int (0 : Int32)), .val (.int (2 : Int32))]) rfl ?_
          refine own_goto K own_d6_82 ?_
          refine own_iloadN K own_d6_4 rfl ?_
          refine own_aloadN K own_d6_5 rfl rfl ?_
          refine own_getfield K own_d6_6 (host := "") (Or.inl (own_w25 hw)) Via.refl H6 (j := 0) rfl (q := 2) rfl ?_
          refine own_icmpge K own_d6_9 (fun _ => ?_) (fun q => absurd (by decide) q)
          have k0 : (if e0 = r0 then FP.dadd s0 f0 else (if e1 = r0 then FP.dadd s0 f1 else s0)) = s0 := by (repeat' split) <;> first | rfl | (exfalso; simp only [← Int32.toInt_inj, ne_eq, Decidable.not_not] at *; omega)
          have k1 : (if e0 = r1 then FP.dadd s1 f0 else (if e1 = r1 then FP.dadd s1 f1 else s1)) = (FP.dadd s1 f0) := by (repeat' split) <;> first | rfl | (exfalso; simp only [← Int32.toInt_inj, ne_eq, Decidable.not_not] at *; omega)
          simp only [k0, k1]
          exact own_retV K own_d6_85 (by decide) (by decide) (⟨rfl, H6⟩)
      · refine own_iinc K own_d6_35 rfl (y := (1 : Int32)) (by decide) (Ls' := #[.val (.ref a), .val (.ref b), .val (.int (1 : Int32)), .val (.int (1 : Int32))]) rfl ?_
        refine own_goto K own_d6_38 ?_
        refine own_iloadN K own_d6_12 rfl ?_
        refine own_aloadN K own_d6_13 rfl rfl ?_
        refine own_getfield K own_d6_14 (host := "") (Or.inl (own_w25 hw)) Via.refl H (j := 1) rfl (q := 2) rfl ?_
        refine own_icmpge K own_d6_17 (fun q => absurd q (by decide)) (fun _ => ?_)
        refine own_aloadN K own_d6_20 rfl rfl ?_
        refine own_getfield K own_d6_21 (host := "") (Or.inl (own_w15 hw)) Via.refl H (j := 1) rfl (q := 0) rfl ?_
        refine own_iloadN K own_d6_24 rfl ?_
        refine own_iaload K own_d6_25 H (i := 2) rfl (q := 1) (by decide) (rfl) ?_
        refine own_aloadN K own_d6_26 rfl rfl ?_
        refine own_getfield K own_d6_27 (host := "") (Or.inl (own_w15 hw)) Via.refl H (j := 0) rfl (q := 0) rfl ?_
        refine own_iloadN K own_d6_30 rfl ?_
        refine own_iaload K own_d6_31 H (i := 0) rfl (q := 1) (by decide) (rfl) ?_
        refine own_icmpge K own_d6_32 (fun g7 => ?_) (fun g7 => ?_)
        · refine own_iloadN K own_d6_41 rfl ?_
          refine own_aloadN K own_d6_42 rfl rfl ?_
          refine own_getfield K own_d6_43 (host := "") (Or.inl (own_w25 hw)) Via.refl H (j := 1) rfl (q := 2) rfl ?_
          refine own_icmpge K own_d6_46 (fun q => absurd q (by decide)) (fun _ => ?_)
          refine own_aloadN K own_d6_49 rfl rfl ?_
          refine own_getfield K own_d6_50 (host := "") (Or.inl (own_w15 hw)) Via.refl H (j := 1) rfl (q := 0) rfl ?_
          refine own_iloadN K own_d6_53 rfl ?_
          refine own_iaload K own_d6_54 H (i := 2) rfl (q := 1) (by decide) (rfl) ?_
          refine own_aloadN K own_d6_55 rfl rfl ?_
          refine own_getfield K own_d6_56 (host := "") (Or.inl (own_w15 hw)) Via.refl H (j := 0) rfl (q := 0) rfl ?_
          refine own_iloadN K own_d6_59 rfl ?_
          refine own_iaload K own_d6_60 H (i := 0) rfl (q := 1) (by decide) (rfl) ?_
          refine own_icmpne K own_d6_61 (fun g8 => ?_) (fun g8 => ?_)
          · refine own_iinc K own_d6_79 rfl (y := (2 : Int32)) (by decide) (Ls' := #[.val (.ref a), .val (.ref b), .val (.int (1 : Int32)), .val (.int (2 : Int32))]) rfl ?_
            refine own_goto K own_d6_82 ?_
            refine own_iloadN K own_d6_4 rfl ?_
            refine own_aloadN K own_d6_5 rfl rfl ?_
            refine own_getfield K own_d6_6 (host := "") (Or.inl (own_w25 hw)) Via.refl H (j := 0) rfl (q := 2) rfl ?_
            refine own_icmpge K own_d6_9 (fun _ => ?_) (fun q => absurd (by decide) q)
            have k0 : (if e0 = r0 then FP.dadd s0 f0 else (if e1 = r0 then FP.dadd s0 f1 else s0)) = s0 := by (repeat' split) <;> first | rfl | (exfalso; simp only [← Int32.toInt_inj, ne_eq, Decidable.not_not] at *; omega)
            have k1 : (if e0 = r1 then FP.dadd s1 f0 else (if e1 = r1 then FP.dadd s1 f1 else s1)) = s1 := by (repeat' split) <;> first | rfl | (exfalso; simp only [← Int32.toInt_inj, ne_eq, Decidable.not_not] at *; omega)
            simp only [k0, k1]
            exact own_retV K own_d6_85 (by decide) (by decide) (⟨rfl, H⟩)
          · refine own_aloadN K own_d6_64 rfl rfl ?_
            refine own_getfield K own_d6_65 (host := "") (Or.inl (own_w18 hw)) Via.refl H (j := 0) rfl (q := 1) rfl ?_
            refine own_iloadN K own_d6_68 rfl ?_
            refine own_dup2 K own_d6_69 rfl rfl ?_
            refine own_daload K own_d6_70 H (i := 1) rfl (q := 1) (by decide) (rfl) ?_
            refine own_aloadN K own_d6_71 rfl rfl ?_
            refine own_getfield K own_d6_72 (host := "") (Or.inl (own_w18 hw)) Via.refl H (j := 1) rfl (q := 1) rfl ?_
            refine own_iloadN K own_d6_75 rfl ?_
            refine own_daload K own_d6_76 H (i := 3) rfl (q := 1) (by decide) (rfl) ?_
            refine own_dadd K own_d6_77 (Fl.dadd_out fs1.noNaN ff1) ?_
            refine own_dastore K own_d6_78 H (i := 1) rfl (q := 1) (by decide) (own_le rfl) ?_
            intro h9 H10
            replace H10 : own_H Z h9 (own_SD a (.ref da) (.ref sa) (.int (2 : Int32)) :: own_SD b (.ref db) (.ref sb) (.int (2 : Int32)) :: os) ((da, .int, "[I", [(.int r0), (.int r1), x2, x3]) :: (sa, .double, "[D", [(.double s0), (.double (FP.dadd s1 f1)), y2, y3]) :: (db, .int, "[I", [(.int e0), (.int e1), u2, u3]) :: (sb, .double, "[D", [(.double f0), (.double f1), w2, w3]) :: as) := H10
            refine own_iinc K own_d6_79 rfl (y := (2 : Int32)) (by decide) (Ls' := #[.val (.ref a), .val (.ref b), .val (.int (1 : Int32)), .val (.int (2 : Int32))]) rfl ?_
            refine own_goto K own_d6_82 ?_
            refine own_iloadN K own_d6_4 rfl ?_
            refine own_aloadN K own_d6_5 rfl rfl ?_
            refine own_getfield K own_d6_6 (host := "") (Or.inl (own_w25 hw)) Via.refl H10 (j := 0) rfl (q := 2) rfl ?_
            refine own_icmpge K own_d6_9 (fun _ => ?_) (fun q => absurd (by decide) q)
            have k0 : (if e0 = r0 then FP.dadd s0 f0 else (if e1 = r0 then FP.dadd s0 f1 else s0)) = s0 := by (repeat' split) <;> first | rfl | (exfalso; simp only [← Int32.toInt_inj, ne_eq, Decidable.not_not] at *; omega)
            have k1 : (if e0 = r1 then FP.dadd s1 f0 else (if e1 = r1 then FP.dadd s1 f1 else s1)) = (FP.dadd s1 f1) := by (repeat' split) <;> first | rfl | (exfalso; simp only [← Int32.toInt_inj, ne_eq, Decidable.not_not] at *; omega)
            simp only [k0, k1]
            exact own_retV K own_d6_85 (by decide) (by decide) (⟨rfl, H10⟩)
        · refine own_iinc K own_d6_35 rfl (y := (2 : Int32)) (by decide) (Ls' := #[.val (.ref a), .val (.ref b), .val (.int (2 : Int32)), .val (.int (1 : Int32))]) rfl ?_
          refine own_goto K own_d6_38 ?_
          refine own_iloadN K own_d6_12 rfl ?_
          refine own_aloadN K own_d6_13 rfl rfl ?_
          refine own_getfield K own_d6_14 (host := "") (Or.inl (own_w25 hw)) Via.refl H (j := 1) rfl (q := 2) rfl ?_
          refine own_icmpge K own_d6_17 (fun _ => ?_) (fun q => absurd (by decide) q)
          refine own_iloadN K own_d6_41 rfl ?_
          refine own_aloadN K own_d6_42 rfl rfl ?_
          refine own_getfield K own_d6_43 (host := "") (Or.inl (own_w25 hw)) Via.refl H (j := 1) rfl (q := 2) rfl ?_
          refine own_icmpge K own_d6_46 (fun _ => ?_) (fun q => absurd (by decide) q)
          refine own_iinc K own_d6_79 rfl (y := (2 : Int32)) (by decide) (Ls' := #[.val (.ref a), .val (.ref b), .val (.int (2 : Int32)), .val (.int (2 : Int32))]) rfl ?_
          refine own_goto K own_d6_82 ?_
          refine own_iloadN K own_d6_4 rfl ?_
          refine own_aloadN K own_d6_5 rfl rfl ?_
          refine own_getfield K own_d6_6 (host := "") (Or.inl (own_w25 hw)) Via.refl H (j := 0) rfl (q := 2) rfl ?_
          refine own_icmpge K own_d6_9 (fun _ => ?_) (fun q => absurd (by decide) q)
          have k0 : (if e0 = r0 then FP.dadd s0 f0 else (if e1 = r0 then FP.dadd s0 f1 else s0)) = s0 := by (repeat' split) <;> first | rfl | (exfalso; simp only [← Int32.toInt_inj, ne_eq, Decidable.not_not] at *; omega)
          have k1 : (if e0 = r1 then FP.dadd s1 f0 else (if e1 = r1 then FP.dadd s1 f1 else s1)) = s1 := by (repeat' split) <;> first | rfl | (exfalso; simp only [← Int32.toInt_inj, ne_eq, Decidable.not_not] at *; omega)
          simp only [k0, k1]
          exact own_retV K own_d6_85 (by decide) (by decide) (⟨rfl, H⟩)
    · refine own_aloadN K own_d6_64 rfl rfl ?_
      refine own_getfield K own_d6_65 (host := "") (Or.inl (own_w18 hw)) Via.refl H (j := 0) rfl (q := 1) rfl ?_
      refine own_iloadN K own_d6_68 rfl ?_
      refine own_dup2 K own_d6_69 rfl rfl ?_
      refine own_daload K own_d6_70 H (i := 1) rfl (q := 0) (by decide) (rfl) ?_
      refine own_aloadN K own_d6_71 rfl rfl ?_
      refine own_getfield K own_d6_72 (host := "") (Or.inl (own_w18 hw)) Via.refl H (j := 1) rfl (q := 1) rfl ?_
      refine own_iloadN K own_d6_75 rfl ?_
      refine own_daload K own_d6_76 H (i := 3) rfl (q := 0) (by decide) (rfl) ?_
      refine own_dadd K own_d6_77 (Fl.dadd_out fs0.noNaN ff0) ?_
      refine own_dastore K own_d6_78 H (i := 1) rfl (q := 0) (by decide) (own_le rfl) ?_
      intro h11 H12
      replace H12 : own_H Z h11 (own_SD a (.ref da) (.ref sa) (.int (2 : Int32)) :: own_SD b (.ref db) (.ref sb) (.int (2 : Int32)) :: os) ((da, .int, "[I", [(.int r0), (.int r1), x2, x3]) :: (sa, .double, "[D", [(.double (FP.dadd s0 f0)), (.double s1), y2, y3]) :: (db, .int, "[I", [(.int e0), (.int e1), u2, u3]) :: (sb, .double, "[D", [(.double f0), (.double f1), w2, w3]) :: as) := H12
      refine own_iinc K own_d6_79 rfl (y := (1 : Int32)) (by decide) (Ls' := #[.val (.ref a), .val (.ref b), .val (.int (0 : Int32)), .val (.int (1 : Int32))]) rfl ?_
      refine own_goto K own_d6_82 ?_
      refine own_iloadN K own_d6_4 rfl ?_
      refine own_aloadN K own_d6_5 rfl rfl ?_
      refine own_getfield K own_d6_6 (host := "") (Or.inl (own_w25 hw)) Via.refl H12 (j := 0) rfl (q := 2) rfl ?_
      refine own_icmpge K own_d6_9 (fun q => absurd q (by decide)) (fun _ => ?_)
      refine own_iloadN K own_d6_12 rfl ?_
      refine own_aloadN K own_d6_13 rfl rfl ?_
      refine own_getfield K own_d6_14 (host := "") (Or.inl (own_w25 hw)) Via.refl H12 (j := 1) rfl (q := 2) rfl ?_
      refine own_icmpge K own_d6_17 (fun q => absurd q (by decide)) (fun _ => ?_)
      refine own_aloadN K own_d6_20 rfl rfl ?_
      refine own_getfield K own_d6_21 (host := "") (Or.inl (own_w15 hw)) Via.refl H12 (j := 1) rfl (q := 0) rfl ?_
      refine own_iloadN K own_d6_24 rfl ?_
      refine own_iaload K own_d6_25 H12 (i := 2) rfl (q := 0) (by decide) (rfl) ?_
      refine own_aloadN K own_d6_26 rfl rfl ?_
      refine own_getfield K own_d6_27 (host := "") (Or.inl (own_w15 hw)) Via.refl H12 (j := 0) rfl (q := 0) rfl ?_
      refine own_iloadN K own_d6_30 rfl ?_
      refine own_iaload K own_d6_31 H12 (i := 0) rfl (q := 1) (by decide) (rfl) ?_
      refine own_icmpge K own_d6_32 (fun g13 => ?_) (fun g13 => ?_)
      · refine own_iloadN K own_d6_41 rfl ?_
        refine own_aloadN K own_d6_42 rfl rfl ?_
        refine own_getfield K own_d6_43 (host := "") (Or.inl (own_w25 hw)) Via.refl H12 (j := 1) rfl (q := 2) rfl ?_
        refine own_icmpge K own_d6_46 (fun q => absurd q (by decide)) (fun _ => ?_)
        refine own_aloadN K own_d6_49 rfl rfl ?_
        refine own_getfield K own_d6_50 (host := "") (Or.inl (own_w15 hw)) Via.refl H12 (j := 1) rfl (q := 0) rfl ?_
        refine own_iloadN K own_d6_53 rfl ?_
        refine own_iaload K own_d6_54 H12 (i := 2) rfl (q := 0) (by decide) (rfl) ?_
        refine own_aloadN K own_d6_55 rfl rfl ?_
        refine own_getfield K own_d6_56 (host := "") (Or.inl (own_w15 hw)) Via.refl H12 (j := 0) rfl (q := 0) rfl ?_
        refine own_iloadN K own_d6_59 rfl ?_
        refine own_iaload K own_d6_60 H12 (i := 0) rfl (q := 1) (by decide) (rfl) ?_
        refine own_icmpne K own_d6_61 (fun g14 => ?_) (fun g14 => ?_)
        · refine own_iinc K own_d6_79 rfl (y := (2 : Int32)) (by decide) (Ls' := #[.val (.ref a), .val (.ref b), .val (.int (0 : Int32)), .val (.int (2 : Int32))]) rfl ?_
          refine own_goto K own_d6_82 ?_
          refine own_iloadN K own_d6_4 rfl ?_
          refine own_aloadN K own_d6_5 rfl rfl ?_
          refine own_getfield K own_d6_6 (host := "") (Or.inl (own_w25 hw)) Via.refl H12 (j := 0) rfl (q := 2) rfl ?_
          refine own_icmpge K own_d6_9 (fun _ => ?_) (fun q => absurd (by decide) q)
          have k0 : (if e0 = r0 then FP.dadd s0 f0 else (if e1 = r0 then FP.dadd s0 f1 else s0)) = (FP.dadd s0 f0) := by (repeat' split) <;> first | rfl | (exfalso; simp only [← Int32.toInt_inj, ne_eq, Decidable.not_not] at *; omega)
          have k1 : (if e0 = r1 then FP.dadd s1 f0 else (if e1 = r1 then FP.dadd s1 f1 else s1)) = s1 := by (repeat' split) <;> first | rfl | (exfalso; simp only [← Int32.toInt_inj, ne_eq, Decidable.not_not] at *; omega)
          simp only [k0, k1]
          exact own_retV K own_d6_85 (by decide) (by decide) (⟨rfl, H12⟩)
        · refine own_aloadN K own_d6_64 rfl rfl ?_
          refine own_getfield K own_d6_65 (host := "") (Or.inl (own_w18 hw)) Via.refl H12 (j := 0) rfl (q := 1) rfl ?_
          refine own_iloadN K own_d6_68 rfl ?_
          refine own_dup2 K own_d6_69 rfl rfl ?_
          refine own_daload K own_d6_70 H12 (i := 1) rfl (q := 1) (by decide) (rfl) ?_
          refine own_aloadN K own_d6_71 rfl rfl ?_
          refine own_getfield K own_d6_72 (host := "") (Or.inl (own_w18 hw)) Via.refl H12 (j := 1) rfl (q := 1) rfl ?_
          refine own_iloadN K own_d6_75 rfl ?_
          refine own_daload K own_d6_76 H12 (i := 3) rfl (q := 0) (by decide) (rfl) ?_
          refine own_dadd K own_d6_77 (Fl.dadd_out fs1.noNaN ff0) ?_
          refine own_dastore K own_d6_78 H12 (i := 1) rfl (q := 1) (by decide) (own_le rfl) ?_
          intro h15 H16
          replace H16 : own_H Z h15 (own_SD a (.ref da) (.ref sa) (.int (2 : Int32)) :: own_SD b (.ref db) (.ref sb) (.int (2 : Int32)) :: os) ((da, .int, "[I", [(.int r0), (.int r1), x2, x3]) :: (sa, .double, "[D", [(.double (FP.dadd s0 f0)), (.double (FP.dadd s1 f0)), y2, y3]) :: (db, .int, "[I", [(.int e0), (.int e1), u2, u3]) :: (sb, .double, "[D", [(.double f0), (.double f1), w2, w3]) :: as) := H16
          refine own_iinc K own_d6_79 rfl (y := (2 : Int32)) (by decide) (Ls' := #[.val (.ref a), .val (.ref b), .val (.int (0 : Int32)), .val (.int (2 : Int32))]) rfl ?_
          refine own_goto K own_d6_82 ?_
          refine own_iloadN K own_d6_4 rfl ?_
          refine own_aloadN K own_d6_5 rfl rfl ?_
          refine own_getfield K own_d6_6 (host := "") (Or.inl (own_w25 hw)) Via.refl H16 (j := 0) rfl (q := 2) rfl ?_
          refine own_icmpge K own_d6_9 (fun _ => ?_) (fun q => absurd (by decide) q)
          have k0 : (if e0 = r0 then FP.dadd s0 f0 else (if e1 = r0 then FP.dadd s0 f1 else s0)) = (FP.dadd s0 f0) := by (repeat' split) <;> first | rfl | (exfalso; simp only [← Int32.toInt_inj, ne_eq, Decidable.not_not] at *; omega)
          have k1 : (if e0 = r1 then FP.dadd s1 f0 else (if e1 = r1 then FP.dadd s1 f1 else s1)) = (FP.dadd s1 f0) := by (repeat' split) <;> first | rfl | (exfalso; simp only [← Int32.toInt_inj, ne_eq, Decidable.not_not] at *; omega)
          simp only [k0, k1]
          exact own_retV K own_d6_85 (by decide) (by decide) (⟨rfl, H16⟩)
      · refine own_iinc K own_d6_35 rfl (y := (1 : Int32)) (by decide) (Ls' := #[.val (.ref a), .val (.ref b), .val (.int (1 : Int32)), .val (.int (1 : Int32))]) rfl ?_
        refine own_goto K own_d6_38 ?_
        refine own_iloadN K own_d6_12 rfl ?_
        refine own_aloadN K own_d6_13 rfl rfl ?_
        refine own_getfield K own_d6_14 (host := "") (Or.inl (own_w25 hw)) Via.refl H12 (j := 1) rfl (q := 2) rfl ?_
        refine own_icmpge K own_d6_17 (fun q => absurd q (by decide)) (fun _ => ?_)
        refine own_aloadN K own_d6_20 rfl rfl ?_
        refine own_getfield K own_d6_21 (host := "") (Or.inl (own_w15 hw)) Via.refl H12 (j := 1) rfl (q := 0) rfl ?_
        refine own_iloadN K own_d6_24 rfl ?_
        refine own_iaload K own_d6_25 H12 (i := 2) rfl (q := 1) (by decide) (rfl) ?_
        refine own_aloadN K own_d6_26 rfl rfl ?_
        refine own_getfield K own_d6_27 (host := "") (Or.inl (own_w15 hw)) Via.refl H12 (j := 0) rfl (q := 0) rfl ?_
        refine own_iloadN K own_d6_30 rfl ?_
        refine own_iaload K own_d6_31 H12 (i := 0) rfl (q := 1) (by decide) (rfl) ?_
        refine own_icmpge K own_d6_32 (fun g17 => ?_) (fun g17 => ?_)
        · refine own_iloadN K own_d6_41 rfl ?_
          refine own_aloadN K own_d6_42 rfl rfl ?_
          refine own_getfield K own_d6_43 (host := "") (Or.inl (own_w25 hw)) Via.refl H12 (j := 1) rfl (q := 2) rfl ?_
          refine own_icmpge K own_d6_46 (fun q => absurd q (by decide)) (fun _ => ?_)
          refine own_aloadN K own_d6_49 rfl rfl ?_
          refine own_getfield K own_d6_50 (host := "") (Or.inl (own_w15 hw)) Via.refl H12 (j := 1) rfl (q := 0) rfl ?_
          refine own_iloadN K own_d6_53 rfl ?_
          refine own_iaload K own_d6_54 H12 (i := 2) rfl (q := 1) (by decide) (rfl) ?_
          refine own_aloadN K own_d6_55 rfl rfl ?_
          refine own_getfield K own_d6_56 (host := "") (Or.inl (own_w15 hw)) Via.refl H12 (j := 0) rfl (q := 0) rfl ?_
          refine own_iloadN K own_d6_59 rfl ?_
          refine own_iaload K own_d6_60 H12 (i := 0) rfl (q := 1) (by decide) (rfl) ?_
          refine own_icmpne K own_d6_61 (fun g18 => ?_) (fun g18 => ?_)
          · refine own_iinc K own_d6_79 rfl (y := (2 : Int32)) (by decide) (Ls' := #[.val (.ref a), .val (.ref b), .val (.int (1 : Int32)), .val (.int (2 : Int32))]) rfl ?_
            refine own_goto K own_d6_82 ?_
            refine own_iloadN K own_d6_4 rfl ?_
            refine own_aloadN K own_d6_5 rfl rfl ?_
            refine own_getfield K own_d6_6 (host := "") (Or.inl (own_w25 hw)) Via.refl H12 (j := 0) rfl (q := 2) rfl ?_
            refine own_icmpge K own_d6_9 (fun _ => ?_) (fun q => absurd (by decide) q)
            have k0 : (if e0 = r0 then FP.dadd s0 f0 else (if e1 = r0 then FP.dadd s0 f1 else s0)) = (FP.dadd s0 f0) := by (repeat' split) <;> first | rfl | (exfalso; simp only [← Int32.toInt_inj, ne_eq, Decidable.not_not] at *; omega)
            have k1 : (if e0 = r1 then FP.dadd s1 f0 else (if e1 = r1 then FP.dadd s1 f1 else s1)) = s1 := by (repeat' split) <;> first | rfl | (exfalso; simp only [← Int32.toInt_inj, ne_eq, Decidable.not_not] at *; omega)
            simp only [k0, k1]
            exact own_retV K own_d6_85 (by decide) (by decide) (⟨rfl, H12⟩)
          · refine own_aloadN K own_d6_64 rfl rfl ?_
            refine own_getfield K own_d6_65 (host := "") (Or.inl (own_w18 hw)) Via.refl H12 (j := 0) rfl (q := 1) rfl ?_
            refine own_iloadN K own_d6_68 rfl ?_
            refine own_dup2 K own_d6_69 rfl rfl ?_
            refine own_daload K own_d6_70 H12 (i := 1) rfl (q := 1) (by decide) (rfl) ?_
            refine own_aloadN K own_d6_71 rfl rfl ?_
            refine own_getfield K own_d6_72 (host := "") (Or.inl (own_w18 hw)) Via.refl H12 (j := 1) rfl (q := 1) rfl ?_
            refine own_iloadN K own_d6_75 rfl ?_
            refine own_daload K own_d6_76 H12 (i := 3) rfl (q := 1) (by decide) (rfl) ?_
            refine own_dadd K own_d6_77 (Fl.dadd_out fs1.noNaN ff1) ?_
            refine own_dastore K own_d6_78 H12 (i := 1) rfl (q := 1) (by decide) (own_le rfl) ?_
            intro h19 H20
            replace H20 : own_H Z h19 (own_SD a (.ref da) (.ref sa) (.int (2 : Int32)) :: own_SD b (.ref db) (.ref sb) (.int (2 : Int32)) :: os) ((da, .int, "[I", [(.int r0), (.int r1), x2, x3]) :: (sa, .double, "[D", [(.double (FP.dadd s0 f0)), (.double (FP.dadd s1 f1)), y2, y3]) :: (db, .int, "[I", [(.int e0), (.int e1), u2, u3]) :: (sb, .double, "[D", [(.double f0), (.double f1), w2, w3]) :: as) := H20
            refine own_iinc K own_d6_79 rfl (y := (2 : Int32)) (by decide) (Ls' := #[.val (.ref a), .val (.ref b), .val (.int (1 : Int32)), .val (.int (2 : Int32))]) rfl ?_
            refine own_goto K own_d6_82 ?_
            refine own_iloadN K own_d6_4 rfl ?_
            refine own_aloadN K own_d6_5 rfl rfl ?_
            refine own_getfield K own_d6_6 (host := "") (Or.inl (own_w25 hw)) Via.refl H20 (j := 0) rfl (q := 2) rfl ?_
            refine own_icmpge K own_d6_9 (fun _ => ?_) (fun q => absurd (by decide) q)
            have k0 : (if e0 = r0 then FP.dadd s0 f0 else (if e1 = r0 then FP.dadd s0 f1 else s0)) = (FP.dadd s0 f0) := by (repeat' split) <;> first | rfl | (exfalso; simp only [← Int32.toInt_inj, ne_eq, Decidable.not_not] at *; omega)
            have k1 : (if e0 = r1 then FP.dadd s1 f0 else (if e1 = r1 then FP.dadd s1 f1 else s1)) = (FP.dadd s1 f1) := by (repeat' split) <;> first | rfl | (exfalso; simp only [← Int32.toInt_inj, ne_eq, Decidable.not_not] at *; omega)
            simp only [k0, k1]
            exact own_retV K own_d6_85 (by decide) (by decide) (⟨rfl, H20⟩)
        · refine own_iinc K own_d6_35 rfl (y := (2 : Int32)) (by decide) (Ls' := #[.val (.ref a), .val (.ref b), .val (.int (2 : Int32)), .val (.int (1 : Int32))]) rfl ?_
          refine own_goto K own_d6_38 ?_
          refine own_iloadN K own_d6_12 rfl ?_
          refine own_aloadN K own_d6_13 rfl rfl ?_
          refine own_getfield K own_d6_14 (host := "") (Or.inl (own_w25 hw)) Via.refl H12 (j := 1) rfl (q := 2) rfl ?_
          refine own_icmpge K own_d6_17 (fun _ => ?_) (fun q => absurd (by decide) q)
          refine own_iloadN K own_d6_41 rfl ?_
          refine own_aloadN K own_d6_42 rfl rfl ?_
          refine own_getfield K own_d6_43 (host := "") (Or.inl (own_w25 hw)) Via.refl H12 (j := 1) rfl (q := 2) rfl ?_
          refine own_icmpge K own_d6_46 (fun _ => ?_) (fun q => absurd (by decide) q)
          refine own_iinc K own_d6_79 rfl (y := (2 : Int32)) (by decide) (Ls' := #[.val (.ref a), .val (.ref b), .val (.int (2 : Int32)), .val (.int (2 : Int32))]) rfl ?_
          refine own_goto K own_d6_82 ?_
          refine own_iloadN K own_d6_4 rfl ?_
          refine own_aloadN K own_d6_5 rfl rfl ?_
          refine own_getfield K own_d6_6 (host := "") (Or.inl (own_w25 hw)) Via.refl H12 (j := 0) rfl (q := 2) rfl ?_
          refine own_icmpge K own_d6_9 (fun _ => ?_) (fun q => absurd (by decide) q)
          have k0 : (if e0 = r0 then FP.dadd s0 f0 else (if e1 = r0 then FP.dadd s0 f1 else s0)) = (FP.dadd s0 f0) := by (repeat' split) <;> first | rfl | (exfalso; simp only [← Int32.toInt_inj, ne_eq, Decidable.not_not] at *; omega)
          have k1 : (if e0 = r1 then FP.dadd s1 f0 else (if e1 = r1 then FP.dadd s1 f1 else s1)) = s1 := by (repeat' split) <;> first | rfl | (exfalso; simp only [← Int32.toInt_inj, ne_eq, Decidable.not_not] at *; omega)
          simp only [k0, k1]
          exact own_retV K own_d6_85 (by decide) (by decide) (⟨rfl, H12⟩)
  · refine own_iinc K own_d6_35 rfl (y := (1 : Int32)) (by decide) (Ls' := #[.val (.ref a), .val (.ref b), .val (.int (1 : Int32)), .val (.int (0 : Int32))]) rfl ?_
    refine own_goto K own_d6_38 ?_
    refine own_iloadN K own_d6_12 rfl ?_
    refine own_aloadN K own_d6_13 rfl rfl ?_
    refine own_getfield K own_d6_14 (host := "") (Or.inl (own_w25 hw)) Via.refl H (j := 1) rfl (q := 2) rfl ?_
    refine own_icmpge K own_d6_17 (fun q => absurd q (by decide)) (fun _ => ?_)
    refine own_aloadN K own_d6_20 rfl rfl ?_
    refine own_getfield K own_d6_21 (host := "") (Or.inl (own_w15 hw)) Via.refl H (j := 1) rfl (q := 0) rfl ?_
    refine own_iloadN K own_d6_24 rfl ?_
    refine own_iaload K own_d6_25 H (i := 2) rfl (q := 1) (by decide) (rfl) ?_
    refine own_aloadN K own_d6_26 rfl rfl ?_
    refine own_getfield K own_d6_27 (host := "") (Or.inl (own_w15 hw)) Via.refl H (j := 0) rfl (q := 0) rfl ?_
    refine own_iloadN K own_d6_30 rfl ?_
    refine own_iaload K own_d6_31 H (i := 0) rfl (q := 0) (by decide) (rfl) ?_
    refine own_icmpge K own_d6_32 (fun g21 => ?_) (fun g21 => ?_)
    · refine own_iloadN K own_d6_41 rfl ?_
      refine own_aloadN K own_d6_42 rfl rfl ?_
      refine own_getfield K own_d6_43 (host := "") (Or.inl (own_w25 hw)) Via.refl H (j := 1) rfl (q := 2) rfl ?_
      refine own_icmpge K own_d6_46 (fun q => absurd q (by decide)) (fun _ => ?_)
      refine own_aloadN K own_d6_49 rfl rfl ?_
      refine own_getfield K own_d6_50 (host := "") (Or.inl (own_w15 hw)) Via.refl H (j := 1) rfl (q := 0) rfl ?_
      refine own_iloadN K own_d6_53 rfl ?_
      refine own_iaload K own_d6_54 H (i := 2) rfl (q := 1) (by decide) (rfl) ?_
      refine own_aloadN K own_d6_55 rfl rfl ?_
      refine own_getfield K own_d6_56 (host := "") (Or.inl (own_w15 hw)) Via.refl H (j := 0) rfl (q := 0) rfl ?_
      refine own_iloadN K own_d6_59 rfl ?_
      refine own_iaload K own_d6_60 H (i := 0) rfl (q := 0) (by decide) (rfl) ?_
      refine own_icmpne K own_d6_61 (fun g22 => ?_) (fun g22 => ?_)
      · refine own_iinc K own_d6_79 rfl (y := (1 : Int32)) (by decide) (Ls' := #[.val (.ref a), .val (.ref b), .val (.int (1 : Int32)), .val (.int (1 : Int32))]) rfl ?_
        refine own_goto K own_d6_82 ?_
        refine own_iloadN K own_d6_4 rfl ?_
        refine own_aloadN K own_d6_5 rfl rfl ?_
        refine own_getfield K own_d6_6 (host := "") (Or.inl (own_w25 hw)) Via.refl H (j := 0) rfl (q := 2) rfl ?_
        refine own_icmpge K own_d6_9 (fun q => absurd q (by decide)) (fun _ => ?_)
        refine own_iloadN K own_d6_12 rfl ?_
        refine own_aloadN K own_d6_13 rfl rfl ?_
        refine own_getfield K own_d6_14 (host := "") (Or.inl (own_w25 hw)) Via.refl H (j := 1) rfl (q := 2) rfl ?_
        refine own_icmpge K own_d6_17 (fun q => absurd q (by decide)) (fun _ => ?_)
        refine own_aloadN K own_d6_20 rfl rfl ?_
        refine own_getfield K own_d6_21 (host := "") (Or.inl (own_w15 hw)) Via.refl H (j := 1) rfl (q := 0) rfl ?_
        refine own_iloadN K own_d6_24 rfl ?_
        refine own_iaload K own_d6_25 H (i := 2) rfl (q := 1) (by decide) (rfl) ?_
        refine own_aloadN K own_d6_26 rfl rfl ?_
        refine own_getfield K own_d6_27 (host := "") (Or.inl (own_w15 hw)) Via.refl H (j := 0) rfl (q := 0) rfl ?_
        refine own_iloadN K own_d6_30 rfl ?_
        refine own_iaload K own_d6_31 H (i := 0) rfl (q := 1) (by decide) (rfl) ?_
        refine own_icmpge K own_d6_32 (fun g23 => ?_) (fun g23 => ?_)
        · refine own_iloadN K own_d6_41 rfl ?_
          refine own_aloadN K own_d6_42 rfl rfl ?_
          refine own_getfield K own_d6_43 (host := "") (Or.inl (own_w25 hw)) Via.refl H (j := 1) rfl (q := 2) rfl ?_
          refine own_icmpge K own_d6_46 (fun q => absurd q (by decide)) (fun _ => ?_)
          refine own_aloadN K own_d6_49 rfl rfl ?_
          refine own_getfield K own_d6_50 (host := "") (Or.inl (own_w15 hw)) Via.refl H (j := 1) rfl (q := 0) rfl ?_
          refine own_iloadN K own_d6_53 rfl ?_
          refine own_iaload K own_d6_54 H (i := 2) rfl (q := 1) (by decide) (rfl) ?_
          refine own_aloadN K own_d6_55 rfl rfl ?_
          refine own_getfield K own_d6_56 (host := "") (Or.inl (own_w15 hw)) Via.refl H (j := 0) rfl (q := 0) rfl ?_
          refine own_iloadN K own_d6_59 rfl ?_
          refine own_iaload K own_d6_60 H (i := 0) rfl (q := 1) (by decide) (rfl) ?_
          refine own_icmpne K own_d6_61 (fun g24 => ?_) (fun g24 => ?_)
          · refine own_iinc K own_d6_79 rfl (y := (2 : Int32)) (by decide) (Ls' := #[.val (.ref a), .val (.ref b), .val (.int (1 : Int32)), .val (.int (2 : Int32))]) rfl ?_
            refine own_goto K own_d6_82 ?_
            refine own_iloadN K own_d6_4 rfl ?_
            refine own_aloadN K own_d6_5 rfl rfl ?_
            refine own_getfield K own_d6_6 (host := "") (Or.inl (own_w25 hw)) Via.refl H (j := 0) rfl (q := 2) rfl ?_
            refine own_icmpge K own_d6_9 (fun _ => ?_) (fun q => absurd (by decide) q)
            have k0 : (if e0 = r0 then FP.dadd s0 f0 else (if e1 = r0 then FP.dadd s0 f1 else s0)) = s0 := by (repeat' split) <;> first | rfl | (exfalso; simp only [← Int32.toInt_inj, ne_eq, Decidable.not_not] at *; omega)
            have k1 : (if e0 = r1 then FP.dadd s1 f0 else (if e1 = r1 then FP.dadd s1 f1 else s1)) = s1 := by (repeat' split) <;> first | rfl | (exfalso; simp only [← Int32.toInt_inj, ne_eq, Decidable.not_not] at *; omega)
            simp only [k0, k1]
            exact own_retV K own_d6_85 (by decide) (by decide) (⟨rfl, H⟩)
          · refine own_aloadN K own_d6_64 rfl rfl ?_
            refine own_getfield K own_d6_65 (host := "") (Or.inl (own_w18 hw)) Via.refl H (j := 0) rfl (q := 1) rfl ?_
            refine own_iloadN K own_d6_68 rfl ?_
            refine own_dup2 K own_d6_69 rfl rfl ?_
            refine own_daload K own_d6_70 H (i := 1) rfl (q := 1) (by decide) (rfl) ?_
            refine own_aloadN K own_d6_71 rfl rfl ?_
            refine own_getfield K own_d6_72 (host := "") (Or.inl (own_w18 hw)) Via.refl H (j := 1) rfl (q := 1) rfl ?_
            refine own_iloadN K own_d6_75 rfl ?_
            refine own_daload K own_d6_76 H (i := 3) rfl (q := 1) (by decide) (rfl) ?_
            refine own_dadd K own_d6_77 (Fl.dadd_out fs1.noNaN ff1) ?_
            refine own_dastore K own_d6_78 H (i := 1) rfl (q := 1) (by decide) (own_le rfl) ?_
            intro h25 H26
            replace H26 : own_H Z h25 (own_SD a (.ref da) (.ref sa) (.int (2 : Int32)) :: own_SD b (.ref db) (.ref sb) (.int (2 : Int32)) :: os) ((da, .int, "[I", [(.int r0), (.int r1), x2, x3]) :: (sa, .double, "[D", [(.double s0), (.double (FP.dadd s1 f1)), y2, y3]) :: (db, .int, "[I", [(.int e0), (.int e1), u2, u3]) :: (sb, .double, "[D", [(.double f0), (.double f1), w2, w3]) :: as) := H26
            refine own_iinc K own_d6_79 rfl (y := (2 : Int32)) (by decide) (Ls' := #[.val (.ref a), .val (.ref b), .val (.int (1 : Int32)), .val (.int (2 : Int32))]) rfl ?_
            refine own_goto K own_d6_82 ?_
            refine own_iloadN K own_d6_4 rfl ?_
            refine own_aloadN K own_d6_5 rfl rfl ?_
            refine own_getfield K own_d6_6 (host := "") (Or.inl (own_w25 hw)) Via.refl H26 (j := 0) rfl (q := 2) rfl ?_
            refine own_icmpge K own_d6_9 (fun _ => ?_) (fun q => absurd (by decide) q)
            have k0 : (if e0 = r0 then FP.dadd s0 f0 else (if e1 = r0 then FP.dadd s0 f1 else s0)) = s0 := by (repeat' split) <;> first | rfl | (exfalso; simp only [← Int32.toInt_inj, ne_eq, Decidable.not_not] at *; omega)
            have k1 : (if e0 = r1 then FP.dadd s1 f0 else (if e1 = r1 then FP.dadd s1 f1 else s1)) = (FP.dadd s1 f1) := by (repeat' split) <;> first | rfl | (exfalso; simp only [← Int32.toInt_inj, ne_eq, Decidable.not_not] at *; omega)
            simp only [k0, k1]
            exact own_retV K own_d6_85 (by decide) (by decide) (⟨rfl, H26⟩)
        · refine own_iinc K own_d6_35 rfl (y := (2 : Int32)) (by decide) (Ls' := #[.val (.ref a), .val (.ref b), .val (.int (2 : Int32)), .val (.int (1 : Int32))]) rfl ?_
          refine own_goto K own_d6_38 ?_
          refine own_iloadN K own_d6_12 rfl ?_
          refine own_aloadN K own_d6_13 rfl rfl ?_
          refine own_getfield K own_d6_14 (host := "") (Or.inl (own_w25 hw)) Via.refl H (j := 1) rfl (q := 2) rfl ?_
          refine own_icmpge K own_d6_17 (fun _ => ?_) (fun q => absurd (by decide) q)
          refine own_iloadN K own_d6_41 rfl ?_
          refine own_aloadN K own_d6_42 rfl rfl ?_
          refine own_getfield K own_d6_43 (host := "") (Or.inl (own_w25 hw)) Via.refl H (j := 1) rfl (q := 2) rfl ?_
          refine own_icmpge K own_d6_46 (fun _ => ?_) (fun q => absurd (by decide) q)
          refine own_iinc K own_d6_79 rfl (y := (2 : Int32)) (by decide) (Ls' := #[.val (.ref a), .val (.ref b), .val (.int (2 : Int32)), .val (.int (2 : Int32))]) rfl ?_
          refine own_goto K own_d6_82 ?_
          refine own_iloadN K own_d6_4 rfl ?_
          refine own_aloadN K own_d6_5 rfl rfl ?_
          refine own_getfield K own_d6_6 (host := "") (Or.inl (own_w25 hw)) Via.refl H (j := 0) rfl (q := 2) rfl ?_
          refine own_icmpge K own_d6_9 (fun _ => ?_) (fun q => absurd (by decide) q)
          have k0 : (if e0 = r0 then FP.dadd s0 f0 else (if e1 = r0 then FP.dadd s0 f1 else s0)) = s0 := by (repeat' split) <;> first | rfl | (exfalso; simp only [← Int32.toInt_inj, ne_eq, Decidable.not_not] at *; omega)
          have k1 : (if e0 = r1 then FP.dadd s1 f0 else (if e1 = r1 then FP.dadd s1 f1 else s1)) = s1 := by (repeat' split) <;> first | rfl | (exfalso; simp only [← Int32.toInt_inj, ne_eq, Decidable.not_not] at *; omega)
          simp only [k0, k1]
          exact own_retV K own_d6_85 (by decide) (by decide) (⟨rfl, H⟩)
      · refine own_aloadN K own_d6_64 rfl rfl ?_
        refine own_getfield K own_d6_65 (host := "") (Or.inl (own_w18 hw)) Via.refl H (j := 0) rfl (q := 1) rfl ?_
        refine own_iloadN K own_d6_68 rfl ?_
        refine own_dup2 K own_d6_69 rfl rfl ?_
        refine own_daload K own_d6_70 H (i := 1) rfl (q := 0) (by decide) (rfl) ?_
        refine own_aloadN K own_d6_71 rfl rfl ?_
        refine own_getfield K own_d6_72 (host := "") (Or.inl (own_w18 hw)) Via.refl H (j := 1) rfl (q := 1) rfl ?_
        refine own_iloadN K own_d6_75 rfl ?_
        refine own_daload K own_d6_76 H (i := 3) rfl (q := 1) (by decide) (rfl) ?_
        refine own_dadd K own_d6_77 (Fl.dadd_out fs0.noNaN ff1) ?_
        refine own_dastore K own_d6_78 H (i := 1) rfl (q := 0) (by decide) (own_le rfl) ?_
        intro h27 H28
        replace H28 : own_H Z h27 (own_SD a (.ref da) (.ref sa) (.int (2 : Int32)) :: own_SD b (.ref db) (.ref sb) (.int (2 : Int32)) :: os) ((da, .int, "[I", [(.int r0), (.int r1), x2, x3]) :: (sa, .double, "[D", [(.double (FP.dadd s0 f1)), (.double s1), y2, y3]) :: (db, .int, "[I", [(.int e0), (.int e1), u2, u3]) :: (sb, .double, "[D", [(.double f0), (.double f1), w2, w3]) :: as) := H28
        refine own_iinc K own_d6_79 rfl (y := (1 : Int32)) (by decide) (Ls' := #[.val (.ref a), .val (.ref b), .val (.int (1 : Int32)), .val (.int (1 : Int32))]) rfl ?_
        refine own_goto K own_d6_82 ?_
        refine own_iloadN K own_d6_4 rfl ?_
        refine own_aloadN K own_d6_5 rfl rfl ?_
        refine own_getfield K own_d6_6 (host := "") (Or.inl (own_w25 hw)) Via.refl H28 (j := 0) rfl (q := 2) rfl ?_
        refine own_icmpge K own_d6_9 (fun q => absurd q (by decide)) (fun _ => ?_)
        refine own_iloadN K own_d6_12 rfl ?_
        refine own_aloadN K own_d6_13 rfl rfl ?_
        refine own_getfield K own_d6_14 (host := "") (Or.inl (own_w25 hw)) Via.refl H28 (j := 1) rfl (q := 2) rfl ?_
        refine own_icmpge K own_d6_17 (fun q => absurd q (by decide)) (fun _ => ?_)
        refine own_aloadN K own_d6_20 rfl rfl ?_
        refine own_getfield K own_d6_21 (host := "") (Or.inl (own_w15 hw)) Via.refl H28 (j := 1) rfl (q := 0) rfl ?_
        refine own_iloadN K own_d6_24 rfl ?_
        refine own_iaload K own_d6_25 H28 (i := 2) rfl (q := 1) (by decide) (rfl) ?_
        refine own_aloadN K own_d6_26 rfl rfl ?_
        refine own_getfield K own_d6_27 (host := "") (Or.inl (own_w15 hw)) Via.refl H28 (j := 0) rfl (q := 0) rfl ?_
        refine own_iloadN K own_d6_30 rfl ?_
        refine own_iaload K own_d6_31 H28 (i := 0) rfl (q := 1) (by decide) (rfl) ?_
        refine own_icmpge K own_d6_32 (fun g29 => ?_) (fun g29 => ?_)
        · refine own_iloadN K own_d6_41 rfl ?_
          refine own_aloadN K own_d6_42 rfl rfl ?_
          refine own_getfield K own_d6_43 (host := "") (Or.inl (own_w25 hw)) Via.refl H28 (j := 1) rfl (q := 2) rfl ?_
          refine own_icmpge K own_d6_46 (fun q => absurd q (by decide)) (fun _ => ?_)
          refine own_aloadN K own_d6_49 rfl rfl ?_
          refine own_getfield K own_d6_50 (host := "") (Or.inl (own_w15 hw)) Via.refl H28 (j := 1) rfl (q := 0) rfl ?_
          refine own_iloadN K own_d6_53 rfl ?_
          refine own_iaload K own_d6_54 H28 (i := 2) rfl (q := 1) (by decide) (rfl) ?_
          refine own_aloadN K own_d6_55 rfl rfl ?_
          refine own_getfield K own_d6_56 (host := "") (Or.inl (own_w15 hw)) Via.refl H28 (j := 0) rfl (q := 0) rfl ?_
          refine own_iloadN K own_d6_59 rfl ?_
          refine own_iaload K own_d6_60 H28 (i := 0) rfl (q := 1) (by decide) (rfl) ?_
          refine own_icmpne K own_d6_61 (fun g30 => ?_) (fun g30 => ?_)
          · refine own_iinc K own_d6_79 rfl (y := (2 : Int32)) (by decide) (Ls' := #[.val (.ref a), .val (.ref b), .val (.int (1 : Int32)), .val (.int (2 : Int32))]) rfl ?_
            refine own_goto K own_d6_82 ?_
            refine own_iloadN K own_d6_4 rfl ?_
            refine own_aloadN K own_d6_5 rfl rfl ?_
            refine own_getfield K own_d6_6 (host := "") (Or.inl (own_w25 hw)) Via.refl H28 (j := 0) rfl (q := 2) rfl ?_
            refine own_icmpge K own_d6_9 (fun _ => ?_) (fun q => absurd (by decide) q)
            have k0 : (if e0 = r0 then FP.dadd s0 f0 else (if e1 = r0 then FP.dadd s0 f1 else s0)) = (FP.dadd s0 f1) := by (repeat' split) <;> first | rfl | (exfalso; simp only [← Int32.toInt_inj, ne_eq, Decidable.not_not] at *; omega)
            have k1 : (if e0 = r1 then FP.dadd s1 f0 else (if e1 = r1 then FP.dadd s1 f1 else s1)) = s1 := by (repeat' split) <;> first | rfl | (exfalso; simp only [← Int32.toInt_inj, ne_eq, Decidable.not_not] at *; omega)
            simp only [k0, k1]
            exact own_retV K own_d6_85 (by decide) (by decide) (⟨rfl, H28⟩)
          · refine own_aloadN K own_d6_64 rfl rfl ?_
            refine own_getfield K own_d6_65 (host := "") (Or.inl (own_w18 hw)) Via.refl H28 (j := 0) rfl (q := 1) rfl ?_
            refine own_iloadN K own_d6_68 rfl ?_
            refine own_dup2 K own_d6_69 rfl rfl ?_
            refine own_daload K own_d6_70 H28 (i := 1) rfl (q := 1) (by decide) (rfl) ?_
            refine own_aloadN K own_d6_71 rfl rfl ?_
            refine own_getfield K own_d6_72 (host := "") (Or.inl (own_w18 hw)) Via.refl H28 (j := 1) rfl (q := 1) rfl ?_
            refine own_iloadN K own_d6_75 rfl ?_
            refine own_daload K own_d6_76 H28 (i := 3) rfl (q := 1) (by decide) (rfl) ?_
            refine own_dadd K own_d6_77 (Fl.dadd_out fs1.noNaN ff1) ?_
            refine own_dastore K own_d6_78 H28 (i := 1) rfl (q := 1) (by decide) (own_le rfl) ?_
            intro h31 H32
            replace H32 : own_H Z h31 (own_SD a (.ref da) (.ref sa) (.int (2 : Int32)) :: own_SD b (.ref db) (.ref sb) (.int (2 : Int32)) :: os) ((da, .int, "[I", [(.int r0), (.int r1), x2, x3]) :: (sa, .double, "[D", [(.double (FP.dadd s0 f1)), (.double (FP.dadd s1 f1)), y2, y3]) :: (db, .int, "[I", [(.int e0), (.int e1), u2, u3]) :: (sb, .double, "[D", [(.double f0), (.double f1), w2, w3]) :: as) := H32
            refine own_iinc K own_d6_79 rfl (y := (2 : Int32)) (by decide) (Ls' := #[.val (.ref a), .val (.ref b), .val (.int (1 : Int32)), .val (.int (2 : Int32))]) rfl ?_
            refine own_goto K own_d6_82 ?_
            refine own_iloadN K own_d6_4 rfl ?_
            refine own_aloadN K own_d6_5 rfl rfl ?_
            refine own_getfield K own_d6_6 (host := "") (Or.inl (own_w25 hw)) Via.refl H32 (j := 0) rfl (q := 2) rfl ?_
            refine own_icmpge K own_d6_9 (fun _ => ?_) (fun q => absurd (by decide) q)
            have k0 : (if e0 = r0 then FP.dadd s0 f0 else (if e1 = r0 then FP.dadd s0 f1 else s0)) = (FP.dadd s0 f1) := by (repeat' split) <;> first | rfl | (exfalso; simp only [← Int32.toInt_inj, ne_eq, Decidable.not_not] at *; omega)
            have k1 : (if e0 = r1 then FP.dadd s1 f0 else (if e1 = r1 then FP.dadd s1 f1 else s1)) = (FP.dadd s1 f1) := by (repeat' split) <;> first | rfl | (exfalso; simp only [← Int32.toInt_inj, ne_eq, Decidable.not_not] at *; omega)
            simp only [k0, k1]
            exact own_retV K own_d6_85 (by decide) (by decide) (⟨rfl, H32⟩)
        · refine own_iinc K own_d6_35 rfl (y := (2 : Int32)) (by decide) (Ls' := #[.val (.ref a), .val (.ref b), .val (.int (2 : Int32)), .val (.int (1 : Int32))]) rfl ?_
          refine own_goto K own_d6_38 ?_
          refine own_iloadN K own_d6_12 rfl ?_
          refine own_aloadN K own_d6_13 rfl rfl ?_
          refine own_getfield K own_d6_14 (host := "") (Or.inl (own_w25 hw)) Via.refl H28 (j := 1) rfl (q := 2) rfl ?_
          refine own_icmpge K own_d6_17 (fun _ => ?_) (fun q => absurd (by decide) q)
          refine own_iloadN K own_d6_41 rfl ?_
          refine own_aloadN K own_d6_42 rfl rfl ?_
          refine own_getfield K own_d6_43 (host := "") (Or.inl (own_w25 hw)) Via.refl H28 (j := 1) rfl (q := 2) rfl ?_
          refine own_icmpge K own_d6_46 (fun _ => ?_) (fun q => absurd (by decide) q)
          refine own_iinc K own_d6_79 rfl (y := (2 : Int32)) (by decide) (Ls' := #[.val (.ref a), .val (.ref b), .val (.int (2 : Int32)), .val (.int (2 : Int32))]) rfl ?_
          refine own_goto K own_d6_82 ?_
          refine own_iloadN K own_d6_4 rfl ?_
          refine own_aloadN K own_d6_5 rfl rfl ?_
          refine own_getfield K own_d6_6 (host := "") (Or.inl (own_w25 hw)) Via.refl H28 (j := 0) rfl (q := 2) rfl ?_
          refine own_icmpge K own_d6_9 (fun _ => ?_) (fun q => absurd (by decide) q)
          have k0 : (if e0 = r0 then FP.dadd s0 f0 else (if e1 = r0 then FP.dadd s0 f1 else s0)) = (FP.dadd s0 f1) := by (repeat' split) <;> first | rfl | (exfalso; simp only [← Int32.toInt_inj, ne_eq, Decidable.not_not] at *; omega)
          have k1 : (if e0 = r1 then FP.dadd s1 f0 else (if e1 = r1 then FP.dadd s1 f1 else s1)) = s1 := by (repeat' split) <;> first | rfl | (exfalso; simp only [← Int32.toInt_inj, ne_eq, Decidable.not_not] at *; omega)
          simp only [k0, k1]
          exact own_retV K own_d6_85 (by decide) (by decide) (⟨rfl, H28⟩)
    · refine own_iinc K own_d6_35 rfl (y := (2 : Int32)) (by decide) (Ls' := #[.val (.ref a), .val (.ref b), .val (.int (2 : Int32)), .val (.int (0 : Int32))]) rfl ?_
      refine own_goto K own_d6_38 ?_
      refine own_iloadN K own_d6_12 rfl ?_
      refine own_aloadN K own_d6_13 rfl rfl ?_
      refine own_getfield K own_d6_14 (host := "") (Or.inl (own_w25 hw)) Via.refl H (j := 1) rfl (q := 2) rfl ?_
      refine own_icmpge K own_d6_17 (fun _ => ?_) (fun q => absurd (by decide) q)
      refine own_iloadN K own_d6_41 rfl ?_
      refine own_aloadN K own_d6_42 rfl rfl ?_
      refine own_getfield K own_d6_43 (host := "") (Or.inl (own_w25 hw)) Via.refl H (j := 1) rfl (q := 2) rfl ?_
      refine own_icmpge K own_d6_46 (fun _ => ?_) (fun q => absurd (by decide) q)
      refine own_iinc K own_d6_79 rfl (y := (1 : Int32)) (by decide) (Ls' := #[.val (.ref a), .val (.ref b), .val (.int (2 : Int32)), .val (.int (1 : Int32))]) rfl ?_
      refine own_goto K own_d6_82 ?_
      refine own_iloadN K own_d6_4 rfl ?_
      refine own_aloadN K own_d6_5 rfl rfl ?_
      refine own_getfield K own_d6_6 (host := "") (Or.inl (own_w25 hw)) Via.refl H (j := 0) rfl (q := 2) rfl ?_
      refine own_icmpge K own_d6_9 (fun q => absurd q (by decide)) (fun _ => ?_)
      refine own_iloadN K own_d6_12 rfl ?_
      refine own_aloadN K own_d6_13 rfl rfl ?_
      refine own_getfield K own_d6_14 (host := "") (Or.inl (own_w25 hw)) Via.refl H (j := 1) rfl (q := 2) rfl ?_
      refine own_icmpge K own_d6_17 (fun _ => ?_) (fun q => absurd (by decide) q)
      refine own_iloadN K own_d6_41 rfl ?_
      refine own_aloadN K own_d6_42 rfl rfl ?_
      refine own_getfield K own_d6_43 (host := "") (Or.inl (own_w25 hw)) Via.refl H (j := 1) rfl (q := 2) rfl ?_
      refine own_icmpge K own_d6_46 (fun _ => ?_) (fun q => absurd (by decide) q)
      refine own_iinc K own_d6_79 rfl (y := (2 : Int32)) (by decide) (Ls' := #[.val (.ref a), .val (.ref b), .val (.int (2 : Int32)), .val (.int (2 : Int32))]) rfl ?_
      refine own_goto K own_d6_82 ?_
      refine own_iloadN K own_d6_4 rfl ?_
      refine own_aloadN K own_d6_5 rfl rfl ?_
      refine own_getfield K own_d6_6 (host := "") (Or.inl (own_w25 hw)) Via.refl H (j := 0) rfl (q := 2) rfl ?_
      refine own_icmpge K own_d6_9 (fun _ => ?_) (fun q => absurd (by decide) q)
      have k0 : (if e0 = r0 then FP.dadd s0 f0 else (if e1 = r0 then FP.dadd s0 f1 else s0)) = s0 := by (repeat' split) <;> first | rfl | (exfalso; simp only [← Int32.toInt_inj, ne_eq, Decidable.not_not] at *; omega)
      have k1 : (if e0 = r1 then FP.dadd s1 f0 else (if e1 = r1 then FP.dadd s1 f1 else s1)) = s1 := by (repeat' split) <;> first | rfl | (exfalso; simp only [← Int32.toInt_inj, ne_eq, Decidable.not_not] at *; omega)
      simp only [k0, k1]
      exact own_retV K own_d6_85 (by decide) (by decide) (⟨rfl, H⟩)
set_option maxRecDepth 65536 in
set_option maxHeartbeats 40000000 in
theorem own_adds_2_3_ef (m : MethodId) (x0 : Addr) (x1 : Addr) : entryFrame m #[(.ref x0), (.ref x1)] 4 = mkF m 0 #[.val (.ref x0), .val (.ref x1), .unset, .unset] [] := by first | (simp [entryFrame, mkF, argsToLocals, Value.category]; done) | rfl
set_option maxRecDepth 65536 in
set_option maxHeartbeats 40000000 in
theorem own_adds_2_3 {l : Launch} {Z : State} {a0 : Array Value} (hw : own_Z Z a0) {h : Heap} {os : List own_O} {as : List own_A} {a b da sa db sb : Addr} {r0 r1 : Int32} {s0 s1 : UInt64} {e0 e1 e2 : Int32} {f0 f1 f2 : UInt64} {x2 y2 x3 y3 u3 w3 : Value} (H : own_H Z h (own_SD a (.ref da) (.ref sa) (.int (2 : Int32)) :: own_SD b (.ref db) (.ref sb) (.int (3 : Int32)) :: os) ((da, .int, "[I", [(.int r0), (.int r1), x2, x3]) :: (sa, .double, "[D", [(.double s0), (.double s1), y2, y3]) :: (db, .int, "[I", [(.int e0), (.int e1), (.int e2), u3]) :: (sb, .double, "[D", [(.double f0), (.double f1), (.double f2), w3]) :: as)) (fs0 : Fl.Fin64 s0) (fs1 : Fl.Fin64 s1) (ff0 : Fl.Fin64 f0) (ff1 : Fl.Fin64 f1) (ff2 : Fl.Fin64 f2) (lr : r0.toInt < r1.toInt) (le0 : e0.toInt < e1.toInt) (le1 : e1.toInt < e2.toInt) : own_Met false l Z (⟨"com/example/fielder/fielder/service/ScoredDocuments", "addScores", "(Lcom/example/fielder/fielder/service/ScoredDocuments;)V"⟩ : MethodName) prog_38_method_8_code 4 none [] ({ frames := 0, cells := 0, slots := 0, locals := 0 } : Room) #[(.ref a), (.ref b)] h (fun v h' => v = none ∧ own_H Z h' (own_SD a (.ref da) (.ref sa) (.int (2 : Int32)) :: own_SD b (.ref db) (.ref sb) (.int (3 : Int32)) :: os) ((da, .int, "[I", [(.int r0), (.int r1), x2, x3]) :: (sa, .double, "[D", [(.double (if e0 = r0 then FP.dadd s0 f0 else (if e1 = r0 then FP.dadd s0 f1 else (if e2 = r0 then FP.dadd s0 f2 else s0)))), (.double (if e0 = r1 then FP.dadd s1 f0 else (if e1 = r1 then FP.dadd s1 f1 else (if e2 = r1 then FP.dadd s1 f2 else s1)))), y2, y3]) :: (db, .int, "[I", [(.int e0), (.int e1), (.int e2), u3]) :: (sb, .double, "[D", [(.double f0), (.double f1), (.double f2), w3]) :: as)) := by
  refine own_met (by first | exact plainFor_of_name (by decide +kernel) | decide +kernel) ?_
  intro p e s m below meth c K
  refine own_cast (own_adds_2_3_ef m _ _) ?_
  refine own_iconst K own_d6_0 (v := (0 : Int32)) rfl ?_
  refine own_istoreN K own_d6_1 (Ls' := #[.val (.ref a), .val (.ref b), .val (.int (0 : Int32)), .unset]) rfl ?_
  refine own_iconst K own_d6_2 (v := (0 : Int32)) rfl ?_
  refine own_istoreN K own_d6_3 (Ls' := #[.val (.ref a), .val (.ref b), .val (.int (0 : Int32)), .val (.int (0 : Int32))]) rfl ?_
  refine own_iloadN K own_d6_4 rfl ?_
  refine own_aloadN K own_d6_5 rfl rfl ?_
  refine own_getfield K own_d6_6 (host := "") (Or.inl (own_w25 hw)) Via.refl H (j := 0) rfl (q := 2) rfl ?_
  refine own_icmpge K own_d6_9 (fun q => absurd q (by decide)) (fun _ => ?_)
  refine own_iloadN K own_d6_12 rfl ?_
  refine own_aloadN K own_d6_13 rfl rfl ?_
  refine own_getfield K own_d6_14 (host := "") (Or.inl (own_w25 hw)) Via.refl H (j := 1) rfl (q := 2) rfl ?_
  refine own_icmpge K own_d6_17 (fun q => absurd q (by decide)) (fun _ => ?_)
  refine own_aloadN K own_d6_20 rfl rfl ?_
  refine own_getfield K own_d6_21 (host := "") (Or.inl (own_w15 hw)) Via.refl H (j := 1) rfl (q := 0) rfl ?_
  refine own_iloadN K own_d6_24 rfl ?_
  refine own_iaload K own_d6_25 H (i := 2) rfl (q := 0) (by decide) (rfl) ?_
  refine own_aloadN K own_d6_26 rfl rfl ?_
  refine own_getfield K own_d6_27 (host := "") (Or.inl (own_w15 hw)) Via.refl H (j := 0) rfl (q := 0) rfl ?_
  refine own_iloadN K own_d6_30 rfl ?_
  refine own_iaload K own_d6_31 H (i := 0) rfl (q := 0) (by decide) (rfl) ?_
  refine own_icmpge K own_d6_32 (fun g1 => ?_) (fun g1 => ?_)
  · refine own_iloadN K own_d6_41 rfl ?_
    refine own_aloadN K own_d6_42 rfl rfl ?_
    refine own_getfield K own_d6_43 (host := "") (Or.inl (own_w25 hw)) Via.refl H (j := 1) rfl (q := 2) rfl ?_
    refine own_icmpge K own_d6_46 (fun q => absurd q (by decide)) (fun _ => ?_)
    refine own_aloadN K own_d6_49 rfl rfl ?_
    refine own_getfield K own_d6_50 (host := "") (Or.inl (own_w15 hw)) Via.refl H (j := 1) rfl (q := 0) rfl ?_
    refine own_iloadN K own_d6_53 rfl ?_
    refine own_iaload K own_d6_54 H (i := 2) rfl (q := 0) (by decide) (rfl) ?_
    refine own_aloadN K own_d6_55 rfl rfl ?_
    refine own_getfield K own_d6_56 (host := "") (Or.inl (own_w15 hw)) Via.refl H (j := 0) rfl (q := 0) rfl ?_
    refine own_iloadN K own_d6_59 rfl ?_
    refine own_iaload K own_d6_60 H (i := 0) rfl (q := 0) (by decide) (rfl) ?_
    refine own_icmpne K own_d6_61 (fun g2 => ?_) (fun g2 => ?_)
    · refine own_iinc K own_d6_79 rfl (y := (1 : Int32)) (by decide) (Ls' := #[.val (.ref a), .val (.ref b), .val (.int (0 : Int32)), .val (.int (1 : Int32))]) rfl ?_
      refine own_goto K own_d6_82 ?_
      refine own_iloadN K own_d6_4 rfl ?_
      refine own_aloadN K own_d6_5 rfl rfl ?_
      refine own_getfield K own_d6_6 (host := "") (Or.inl (own_w25 hw)) Via.refl H (j := 0) rfl (q := 2) rfl ?_
      refine own_icmpge K own_d6_9 (fun q => absurd q (by decide)) (fun _ => ?_)
      refine own_iloadN K own_d6_12 rfl ?_
      refine own_aloadN K own_d6_13 rfl rfl ?_
      refine own_getfield K own_d6_14 (host := "") (Or.inl (own_w25 hw)) Via.refl H (j := 1) rfl (q := 2) rfl ?_
      refine own_icmpge K own_d6_17 (fun q => absurd q (by decide)) (fun _ => ?_)
      refine own_aloadN K own_d6_20 rfl rfl ?_
      refine own_getfield K own_d6_21 (host := "") (Or.inl (own_w15 hw)) Via.refl H (j := 1) rfl (q := 0) rfl ?_
      refine own_iloadN K own_d6_24 rfl ?_
      refine own_iaload K own_d6_25 H (i := 2) rfl (q := 0) (by decide) (rfl) ?_
      refine own_aloadN K own_d6_26 rfl rfl ?_
      refine own_getfield K own_d6_27 (host := "") (Or.inl (own_w15 hw)) Via.refl H (j := 0) rfl (q := 0) rfl ?_
      refine own_iloadN K own_d6_30 rfl ?_
      refine own_iaload K own_d6_31 H (i := 0) rfl (q := 1) (by decide) (rfl) ?_
      refine own_icmpge K own_d6_32 (fun g3 => ?_) (fun g3 => ?_)
      · refine own_iloadN K own_d6_41 rfl ?_
        refine own_aloadN K own_d6_42 rfl rfl ?_
        refine own_getfield K own_d6_43 (host := "") (Or.inl (own_w25 hw)) Via.refl H (j := 1) rfl (q := 2) rfl ?_
        refine own_icmpge K own_d6_46 (fun q => absurd q (by decide)) (fun _ => ?_)
        refine own_aloadN K own_d6_49 rfl rfl ?_
        refine own_getfield K own_d6_50 (host := "") (Or.inl (own_w15 hw)) Via.refl H (j := 1) rfl (q := 0) rfl ?_
        refine own_iloadN K own_d6_53 rfl ?_
        refine own_iaload K own_d6_54 H (i := 2) rfl (q := 0) (by decide) (rfl) ?_
        refine own_aloadN K own_d6_55 rfl rfl ?_
        refine own_getfield K own_d6_56 (host := "") (Or.inl (own_w15 hw)) Via.refl H (j := 0) rfl (q := 0) rfl ?_
        refine own_iloadN K own_d6_59 rfl ?_
        refine own_iaload K own_d6_60 H (i := 0) rfl (q := 1) (by decide) (rfl) ?_
        refine own_icmpne K own_d6_61 (fun g4 => ?_) (fun g4 => ?_)
        · refine own_iinc K own_d6_79 rfl (y := (2 : Int32)) (by decide) (Ls' := #[.val (.ref a), .val (.ref b), .val (.int (0 : Int32)), .val (.int (2 : Int32))]) rfl ?_
          refine own_goto K own_d6_82 ?_
          refine own_iloadN K own_d6_4 rfl ?_
          refine own_aloadN K own_d6_5 rfl rfl ?_
          refine own_getfield K own_d6_6 (host := "") (Or.inl (own_w25 hw)) Via.refl H (j := 0) rfl (q := 2) rfl ?_
          refine own_icmpge K own_d6_9 (fun _ => ?_) (fun q => absurd (by decide) q)
          have k0 : (if e0 = r0 then FP.dadd s0 f0 else (if e1 = r0 then FP.dadd s0 f1 else (if e2 = r0 then FP.dadd s0 f2 else s0))) = s0 := by (repeat' split) <;> first | rfl | (exfalso; simp only [← Int32.toInt_inj, ne_eq, Decidable.not_not] at *; omega)
          have k1 : (if e0 = r1 then FP.dadd s1 f0 else (if e1 = r1 then FP.dadd s1 f1 else (if e2 = r1 then FP.dadd s1 f2 else s1))) = s1 := by (repeat' split) <;> first | rfl | (exfalso; simp only [← Int32.toInt_inj, ne_eq, Decidable.not_not] at *; omega)
          simp only [k0, k1]
          exact own_retV K own_d6_85 (by decide) (by decide) (⟨rfl, H⟩)
        · refine own_aloadN K own_d6_64 rfl rfl ?_
          refine own_getfield K own_d6_65 (host := "") (Or.inl (own_w18 hw)) Via.refl H (j := 0) rfl (q := 1) rfl ?_
          refine own_iloadN K own_d6_68 rfl ?_
          refine own_dup2 K own_d6_69 rfl rfl ?_
          refine own_daload K own_d6_70 H (i := 1) rfl (q := 1) (by decide) (rfl) ?_
          refine own_aloadN K own_d6_71 rfl rfl ?_
          refine own_getfield K own_d6_72 (host := "") (Or.inl (own_w18 hw)) Via.refl H (j := 1) rfl (q := 1) rfl ?_
          refine own_iloadN K own_d6_75 rfl ?_
          refine own_daload K own_d6_76 H (i := 3) rfl (q := 0) (by decide) (rfl) ?_
          refine own_dadd K own_d6_77 (Fl.dadd_out fs1.noNaN ff0) ?_
          refine own_dastore K own_d6_78 H (i := 1) rfl (q := 1) (by decide) (own_le rfl) ?_
          intro h5 H6
          replace H6 : own_H Z h5 (own_SD a (.ref da) (.ref sa) (.int (2 : Int32)) :: own_SD b (.ref db) (.ref sb) (.int (3 : Int32)) :: os) ((da, .int, "[I", [(.int r0), (.int r1), x2, x3]) :: (sa, .double, "[D", [(.double s0), (.double (FP.dadd s1 f0)), y2, y3]) :: (db, .int, "[I", [(.int e0), (.int e1), (.int e2), u3]) :: (sb, .double, "[D", [(.double f0), (.double f1), (.double f2), w3]) :: as) := H6
          refine own_iinc K own_d6_79 rfl (y := (2 : Int32)) (by decide) (Ls' := #[.val (.ref a), .val (.ref b), .val (.int (0 : Int32)), .val (.int (2 : Int32))]) rfl ?_
          refine own_goto K own_d6_82 ?_
          refine own_iloadN K own_d6_4 rfl ?_
          refine own_aloadN K own_d6_5 rfl rfl ?_
          refine own_getfield K own_d6_6 (host := "") (Or.inl (own_w25 hw)) Via.refl H6 (j := 0) rfl (q := 2) rfl ?_
          refine own_icmpge K own_d6_9 (fun _ => ?_) (fun q => absurd (by decide) q)
          have k0 : (if e0 = r0 then FP.dadd s0 f0 else (if e1 = r0 then FP.dadd s0 f1 else (if e2 = r0 then FP.dadd s0 f2 else s0))) = s0 := by (repeat' split) <;> first | rfl | (exfalso; simp only [← Int32.toInt_inj, ne_eq, Decidable.not_not] at *; omega)
          have k1 : (if e0 = r1 then FP.dadd s1 f0 else (if e1 = r1 then FP.dadd s1 f1 else (if e2 = r1 then FP.dadd s1 f2 else s1))) = (FP.dadd s1 f0) := by (repeat' split) <;> first | rfl | (exfalso; simp only [← Int32.toInt_inj, ne_eq, Decidable.not_not] at *; omega)
          simp only [k0, k1]
          exact own_retV K own_d6_85 (by decide) (by decide) (⟨rfl, H6⟩)
      · refine own_iinc K own_d6_35 rfl (y := (1 : Int32)) (by decide) (Ls' := #[.val (.ref a), .val (.ref b), .val (.int (1 : Int32)), .val (.int (1 : Int32))]) rfl ?_
        refine own_goto K own_d6_38 ?_
        refine own_iloadN K own_d6_12 rfl ?_
        refine own_aloadN K own_d6_13 rfl rfl ?_
        refine own_getfield K own_d6_14 (host := "") (Or.inl (own_w25 hw)) Via.refl H (j := 1) rfl (q := 2) rfl ?_
        refine own_icmpge K own_d6_17 (fun q => absurd q (by decide)) (fun _ => ?_)
        refine own_aloadN K own_d6_20 rfl rfl ?_
        refine own_getfield K own_d6_21 (host := "") (Or.inl (own_w15 hw)) Via.refl H (j := 1) rfl (q := 0) rfl ?_
        refine own_iloadN K own_d6_24 rfl ?_
        refine own_iaload K own_d6_25 H (i := 2) rfl (q := 1) (by decide) (rfl) ?_
        refine own_aloadN K own_d6_26 rfl rfl ?_
        refine own_getfield K own_d6_27 (host := "") (Or.inl (own_w15 hw)) Via.refl H (j := 0) rfl (q := 0) rfl ?_
        refine own_iloadN K own_d6_30 rfl ?_
        refine own_iaload K own_d6_31 H (i := 0) rfl (q := 1) (by decide) (rfl) ?_
        refine own_icmpge K own_d6_32 (fun g7 => ?_) (fun g7 => ?_)
        · refine own_iloadN K own_d6_41 rfl ?_
          refine own_aloadN K own_d6_42 rfl rfl ?_
          refine own_getfield K own_d6_43 (host := "") (Or.inl (own_w25 hw)) Via.refl H (j := 1) rfl (q := 2) rfl ?_
          refine own_icmpge K own_d6_46 (fun q => absurd q (by decide)) (fun _ => ?_)
          refine own_aloadN K own_d6_49 rfl rfl ?_
          refine own_getfield K own_d6_50 (host := "") (Or.inl (own_w15 hw)) Via.refl H (j := 1) rfl (q := 0) rfl ?_
          refine own_iloadN K own_d6_53 rfl ?_
          refine own_iaload K own_d6_54 H (i := 2) rfl (q := 1) (by decide) (rfl) ?_
          refine own_aloadN K own_d6_55 rfl rfl ?_
          refine own_getfield K own_d6_56 (host := "") (Or.inl (own_w15 hw)) Via.refl H (j := 0) rfl (q := 0) rfl ?_
          refine own_iloadN K own_d6_59 rfl ?_
          refine own_iaload K own_d6_60 H (i := 0) rfl (q := 1) (by decide) (rfl) ?_
          refine own_icmpne K own_d6_61 (fun g8 => ?_) (fun g8 => ?_)
          · refine own_iinc K own_d6_79 rfl (y := (2 : Int32)) (by decide) (Ls' := #[.val (.ref a), .val (.ref b), .val (.int (1 : Int32)), .val (.int (2 : Int32))]) rfl ?_
            refine own_goto K own_d6_82 ?_
            refine own_iloadN K own_d6_4 rfl ?_
            refine own_aloadN K own_d6_5 rfl rfl ?_
            refine own_getfield K own_d6_6 (host := "") (Or.inl (own_w25 hw)) Via.refl H (j := 0) rfl (q := 2) rfl ?_
            refine own_icmpge K own_d6_9 (fun _ => ?_) (fun q => absurd (by decide) q)
            have k0 : (if e0 = r0 then FP.dadd s0 f0 else (if e1 = r0 then FP.dadd s0 f1 else (if e2 = r0 then FP.dadd s0 f2 else s0))) = s0 := by (repeat' split) <;> first | rfl | (exfalso; simp only [← Int32.toInt_inj, ne_eq, Decidable.not_not] at *; omega)
            have k1 : (if e0 = r1 then FP.dadd s1 f0 else (if e1 = r1 then FP.dadd s1 f1 else (if e2 = r1 then FP.dadd s1 f2 else s1))) = s1 := by (repeat' split) <;> first | rfl | (exfalso; simp only [← Int32.toInt_inj, ne_eq, Decidable.not_not] at *; omega)
            simp only [k0, k1]
            exact own_retV K own_d6_85 (by decide) (by decide) (⟨rfl, H⟩)
          · refine own_aloadN K own_d6_64 rfl rfl ?_
            refine own_getfield K own_d6_65 (host := "") (Or.inl (own_w18 hw)) Via.refl H (j := 0) rfl (q := 1) rfl ?_
            refine own_iloadN K own_d6_68 rfl ?_
            refine own_dup2 K own_d6_69 rfl rfl ?_
            refine own_daload K own_d6_70 H (i := 1) rfl (q := 1) (by decide) (rfl) ?_
            refine own_aloadN K own_d6_71 rfl rfl ?_
            refine own_getfield K own_d6_72 (host := "") (Or.inl (own_w18 hw)) Via.refl H (j := 1) rfl (q := 1) rfl ?_
            refine own_iloadN K own_d6_75 rfl ?_
            refine own_daload K own_d6_76 H (i := 3) rfl (q := 1) (by decide) (rfl) ?_
            refine own_dadd K own_d6_77 (Fl.dadd_out fs1.noNaN ff1) ?_
            refine own_dastore K own_d6_78 H (i := 1) rfl (q := 1) (by decide) (own_le rfl) ?_
            intro h9 H10
            replace H10 : own_H Z h9 (own_SD a (.ref da) (.ref sa) (.int (2 : Int32)) :: own_SD b (.ref db) (.ref sb) (.int (3 : Int32)) :: os) ((da, .int, "[I", [(.int r0), (.int r1), x2, x3]) :: (sa, .double, "[D", [(.double s0), (.double (FP.dadd s1 f1)), y2, y3]) :: (db, .int, "[I", [(.int e0), (.int e1), (.int e2), u3]) :: (sb, .double, "[D", [(.double f0), (.double f1), (.double f2), w3]) :: as) := H10
            refine own_iinc K own_d6_79 rfl (y := (2 : Int32)) (by decide) (Ls' := #[.val (.ref a), .val (.ref b), .val (.int (1 : Int32)), .val (.int (2 : Int32))]) rfl ?_
            refine own_goto K own_d6_82 ?_
            refine own_iloadN K own_d6_4 rfl ?_
            refine own_aloadN K own_d6_5 rfl rfl ?_
            refine own_getfield K own_d6_6 (host := "") (Or.inl (own_w25 hw)) Via.refl H10 (j := 0) rfl (q := 2) rfl ?_
            refine own_icmpge K own_d6_9 (fun _ => ?_) (fun q => absurd (by decide) q)
            have k0 : (if e0 = r0 then FP.dadd s0 f0 else (if e1 = r0 then FP.dadd s0 f1 else (if e2 = r0 then FP.dadd s0 f2 else s0))) = s0 := by (repeat' split) <;> first | rfl | (exfalso; simp only [← Int32.toInt_inj, ne_eq, Decidable.not_not] at *; omega)
            have k1 : (if e0 = r1 then FP.dadd s1 f0 else (if e1 = r1 then FP.dadd s1 f1 else (if e2 = r1 then FP.dadd s1 f2 else s1))) = (FP.dadd s1 f1) := by (repeat' split) <;> first | rfl | (exfalso; simp only [← Int32.toInt_inj, ne_eq, Decidable.not_not] at *; omega)
            simp only [k0, k1]
            exact own_retV K own_d6_85 (by decide) (by decide) (⟨rfl, H10⟩)
        · refine own_iinc K own_d6_35 rfl (y := (2 : Int32)) (by decide) (Ls' := #[.val (.ref a), .val (.ref b), .val (.int (2 : Int32)), .val (.int (1 : Int32))]) rfl ?_
          refine own_goto K own_d6_38 ?_
          refine own_iloadN K own_d6_12 rfl ?_
          refine own_aloadN K own_d6_13 rfl rfl ?_
          refine own_getfield K own_d6_14 (host := "") (Or.inl (own_w25 hw)) Via.refl H (j := 1) rfl (q := 2) rfl ?_
          refine own_icmpge K own_d6_17 (fun q => absurd q (by decide)) (fun _ => ?_)
          refine own_aloadN K own_d6_20 rfl rfl ?_
          refine own_getfield K own_d6_21 (host := "") (Or.inl (own_w15 hw)) Via.refl H (j := 1) rfl (q := 0) rfl ?_
          refine own_iloadN K own_d6_24 rfl ?_
          refine own_iaload K own_d6_25 H (i := 2) rfl (q := 2) (by decide) (rfl) ?_
          refine own_aloadN K own_d6_26 rfl rfl ?_
          refine own_getfield K own_d6_27 (host := "") (Or.inl (own_w15 hw)) Via.refl H (j := 0) rfl (q := 0) rfl ?_
          refine own_iloadN K own_d6_30 rfl ?_
          refine own_iaload K own_d6_31 H (i := 0) rfl (q := 1) (by decide) (rfl) ?_
          refine own_icmpge K own_d6_32 (fun g11 => ?_) (fun g11 => ?_)
          · refine own_iloadN K own_d6_41 rfl ?_
            refine own_aloadN K own_d6_42 rfl rfl ?_
            refine own_getfield K own_d6_43 (host := "") (Or.inl (own_w25 hw)) Via.refl H (j := 1) rfl (q := 2) rfl ?_
            refine own_icmpge K own_d6_46 (fun q => absurd q (by decide)) (fun _ => ?_)
            refine own_aloadN K own_d6_49 rfl rfl ?_
            refine own_getfield K own_d6_50 (host := "") (Or.inl (own_w15 hw)) Via.refl H (j := 1) rfl (q := 0) rfl ?_
            refine own_iloadN K own_d6_53 rfl ?_
            refine own_iaload K own_d6_54 H (i := 2) rfl (q := 2) (by decide) (rfl) ?_
            refine own_aloadN K own_d6_55 rfl rfl ?_
            refine own_getfield K own_d6_56 (host := "") (Or.inl (own_w15 hw)) Via.refl H (j := 0) rfl (q := 0) rfl ?_
            refine own_iloadN K own_d6_59 rfl ?_
            refine own_iaload K own_d6_60 H (i := 0) rfl (q := 1) (by decide) (rfl) ?_
            refine own_icmpne K own_d6_61 (fun g12 => ?_) (fun g12 => ?_)
            · refine own_iinc K own_d6_79 rfl (y := (2 : Int32)) (by decide) (Ls' := #[.val (.ref a), .val (.ref b), .val (.int (2 : Int32)), .val (.int (2 : Int32))]) rfl ?_
              refine own_goto K own_d6_82 ?_
              refine own_iloadN K own_d6_4 rfl ?_
              refine own_aloadN K own_d6_5 rfl rfl ?_
              refine own_getfield K own_d6_6 (host := "") (Or.inl (own_w25 hw)) Via.refl H (j := 0) rfl (q := 2) rfl ?_
              refine own_icmpge K own_d6_9 (fun _ => ?_) (fun q => absurd (by decide) q)
              have k0 : (if e0 = r0 then FP.dadd s0 f0 else (if e1 = r0 then FP.dadd s0 f1 else (if e2 = r0 then FP.dadd s0 f2 else s0))) = s0 := by (repeat' split) <;> first | rfl | (exfalso; simp only [← Int32.toInt_inj, ne_eq, Decidable.not_not] at *; omega)
              have k1 : (if e0 = r1 then FP.dadd s1 f0 else (if e1 = r1 then FP.dadd s1 f1 else (if e2 = r1 then FP.dadd s1 f2 else s1))) = s1 := by (repeat' split) <;> first | rfl | (exfalso; simp only [← Int32.toInt_inj, ne_eq, Decidable.not_not] at *; omega)
              simp only [k0, k1]
              exact own_retV K own_d6_85 (by decide) (by decide) (⟨rfl, H⟩)
            · refine own_aloadN K own_d6_64 rfl rfl ?_
              refine own_getfield K own_d6_65 (host := "") (Or.inl (own_w18 hw)) Via.refl H (j := 0) rfl (q := 1) rfl ?_
              refine own_iloadN K own_d6_68 rfl ?_
              refine own_dup2 K own_d6_69 rfl rfl ?_
              refine own_daload K own_d6_70 H (i := 1) rfl (q := 1) (by decide) (rfl) ?_
              refine own_aloadN K own_d6_71 rfl rfl ?_
              refine own_getfield K own_d6_72 (host := "") (Or.inl (own_w18 hw)) Via.refl H (j := 1) rfl (q := 1) rfl ?_
              refine own_iloadN K own_d6_75 rfl ?_
              refine own_daload K own_d6_76 H (i := 3) rfl (q := 2) (by decide) (rfl) ?_
              refine own_dadd K own_d6_77 (Fl.dadd_out fs1.noNaN ff2) ?_
              refine own_dastore K own_d6_78 H (i := 1) rfl (q := 1) (by decide) (own_le rfl) ?_
              intro h13 H14
              replace H14 : own_H Z h13 (own_SD a (.ref da) (.ref sa) (.int (2 : Int32)) :: own_SD b (.ref db) (.ref sb) (.int (3 : Int32)) :: os) ((da, .int, "[I", [(.int r0), (.int r1), x2, x3]) :: (sa, .double, "[D", [(.double s0), (.double (FP.dadd s1 f2)), y2, y3]) :: (db, .int, "[I", [(.int e0), (.int e1), (.int e2), u3]) :: (sb, .double, "[D", [(.double f0), (.double f1), (.double f2), w3]) :: as) := H14
              refine own_iinc K own_d6_79 rfl (y := (2 : Int32)) (by decide) (Ls' := #[.val (.ref a), .val (.ref b), .val (.int (2 : Int32)), .val (.int (2 : Int32))]) rfl ?_
              refine own_goto K own_d6_82 ?_
              refine own_iloadN K own_d6_4 rfl ?_
              refine own_aloadN K own_d6_5 rfl rfl ?_
              refine own_getfield K own_d6_6 (host := "") (Or.inl (own_w25 hw)) Via.refl H14 (j := 0) rfl (q := 2) rfl ?_
              refine own_icmpge K own_d6_9 (fun _ => ?_) (fun q => absurd (by decide) q)
              have k0 : (if e0 = r0 then FP.dadd s0 f0 else (if e1 = r0 then FP.dadd s0 f1 else (if e2 = r0 then FP.dadd s0 f2 else s0))) = s0 := by (repeat' split) <;> first | rfl | (exfalso; simp only [← Int32.toInt_inj, ne_eq, Decidable.not_not] at *; omega)
              have k1 : (if e0 = r1 then FP.dadd s1 f0 else (if e1 = r1 then FP.dadd s1 f1 else (if e2 = r1 then FP.dadd s1 f2 else s1))) = (FP.dadd s1 f2) := by (repeat' split) <;> first | rfl | (exfalso; simp only [← Int32.toInt_inj, ne_eq, Decidable.not_not] at *; omega)
              simp only [k0, k1]
              exact own_retV K own_d6_85 (by decide) (by decide) (⟨rfl, H14⟩)
          · refine own_iinc K own_d6_35 rfl (y := (3 : Int32)) (by decide) (Ls' := #[.val (.ref a), .val (.ref b), .val (.int (3 : Int32)), .val (.int (1 : Int32))]) rfl ?_
            refine own_goto K own_d6_38 ?_
            refine own_iloadN K own_d6_12 rfl ?_
            refine own_aloadN K own_d6_13 rfl rfl ?_
            refine own_getfield K own_d6_14 (host := "") (Or.inl (own_w25 hw)) Via.refl H (j := 1) rfl (q := 2) rfl ?_
            refine own_icmpge K own_d6_17 (fun _ => ?_) (fun q => absurd (by decide) q)
            refine own_iloadN K own_d6_41 rfl ?_
            refine own_aloadN K own_d6_42 rfl rfl ?_
            refine own_getfield K own_d6_43 (host := "") (Or.inl (own_w25 hw)) Via.refl H (j := 1) rfl (q := 2) rfl ?_
            refine own_icmpge K own_d6_46 (fun _ => ?_) (fun q => absurd (by decide) q)
            refine own_iinc K own_d6_79 rfl (y := (2 : Int32)) (by decide) (Ls' := #[.val (.ref a), .val (.ref b), .val (.int (3 : Int32)), .val (.int (2 : Int32))]) rfl ?_
            refine own_goto K own_d6_82 ?_
            refine own_iloadN K own_d6_4 rfl ?_
            refine own_aloadN K own_d6_5 rfl rfl ?_
            refine own_getfield K own_d6_6 (host := "") (Or.inl (own_w25 hw)) Via.refl H (j := 0) rfl (q := 2) rfl ?_
            refine own_icmpge K own_d6_9 (fun _ => ?_) (fun q => absurd (by decide) q)
            have k0 : (if e0 = r0 then FP.dadd s0 f0 else (if e1 = r0 then FP.dadd s0 f1 else (if e2 = r0 then FP.dadd s0 f2 else s0))) = s0 := by (repeat' split) <;> first | rfl | (exfalso; simp only [← Int32.toInt_inj, ne_eq, Decidable.not_not] at *; omega)
            have k1 : (if e0 = r1 then FP.dadd s1 f0 else (if e1 = r1 then FP.dadd s1 f1 else (if e2 = r1 then FP.dadd s1 f2 else s1))) = s1 := by (repeat' split) <;> first | rfl | (exfalso; simp only [← Int32.toInt_inj, ne_eq, Decidable.not_not] at *; omega)
            simp only [k0, k1]
            exact own_retV K own_d6_85 (by decide) (by decide) (⟨rfl, H⟩)
    · refine own_aloadN K own_d6_64 rfl rfl ?_
      refine own_getfield K own_d6_65 (host := "") (Or.inl (own_w18 hw)) Via.refl H (j := 0) rfl (q := 1) rfl ?_
      refine own_iloadN K own_d6_68 rfl ?_
      refine own_dup2 K own_d6_69 rfl rfl ?_
      refine own_daload K own_d6_70 H (i := 1) rfl (q := 0) (by decide) (rfl) ?_
      refine own_aloadN K own_d6_71 rfl rfl ?_
      refine own_getfield K own_d6_72 (host := "") (Or.inl (own_w18 hw)) Via.refl H (j := 1) rfl (q := 1) rfl ?_
      refine own_iloadN K own_d6_75 rfl ?_
      refine own_daload K own_d6_76 H (i := 3) rfl (q := 0) (by decide) (rfl) ?_
      refine own_dadd K own_d6_77 (Fl.dadd_out fs0.noNaN ff0) ?_
      refine own_dastore K own_d6_78 H (i := 1) rfl (q := 0) (by decide) (own_le rfl) ?_
      intro h15 H16
      replace H16 : own_H Z h15 (own_SD a (.ref da) (.ref sa) (.int (2 : Int32)) :: own_SD b (.ref db) (.ref sb) (.int (3 : Int32)) :: os) ((da, .int, "[I", [(.int r0), (.int r1), x2, x3]) :: (sa, .double, "[D", [(.double (FP.dadd s0 f0)), (.double s1), y2, y3]) :: (db, .int, "[I", [(.int e0), (.int e1), (.int e2), u3]) :: (sb, .double, "[D", [(.double f0), (.double f1), (.double f2), w3]) :: as) := H16
      refine own_iinc K own_d6_79 rfl (y := (1 : Int32)) (by decide) (Ls' := #[.val (.ref a), .val (.ref b), .val (.int (0 : Int32)), .val (.int (1 : Int32))]) rfl ?_
      refine own_goto K own_d6_82 ?_
      refine own_iloadN K own_d6_4 rfl ?_
      refine own_aloadN K own_d6_5 rfl rfl ?_
      refine own_getfield K own_d6_6 (host := "") (Or.inl (own_w25 hw)) Via.refl H16 (j := 0) rfl (q := 2) rfl ?_
      refine own_icmpge K own_d6_9 (fun q => absurd q (by decide)) (fun _ => ?_)
      refine own_iloadN K own_d6_12 rfl ?_
      refine own_aloadN K own_d6_13 rfl rfl ?_
      refine own_getfield K own_d6_14 (host := "") (Or.inl (own_w25 hw)) Via.refl H16 (j := 1) rfl (q := 2) rfl ?_
      refine own_icmpge K own_d6_17 (fun q => absurd q (by decide)) (fun _ => ?_)
      refine own_aloadN K own_d6_20 rfl rfl ?_
      refine own_getfield K own_d6_21 (host := "") (Or.inl (own_w15 hw)) Via.refl H16 (j := 1) rfl (q := 0) rfl ?_
      refine own_iloadN K own_d6_24 rfl ?_
      refine own_iaload K own_d6_25 H16 (i := 2) rfl (q := 0) (by decide) (rfl) ?_
      refine own_aloadN K own_d6_26 rfl rfl ?_
      refine own_getfield K own_d6_27 (host := "") (Or.inl (own_w15 hw)) Via.refl H16 (j := 0) rfl (q := 0) rfl ?_
      refine own_iloadN K own_d6_30 rfl ?_
      refine own_iaload K own_d6_31 H16 (i := 0) rfl (q := 1) (by decide) (rfl) ?_
      refine own_icmpge K own_d6_32 (fun g17 => ?_) (fun g17 => ?_)
      · refine own_iloadN K own_d6_41 rfl ?_
        refine own_aloadN K own_d6_42 rfl rfl ?_
        refine own_getfield K own_d6_43 (host := "") (Or.inl (own_w25 hw)) Via.refl H16 (j := 1) rfl (q := 2) rfl ?_
        refine own_icmpge K own_d6_46 (fun q => absurd q (by decide)) (fun _ => ?_)
        refine own_aloadN K own_d6_49 rfl rfl ?_
        refine own_getfield K own_d6_50 (host := "") (Or.inl (own_w15 hw)) Via.refl H16 (j := 1) rfl (q := 0) rfl ?_
        refine own_iloadN K own_d6_53 rfl ?_
        refine own_iaload K own_d6_54 H16 (i := 2) rfl (q := 0) (by decide) (rfl) ?_
        refine own_aloadN K own_d6_55 rfl rfl ?_
        refine own_getfield K own_d6_56 (host := "") (Or.inl (own_w15 hw)) Via.refl H16 (j := 0) rfl (q := 0) rfl ?_
        refine own_iloadN K own_d6_59 rfl ?_
        refine own_iaload K own_d6_60 H16 (i := 0) rfl (q := 1) (by decide) (rfl) ?_
        refine own_icmpne K own_d6_61 (fun g18 => ?_) (fun g18 => ?_)
        · refine own_iinc K own_d6_79 rfl (y := (2 : Int32)) (by decide) (Ls' := #[.val (.ref a), .val (.ref b), .val (.int (0 : Int32)), .val (.int (2 : Int32))]) rfl ?_
          refine own_goto K own_d6_82 ?_
          refine own_iloadN K own_d6_4 rfl ?_
          refine own_aloadN K own_d6_5 rfl rfl ?_
          refine own_getfield K own_d6_6 (host := "") (Or.inl (own_w25 hw)) Via.refl H16 (j := 0) rfl (q := 2) rfl ?_
          refine own_icmpge K own_d6_9 (fun _ => ?_) (fun q => absurd (by decide) q)
          have k0 : (if e0 = r0 then FP.dadd s0 f0 else (if e1 = r0 then FP.dadd s0 f1 else (if e2 = r0 then FP.dadd s0 f2 else s0))) = (FP.dadd s0 f0) := by (repeat' split) <;> first | rfl | (exfalso; simp only [← Int32.toInt_inj, ne_eq, Decidable.not_not] at *; omega)
          have k1 : (if e0 = r1 then FP.dadd s1 f0 else (if e1 = r1 then FP.dadd s1 f1 else (if e2 = r1 then FP.dadd s1 f2 else s1))) = s1 := by (repeat' split) <;> first | rfl | (exfalso; simp only [← Int32.toInt_inj, ne_eq, Decidable.not_not] at *; omega)
          simp only [k0, k1]
          exact own_retV K own_d6_85 (by decide) (by decide) (⟨rfl, H16⟩)
        · refine own_aloadN K own_d6_64 rfl rfl ?_
          refine own_getfield K own_d6_65 (host := "") (Or.inl (own_w18 hw)) Via.refl H16 (j := 0) rfl (q := 1) rfl ?_
          refine own_iloadN K own_d6_68 rfl ?_
          refine own_dup2 K own_d6_69 rfl rfl ?_
          refine own_daload K own_d6_70 H16 (i := 1) rfl (q := 1) (by decide) (rfl) ?_
          refine own_aloadN K own_d6_71 rfl rfl ?_
          refine own_getfield K own_d6_72 (host := "") (Or.inl (own_w18 hw)) Via.refl H16 (j := 1) rfl (q := 1) rfl ?_
          refine own_iloadN K own_d6_75 rfl ?_
          refine own_daload K own_d6_76 H16 (i := 3) rfl (q := 0) (by decide) (rfl) ?_
          refine own_dadd K own_d6_77 (Fl.dadd_out fs1.noNaN ff0) ?_
          refine own_dastore K own_d6_78 H16 (i := 1) rfl (q := 1) (by decide) (own_le rfl) ?_
          intro h19 H20
          replace H20 : own_H Z h19 (own_SD a (.ref da) (.ref sa) (.int (2 : Int32)) :: own_SD b (.ref db) (.ref sb) (.int (3 : Int32)) :: os) ((da, .int, "[I", [(.int r0), (.int r1), x2, x3]) :: (sa, .double, "[D", [(.double (FP.dadd s0 f0)), (.double (FP.dadd s1 f0)), y2, y3]) :: (db, .int, "[I", [(.int e0), (.int e1), (.int e2), u3]) :: (sb, .double, "[D", [(.double f0), (.double f1), (.double f2), w3]) :: as) := H20
          refine own_iinc K own_d6_79 rfl (y := (2 : Int32)) (by decide) (Ls' := #[.val (.ref a), .val (.ref b), .val (.int (0 : Int32)), .val (.int (2 : Int32))]) rfl ?_
          refine own_goto K own_d6_82 ?_
          refine own_iloadN K own_d6_4 rfl ?_
          refine own_aloadN K own_d6_5 rfl rfl ?_
          refine own_getfield K own_d6_6 (host := "") (Or.inl (own_w25 hw)) Via.refl H20 (j := 0) rfl (q := 2) rfl ?_
          refine own_icmpge K own_d6_9 (fun _ => ?_) (fun q => absurd (by decide) q)
          have k0 : (if e0 = r0 then FP.dadd s0 f0 else (if e1 = r0 then FP.dadd s0 f1 else (if e2 = r0 then FP.dadd s0 f2 else s0))) = (FP.dadd s0 f0) := by (repeat' split) <;> first | rfl | (exfalso; simp only [← Int32.toInt_inj, ne_eq, Decidable.not_not] at *; omega)
          have k1 : (if e0 = r1 then FP.dadd s1 f0 else (if e1 = r1 then FP.dadd s1 f1 else (if e2 = r1 then FP.dadd s1 f2 else s1))) = (FP.dadd s1 f0) := by (repeat' split) <;> first | rfl | (exfalso; simp only [← Int32.toInt_inj, ne_eq, Decidable.not_not] at *; omega)
          simp only [k0, k1]
          exact own_retV K own_d6_85 (by decide) (by decide) (⟨rfl, H20⟩)
      · refine own_iinc K own_d6_35 rfl (y := (1 : Int32)) (by decide) (Ls' := #[.val (.ref a), .val (.ref b), .val (.int (1 : Int32)), .val (.int (1 : Int32))]) rfl ?_
        refine own_goto K own_d6_38 ?_
        refine own_iloadN K own_d6_12 rfl ?_
        refine own_aloadN K own_d6_13 rfl rfl ?_
        refine own_getfield K own_d6_14 (host := "") (Or.inl (own_w25 hw)) Via.refl H16 (j := 1) rfl (q := 2) rfl ?_
        refine own_icmpge K own_d6_17 (fun q => absurd q (by decide)) (fun _ => ?_)
        refine own_aloadN K own_d6_20 rfl rfl ?_
        refine own_getfield K own_d6_21 (host := "") (Or.inl (own_w15 hw)) Via.refl H16 (j := 1) rfl (q := 0) rfl ?_
        refine own_iloadN K own_d6_24 rfl ?_
        refine own_iaload K own_d6_25 H16 (i := 2) rfl (q := 1) (by decide) (rfl) ?_
        refine own_aloadN K own_d6_26 rfl rfl ?_
        refine own_getfield K own_d6_27 (host := "") (Or.inl (own_w15 hw)) Via.refl H16 (j := 0) rfl (q := 0) rfl ?_
        refine own_iloadN K own_d6_30 rfl ?_
        refine own_iaload K own_d6_31 H16 (i := 0) rfl (q := 1) (by decide) (rfl) ?_
        refine own_icmpge K own_d6_32 (fun g21 => ?_) (fun g21 => ?_)
        · refine own_iloadN K own_d6_41 rfl ?_
          refine own_aloadN K own_d6_42 rfl rfl ?_
          refine own_getfield K own_d6_43 (host := "") (Or.inl (own_w25 hw)) Via.refl H16 (j := 1) rfl (q := 2) rfl ?_
          refine own_icmpge K own_d6_46 (fun q => absurd q (by decide)) (fun _ => ?_)
          refine own_aloadN K own_d6_49 rfl rfl ?_
          refine own_getfield K own_d6_50 (host := "") (Or.inl (own_w15 hw)) Via.refl H16 (j := 1) rfl (q := 0) rfl ?_
          refine own_iloadN K own_d6_53 rfl ?_
          refine own_iaload K own_d6_54 H16 (i := 2) rfl (q := 1) (by decide) (rfl) ?_
          refine own_aloadN K own_d6_55 rfl rfl ?_
          refine own_getfield K own_d6_56 (host := "") (Or.inl (own_w15 hw)) Via.refl H16 (j := 0) rfl (q := 0) rfl ?_
          refine own_iloadN K own_d6_59 rfl ?_
          refine own_iaload K own_d6_60 H16 (i := 0) rfl (q := 1) (by decide) (rfl) ?_
          refine own_icmpne K own_d6_61 (fun g22 => ?_) (fun g22 => ?_)
          · refine own_iinc K own_d6_79 rfl (y := (2 : Int32)) (by decide) (Ls' := #[.val (.ref a), .val (.ref b), .val (.int (1 : Int32)), .val (.int (2 : Int32))]) rfl ?_
            refine own_goto K own_d6_82 ?_
            refine own_iloadN K own_d6_4 rfl ?_
            refine own_aloadN K own_d6_5 rfl rfl ?_
            refine own_getfield K own_d6_6 (host := "") (Or.inl (own_w25 hw)) Via.refl H16 (j := 0) rfl (q := 2) rfl ?_
            refine own_icmpge K own_d6_9 (fun _ => ?_) (fun q => absurd (by decide) q)
            have k0 : (if e0 = r0 then FP.dadd s0 f0 else (if e1 = r0 then FP.dadd s0 f1 else (if e2 = r0 then FP.dadd s0 f2 else s0))) = (FP.dadd s0 f0) := by (repeat' split) <;> first | rfl | (exfalso; simp only [← Int32.toInt_inj, ne_eq, Decidable.not_not] at *; omega)
            have k1 : (if e0 = r1 then FP.dadd s1 f0 else (if e1 = r1 then FP.dadd s1 f1 else (if e2 = r1 then FP.dadd s1 f2 else s1))) = s1 := by (repeat' split) <;> first | rfl | (exfalso; simp only [← Int32.toInt_inj, ne_eq, Decidable.not_not] at *; omega)
            simp only [k0, k1]
            exact own_retV K own_d6_85 (by decide) (by decide) (⟨rfl, H16⟩)
          · refine own_aloadN K own_d6_64 rfl rfl ?_
            refine own_getfield K own_d6_65 (host := "") (Or.inl (own_w18 hw)) Via.refl H16 (j := 0) rfl (q := 1) rfl ?_
            refine own_iloadN K own_d6_68 rfl ?_
            refine own_dup2 K own_d6_69 rfl rfl ?_
            refine own_daload K own_d6_70 H16 (i := 1) rfl (q := 1) (by decide) (rfl) ?_
            refine own_aloadN K own_d6_71 rfl rfl ?_
            refine own_getfield K own_d6_72 (host := "") (Or.inl (own_w18 hw)) Via.refl H16 (j := 1) rfl (q := 1) rfl ?_
            refine own_iloadN K own_d6_75 rfl ?_
            refine own_daload K own_d6_76 H16 (i := 3) rfl (q := 1) (by decide) (rfl) ?_
            refine own_dadd K own_d6_77 (Fl.dadd_out fs1.noNaN ff1) ?_
            refine own_dastore K own_d6_78 H16 (i := 1) rfl (q := 1) (by decide) (own_le rfl) ?_
            intro h23 H24
            replace H24 : own_H Z h23 (own_SD a (.ref da) (.ref sa) (.int (2 : Int32)) :: own_SD b (.ref db) (.ref sb) (.int (3 : Int32)) :: os) ((da, .int, "[I", [(.int r0), (.int r1), x2, x3]) :: (sa, .double, "[D", [(.double (FP.dadd s0 f0)), (.double (FP.dadd s1 f1)), y2, y3]) :: (db, .int, "[I", [(.int e0), (.int e1), (.int e2), u3]) :: (sb, .double, "[D", [(.double f0), (.double f1), (.double f2), w3]) :: as) := H24
            refine own_iinc K own_d6_79 rfl (y := (2 : Int32)) (by decide) (Ls' := #[.val (.ref a), .val (.ref b), .val (.int (1 : Int32)), .val (.int (2 : Int32))]) rfl ?_
            refine own_goto K own_d6_82 ?_
            refine own_iloadN K own_d6_4 rfl ?_
            refine own_aloadN K own_d6_5 rfl rfl ?_
            refine own_getfield K own_d6_6 (host := "") (Or.inl (own_w25 hw)) Via.refl H24 (j := 0) rfl (q := 2) rfl ?_
            refine own_icmpge K own_d6_9 (fun _ => ?_) (fun q => absurd (by decide) q)
            have k0 : (if e0 = r0 then FP.dadd s0 f0 else (if e1 = r0 then FP.dadd s0 f1 else (if e2 = r0 then FP.dadd s0 f2 else s0))) = (FP.dadd s0 f0) := by (repeat' split) <;> first | rfl | (exfalso; simp only [← Int32.toInt_inj, ne_eq, Decidable.not_not] at *; omega)
            have k1 : (if e0 = r1 then FP.dadd s1 f0 else (if e1 = r1 then FP.dadd s1 f1 else (if e2 = r1 then FP.dadd s1 f2 else s1))) = (FP.dadd s1 f1) := by (repeat' split) <;> first | rfl | (exfalso; simp only [← Int32.toInt_inj, ne_eq, Decidable.not_not] at *; omega)
            simp only [k0, k1]
            exact own_retV K own_d6_85 (by decide) (by decide) (⟨rfl, H24⟩)
        · refine own_iinc K own_d6_35 rfl (y := (2 : Int32)) (by decide) (Ls' := #[.val (.ref a), .val (.ref b), .val (.int (2 : Int32)), .val (.int (1 : Int32))]) rfl ?_
          refine own_goto K own_d6_38 ?_
          refine own_iloadN K own_d6_12 rfl ?_
          refine own_aloadN K own_d6_13 rfl rfl ?_
          refine own_getfield K own_d6_14 (host := "") (Or.inl (own_w25 hw)) Via.refl H16 (j := 1) rfl (q := 2) rfl ?_
          refine own_icmpge K own_d6_17 (fun q => absurd q (by decide)) (fun _ => ?_)
          refine own_aloadN K own_d6_20 rfl rfl ?_
          refine own_getfield K own_d6_21 (host := "") (Or.inl (own_w15 hw)) Via.refl H16 (j := 1) rfl (q := 0) rfl ?_
          refine own_iloadN K own_d6_24 rfl ?_
          refine own_iaload K own_d6_25 H16 (i := 2) rfl (q := 2) (by decide) (rfl) ?_
          refine own_aloadN K own_d6_26 rfl rfl ?_
          refine own_getfield K own_d6_27 (host := "") (Or.inl (own_w15 hw)) Via.refl H16 (j := 0) rfl (q := 0) rfl ?_
          refine own_iloadN K own_d6_30 rfl ?_
          refine own_iaload K own_d6_31 H16 (i := 0) rfl (q := 1) (by decide) (rfl) ?_
          refine own_icmpge K own_d6_32 (fun g25 => ?_) (fun g25 => ?_)
          · refine own_iloadN K own_d6_41 rfl ?_
            refine own_aloadN K own_d6_42 rfl rfl ?_
            refine own_getfield K own_d6_43 (host := "") (Or.inl (own_w25 hw)) Via.refl H16 (j := 1) rfl (q := 2) rfl ?_
            refine own_icmpge K own_d6_46 (fun q => absurd q (by decide)) (fun _ => ?_)
            refine own_aloadN K own_d6_49 rfl rfl ?_
            refine own_getfield K own_d6_50 (host := "") (Or.inl (own_w15 hw)) Via.refl H16 (j := 1) rfl (q := 0) rfl ?_
            refine own_iloadN K own_d6_53 rfl ?_
            refine own_iaload K own_d6_54 H16 (i := 2) rfl (q := 2) (by decide) (rfl) ?_
            refine own_aloadN K own_d6_55 rfl rfl ?_
            refine own_getfield K own_d6_56 (host := "") (Or.inl (own_w15 hw)) Via.refl H16 (j := 0) rfl (q := 0) rfl ?_
            refine own_iloadN K own_d6_59 rfl ?_
            refine own_iaload K own_d6_60 H16 (i := 0) rfl (q := 1) (by decide) (rfl) ?_
            refine own_icmpne K own_d6_61 (fun g26 => ?_) (fun g26 => ?_)
            · refine own_iinc K own_d6_79 rfl (y := (2 : Int32)) (by decide) (Ls' := #[.val (.ref a), .val (.ref b), .val (.int (2 : Int32)), .val (.int (2 : Int32))]) rfl ?_
              refine own_goto K own_d6_82 ?_
              refine own_iloadN K own_d6_4 rfl ?_
              refine own_aloadN K own_d6_5 rfl rfl ?_
              refine own_getfield K own_d6_6 (host := "") (Or.inl (own_w25 hw)) Via.refl H16 (j := 0) rfl (q := 2) rfl ?_
              refine own_icmpge K own_d6_9 (fun _ => ?_) (fun q => absurd (by decide) q)
              have k0 : (if e0 = r0 then FP.dadd s0 f0 else (if e1 = r0 then FP.dadd s0 f1 else (if e2 = r0 then FP.dadd s0 f2 else s0))) = (FP.dadd s0 f0) := by (repeat' split) <;> first | rfl | (exfalso; simp only [← Int32.toInt_inj, ne_eq, Decidable.not_not] at *; omega)
              have k1 : (if e0 = r1 then FP.dadd s1 f0 else (if e1 = r1 then FP.dadd s1 f1 else (if e2 = r1 then FP.dadd s1 f2 else s1))) = s1 := by (repeat' split) <;> first | rfl | (exfalso; simp only [← Int32.toInt_inj, ne_eq, Decidable.not_not] at *; omega)
              simp only [k0, k1]
              exact own_retV K own_d6_85 (by decide) (by decide) (⟨rfl, H16⟩)
            · refine own_aloadN K own_d6_64 rfl rfl ?_
              refine own_getfield K own_d6_65 (host := "") (Or.inl (own_w18 hw)) Via.refl H16 (j := 0) rfl (q := 1) rfl ?_
              refine own_iloadN K own_d6_68 rfl ?_
              refine own_dup2 K own_d6_69 rfl rfl ?_
              refine own_daload K own_d6_70 H16 (i := 1) rfl (q := 1) (by decide) (rfl) ?_
              refine own_aloadN K own_d6_71 rfl rfl ?_
              refine own_getfield K own_d6_72 (host := "") (Or.inl (own_w18 hw)) Via.refl H16 (j := 1) rfl (q := 1) rfl ?_
              refine own_iloadN K own_d6_75 rfl ?_
              refine own_daload K own_d6_76 H16 (i := 3) rfl (q := 2) (by decide) (rfl) ?_
              refine own_dadd K own_d6_77 (Fl.dadd_out fs1.noNaN ff2) ?_
              refine own_dastore K own_d6_78 H16 (i := 1) rfl (q := 1) (by decide) (own_le rfl) ?_
              intro h27 H28
              replace H28 : own_H Z h27 (own_SD a (.ref da) (.ref sa) (.int (2 : Int32)) :: own_SD b (.ref db) (.ref sb) (.int (3 : Int32)) :: os) ((da, .int, "[I", [(.int r0), (.int r1), x2, x3]) :: (sa, .double, "[D", [(.double (FP.dadd s0 f0)), (.double (FP.dadd s1 f2)), y2, y3]) :: (db, .int, "[I", [(.int e0), (.int e1), (.int e2), u3]) :: (sb, .double, "[D", [(.double f0), (.double f1), (.double f2), w3]) :: as) := H28
              refine own_iinc K own_d6_79 rfl (y := (2 : Int32)) (by decide) (Ls' := #[.val (.ref a), .val (.ref b), .val (.int (2 : Int32)), .val (.int (2 : Int32))]) rfl ?_
              refine own_goto K own_d6_82 ?_
              refine own_iloadN K own_d6_4 rfl ?_
              refine own_aloadN K own_d6_5 rfl rfl ?_
              refine own_getfield K own_d6_6 (host := "") (Or.inl (own_w25 hw)) Via.refl H28 (j := 0) rfl (q := 2) rfl ?_
              refine own_icmpge K own_d6_9 (fun _ => ?_) (fun q => absurd (by decide) q)
              have k0 : (if e0 = r0 then FP.dadd s0 f0 else (if e1 = r0 then FP.dadd s0 f1 else (if e2 = r0 then FP.dadd s0 f2 else s0))) = (FP.dadd s0 f0) := by (repeat' split) <;> first | rfl | (exfalso; simp only [← Int32.toInt_inj, ne_eq, Decidable.not_not] at *; omega)
              have k1 : (if e0 = r1 then FP.dadd s1 f0 else (if e1 = r1 then FP.dadd s1 f1 else (if e2 = r1 then FP.dadd s1 f2 else s1))) = (FP.dadd s1 f2) := by (repeat' split) <;> first | rfl | (exfalso; simp only [← Int32.toInt_inj, ne_eq, Decidable.not_not] at *; omega)
              simp only [k0, k1]
              exact own_retV K own_d6_85 (by decide) (by decide) (⟨rfl, H28⟩)
          · refine own_iinc K own_d6_35 rfl (y := (3 : Int32)) (by decide) (Ls' := #[.val (.ref a), .val (.ref b), .val (.int (3 : Int32)), .val (.int (1 : Int32))]) rfl ?_
            refine own_goto K own_d6_38 ?_
            refine own_iloadN K own_d6_12 rfl ?_
            refine own_aloadN K own_d6_13 rfl rfl ?_
            refine own_getfield K own_d6_14 (host := "") (Or.inl (own_w25 hw)) Via.refl H16 (j := 1) rfl (q := 2) rfl ?_
            refine own_icmpge K own_d6_17 (fun _ => ?_) (fun q => absurd (by decide) q)
            refine own_iloadN K own_d6_41 rfl ?_
            refine own_aloadN K own_d6_42 rfl rfl ?_
            refine own_getfield K own_d6_43 (host := "") (Or.inl (own_w25 hw)) Via.refl H16 (j := 1) rfl (q := 2) rfl ?_
            refine own_icmpge K own_d6_46 (fun _ => ?_) (fun q => absurd (by decide) q)
            refine own_iinc K own_d6_79 rfl (y := (2 : Int32)) (by decide) (Ls' := #[.val (.ref a), .val (.ref b), .val (.int (3 : Int32)), .val (.int (2 : Int32))]) rfl ?_
            refine own_goto K own_d6_82 ?_
            refine own_iloadN K own_d6_4 rfl ?_
            refine own_aloadN K own_d6_5 rfl rfl ?_
            refine own_getfield K own_d6_6 (host := "") (Or.inl (own_w25 hw)) Via.refl H16 (j := 0) rfl (q := 2) rfl ?_
            refine own_icmpge K own_d6_9 (fun _ => ?_) (fun q => absurd (by decide) q)
            have k0 : (if e0 = r0 then FP.dadd s0 f0 else (if e1 = r0 then FP.dadd s0 f1 else (if e2 = r0 then FP.dadd s0 f2 else s0))) = (FP.dadd s0 f0) := by (repeat' split) <;> first | rfl | (exfalso; simp only [← Int32.toInt_inj, ne_eq, Decidable.not_not] at *; omega)
            have k1 : (if e0 = r1 then FP.dadd s1 f0 else (if e1 = r1 then FP.dadd s1 f1 else (if e2 = r1 then FP.dadd s1 f2 else s1))) = s1 := by (repeat' split) <;> first | rfl | (exfalso; simp only [← Int32.toInt_inj, ne_eq, Decidable.not_not] at *; omega)
            simp only [k0, k1]
            exact own_retV K own_d6_85 (by decide) (by decide) (⟨rfl, H16⟩)
  · refine own_iinc K own_d6_35 rfl (y := (1 : Int32)) (by decide) (Ls' := #[.val (.ref a), .val (.ref b), .val (.int (1 : Int32)), .val (.int (0 : Int32))]) rfl ?_
    refine own_goto K own_d6_38 ?_
    refine own_iloadN K own_d6_12 rfl ?_
    refine own_aloadN K own_d6_13 rfl rfl ?_
    refine own_getfield K own_d6_14 (host := "") (Or.inl (own_w25 hw)) Via.refl H (j := 1) rfl (q := 2) rfl ?_
    refine own_icmpge K own_d6_17 (fun q => absurd q (by decide)) (fun _ => ?_)
    refine own_aloadN K own_d6_20 rfl rfl ?_
    refine own_getfield K own_d6_21 (host := "") (Or.inl (own_w15 hw)) Via.refl H (j := 1) rfl (q := 0) rfl ?_
    refine own_iloadN K own_d6_24 rfl ?_
    refine own_iaload K own_d6_25 H (i := 2) rfl (q := 1) (by decide) (rfl) ?_
    refine own_aloadN K own_d6_26 rfl rfl ?_
    refine own_getfield K own_d6_27 (host := "") (Or.inl (own_w15 hw)) Via.refl H (j := 0) rfl (q := 0) rfl ?_
    refine own_iloadN K own_d6_30 rfl ?_
    refine own_iaload K own_d6_31 H (i := 0) rfl (q := 0) (by decide) (rfl) ?_
    refine own_icmpge K own_d6_32 (fun g29 => ?_) (fun g29 => ?_)
    · refine own_iloadN K own_d6_41 rfl ?_
      refine own_aloadN K own_d6_42 rfl rfl ?_
      refine own_getfield K own_d6_43 (host := "") (Or.inl (own_w25 hw)) Via.refl H (j := 1) rfl (q := 2) rfl ?_
      refine own_icmpge K own_d6_46 (fun q => absurd q (by decide)) (fun _ => ?_)
      refine own_aloadN K own_d6_49 rfl rfl ?_
      refine own_getfield K own_d6_50 (host := "") (Or.inl (own_w15 hw)) Via.refl H (j := 1) rfl (q := 0) rfl ?_
      refine own_iloadN K own_d6_53 rfl ?_
      refine own_iaload K own_d6_54 H (i := 2) rfl (q := 1) (by decide) (rfl) ?_
      refine own_aloadN K own_d6_55 rfl rfl ?_
      refine own_getfield K own_d6_56 (host := "") (Or.inl (own_w15 hw)) Via.refl H (j := 0) rfl (q := 0) rfl ?_
      refine own_iloadN K own_d6_59 rfl ?_
      refine own_iaload K own_d6_60 H (i := 0) rfl (q := 0) (by decide) (rfl) ?_
      refine own_icmpne K own_d6_61 (fun g30 => ?_) (fun g30 => ?_)
      · refine own_iinc K own_d6_79 rfl (y := (1 : Int32)) (by decide) (Ls' := #[.val (.ref a), .val (.ref b), .val (.int (1 : Int32)), .val (.int (1 : Int32))]) rfl ?_
        refine own_goto K own_d6_82 ?_
        refine own_iloadN K own_d6_4 rfl ?_
        refine own_aloadN K own_d6_5 rfl rfl ?_
        refine own_getfield K own_d6_6 (host := "") (Or.inl (own_w25 hw)) Via.refl H (j := 0) rfl (q := 2) rfl ?_
        refine own_icmpge K own_d6_9 (fun q => absurd q (by decide)) (fun _ => ?_)
        refine own_iloadN K own_d6_12 rfl ?_
        refine own_aloadN K own_d6_13 rfl rfl ?_
        refine own_getfield K own_d6_14 (host := "") (Or.inl (own_w25 hw)) Via.refl H (j := 1) rfl (q := 2) rfl ?_
        refine own_icmpge K own_d6_17 (fun q => absurd q (by decide)) (fun _ => ?_)
        refine own_aloadN K own_d6_20 rfl rfl ?_
        refine own_getfield K own_d6_21 (host := "") (Or.inl (own_w15 hw)) Via.refl H (j := 1) rfl (q := 0) rfl ?_
        refine own_iloadN K own_d6_24 rfl ?_
        refine own_iaload K own_d6_25 H (i := 2) rfl (q := 1) (by decide) (rfl) ?_
        refine own_aloadN K own_d6_26 rfl rfl ?_
        refine own_getfield K own_d6_27 (host := "") (Or.inl (own_w15 hw)) Via.refl H (j := 0) rfl (q := 0) rfl ?_
        refine own_iloadN K own_d6_30 rfl ?_
        refine own_iaload K own_d6_31 H (i := 0) rfl (q := 1) (by decide) (rfl) ?_
        refine own_icmpge K own_d6_32 (fun g31 => ?_) (fun g31 => ?_)
        · refine own_iloadN K own_d6_41 rfl ?_
          refine own_aloadN K own_d6_42 rfl rfl ?_
          refine own_getfield K own_d6_43 (host := "") (Or.inl (own_w25 hw)) Via.refl H (j := 1) rfl (q := 2) rfl ?_
          refine own_icmpge K own_d6_46 (fun q => absurd q (by decide)) (fun _ => ?_)
          refine own_aloadN K own_d6_49 rfl rfl ?_
          refine own_getfield K own_d6_50 (host := "") (Or.inl (own_w15 hw)) Via.refl H (j := 1) rfl (q := 0) rfl ?_
          refine own_iloadN K own_d6_53 rfl ?_
          refine own_iaload K own_d6_54 H (i := 2) rfl (q := 1) (by decide) (rfl) ?_
          refine own_aloadN K own_d6_55 rfl rfl ?_
          refine own_getfield K own_d6_56 (host := "") (Or.inl (own_w15 hw)) Via.refl H (j := 0) rfl (q := 0) rfl ?_
          refine own_iloadN K own_d6_59 rfl ?_
          refine own_iaload K own_d6_60 H (i := 0) rfl (q := 1) (by decide) (rfl) ?_
          refine own_icmpne K own_d6_61 (fun g32 => ?_) (fun g32 => ?_)
          · refine own_iinc K own_d6_79 rfl (y := (2 : Int32)) (by decide) (Ls' := #[.val (.ref a), .val (.ref b), .val (.int (1 : Int32)), .val (.int (2 : Int32))]) rfl ?_
            refine own_goto K own_d6_82 ?_
            refine own_iloadN K own_d6_4 rfl ?_
            refine own_aloadN K own_d6_5 rfl rfl ?_
            refine own_getfield K own_d6_6 (host := "") (Or.inl (own_w25 hw)) Via.refl H (j := 0) rfl (q := 2) rfl ?_
            refine own_icmpge K own_d6_9 (fun _ => ?_) (fun q => absurd (by decide) q)
            have k0 : (if e0 = r0 then FP.dadd s0 f0 else (if e1 = r0 then FP.dadd s0 f1 else (if e2 = r0 then FP.dadd s0 f2 else s0))) = s0 := by (repeat' split) <;> first | rfl | (exfalso; simp only [← Int32.toInt_inj, ne_eq, Decidable.not_not] at *; omega)
            have k1 : (if e0 = r1 then FP.dadd s1 f0 else (if e1 = r1 then FP.dadd s1 f1 else (if e2 = r1 then FP.dadd s1 f2 else s1))) = s1 := by (repeat' split) <;> first | rfl | (exfalso; simp only [← Int32.toInt_inj, ne_eq, Decidable.not_not] at *; omega)
            simp only [k0, k1]
            exact own_retV K own_d6_85 (by decide) (by decide) (⟨rfl, H⟩)
          · refine own_aloadN K own_d6_64 rfl rfl ?_
            refine own_getfield K own_d6_65 (host := "") (Or.inl (own_w18 hw)) Via.refl H (j := 0) rfl (q := 1) rfl ?_
            refine own_iloadN K own_d6_68 rfl ?_
            refine own_dup2 K own_d6_69 rfl rfl ?_
            refine own_daload K own_d6_70 H (i := 1) rfl (q := 1) (by decide) (rfl) ?_
            refine own_aloadN K own_d6_71 rfl rfl ?_
            refine own_getfield K own_d6_72 (host := "") (Or.inl (own_w18 hw)) Via.refl H (j := 1) rfl (q := 1) rfl ?_
            refine own_iloadN K own_d6_75 rfl ?_
            refine own_daload K own_d6_76 H (i := 3) rfl (q := 1) (by decide) (rfl) ?_
            refine own_dadd K own_d6_77 (Fl.dadd_out fs1.noNaN ff1) ?_
            refine own_dastore K own_d6_78 H (i := 1) rfl (q := 1) (by decide) (own_le rfl) ?_
            intro h33 H34
            replace H34 : own_H Z h33 (own_SD a (.ref da) (.ref sa) (.int (2 : Int32)) :: own_SD b (.ref db) (.ref sb) (.int (3 : Int32)) :: os) ((da, .int, "[I", [(.int r0), (.int r1), x2, x3]) :: (sa, .double, "[D", [(.double s0), (.double (FP.dadd s1 f1)), y2, y3]) :: (db, .int, "[I", [(.int e0), (.int e1), (.int e2), u3]) :: (sb, .double, "[D", [(.double f0), (.double f1), (.double f2), w3]) :: as) := H34
            refine own_iinc K own_d6_79 rfl (y := (2 : Int32)) (by decide) (Ls' := #[.val (.ref a), .val (.ref b), .val (.int (1 : Int32)), .val (.int (2 : Int32))]) rfl ?_
            refine own_goto K own_d6_82 ?_
            refine own_iloadN K own_d6_4 rfl ?_
            refine own_aloadN K own_d6_5 rfl rfl ?_
            refine own_getfield K own_d6_6 (host := "") (Or.inl (own_w25 hw)) Via.refl H34 (j := 0) rfl (q := 2) rfl ?_
            refine own_icmpge K own_d6_9 (fun _ => ?_) (fun q => absurd (by decide) q)
            have k0 : (if e0 = r0 then FP.dadd s0 f0 else (if e1 = r0 then FP.dadd s0 f1 else (if e2 = r0 then FP.dadd s0 f2 else s0))) = s0 := by (repeat' split) <;> first | rfl | (exfalso; simp only [← Int32.toInt_inj, ne_eq, Decidable.not_not] at *; omega)
            have k1 : (if e0 = r1 then FP.dadd s1 f0 else (if e1 = r1 then FP.dadd s1 f1 else (if e2 = r1 then FP.dadd s1 f2 else s1))) = (FP.dadd s1 f1) := by (repeat' split) <;> first | rfl | (exfalso; simp only [← Int32.toInt_inj, ne_eq, Decidable.not_not] at *; omega)
            simp only [k0, k1]
            exact own_retV K own_d6_85 (by decide) (by decide) (⟨rfl, H34⟩)
        · refine own_iinc K own_d6_35 rfl (y := (2 : Int32)) (by decide) (Ls' := #[.val (.ref a), .val (.ref b), .val (.int (2 : Int32)), .val (.int (1 : Int32))]) rfl ?_
          refine own_goto K own_d6_38 ?_
          refine own_iloadN K own_d6_12 rfl ?_
          refine own_aloadN K own_d6_13 rfl rfl ?_
          refine own_getfield K own_d6_14 (host := "") (Or.inl (own_w25 hw)) Via.refl H (j := 1) rfl (q := 2) rfl ?_
          refine own_icmpge K own_d6_17 (fun q => absurd q (by decide)) (fun _ => ?_)
          refine own_aloadN K own_d6_20 rfl rfl ?_
          refine own_getfield K own_d6_21 (host := "") (Or.inl (own_w15 hw)) Via.refl H (j := 1) rfl (q := 0) rfl ?_
          refine own_iloadN K own_d6_24 rfl ?_
          refine own_iaload K own_d6_25 H (i := 2) rfl (q := 2) (by decide) (rfl) ?_
          refine own_aloadN K own_d6_26 rfl rfl ?_
          refine own_getfield K own_d6_27 (host := "") (Or.inl (own_w15 hw)) Via.refl H (j := 0) rfl (q := 0) rfl ?_
          refine own_iloadN K own_d6_30 rfl ?_
          refine own_iaload K own_d6_31 H (i := 0) rfl (q := 1) (by decide) (rfl) ?_
          refine own_icmpge K own_d6_32 (fun g35 => ?_) (fun g35 => ?_)
          · refine own_iloadN K own_d6_41 rfl ?_
            refine own_aloadN K own_d6_42 rfl rfl ?_
            refine own_getfield K own_d6_43 (host := "") (Or.inl (own_w25 hw)) Via.refl H (j := 1) rfl (q := 2) rfl ?_
            refine own_icmpge K own_d6_46 (fun q => absurd q (by decide)) (fun _ => ?_)
            refine own_aloadN K own_d6_49 rfl rfl ?_
            refine own_getfield K own_d6_50 (host := "") (Or.inl (own_w15 hw)) Via.refl H (j := 1) rfl (q := 0) rfl ?_
            refine own_iloadN K own_d6_53 rfl ?_
            refine own_iaload K own_d6_54 H (i := 2) rfl (q := 2) (by decide) (rfl) ?_
            refine own_aloadN K own_d6_55 rfl rfl ?_
            refine own_getfield K own_d6_56 (host := "") (Or.inl (own_w15 hw)) Via.refl H (j := 0) rfl (q := 0) rfl ?_
            refine own_iloadN K own_d6_59 rfl ?_
            refine own_iaload K own_d6_60 H (i := 0) rfl (q := 1) (by decide) (rfl) ?_
            refine own_icmpne K own_d6_61 (fun g36 => ?_) (fun g36 => ?_)
            · refine own_iinc K own_d6_79 rfl (y := (2 : Int32)) (by decide) (Ls' := #[.val (.ref a), .val (.ref b), .val (.int (2 : Int32)), .val (.int (2 : Int32))]) rfl ?_
              refine own_goto K own_d6_82 ?_
              refine own_iloadN K own_d6_4 rfl ?_
              refine own_aloadN K own_d6_5 rfl rfl ?_
              refine own_getfield K own_d6_6 (host := "") (Or.inl (own_w25 hw)) Via.refl H (j := 0) rfl (q := 2) rfl ?_
              refine own_icmpge K own_d6_9 (fun _ => ?_) (fun q => absurd (by decide) q)
              have k0 : (if e0 = r0 then FP.dadd s0 f0 else (if e1 = r0 then FP.dadd s0 f1 else (if e2 = r0 then FP.dadd s0 f2 else s0))) = s0 := by (repeat' split) <;> first | rfl | (exfalso; simp only [← Int32.toInt_inj, ne_eq, Decidable.not_not] at *; omega)
              have k1 : (if e0 = r1 then FP.dadd s1 f0 else (if e1 = r1 then FP.dadd s1 f1 else (if e2 = r1 then FP.dadd s1 f2 else s1))) = s1 := by (repeat' split) <;> first | rfl | (exfalso; simp only [← Int32.toInt_inj, ne_eq, Decidable.not_not] at *; omega)
              simp only [k0, k1]
              exact own_retV K own_d6_85 (by decide) (by decide) (⟨rfl, H⟩)
            · refine own_aloadN K own_d6_64 rfl rfl ?_
              refine own_getfield K own_d6_65 (host := "") (Or.inl (own_w18 hw)) Via.refl H (j := 0) rfl (q := 1) rfl ?_
              refine own_iloadN K own_d6_68 rfl ?_
              refine own_dup2 K own_d6_69 rfl rfl ?_
              refine own_daload K own_d6_70 H (i := 1) rfl (q := 1) (by decide) (rfl) ?_
              refine own_aloadN K own_d6_71 rfl rfl ?_
              refine own_getfield K own_d6_72 (host := "") (Or.inl (own_w18 hw)) Via.refl H (j := 1) rfl (q := 1) rfl ?_
              refine own_iloadN K own_d6_75 rfl ?_
              refine own_daload K own_d6_76 H (i := 3) rfl (q := 2) (by decide) (rfl) ?_
              refine own_dadd K own_d6_77 (Fl.dadd_out fs1.noNaN ff2) ?_
              refine own_dastore K own_d6_78 H (i := 1) rfl (q := 1) (by decide) (own_le rfl) ?_
              intro h37 H38
              replace H38 : own_H Z h37 (own_SD a (.ref da) (.ref sa) (.int (2 : Int32)) :: own_SD b (.ref db) (.ref sb) (.int (3 : Int32)) :: os) ((da, .int, "[I", [(.int r0), (.int r1), x2, x3]) :: (sa, .double, "[D", [(.double s0), (.double (FP.dadd s1 f2)), y2, y3]) :: (db, .int, "[I", [(.int e0), (.int e1), (.int e2), u3]) :: (sb, .double, "[D", [(.double f0), (.double f1), (.double f2), w3]) :: as) := H38
              refine own_iinc K own_d6_79 rfl (y := (2 : Int32)) (by decide) (Ls' := #[.val (.ref a), .val (.ref b), .val (.int (2 : Int32)), .val (.int (2 : Int32))]) rfl ?_
              refine own_goto K own_d6_82 ?_
              refine own_iloadN K own_d6_4 rfl ?_
              refine own_aloadN K own_d6_5 rfl rfl ?_
              refine own_getfield K own_d6_6 (host := "") (Or.inl (own_w25 hw)) Via.refl H38 (j := 0) rfl (q := 2) rfl ?_
              refine own_icmpge K own_d6_9 (fun _ => ?_) (fun q => absurd (by decide) q)
              have k0 : (if e0 = r0 then FP.dadd s0 f0 else (if e1 = r0 then FP.dadd s0 f1 else (if e2 = r0 then FP.dadd s0 f2 else s0))) = s0 := by (repeat' split) <;> first | rfl | (exfalso; simp only [← Int32.toInt_inj, ne_eq, Decidable.not_not] at *; omega)
              have k1 : (if e0 = r1 then FP.dadd s1 f0 else (if e1 = r1 then FP.dadd s1 f1 else (if e2 = r1 then FP.dadd s1 f2 else s1))) = (FP.dadd s1 f2) := by (repeat' split) <;> first | rfl | (exfalso; simp only [← Int32.toInt_inj, ne_eq, Decidable.not_not] at *; omega)
              simp only [k0, k1]
              exact own_retV K own_d6_85 (by decide) (by decide) (⟨rfl, H38⟩)
          · refine own_iinc K own_d6_35 rfl (y := (3 : Int32)) (by decide) (Ls' := #[.val (.ref a), .val (.ref b), .val (.int (3 : Int32)), .val (.int (1 : Int32))]) rfl ?_
            refine own_goto K own_d6_38 ?_
            refine own_iloadN K own_d6_12 rfl ?_
            refine own_aloadN K own_d6_13 rfl rfl ?_
            refine own_getfield K own_d6_14 (host := "") (Or.inl (own_w25 hw)) Via.refl H (j := 1) rfl (q := 2) rfl ?_
            refine own_icmpge K own_d6_17 (fun _ => ?_) (fun q => absurd (by decide) q)
            refine own_iloadN K own_d6_41 rfl ?_
            refine own_aloadN K own_d6_42 rfl rfl ?_
            refine own_getfield K own_d6_43 (host := "") (Or.inl (own_w25 hw)) Via.refl H (j := 1) rfl (q := 2) rfl ?_
            refine own_icmpge K own_d6_46 (fun _ => ?_) (fun q => absurd (by decide) q)
            refine own_iinc K own_d6_79 rfl (y := (2 : Int32)) (by decide) (Ls' := #[.val (.ref a), .val (.ref b), .val (.int (3 : Int32)), .val (.int (2 : Int32))]) rfl ?_
            refine own_goto K own_d6_82 ?_
            refine own_iloadN K own_d6_4 rfl ?_
            refine own_aloadN K own_d6_5 rfl rfl ?_
            refine own_getfield K own_d6_6 (host := "") (Or.inl (own_w25 hw)) Via.refl H (j := 0) rfl (q := 2) rfl ?_
            refine own_icmpge K own_d6_9 (fun _ => ?_) (fun q => absurd (by decide) q)
            have k0 : (if e0 = r0 then FP.dadd s0 f0 else (if e1 = r0 then FP.dadd s0 f1 else (if e2 = r0 then FP.dadd s0 f2 else s0))) = s0 := by (repeat' split) <;> first | rfl | (exfalso; simp only [← Int32.toInt_inj, ne_eq, Decidable.not_not] at *; omega)
            have k1 : (if e0 = r1 then FP.dadd s1 f0 else (if e1 = r1 then FP.dadd s1 f1 else (if e2 = r1 then FP.dadd s1 f2 else s1))) = s1 := by (repeat' split) <;> first | rfl | (exfalso; simp only [← Int32.toInt_inj, ne_eq, Decidable.not_not] at *; omega)
            simp only [k0, k1]
            exact own_retV K own_d6_85 (by decide) (by decide) (⟨rfl, H⟩)
      · refine own_aloadN K own_d6_64 rfl rfl ?_
        refine own_getfield K own_d6_65 (host := "") (Or.inl (own_w18 hw)) Via.refl H (j := 0) rfl (q := 1) rfl ?_
        refine own_iloadN K own_d6_68 rfl ?_
        refine own_dup2 K own_d6_69 rfl rfl ?_
        refine own_daload K own_d6_70 H (i := 1) rfl (q := 0) (by decide) (rfl) ?_
        refine own_aloadN K own_d6_71 rfl rfl ?_
        refine own_getfield K own_d6_72 (host := "") (Or.inl (own_w18 hw)) Via.refl H (j := 1) rfl (q := 1) rfl ?_
        refine own_iloadN K own_d6_75 rfl ?_
        refine own_daload K own_d6_76 H (i := 3) rfl (q := 1) (by decide) (rfl) ?_
        refine own_dadd K own_d6_77 (Fl.dadd_out fs0.noNaN ff1) ?_
        refine own_dastore K own_d6_78 H (i := 1) rfl (q := 0) (by decide) (own_le rfl) ?_
        intro h39 H40
        replace H40 : own_H Z h39 (own_SD a (.ref da) (.ref sa) (.int (2 : Int32)) :: own_SD b (.ref db) (.ref sb) (.int (3 : Int32)) :: os) ((da, .int, "[I", [(.int r0), (.int r1), x2, x3]) :: (sa, .double, "[D", [(.double (FP.dadd s0 f1)), (.double s1), y2, y3]) :: (db, .int, "[I", [(.int e0), (.int e1), (.int e2), u3]) :: (sb, .double, "[D", [(.double f0), (.double f1), (.double f2), w3]) :: as) := H40
        refine own_iinc K own_d6_79 rfl (y := (1 : Int32)) (by decide) (Ls' := #[.val (.ref a), .val (.ref b), .val (.int (1 : Int32)), .val (.int (1 : Int32))]) rfl ?_
        refine own_goto K own_d6_82 ?_
        refine own_iloadN K own_d6_4 rfl ?_
        refine own_aloadN K own_d6_5 rfl rfl ?_
        refine own_getfield K own_d6_6 (host := "") (Or.inl (own_w25 hw)) Via.refl H40 (j := 0) rfl (q := 2) rfl ?_
        refine own_icmpge K own_d6_9 (fun q => absurd q (by decide)) (fun _ => ?_)
        refine own_iloadN K own_d6_12 rfl ?_
        refine own_aloadN K own_d6_13 rfl rfl ?_
        refine own_getfield K own_d6_14 (host := "") (Or.inl (own_w25 hw)) Via.refl H40 (j := 1) rfl (q := 2) rfl ?_
        refine own_icmpge K own_d6_17 (fun q => absurd q (by decide)) (fun _ => ?_)
        refine own_aloadN K own_d6_20 rfl rfl ?_
        refine own_getfield K own_d6_21 (host := "") (Or.inl (own_w15 hw)) Via.refl H40 (j := 1) rfl (q := 0) rfl ?_
        refine own_iloadN K own_d6_24 rfl ?_
        refine own_iaload K own_d6_25 H40 (i := 2) rfl (q := 1) (by decide) (rfl) ?_
        refine own_aloadN K own_d6_26 rfl rfl ?_
        refine own_getfield K own_d6_27 (host := "") (Or.inl (own_w15 hw)) Via.refl H40 (j := 0) rfl (q := 0) rfl ?_
        refine own_iloadN K own_d6_30 rfl ?_
        refine own_iaload K own_d6_31 H40 (i := 0) rfl (q := 1) (by decide) (rfl) ?_
        refine own_icmpge K own_d6_32 (fun g41 => ?_) (fun g41 => ?_)
        · refine own_iloadN K own_d6_41 rfl ?_
          refine own_aloadN K own_d6_42 rfl rfl ?_
          refine own_getfield K own_d6_43 (host := "") (Or.inl (own_w25 hw)) Via.refl H40 (j := 1) rfl (q := 2) rfl ?_
          refine own_icmpge K own_d6_46 (fun q => absurd q (by decide)) (fun _ => ?_)
          refine own_aloadN K own_d6_49 rfl rfl ?_
          refine own_getfield K own_d6_50 (host := "") (Or.inl (own_w15 hw)) Via.refl H40 (j := 1) rfl (q := 0) rfl ?_
          refine own_iloadN K own_d6_53 rfl ?_
          refine own_iaload K own_d6_54 H40 (i := 2) rfl (q := 1) (by decide) (rfl) ?_
          refine own_aloadN K own_d6_55 rfl rfl ?_
          refine own_getfield K own_d6_56 (host := "") (Or.inl (own_w15 hw)) Via.refl H40 (j := 0) rfl (q := 0) rfl ?_
          refine own_iloadN K own_d6_59 rfl ?_
          refine own_iaload K own_d6_60 H40 (i := 0) rfl (q := 1) (by decide) (rfl) ?_
          refine own_icmpne K own_d6_61 (fun g42 => ?_) (fun g42 => ?_)
          · refine own_iinc K own_d6_79 rfl (y := (2 : Int32)) (by decide) (Ls' := #[.val (.ref a), .val (.ref b), .val (.int (1 : Int32)), .val (.int (2 : Int32))]) rfl ?_
            refine own_goto K own_d6_82 ?_
            refine own_iloadN K own_d6_4 rfl ?_
            refine own_aloadN K own_d6_5 rfl rfl ?_
            refine own_getfield K own_d6_6 (host := "") (Or.inl (own_w25 hw)) Via.refl H40 (j := 0) rfl (q := 2) rfl ?_
            refine own_icmpge K own_d6_9 (fun _ => ?_) (fun q => absurd (by decide) q)
            have k0 : (if e0 = r0 then FP.dadd s0 f0 else (if e1 = r0 then FP.dadd s0 f1 else (if e2 = r0 then FP.dadd s0 f2 else s0))) = (FP.dadd s0 f1) := by (repeat' split) <;> first | rfl | (exfalso; simp only [← Int32.toInt_inj, ne_eq, Decidable.not_not] at *; omega)
            have k1 : (if e0 = r1 then FP.dadd s1 f0 else (if e1 = r1 then FP.dadd s1 f1 else (if e2 = r1 then FP.dadd s1 f2 else s1))) = s1 := by (repeat' split) <;> first | rfl | (exfalso; simp only [← Int32.toInt_inj, ne_eq, Decidable.not_not] at *; omega)
            simp only [k0, k1]
            exact own_retV K own_d6_85 (by decide) (by decide) (⟨rfl, H40⟩)
          · refine own_aloadN K own_d6_64 rfl rfl ?_
            refine own_getfield K own_d6_65 (host := "") (Or.inl (own_w18 hw)) Via.refl H40 (j := 0) rfl (q := 1) rfl ?_
            refine own_iloadN K own_d6_68 rfl ?_
            refine own_dup2 K own_d6_69 rfl rfl ?_
            refine own_daload K own_d6_70 H40 (i := 1) rfl (q := 1) (by decide) (rfl) ?_
            refine own_aloadN K own_d6_71 rfl rfl ?_
            refine own_getfield K own_d6_72 (host := "") (Or.inl (own_w18 hw)) Via.refl H40 (j := 1) rfl (q := 1) rfl ?_
            refine own_iloadN K own_d6_75 rfl ?_
            refine own_daload K own_d6_76 H40 (i := 3) rfl (q := 1) (by decide) (rfl) ?_
            refine own_dadd K own_d6_77 (Fl.dadd_out fs1.noNaN ff1) ?_
            refine own_dastore K own_d6_78 H40 (i := 1) rfl (q := 1) (by decide) (own_le rfl) ?_
            intro h43 H44
            replace H44 : own_H Z h43 (own_SD a (.ref da) (.ref sa) (.int (2 : Int32)) :: own_SD b (.ref db) (.ref sb) (.int (3 : Int32)) :: os) ((da, .int, "[I", [(.int r0), (.int r1), x2, x3]) :: (sa, .double, "[D", [(.double (FP.dadd s0 f1)), (.double (FP.dadd s1 f1)), y2, y3]) :: (db, .int, "[I", [(.int e0), (.int e1), (.int e2), u3]) :: (sb, .double, "[D", [(.double f0), (.double f1), (.double f2), w3]) :: as) := H44
            refine own_iinc K own_d6_79 rfl (y := (2 : Int32)) (by decide) (Ls' := #[.val (.ref a), .val (.ref b), .val (.int (1 : Int32)), .val (.int (2 : Int32))]) rfl ?_
            refine own_goto K own_d6_82 ?_
            refine own_iloadN K own_d6_4 rfl ?_
            refine own_aloadN K own_d6_5 rfl rfl ?_
            refine own_getfield K own_d6_6 (host := "") (Or.inl (own_w25 hw)) Via.refl H44 (j := 0) rfl (q := 2) rfl ?_
            refine own_icmpge K own_d6_9 (fun _ => ?_) (fun q => absurd (by decide) q)
            have k0 : (if e0 = r0 then FP.dadd s0 f0 else (if e1 = r0 then FP.dadd s0 f1 else (if e2 = r0 then FP.dadd s0 f2 else s0))) = (FP.dadd s0 f1) := by (repeat' split) <;> first | rfl | (exfalso; simp only [← Int32.toInt_inj, ne_eq, Decidable.not_not] at *; omega)
            have k1 : (if e0 = r1 then FP.dadd s1 f0 else (if e1 = r1 then FP.dadd s1 f1 else (if e2 = r1 then FP.dadd s1 f2 else s1))) = (FP.dadd s1 f1) := by (repeat' split) <;> first | rfl | (exfalso; simp only [← Int32.toInt_inj, ne_eq, Decidable.not_not] at *; omega)
            simp only [k0, k1]
            exact own_retV K own_d6_85 (by decide) (by decide) (⟨rfl, H44⟩)
        · refine own_iinc K own_d6_35 rfl (y := (2 : Int32)) (by decide) (Ls' := #[.val (.ref a), .val (.ref b), .val (.int (2 : Int32)), .val (.int (1 : Int32))]) rfl ?_
          refine own_goto K own_d6_38 ?_
          refine own_iloadN K own_d6_12 rfl ?_
          refine own_aloadN K own_d6_13 rfl rfl ?_
          refine own_getfield K own_d6_14 (host := "") (Or.inl (own_w25 hw)) Via.refl H40 (j := 1) rfl (q := 2) rfl ?_
          refine own_icmpge K own_d6_17 (fun q => absurd q (by decide)) (fun _ => ?_)
          refine own_aloadN K own_d6_20 rfl rfl ?_
          refine own_getfield K own_d6_21 (host := "") (Or.inl (own_w15 hw)) Via.refl H40 (j := 1) rfl (q := 0) rfl ?_
          refine own_iloadN K own_d6_24 rfl ?_
          refine own_iaload K own_d6_25 H40 (i := 2) rfl (q := 2) (by decide) (rfl) ?_
          refine own_aloadN K own_d6_26 rfl rfl ?_
          refine own_getfield K own_d6_27 (host := "") (Or.inl (own_w15 hw)) Via.refl H40 (j := 0) rfl (q := 0) rfl ?_
          refine own_iloadN K own_d6_30 rfl ?_
          refine own_iaload K own_d6_31 H40 (i := 0) rfl (q := 1) (by decide) (rfl) ?_
          refine own_icmpge K own_d6_32 (fun g45 => ?_) (fun g45 => ?_)
          · refine own_iloadN K own_d6_41 rfl ?_
            refine own_aloadN K own_d6_42 rfl rfl ?_
            refine own_getfield K own_d6_43 (host := "") (Or.inl (own_w25 hw)) Via.refl H40 (j := 1) rfl (q := 2) rfl ?_
            refine own_icmpge K own_d6_46 (fun q => absurd q (by decide)) (fun _ => ?_)
            refine own_aloadN K own_d6_49 rfl rfl ?_
            refine own_getfield K own_d6_50 (host := "") (Or.inl (own_w15 hw)) Via.refl H40 (j := 1) rfl (q := 0) rfl ?_
            refine own_iloadN K own_d6_53 rfl ?_
            refine own_iaload K own_d6_54 H40 (i := 2) rfl (q := 2) (by decide) (rfl) ?_
            refine own_aloadN K own_d6_55 rfl rfl ?_
            refine own_getfield K own_d6_56 (host := "") (Or.inl (own_w15 hw)) Via.refl H40 (j := 0) rfl (q := 0) rfl ?_
            refine own_iloadN K own_d6_59 rfl ?_
            refine own_iaload K own_d6_60 H40 (i := 0) rfl (q := 1) (by decide) (rfl) ?_
            refine own_icmpne K own_d6_61 (fun g46 => ?_) (fun g46 => ?_)
            · refine own_iinc K own_d6_79 rfl (y := (2 : Int32)) (by decide) (Ls' := #[.val (.ref a), .val (.ref b), .val (.int (2 : Int32)), .val (.int (2 : Int32))]) rfl ?_
              refine own_goto K own_d6_82 ?_
              refine own_iloadN K own_d6_4 rfl ?_
              refine own_aloadN K own_d6_5 rfl rfl ?_
              refine own_getfield K own_d6_6 (host := "") (Or.inl (own_w25 hw)) Via.refl H40 (j := 0) rfl (q := 2) rfl ?_
              refine own_icmpge K own_d6_9 (fun _ => ?_) (fun q => absurd (by decide) q)
              have k0 : (if e0 = r0 then FP.dadd s0 f0 else (if e1 = r0 then FP.dadd s0 f1 else (if e2 = r0 then FP.dadd s0 f2 else s0))) = (FP.dadd s0 f1) := by (repeat' split) <;> first | rfl | (exfalso; simp only [← Int32.toInt_inj, ne_eq, Decidable.not_not] at *; omega)
              have k1 : (if e0 = r1 then FP.dadd s1 f0 else (if e1 = r1 then FP.dadd s1 f1 else (if e2 = r1 then FP.dadd s1 f2 else s1))) = s1 := by (repeat' split) <;> first | rfl | (exfalso; simp only [← Int32.toInt_inj, ne_eq, Decidable.not_not] at *; omega)
              simp only [k0, k1]
              exact own_retV K own_d6_85 (by decide) (by decide) (⟨rfl, H40⟩)
            · refine own_aloadN K own_d6_64 rfl rfl ?_
              refine own_getfield K own_d6_65 (host := "") (Or.inl (own_w18 hw)) Via.refl H40 (j := 0) rfl (q := 1) rfl ?_
              refine own_iloadN K own_d6_68 rfl ?_
              refine own_dup2 K own_d6_69 rfl rfl ?_
              refine own_daload K own_d6_70 H40 (i := 1) rfl (q := 1) (by decide) (rfl) ?_
              refine own_aloadN K own_d6_71 rfl rfl ?_
              refine own_getfield K own_d6_72 (host := "") (Or.inl (own_w18 hw)) Via.refl H40 (j := 1) rfl (q := 1) rfl ?_
              refine own_iloadN K own_d6_75 rfl ?_
              refine own_daload K own_d6_76 H40 (i := 3) rfl (q := 2) (by decide) (rfl) ?_
              refine own_dadd K own_d6_77 (Fl.dadd_out fs1.noNaN ff2) ?_
              refine own_dastore K own_d6_78 H40 (i := 1) rfl (q := 1) (by decide) (own_le rfl) ?_
              intro h47 H48
              replace H48 : own_H Z h47 (own_SD a (.ref da) (.ref sa) (.int (2 : Int32)) :: own_SD b (.ref db) (.ref sb) (.int (3 : Int32)) :: os) ((da, .int, "[I", [(.int r0), (.int r1), x2, x3]) :: (sa, .double, "[D", [(.double (FP.dadd s0 f1)), (.double (FP.dadd s1 f2)), y2, y3]) :: (db, .int, "[I", [(.int e0), (.int e1), (.int e2), u3]) :: (sb, .double, "[D", [(.double f0), (.double f1), (.double f2), w3]) :: as) := H48
              refine own_iinc K own_d6_79 rfl (y := (2 : Int32)) (by decide) (Ls' := #[.val (.ref a), .val (.ref b), .val (.int (2 : Int32)), .val (.int (2 : Int32))]) rfl ?_
              refine own_goto K own_d6_82 ?_
              refine own_iloadN K own_d6_4 rfl ?_
              refine own_aloadN K own_d6_5 rfl rfl ?_
              refine own_getfield K own_d6_6 (host := "") (Or.inl (own_w25 hw)) Via.refl H48 (j := 0) rfl (q := 2) rfl ?_
              refine own_icmpge K own_d6_9 (fun _ => ?_) (fun q => absurd (by decide) q)
              have k0 : (if e0 = r0 then FP.dadd s0 f0 else (if e1 = r0 then FP.dadd s0 f1 else (if e2 = r0 then FP.dadd s0 f2 else s0))) = (FP.dadd s0 f1) := by (repeat' split) <;> first | rfl | (exfalso; simp only [← Int32.toInt_inj, ne_eq, Decidable.not_not] at *; omega)
              have k1 : (if e0 = r1 then FP.dadd s1 f0 else (if e1 = r1 then FP.dadd s1 f1 else (if e2 = r1 then FP.dadd s1 f2 else s1))) = (FP.dadd s1 f2) := by (repeat' split) <;> first | rfl | (exfalso; simp only [← Int32.toInt_inj, ne_eq, Decidable.not_not] at *; omega)
              simp only [k0, k1]
              exact own_retV K own_d6_85 (by decide) (by decide) (⟨rfl, H48⟩)
          · refine own_iinc K own_d6_35 rfl (y := (3 : Int32)) (by decide) (Ls' := #[.val (.ref a), .val (.ref b), .val (.int (3 : Int32)), .val (.int (1 : Int32))]) rfl ?_
            refine own_goto K own_d6_38 ?_
            refine own_iloadN K own_d6_12 rfl ?_
            refine own_aloadN K own_d6_13 rfl rfl ?_
            refine own_getfield K own_d6_14 (host := "") (Or.inl (own_w25 hw)) Via.refl H40 (j := 1) rfl (q := 2) rfl ?_
            refine own_icmpge K own_d6_17 (fun _ => ?_) (fun q => absurd (by decide) q)
            refine own_iloadN K own_d6_41 rfl ?_
            refine own_aloadN K own_d6_42 rfl rfl ?_
            refine own_getfield K own_d6_43 (host := "") (Or.inl (own_w25 hw)) Via.refl H40 (j := 1) rfl (q := 2) rfl ?_
            refine own_icmpge K own_d6_46 (fun _ => ?_) (fun q => absurd (by decide) q)
            refine own_iinc K own_d6_79 rfl (y := (2 : Int32)) (by decide) (Ls' := #[.val (.ref a), .val (.ref b), .val (.int (3 : Int32)), .val (.int (2 : Int32))]) rfl ?_
            refine own_goto K own_d6_82 ?_
            refine own_iloadN K own_d6_4 rfl ?_
            refine own_aloadN K own_d6_5 rfl rfl ?_
            refine own_getfield K own_d6_6 (host := "") (Or.inl (own_w25 hw)) Via.refl H40 (j := 0) rfl (q := 2) rfl ?_
            refine own_icmpge K own_d6_9 (fun _ => ?_) (fun q => absurd (by decide) q)
            have k0 : (if e0 = r0 then FP.dadd s0 f0 else (if e1 = r0 then FP.dadd s0 f1 else (if e2 = r0 then FP.dadd s0 f2 else s0))) = (FP.dadd s0 f1) := by (repeat' split) <;> first | rfl | (exfalso; simp only [← Int32.toInt_inj, ne_eq, Decidable.not_not] at *; omega)
            have k1 : (if e0 = r1 then FP.dadd s1 f0 else (if e1 = r1 then FP.dadd s1 f1 else (if e2 = r1 then FP.dadd s1 f2 else s1))) = s1 := by (repeat' split) <;> first | rfl | (exfalso; simp only [← Int32.toInt_inj, ne_eq, Decidable.not_not] at *; omega)
            simp only [k0, k1]
            exact own_retV K own_d6_85 (by decide) (by decide) (⟨rfl, H40⟩)
    · refine own_iinc K own_d6_35 rfl (y := (2 : Int32)) (by decide) (Ls' := #[.val (.ref a), .val (.ref b), .val (.int (2 : Int32)), .val (.int (0 : Int32))]) rfl ?_
      refine own_goto K own_d6_38 ?_
      refine own_iloadN K own_d6_12 rfl ?_
      refine own_aloadN K own_d6_13 rfl rfl ?_
      refine own_getfield K own_d6_14 (host := "") (Or.inl (own_w25 hw)) Via.refl H (j := 1) rfl (q := 2) rfl ?_
      refine own_icmpge K own_d6_17 (fun q => absurd q (by decide)) (fun _ => ?_)
      refine own_aloadN K own_d6_20 rfl rfl ?_
      refine own_getfield K own_d6_21 (host := "") (Or.inl (own_w15 hw)) Via.refl H (j := 1) rfl (q := 0) rfl ?_
      refine own_iloadN K own_d6_24 rfl ?_
      refine own_iaload K own_d6_25 H (i := 2) rfl (q := 2) (by decide) (rfl) ?_
      refine own_aloadN K own_d6_26 rfl rfl ?_
      refine own_getfield K own_d6_27 (host := "") (Or.inl (own_w15 hw)) Via.refl H (j := 0) rfl (q := 0) rfl ?_
      refine own_iloadN K own_d6_30 rfl ?_
      refine own_iaload K own_d6_31 H (i := 0) rfl (q := 0) (by decide) (rfl) ?_
      refine own_icmpge K own_d6_32 (fun g49 => ?_) (fun g49 => ?_)
      · refine own_iloadN K own_d6_41 rfl ?_
        refine own_aloadN K own_d6_42 rfl rfl ?_
        refine own_getfield K own_d6_43 (host := "") (Or.inl (own_w25 hw)) Via.refl H (j := 1) rfl (q := 2) rfl ?_
        refine own_icmpge K own_d6_46 (fun q => absurd q (by decide)) (fun _ => ?_)
        refine own_aloadN K own_d6_49 rfl rfl ?_
        refine own_getfield K own_d6_50 (host := "") (Or.inl (own_w15 hw)) Via.refl H (j := 1) rfl (q := 0) rfl ?_
        refine own_iloadN K own_d6_53 rfl ?_
        refine own_iaload K own_d6_54 H (i := 2) rfl (q := 2) (by decide) (rfl) ?_
        refine own_aloadN K own_d6_55 rfl rfl ?_
        refine own_getfield K own_d6_56 (host := "") (Or.inl (own_w15 hw)) Via.refl H (j := 0) rfl (q := 0) rfl ?_
        refine own_iloadN K own_d6_59 rfl ?_
        refine own_iaload K own_d6_60 H (i := 0) rfl (q := 0) (by decide) (rfl) ?_
        refine own_icmpne K own_d6_61 (fun g50 => ?_) (fun g50 => ?_)
        · refine own_iinc K own_d6_79 rfl (y := (1 : Int32)) (by decide) (Ls' := #[.val (.ref a), .val (.ref b), .val (.int (2 : Int32)), .val (.int (1 : Int32))]) rfl ?_
          refine own_goto K own_d6_82 ?_
          refine own_iloadN K own_d6_4 rfl ?_
          refine own_aloadN K own_d6_5 rfl rfl ?_
          refine own_getfield K own_d6_6 (host := "") (Or.inl (own_w25 hw)) Via.refl H (j := 0) rfl (q := 2) rfl ?_
          refine own_icmpge K own_d6_9 (fun q => absurd q (by decide)) (fun _ => ?_)
          refine own_iloadN K own_d6_12 rfl ?_
          refine own_aloadN K own_d6_13 rfl rfl ?_
          refine own_getfield K own_d6_14 (host := "") (Or.inl (own_w25 hw)) Via.refl H (j := 1) rfl (q := 2) rfl ?_
          refine own_icmpge K own_d6_17 (fun q => absurd q (by decide)) (fun _ => ?_)
          refine own_aloadN K own_d6_20 rfl rfl ?_
          refine own_getfield K own_d6_21 (host := "") (Or.inl (own_w15 hw)) Via.refl H (j := 1) rfl (q := 0) rfl ?_
          refine own_iloadN K own_d6_24 rfl ?_
          refine own_iaload K own_d6_25 H (i := 2) rfl (q := 2) (by decide) (rfl) ?_
          refine own_aloadN K own_d6_26 rfl rfl ?_
          refine own_getfield K own_d6_27 (host := "") (Or.inl (own_w15 hw)) Via.refl H (j := 0) rfl (q := 0) rfl ?_
          refine own_iloadN K own_d6_30 rfl ?_
          refine own_iaload K own_d6_31 H (i := 0) rfl (q := 1) (by decide) (rfl) ?_
          refine own_icmpge K own_d6_32 (fun g51 => ?_) (fun g51 => ?_)
          · refine own_iloadN K own_d6_41 rfl ?_
            refine own_aloadN K own_d6_42 rfl rfl ?_
            refine own_getfield K own_d6_43 (host := "") (Or.inl (own_w25 hw)) Via.refl H (j := 1) rfl (q := 2) rfl ?_
            refine own_icmpge K own_d6_46 (fun q => absurd q (by decide)) (fun _ => ?_)
            refine own_aloadN K own_d6_49 rfl rfl ?_
            refine own_getfield K own_d6_50 (host := "") (Or.inl (own_w15 hw)) Via.refl H (j := 1) rfl (q := 0) rfl ?_
            refine own_iloadN K own_d6_53 rfl ?_
            refine own_iaload K own_d6_54 H (i := 2) rfl (q := 2) (by decide) (rfl) ?_
            refine own_aloadN K own_d6_55 rfl rfl ?_
            refine own_getfield K own_d6_56 (host := "") (Or.inl (own_w15 hw)) Via.refl H (j := 0) rfl (q := 0) rfl ?_
            refine own_iloadN K own_d6_59 rfl ?_
            refine own_iaload K own_d6_60 H (i := 0) rfl (q := 1) (by decide) (rfl) ?_
            refine own_icmpne K own_d6_61 (fun g52 => ?_) (fun g52 => ?_)
            · refine own_iinc K own_d6_79 rfl (y := (2 : Int32)) (by decide) (Ls' := #[.val (.ref a), .val (.ref b), .val (.int (2 : Int32)), .val (.int (2 : Int32))]) rfl ?_
              refine own_goto K own_d6_82 ?_
              refine own_iloadN K own_d6_4 rfl ?_
              refine own_aloadN K own_d6_5 rfl rfl ?_
              refine own_getfield K own_d6_6 (host := "") (Or.inl (own_w25 hw)) Via.refl H (j := 0) rfl (q := 2) rfl ?_
              refine own_icmpge K own_d6_9 (fun _ => ?_) (fun q => absurd (by decide) q)
              have k0 : (if e0 = r0 then FP.dadd s0 f0 else (if e1 = r0 then FP.dadd s0 f1 else (if e2 = r0 then FP.dadd s0 f2 else s0))) = s0 := by (repeat' split) <;> first | rfl | (exfalso; simp only [← Int32.toInt_inj, ne_eq, Decidable.not_not] at *; omega)
              have k1 : (if e0 = r1 then FP.dadd s1 f0 else (if e1 = r1 then FP.dadd s1 f1 else (if e2 = r1 then FP.dadd s1 f2 else s1))) = s1 := by (repeat' split) <;> first | rfl | (exfalso; simp only [← Int32.toInt_inj, ne_eq, Decidable.not_not] at *; omega)
              simp only [k0, k1]
              exact own_retV K own_d6_85 (by decide) (by decide) (⟨rfl, H⟩)
            · refine own_aloadN K own_d6_64 rfl rfl ?_
              refine own_getfield K own_d6_65 (host := "") (Or.inl (own_w18 hw)) Via.refl H (j := 0) rfl (q := 1) rfl ?_
              refine own_iloadN K own_d6_68 rfl ?_
              refine own_dup2 K own_d6_69 rfl rfl ?_
              refine own_daload K own_d6_70 H (i := 1) rfl (q := 1) (by decide) (rfl) ?_
              refine own_aloadN K own_d6_71 rfl rfl ?_
              refine own_getfield K own_d6_72 (host := "") (Or.inl (own_w18 hw)) Via.refl H (j := 1) rfl (q := 1) rfl ?_
              refine own_iloadN K own_d6_75 rfl ?_
              refine own_daload K own_d6_76 H (i := 3) rfl (q := 2) (by decide) (rfl) ?_
              refine own_dadd K own_d6_77 (Fl.dadd_out fs1.noNaN ff2) ?_
              refine own_dastore K own_d6_78 H (i := 1) rfl (q := 1) (by decide) (own_le rfl) ?_
              intro h53 H54
              replace H54 : own_H Z h53 (own_SD a (.ref da) (.ref sa) (.int (2 : Int32)) :: own_SD b (.ref db) (.ref sb) (.int (3 : Int32)) :: os) ((da, .int, "[I", [(.int r0), (.int r1), x2, x3]) :: (sa, .double, "[D", [(.double s0), (.double (FP.dadd s1 f2)), y2, y3]) :: (db, .int, "[I", [(.int e0), (.int e1), (.int e2), u3]) :: (sb, .double, "[D", [(.double f0), (.double f1), (.double f2), w3]) :: as) := H54
              refine own_iinc K own_d6_79 rfl (y := (2 : Int32)) (by decide) (Ls' := #[.val (.ref a), .val (.ref b), .val (.int (2 : Int32)), .val (.int (2 : Int32))]) rfl ?_
              refine own_goto K own_d6_82 ?_
              refine own_iloadN K own_d6_4 rfl ?_
              refine own_aloadN K own_d6_5 rfl rfl ?_
              refine own_getfield K own_d6_6 (host := "") (Or.inl (own_w25 hw)) Via.refl H54 (j := 0) rfl (q := 2) rfl ?_
              refine own_icmpge K own_d6_9 (fun _ => ?_) (fun q => absurd (by decide) q)
              have k0 : (if e0 = r0 then FP.dadd s0 f0 else (if e1 = r0 then FP.dadd s0 f1 else (if e2 = r0 then FP.dadd s0 f2 else s0))) = s0 := by (repeat' split) <;> first | rfl | (exfalso; simp only [← Int32.toInt_inj, ne_eq, Decidable.not_not] at *; omega)
              have k1 : (if e0 = r1 then FP.dadd s1 f0 else (if e1 = r1 then FP.dadd s1 f1 else (if e2 = r1 then FP.dadd s1 f2 else s1))) = (FP.dadd s1 f2) := by (repeat' split) <;> first | rfl | (exfalso; simp only [← Int32.toInt_inj, ne_eq, Decidable.not_not] at *; omega)
              simp only [k0, k1]
              exact own_retV K own_d6_85 (by decide) (by decide) (⟨rfl, H54⟩)
          · refine own_iinc K own_d6_35 rfl (y := (3 : Int32)) (by decide) (Ls' := #[.val (.ref a), .val (.ref b), .val (.int (3 : Int32)), .val (.int (1 : Int32))]) rfl ?_
            refine own_goto K own_d6_38 ?_
            refine own_iloadN K own_d6_12 rfl ?_
            refine own_aloadN K own_d6_13 rfl rfl ?_
            refine own_getfield K own_d6_14 (host := "") (Or.inl (own_w25 hw)) Via.refl H (j := 1) rfl (q := 2) rfl ?_
            refine own_icmpge K own_d6_17 (fun _ => ?_) (fun q => absurd (by decide) q)
            refine own_iloadN K own_d6_41 rfl ?_
            refine own_aloadN K own_d6_42 rfl rfl ?_
            refine own_getfield K own_d6_43 (host := "") (Or.inl (own_w25 hw)) Via.refl H (j := 1) rfl (q := 2) rfl ?_
            refine own_icmpge K own_d6_46 (fun _ => ?_) (fun q => absurd (by decide) q)
            refine own_iinc K own_d6_79 rfl (y := (2 : Int32)) (by decide) (Ls' := #[.val (.ref a), .val (.ref b), .val (.int (3 : Int32)), .val (.int (2 : Int32))]) rfl ?_
            refine own_goto K own_d6_82 ?_
            refine own_iloadN K own_d6_4 rfl ?_
            refine own_aloadN K own_d6_5 rfl rfl ?_
            refine own_getfield K own_d6_6 (host := "") (Or.inl (own_w25 hw)) Via.refl H (j := 0) rfl (q := 2) rfl ?_
            refine own_icmpge K own_d6_9 (fun _ => ?_) (fun q => absurd (by decide) q)
            have k0 : (if e0 = r0 then FP.dadd s0 f0 else (if e1 = r0 then FP.dadd s0 f1 else (if e2 = r0 then FP.dadd s0 f2 else s0))) = s0 := by (repeat' split) <;> first | rfl | (exfalso; simp only [← Int32.toInt_inj, ne_eq, Decidable.not_not] at *; omega)
            have k1 : (if e0 = r1 then FP.dadd s1 f0 else (if e1 = r1 then FP.dadd s1 f1 else (if e2 = r1 then FP.dadd s1 f2 else s1))) = s1 := by (repeat' split) <;> first | rfl | (exfalso; simp only [← Int32.toInt_inj, ne_eq, Decidable.not_not] at *; omega)
            simp only [k0, k1]
            exact own_retV K own_d6_85 (by decide) (by decide) (⟨rfl, H⟩)
        · refine own_aloadN K own_d6_64 rfl rfl ?_
          refine own_getfield K own_d6_65 (host := "") (Or.inl (own_w18 hw)) Via.refl H (j := 0) rfl (q := 1) rfl ?_
          refine own_iloadN K own_d6_68 rfl ?_
          refine own_dup2 K own_d6_69 rfl rfl ?_
          refine own_daload K own_d6_70 H (i := 1) rfl (q := 0) (by decide) (rfl) ?_
          refine own_aloadN K own_d6_71 rfl rfl ?_
          refine own_getfield K own_d6_72 (host := "") (Or.inl (own_w18 hw)) Via.refl H (j := 1) rfl (q := 1) rfl ?_
          refine own_iloadN K own_d6_75 rfl ?_
          refine own_daload K own_d6_76 H (i := 3) rfl (q := 2) (by decide) (rfl) ?_
          refine own_dadd K own_d6_77 (Fl.dadd_out fs0.noNaN ff2) ?_
          refine own_dastore K own_d6_78 H (i := 1) rfl (q := 0) (by decide) (own_le rfl) ?_
          intro h55 H56
          replace H56 : own_H Z h55 (own_SD a (.ref da) (.ref sa) (.int (2 : Int32)) :: own_SD b (.ref db) (.ref sb) (.int (3 : Int32)) :: os) ((da, .int, "[I", [(.int r0), (.int r1), x2, x3]) :: (sa, .double, "[D", [(.double (FP.dadd s0 f2)), (.double s1), y2, y3]) :: (db, .int, "[I", [(.int e0), (.int e1), (.int e2), u3]) :: (sb, .double, "[D", [(.double f0), (.double f1), (.double f2), w3]) :: as) := H56
          refine own_iinc K own_d6_79 rfl (y := (1 : Int32)) (by decide) (Ls' := #[.val (.ref a), .val (.ref b), .val (.int (2 : Int32)), .val (.int (1 : Int32))]) rfl ?_
          refine own_goto K own_d6_82 ?_
          refine own_iloadN K own_d6_4 rfl ?_
          refine own_aloadN K own_d6_5 rfl rfl ?_
          refine own_getfield K own_d6_6 (host := "") (Or.inl (own_w25 hw)) Via.refl H56 (j := 0) rfl (q := 2) rfl ?_
          refine own_icmpge K own_d6_9 (fun q => absurd q (by decide)) (fun _ => ?_)
          refine own_iloadN K own_d6_12 rfl ?_
          refine own_aloadN K own_d6_13 rfl rfl ?_
          refine own_getfield K own_d6_14 (host := "") (Or.inl (own_w25 hw)) Via.refl H56 (j := 1) rfl (q := 2) rfl ?_
          refine own_icmpge K own_d6_17 (fun q => absurd q (by decide)) (fun _ => ?_)
          refine own_aloadN K own_d6_20 rfl rfl ?_
          refine own_getfield K own_d6_21 (host := "") (Or.inl (own_w15 hw)) Via.refl H56 (j := 1) rfl (q := 0) rfl ?_
          refine own_iloadN K own_d6_24 rfl ?_
          refine own_iaload K own_d6_25 H56 (i := 2) rfl (q := 2) (by decide) (rfl) ?_
          refine own_aloadN K own_d6_26 rfl rfl ?_
          refine own_getfield K own_d6_27 (host := "") (Or.inl (own_w15 hw)) Via.refl H56 (j := 0) rfl (q := 0) rfl ?_
          refine own_iloadN K own_d6_30 rfl ?_
          refine own_iaload K own_d6_31 H56 (i := 0) rfl (q := 1) (by decide) (rfl) ?_
          refine own_icmpge K own_d6_32 (fun g57 => ?_) (fun g57 => ?_)
          · refine own_iloadN K own_d6_41 rfl ?_
            refine own_aloadN K own_d6_42 rfl rfl ?_
            refine own_getfield K own_d6_43 (host := "") (Or.inl (own_w25 hw)) Via.refl H56 (j := 1) rfl (q := 2) rfl ?_
            refine own_icmpge K own_d6_46 (fun q => absurd q (by decide)) (fun _ => ?_)
            refine own_aloadN K own_d6_49 rfl rfl ?_
            refine own_getfield K own_d6_50 (host := "") (Or.inl (own_w15 hw)) Via.refl H56 (j := 1) rfl (q := 0) rfl ?_
            refine own_iloadN K own_d6_53 rfl ?_
            refine own_iaload K own_d6_54 H56 (i := 2) rfl (q := 2) (by decide) (rfl) ?_
            refine own_aloadN K own_d6_55 rfl rfl ?_
            refine own_getfield K own_d6_56 (host := "") (Or.inl (own_w15 hw)) Via.refl H56 (j := 0) rfl (q := 0) rfl ?_
            refine own_iloadN K own_d6_59 rfl ?_
            refine own_iaload K own_d6_60 H56 (i := 0) rfl (q := 1) (by decide) (rfl) ?_
            refine own_icmpne K own_d6_61 (fun g58 => ?_) (fun g58 => ?_)
            · refine own_iinc K own_d6_79 rfl (y := (2 : Int32)) (by decide) (Ls' := #[.val (.ref a), .val (.ref b), .val (.int (2 : Int32)), .val (.int (2 : Int32))]) rfl ?_
              refine own_goto K own_d6_82 ?_
              refine own_iloadN K own_d6_4 rfl ?_
              refine own_aloadN K own_d6_5 rfl rfl ?_
              refine own_getfield K own_d6_6 (host := "") (Or.inl (own_w25 hw)) Via.refl H56 (j := 0) rfl (q := 2) rfl ?_
              refine own_icmpge K own_d6_9 (fun _ => ?_) (fun q => absurd (by decide) q)
              have k0 : (if e0 = r0 then FP.dadd s0 f0 else (if e1 = r0 then FP.dadd s0 f1 else (if e2 = r0 then FP.dadd s0 f2 else s0))) = (FP.dadd s0 f2) := by (repeat' split) <;> first | rfl | (exfalso; simp only [← Int32.toInt_inj, ne_eq, Decidable.not_not] at *; omega)
              have k1 : (if e0 = r1 then FP.dadd s1 f0 else (if e1 = r1 then FP.dadd s1 f1 else (if e2 = r1 then FP.dadd s1 f2 else s1))) = s1 := by (repeat' split) <;> first | rfl | (exfalso; simp only [← Int32.toInt_inj, ne_eq, Decidable.not_not] at *; omega)
              simp only [k0, k1]
              exact own_retV K own_d6_85 (by decide) (by decide) (⟨rfl, H56⟩)
            · refine own_aloadN K own_d6_64 rfl rfl ?_
              refine own_getfield K own_d6_65 (host := "") (Or.inl (own_w18 hw)) Via.refl H56 (j := 0) rfl (q := 1) rfl ?_
              refine own_iloadN K own_d6_68 rfl ?_
              refine own_dup2 K own_d6_69 rfl rfl ?_
              refine own_daload K own_d6_70 H56 (i := 1) rfl (q := 1) (by decide) (rfl) ?_
              refine own_aloadN K own_d6_71 rfl rfl ?_
              refine own_getfield K own_d6_72 (host := "") (Or.inl (own_w18 hw)) Via.refl H56 (j := 1) rfl (q := 1) rfl ?_
              refine own_iloadN K own_d6_75 rfl ?_
              refine own_daload K own_d6_76 H56 (i := 3) rfl (q := 2) (by decide) (rfl) ?_
              refine own_dadd K own_d6_77 (Fl.dadd_out fs1.noNaN ff2) ?_
              refine own_dastore K own_d6_78 H56 (i := 1) rfl (q := 1) (by decide) (own_le rfl) ?_
              intro h59 H60
              replace H60 : own_H Z h59 (own_SD a (.ref da) (.ref sa) (.int (2 : Int32)) :: own_SD b (.ref db) (.ref sb) (.int (3 : Int32)) :: os) ((da, .int, "[I", [(.int r0), (.int r1), x2, x3]) :: (sa, .double, "[D", [(.double (FP.dadd s0 f2)), (.double (FP.dadd s1 f2)), y2, y3]) :: (db, .int, "[I", [(.int e0), (.int e1), (.int e2), u3]) :: (sb, .double, "[D", [(.double f0), (.double f1), (.double f2), w3]) :: as) := H60
              refine own_iinc K own_d6_79 rfl (y := (2 : Int32)) (by decide) (Ls' := #[.val (.ref a), .val (.ref b), .val (.int (2 : Int32)), .val (.int (2 : Int32))]) rfl ?_
              refine own_goto K own_d6_82 ?_
              refine own_iloadN K own_d6_4 rfl ?_
              refine own_aloadN K own_d6_5 rfl rfl ?_
              refine own_getfield K own_d6_6 (host := "") (Or.inl (own_w25 hw)) Via.refl H60 (j := 0) rfl (q := 2) rfl ?_
              refine own_icmpge K own_d6_9 (fun _ => ?_) (fun q => absurd (by decide) q)
              have k0 : (if e0 = r0 then FP.dadd s0 f0 else (if e1 = r0 then FP.dadd s0 f1 else (if e2 = r0 then FP.dadd s0 f2 else s0))) = (FP.dadd s0 f2) := by (repeat' split) <;> first | rfl | (exfalso; simp only [← Int32.toInt_inj, ne_eq, Decidable.not_not] at *; omega)
              have k1 : (if e0 = r1 then FP.dadd s1 f0 else (if e1 = r1 then FP.dadd s1 f1 else (if e2 = r1 then FP.dadd s1 f2 else s1))) = (FP.dadd s1 f2) := by (repeat' split) <;> first | rfl | (exfalso; simp only [← Int32.toInt_inj, ne_eq, Decidable.not_not] at *; omega)
              simp only [k0, k1]
              exact own_retV K own_d6_85 (by decide) (by decide) (⟨rfl, H60⟩)
          · refine own_iinc K own_d6_35 rfl (y := (3 : Int32)) (by decide) (Ls' := #[.val (.ref a), .val (.ref b), .val (.int (3 : Int32)), .val (.int (1 : Int32))]) rfl ?_
            refine own_goto K own_d6_38 ?_
            refine own_iloadN K own_d6_12 rfl ?_
            refine own_aloadN K own_d6_13 rfl rfl ?_
            refine own_getfield K own_d6_14 (host := "") (Or.inl (own_w25 hw)) Via.refl H56 (j := 1) rfl (q := 2) rfl ?_
            refine own_icmpge K own_d6_17 (fun _ => ?_) (fun q => absurd (by decide) q)
            refine own_iloadN K own_d6_41 rfl ?_
            refine own_aloadN K own_d6_42 rfl rfl ?_
            refine own_getfield K own_d6_43 (host := "") (Or.inl (own_w25 hw)) Via.refl H56 (j := 1) rfl (q := 2) rfl ?_
            refine own_icmpge K own_d6_46 (fun _ => ?_) (fun q => absurd (by decide) q)
            refine own_iinc K own_d6_79 rfl (y := (2 : Int32)) (by decide) (Ls' := #[.val (.ref a), .val (.ref b), .val (.int (3 : Int32)), .val (.int (2 : Int32))]) rfl ?_
            refine own_goto K own_d6_82 ?_
            refine own_iloadN K own_d6_4 rfl ?_
            refine own_aloadN K own_d6_5 rfl rfl ?_
            refine own_getfield K own_d6_6 (host := "") (Or.inl (own_w25 hw)) Via.refl H56 (j := 0) rfl (q := 2) rfl ?_
            refine own_icmpge K own_d6_9 (fun _ => ?_) (fun q => absurd (by decide) q)
            have k0 : (if e0 = r0 then FP.dadd s0 f0 else (if e1 = r0 then FP.dadd s0 f1 else (if e2 = r0 then FP.dadd s0 f2 else s0))) = (FP.dadd s0 f2) := by (repeat' split) <;> first | rfl | (exfalso; simp only [← Int32.toInt_inj, ne_eq, Decidable.not_not] at *; omega)
            have k1 : (if e0 = r1 then FP.dadd s1 f0 else (if e1 = r1 then FP.dadd s1 f1 else (if e2 = r1 then FP.dadd s1 f2 else s1))) = s1 := by (repeat' split) <;> first | rfl | (exfalso; simp only [← Int32.toInt_inj, ne_eq, Decidable.not_not] at *; omega)
            simp only [k0, k1]
            exact own_retV K own_d6_85 (by decide) (by decide) (⟨rfl, H56⟩)
      · refine own_iinc K own_d6_35 rfl (y := (3 : Int32)) (by decide) (Ls' := #[.val (.ref a), .val (.ref b), .val (.int (3 : Int32)), .val (.int (0 : Int32))]) rfl ?_
        refine own_goto K own_d6_38 ?_
        refine own_iloadN K own_d6_12 rfl ?_
        refine own_aloadN K own_d6_13 rfl rfl ?_
        refine own_getfield K own_d6_14 (host := "") (Or.inl (own_w25 hw)) Via.refl H (j := 1) rfl (q := 2) rfl ?_
        refine own_icmpge K own_d6_17 (fun _ => ?_) (fun q => absurd (by decide) q)
        refine own_iloadN K own_d6_41 rfl ?_
        refine own_aloadN K own_d6_42 rfl rfl ?_
        refine own_getfield K own_d6_43 (host := "") (Or.inl (own_w25 hw)) Via.refl H (j := 1) rfl (q := 2) rfl ?_
        refine own_icmpge K own_d6_46 (fun _ => ?_) (fun q => absurd (by decide) q)
        refine own_iinc K own_d6_79 rfl (y := (1 : Int32)) (by decide) (Ls' := #[.val (.ref a), .val (.ref b), .val (.int (3 : Int32)), .val (.int (1 : Int32))]) rfl ?_
        refine own_goto K own_d6_82 ?_
        refine own_iloadN K own_d6_4 rfl ?_
        refine own_aloadN K own_d6_5 rfl rfl ?_
        refine own_getfield K own_d6_6 (host := "") (Or.inl (own_w25 hw)) Via.refl H (j := 0) rfl (q := 2) rfl ?_
        refine own_icmpge K own_d6_9 (fun q => absurd q (by decide)) (fun _ => ?_)
        refine own_iloadN K own_d6_12 rfl ?_
        refine own_aloadN K own_d6_13 rfl rfl ?_
        refine own_getfield K own_d6_14 (host := "") (Or.inl (own_w25 hw)) Via.refl H (j := 1) rfl (q := 2) rfl ?_
        refine own_icmpge K own_d6_17 (fun _ => ?_) (fun q => absurd (by decide) q)
        refine own_iloadN K own_d6_41 rfl ?_
        refine own_aloadN K own_d6_42 rfl rfl ?_
        refine own_getfield K own_d6_43 (host := "") (Or.inl (own_w25 hw)) Via.refl H (j := 1) rfl (q := 2) rfl ?_
        refine own_icmpge K own_d6_46 (fun _ => ?_) (fun q => absurd (by decide) q)
        refine own_iinc K own_d6_79 rfl (y := (2 : Int32)) (by decide) (Ls' := #[.val (.ref a), .val (.ref b), .val (.int (3 : Int32)), .val (.int (2 : Int32))]) rfl ?_
        refine own_goto K own_d6_82 ?_
        refine own_iloadN K own_d6_4 rfl ?_
        refine own_aloadN K own_d6_5 rfl rfl ?_
        refine own_getfield K own_d6_6 (host := "") (Or.inl (own_w25 hw)) Via.refl H (j := 0) rfl (q := 2) rfl ?_
        refine own_icmpge K own_d6_9 (fun _ => ?_) (fun q => absurd (by decide) q)
        have k0 : (if e0 = r0 then FP.dadd s0 f0 else (if e1 = r0 then FP.dadd s0 f1 else (if e2 = r0 then FP.dadd s0 f2 else s0))) = s0 := by (repeat' split) <;> first | rfl | (exfalso; simp only [← Int32.toInt_inj, ne_eq, Decidable.not_not] at *; omega)
        have k1 : (if e0 = r1 then FP.dadd s1 f0 else (if e1 = r1 then FP.dadd s1 f1 else (if e2 = r1 then FP.dadd s1 f2 else s1))) = s1 := by (repeat' split) <;> first | rfl | (exfalso; simp only [← Int32.toInt_inj, ne_eq, Decidable.not_not] at *; omega)
        simp only [k0, k1]
        exact own_retV K own_d6_85 (by decide) (by decide) (⟨rfl, H⟩)
theorem own_three (a : Int32) : (a &&& 3) % 3 = 0 ∨ (a &&& 3) % 3 = 1 ∨ (a &&& 3) % 3 = 2 := by
  have h := own_rem32 (a := a &&& 3) (b := 3) (own_and_bound a 3 (by decide)).1 (by decide)
  have e3 : (3 : Int32).toInt = 3 := rfl
  have e0 : (0 : Int32).toInt = 0 := rfl
  have e1 : (1 : Int32).toInt = 1 := rfl
  have e2 : (2 : Int32).toInt = 2 := rfl
  simp only [← Int32.toInt_inj]
  omega
theorem own_a0 {b : Int32} (x : Int32) {M : Int} (hb : b.toInt ≤ M) (hM : M ≤ 2147483640) : (b + (x &&& 3)).toInt ≤ M + 3 := by
  have h := own_and_bound x 3 (by decide)
  have e3 : (3 : Int32).toInt = 3 := rfl
  have := Int32.le_toInt b
  rw [own_add32 (by omega) (by omega)]; omega
theorem own_a1 {b : Int32} (x : Int32) {M : Int} (hb : b.toInt ≤ M) (hM : M ≤ 2147483640) : b.toInt < (b + 1 + (x &&& 3)).toInt ∧ (b + 1 + (x &&& 3)).toInt ≤ M + 4 := by
  have h := own_and_bound x 3 (by decide)
  have e3 : (3 : Int32).toInt = 3 := rfl
  have e1 : (1 : Int32).toInt = 1 := rfl
  have := Int32.le_toInt b
  have q : (b + 1).toInt = b.toInt + 1 := by rw [own_add32 (by omega) (by omega)]; omega
  rw [own_add32 (by omega) (by omega)]; omega
theorem own_expnn (m : Nat) {s f0 f1 f2 : UInt64} (fs : Fl.Fin64 s) (ff0 : Fl.Fin64 f0) (ff1 : Fl.Fin64 f1) (ff2 : Fl.Fin64 f2) (p0 p1 p2 : Prop) [Decidable p0] [Decidable p1] [Decidable p2] : Fl.NoNaN64 s ∧ Fl.NoNaN64 (if p0 then FP.dadd s f0 else s) ∧ Fl.NoNaN64 (if p0 then FP.dadd s f0 else (if p1 then FP.dadd s f1 else s)) ∧ Fl.NoNaN64 (if p0 then FP.dadd s f0 else (if p1 then FP.dadd s f1 else (if p2 then FP.dadd s f2 else s))) := by
  have a0 := Fl.dadd_out fs.noNaN ff0
  have a1 := Fl.dadd_out fs.noNaN ff1
  have a2 := Fl.dadd_out fs.noNaN ff2
  have a3 := fs.noNaN
  refine ⟨a3, ?_, ?_, ?_⟩ <;> (repeat' split) <;> assumption
set_option maxRecDepth 65536 in
set_option maxHeartbeats 40000000 in
theorem own_law_ef (m : MethodId) (x0 : Int32) (x1 : Int32) (x2 : Int32) (x3 : Int32) (x4 : Int32) (x5 : Int32) : entryFrame m #[(.int x0), (.int x1), (.int x2), (.int x3), (.int x4), (.int x5)] 27 = mkF m 0 #[.val (.int x0), .val (.int x1), .val (.int x2), .val (.int x3), .val (.int x4), .val (.int x5), .unset, .unset, .unset, .unset, .unset, .unset, .unset, .unset, .unset, .unset, .unset, .unset, .unset, .unset, .unset, .unset, .unset, .unset, .unset, .unset, .unset] [] := by first | (simp [entryFrame, mkF, argsToLocals, Value.category]; done) | rfl
set_option maxRecDepth 65536 in
set_option maxHeartbeats 40000000 in
theorem own_law {l : Launch} {Z : State} {a0 : Array Value} (hw : own_Z Z a0) {i0 i1 i2 i3 i4 i5 : Int32} : own_Met false l Z (⟨"com/example/fielder/fielder/service/ScoredDocumentsAddScoresPinLaw", "law", "(IIIIII)Z"⟩ : MethodName) code 27 (some .boolean) tables_1 room_1 #[(.int i0), (.int i1), (.int i2), (.int i3), (.int i4), (.int i5)] Z.heap (fun v h' => v = some (.int 1)) := by
  refine own_met (by first | exact plainFor_of_name (by decide +kernel) | decide +kernel) ?_
  intro p e s m below meth c K
  refine own_cast (own_law_ef m _ _ _ _ _ _) ?_
  have H := own_H.start Z
  rcases own_three i0 with q | q | q <;> rcases own_and3 (XT.ushr i0 2) with q' | q' | q' | q'
  · refine own_iloadN K own_d7_0 rfl ?_
    refine own_iconst K own_d7_1 (v := (3 : Int32)) rfl ?_
    refine own_iand K own_d7_2 ?_
    refine own_iconst K own_d7_3 (v := (3 : Int32)) rfl ?_
    refine own_irem K own_d7_4 (by decide) ?_
    refine own_topI (x' := (0 : Int32)) (q) ?_
    refine own_istore K own_d7_5 (Ls' := #[.val (.int i0), .val (.int i1), .val (.int i2), .val (.int i3), .val (.int i4), .val (.int i5), .val (.int (0 : Int32)), .unset, .unset, .unset, .unset, .unset, .unset, .unset, .unset, .unset, .unset, .unset, .unset, .unset, .unset, .unset, .unset, .unset, .unset, .unset, .unset]) rfl ?_
    refine own_iloadN K own_d7_7 rfl ?_
    refine own_iconst K own_d7_8 (v := (2 : Int32)) rfl ?_
    refine own_iushr K own_d7_9 ?_
    refine own_iconst K own_d7_10 (v := (3 : Int32)) rfl ?_
    refine own_iand K own_d7_11 ?_
    refine own_topI (x' := (0 : Int32)) (q') ?_
    refine own_istore K own_d7_12 (Ls' := #[.val (.int i0), .val (.int i1), .val (.int i2), .val (.int i3), .val (.int i4), .val (.int i5), .val (.int (0 : Int32)), .val (.int (0 : Int32)), .unset, .unset, .unset, .unset, .unset, .unset, .unset, .unset, .unset, .unset, .unset, .unset, .unset, .unset, .unset, .unset, .unset, .unset, .unset]) rfl ?_
    refine own_iloadN K own_d7_14 rfl ?_
    refine own_ldcI K own_d7_15 (v := (2147483627 : Int32)) (own_w0 hw) ?_
    refine own_static K own_d7_17 (own_w1 hw) (own_w2 hw) (own_w3 hw) (own_w4 hw) (argsL := [(.int i3), (.int (2147483627 : Int32))]) (rest := []) (own_min hw) own_pd0 rfl rfl rfl (by decide) (W := 0) (Nat.le_of_eq rfl) (by decide) (by decide) (by decide) (by decide) ?_
    intro v3 h1 q2
    obtain ⟨⟨bb, rfl, hbb⟩, rfl⟩ := q2
    replace hbb : bb.toInt ≤ 2147483627 := hbb
    refine own_istore K own_d7_20 (Ls' := #[.val (.int i0), .val (.int i1), .val (.int i2), .val (.int i3), .val (.int i4), .val (.int i5), .val (.int (0 : Int32)), .val (.int (0 : Int32)), .val (.int bb), .unset, .unset, .unset, .unset, .unset, .unset, .unset, .unset, .unset, .unset, .unset, .unset, .unset, .unset, .unset, .unset, .unset, .unset]) rfl ?_
    refine own_iload K own_d7_22 rfl ?_
    refine own_iloadN K own_d7_24 rfl ?_
    refine own_iconst K own_d7_25 (v := (3 : Int32)) rfl ?_
    refine own_iand K own_d7_26 ?_
    refine own_iadd K own_d7_27 ?_
    obtain ⟨r0, e_r0⟩ : ∃ z : Int32, z = (bb + (i1 &&& (3 : Int32))) := ⟨_, rfl⟩
    have r0_0 : r0.toInt ≤ 2147483630 := by rw [e_r0]; exact own_a0 _ hbb (by decide)
    refine own_topI (x' := r0) (e_r0.symm) ?_
    refine own_istore K own_d7_28 (Ls' := #[.val (.int i0), .val (.int i1), .val (.int i2), .val (.int i3), .val (.int i4), .val (.int i5), .val (.int (0 : Int32)), .val (.int (0 : Int32)), .val (.int bb), .val (.int r0), .unset, .unset, .unset, .unset, .unset, .unset, .unset, .unset, .unset, .unset, .unset, .unset, .unset, .unset, .unset, .unset, .unset]) rfl ?_
    refine own_iload K own_d7_30 rfl ?_
    refine own_iconst K own_d7_32 (v := (1 : Int32)) rfl ?_
    refine own_iadd K own_d7_33 ?_
    refine own_iloadN K own_d7_34 rfl ?_
    refine own_iconst K own_d7_35 (v := (2 : Int32)) rfl ?_
    refine own_ishr K own_d7_36 ?_
    refine own_iconst K own_d7_37 (v := (3 : Int32)) rfl ?_
    refine own_iand K own_d7_38 ?_
    refine own_iadd K own_d7_39 ?_
    obtain ⟨r1, e_r1⟩ : ∃ z : Int32, z = ((r0 + (1 : Int32)) + ((i1 >>> ((2 : Int32) &&& 31)) &&& (3 : Int32))) := ⟨_, rfl⟩
    have r1_0 : r0.toInt < r1.toInt := by rw [e_r1]; exact (own_a1 _ r0_0 (by decide)).1
    refine own_topI (x' := r1) (e_r1.symm) ?_
    refine own_istore K own_d7_40 (Ls' := #[.val (.int i0), .val (.int i1), .val (.int i2), .val (.int i3), .val (.int i4), .val (.int i5), .val (.int (0 : Int32)), .val (.int (0 : Int32)), .val (.int bb), .val (.int r0), .val (.int r1), .unset, .unset, .unset, .unset, .unset, .unset, .unset, .unset, .unset, .unset, .unset, .unset, .unset, .unset, .unset, .unset]) rfl ?_
    refine own_iload K own_d7_42 rfl ?_
    refine own_iloadN K own_d7_44 rfl ?_
    refine own_iconst K own_d7_45 (v := (3 : Int32)) rfl ?_
    refine own_iand K own_d7_46 ?_
    refine own_iadd K own_d7_47 ?_
    obtain ⟨e0, e_e0⟩ : ∃ z : Int32, z = (bb + (i2 &&& (3 : Int32))) := ⟨_, rfl⟩
    have e0_0 : e0.toInt ≤ 2147483630 := by rw [e_e0]; exact own_a0 _ hbb (by decide)
    refine own_topI (x' := e0) (e_e0.symm) ?_
    refine own_istore K own_d7_48 (Ls' := #[.val (.int i0), .val (.int i1), .val (.int i2), .val (.int i3), .val (.int i4), .val (.int i5), .val (.int (0 : Int32)), .val (.int (0 : Int32)), .val (.int bb), .val (.int r0), .val (.int r1), .val (.int e0), .unset, .unset, .unset, .unset, .unset, .unset, .unset, .unset, .unset, .unset, .unset, .unset, .unset, .unset, .unset]) rfl ?_
    refine own_iload K own_d7_50 rfl ?_
    refine own_iconst K own_d7_52 (v := (1 : Int32)) rfl ?_
    refine own_iadd K own_d7_53 ?_
    refine own_iloadN K own_d7_54 rfl ?_
    refine own_iconst K own_d7_55 (v := (2 : Int32)) rfl ?_
    refine own_ishr K own_d7_56 ?_
    refine own_iconst K own_d7_57 (v := (3 : Int32)) rfl ?_
    refine own_iand K own_d7_58 ?_
    refine own_iadd K own_d7_59 ?_
    obtain ⟨e1, e_e1⟩ : ∃ z : Int32, z = ((e0 + (1 : Int32)) + ((i2 >>> ((2 : Int32) &&& 31)) &&& (3 : Int32))) := ⟨_, rfl⟩
    have e1_0 : e0.toInt < e1.toInt ∧ e1.toInt ≤ 2147483634 := by rw [e_e1]; exact own_a1 _ e0_0 (by decide)
    refine own_topI (x' := e1) (e_e1.symm) ?_
    refine own_istore K own_d7_60 (Ls' := #[.val (.int i0), .val (.int i1), .val (.int i2), .val (.int i3), .val (.int i4), .val (.int i5), .val (.int (0 : Int32)), .val (.int (0 : Int32)), .val (.int bb), .val (.int r0), .val (.int r1), .val (.int e0), .val (.int e1), .unset, .unset, .unset, .unset, .unset, .unset, .unset, .unset, .unset, .unset, .unset, .unset, .unset, .unset]) rfl ?_
    refine own_iload K own_d7_62 rfl ?_
    refine own_iconst K own_d7_64 (v := (1 : Int32)) rfl ?_
    refine own_iadd K own_d7_65 ?_
    refine own_iloadN K own_d7_66 rfl ?_
    refine own_iconst K own_d7_67 (v := (4 : Int32)) rfl ?_
    refine own_ishr K own_d7_68 ?_
    refine own_iconst K own_d7_69 (v := (3 : Int32)) rfl ?_
    refine own_iand K own_d7_70 ?_
    refine own_iadd K own_d7_71 ?_
    obtain ⟨e2, e_e2⟩ : ∃ z : Int32, z = ((e1 + (1 : Int32)) + ((i2 >>> ((4 : Int32) &&& 31)) &&& (3 : Int32))) := ⟨_, rfl⟩
    have e2_0 : e1.toInt < e2.toInt := by rw [e_e2]; exact (own_a1 _ e1_0.2 (by decide)).1
    refine own_topI (x' := e2) (e_e2.symm) ?_
    refine own_istore K own_d7_72 (Ls' := #[.val (.int i0), .val (.int i1), .val (.int i2), .val (.int i3), .val (.int i4), .val (.int i5), .val (.int (0 : Int32)), .val (.int (0 : Int32)), .val (.int bb), .val (.int r0), .val (.int r1), .val (.int e0), .val (.int e1), .val (.int e2), .unset, .unset, .unset, .unset, .unset, .unset, .unset, .unset, .unset, .unset, .unset, .unset, .unset]) rfl ?_
    refine own_iload K own_d7_74 rfl ?_
    refine own_sipush K own_d7_76 (v := (255 : Int32)) rfl ?_
    refine own_iand K own_d7_79 ?_
    refine own_sipush K own_d7_80 (v := (128 : Int32)) rfl ?_
    refine own_isub K own_d7_83 ?_
    refine own_i2d K own_d7_84 ?_
    obtain ⟨s0, e_s0, Fs0⟩ : ∃ z : UInt64, z = (FP.i2d ((i4 &&& (255 : Int32)) - (128 : Int32))) ∧ Fl.Fin64 z := ⟨_, rfl, Fl.i2d_fin _⟩
    refine own_topD (x' := s0) (e_s0.symm) ?_
    refine own_dstore K own_d7_85 (Ls' := #[.val (.int i0), .val (.int i1), .val (.int i2), .val (.int i3), .val (.int i4), .val (.int i5), .val (.int (0 : Int32)), .val (.int (0 : Int32)), .val (.int bb), .val (.int r0), .val (.int r1), .val (.int e0), .val (.int e1), .val (.int e2), .val (.double s0), .second, .unset, .unset, .unset, .unset, .unset, .unset, .unset, .unset, .unset, .unset, .unset]) rfl ?_
    refine own_iload K own_d7_87 rfl ?_
    refine own_bipush K own_d7_89 (v := (8 : Int32)) rfl ?_
    refine own_ishr K own_d7_91 ?_
    refine own_sipush K own_d7_92 (v := (255 : Int32)) rfl ?_
    refine own_iand K own_d7_95 ?_
    refine own_sipush K own_d7_96 (v := (128 : Int32)) rfl ?_
    refine own_isub K own_d7_99 ?_
    refine own_i2d K own_d7_100 ?_
    obtain ⟨s1, e_s1, Fs1⟩ : ∃ z : UInt64, z = (FP.i2d (((i4 >>> ((8 : Int32) &&& 31)) &&& (255 : Int32)) - (128 : Int32))) ∧ Fl.Fin64 z := ⟨_, rfl, Fl.i2d_fin _⟩
    refine own_topD (x' := s1) (e_s1.symm) ?_
    refine own_dstore K own_d7_101 (Ls' := #[.val (.int i0), .val (.int i1), .val (.int i2), .val (.int i3), .val (.int i4), .val (.int i5), .val (.int (0 : Int32)), .val (.int (0 : Int32)), .val (.int bb), .val (.int r0), .val (.int r1), .val (.int e0), .val (.int e1), .val (.int e2), .val (.double s0), .second, .val (.double s1), .second, .unset, .unset, .unset, .unset, .unset, .unset, .unset, .unset, .unset]) rfl ?_
    refine own_iload K own_d7_103 rfl ?_
    refine own_sipush K own_d7_105 (v := (255 : Int32)) rfl ?_
    refine own_iand K own_d7_108 ?_
    refine own_sipush K own_d7_109 (v := (128 : Int32)) rfl ?_
    refine own_isub K own_d7_112 ?_
    refine own_i2d K own_d7_113 ?_
    obtain ⟨f0, e_f0, Ff0⟩ : ∃ z : UInt64, z = (FP.i2d ((i5 &&& (255 : Int32)) - (128 : Int32))) ∧ Fl.Fin64 z := ⟨_, rfl, Fl.i2d_fin _⟩
    refine own_topD (x' := f0) (e_f0.symm) ?_
    refine own_dstore K own_d7_114 (Ls' := #[.val (.int i0), .val (.int i1), .val (.int i2), .val (.int i3), .val (.int i4), .val (.int i5), .val (.int (0 : Int32)), .val (.int (0 : Int32)), .val (.int bb), .val (.int r0), .val (.int r1), .val (.int e0), .val (.int e1), .val (.int e2), .val (.double s0), .second, .val (.double s1), .second, .val (.double f0), .second, .unset, .unset, .unset, .unset, .unset, .unset, .unset]) rfl ?_
    refine own_iload K own_d7_116 rfl ?_
    refine own_bipush K own_d7_118 (v := (8 : Int32)) rfl ?_
    refine own_ishr K own_d7_120 ?_
    refine own_sipush K own_d7_121 (v := (255 : Int32)) rfl ?_
    refine own_iand K own_d7_124 ?_
    refine own_sipush K own_d7_125 (v := (128 : Int32)) rfl ?_
    refine own_isub K own_d7_128 ?_
    refine own_i2d K own_d7_129 ?_
    obtain ⟨f1, e_f1, Ff1⟩ : ∃ z : UInt64, z = (FP.i2d (((i5 >>> ((8 : Int32) &&& 31)) &&& (255 : Int32)) - (128 : Int32))) ∧ Fl.Fin64 z := ⟨_, rfl, Fl.i2d_fin _⟩
    refine own_topD (x' := f1) (e_f1.symm) ?_
    refine own_dstore K own_d7_130 (Ls' := #[.val (.int i0), .val (.int i1), .val (.int i2), .val (.int i3), .val (.int i4), .val (.int i5), .val (.int (0 : Int32)), .val (.int (0 : Int32)), .val (.int bb), .val (.int r0), .val (.int r1), .val (.int e0), .val (.int e1), .val (.int e2), .val (.double s0), .second, .val (.double s1), .second, .val (.double f0), .second, .val (.double f1), .second, .unset, .unset, .unset, .unset, .unset]) rfl ?_
    refine own_iload K own_d7_132 rfl ?_
    refine own_bipush K own_d7_134 (v := (16 : Int32)) rfl ?_
    refine own_ishr K own_d7_136 ?_
    refine own_sipush K own_d7_137 (v := (255 : Int32)) rfl ?_
    refine own_iand K own_d7_140 ?_
    refine own_sipush K own_d7_141 (v := (128 : Int32)) rfl ?_
    refine own_isub K own_d7_144 ?_
    refine own_i2d K own_d7_145 ?_
    obtain ⟨f2, e_f2, Ff2⟩ : ∃ z : UInt64, z = (FP.i2d (((i5 >>> ((16 : Int32) &&& 31)) &&& (255 : Int32)) - (128 : Int32))) ∧ Fl.Fin64 z := ⟨_, rfl, Fl.i2d_fin _⟩
    refine own_topD (x' := f2) (e_f2.symm) ?_
    refine own_dstore K own_d7_146 (Ls' := #[.val (.int i0), .val (.int i1), .val (.int i2), .val (.int i3), .val (.int i4), .val (.int i5), .val (.int (0 : Int32)), .val (.int (0 : Int32)), .val (.int bb), .val (.int r0), .val (.int r1), .val (.int e0), .val (.int e1), .val (.int e2), .val (.double s0), .second, .val (.double s1), .second, .val (.double f0), .second, .val (.double f1), .second, .val (.double f2), .second, .unset, .unset, .unset]) rfl ?_
    refine own_new K own_d7_148 (own_w5 hw) (own_w6 hw) (own_w7 hw) H (own_SD_F hw) (own_SD_P hw) (by decide) (by decide) ?_
    intro h4 a6 H5
    replace H5 : own_H Z h4 (own_SD a6 .null .null (.int (0 : Int32)) :: []) ([]) := H5
    refine own_dup K own_d7_151 rfl ?_
    refine own_special K own_d7_152 rfl (own_w8 hw) (own_w9 hw) (own_w7 hw) (own_w10 hw) (a := a6) (argsL := []) (rest := [(.ref a6)]) (own_init hw H5) own_pd1 rfl rfl rfl (by decide) (W := 1) (Nat.le_of_eq rfl) (by decide) (by decide) (by decide) (by decide) ?_
    intro v9 h7 q8
    obtain ⟨rfl, sa10, da11, H12⟩ := q8
    replace H12 : own_H Z h7 (own_SD a6 (.ref da11) (.ref sa10) (.int (0 : Int32)) :: []) ((sa10, .double, "[D", [(.double (0 : UInt64)), (.double (0 : UInt64)), (.double (0 : UInt64)), (.double (0 : UInt64))]) :: (da11, .int, "[I", [(.int (0 : Int32)), (.int (0 : Int32)), (.int (0 : Int32)), (.int (0 : Int32))]) :: []) := H12
    refine own_astore K own_d7_155 rfl (Ls' := #[.val (.int i0), .val (.int i1), .val (.int i2), .val (.int i3), .val (.int i4), .val (.int i5), .val (.int (0 : Int32)), .val (.int (0 : Int32)), .val (.int bb), .val (.int r0), .val (.int r1), .val (.int e0), .val (.int e1), .val (.int e2), .val (.double s0), .second, .val (.double s1), .second, .val (.double f0), .second, .val (.double f1), .second, .val (.double f2), .second, .val (.ref a6), .unset, .unset]) rfl ?_
    refine own_new K own_d7_157 (own_w5 hw) (own_w6 hw) (own_w7 hw) H12 (own_SD_F hw) (own_SD_P hw) (by decide) (by decide) ?_
    intro h13 a15 H14
    replace H14 : own_H Z h13 (own_SD a15 .null .null (.int (0 : Int32)) :: own_SD a6 (.ref da11) (.ref sa10) (.int (0 : Int32)) :: []) ((sa10, .double, "[D", [(.double (0 : UInt64)), (.double (0 : UInt64)), (.double (0 : UInt64)), (.double (0 : UInt64))]) :: (da11, .int, "[I", [(.int (0 : Int32)), (.int (0 : Int32)), (.int (0 : Int32)), (.int (0 : Int32))]) :: []) := H14
    refine own_dup K own_d7_160 rfl ?_
    refine own_special K own_d7_161 rfl (own_w8 hw) (own_w9 hw) (own_w7 hw) (own_w10 hw) (a := a15) (argsL := []) (rest := [(.ref a15)]) (own_init hw H14) own_pd1 rfl rfl rfl (by decide) (W := 1) (Nat.le_of_eq rfl) (by decide) (by decide) (by decide) (by decide) ?_
    intro v18 h16 q17
    obtain ⟨rfl, sa19, da20, H21⟩ := q17
    replace H21 : own_H Z h16 (own_SD a15 (.ref da20) (.ref sa19) (.int (0 : Int32)) :: own_SD a6 (.ref da11) (.ref sa10) (.int (0 : Int32)) :: []) ((sa19, .double, "[D", [(.double (0 : UInt64)), (.double (0 : UInt64)), (.double (0 : UInt64)), (.double (0 : UInt64))]) :: (da20, .int, "[I", [(.int (0 : Int32)), (.int (0 : Int32)), (.int (0 : Int32)), (.int (0 : Int32))]) :: (sa10, .double, "[D", [(.double (0 : UInt64)), (.double (0 : UInt64)), (.double (0 : UInt64)), (.double (0 : UInt64))]) :: (da11, .int, "[I", [(.int (0 : Int32)), (.int (0 : Int32)), (.int (0 : Int32)), (.int (0 : Int32))]) :: []) := H21
    refine own_astore K own_d7_164 rfl (Ls' := #[.val (.int i0), .val (.int i1), .val (.int i2), .val (.int i3), .val (.int i4), .val (.int i5), .val (.int (0 : Int32)), .val (.int (0 : Int32)), .val (.int bb), .val (.int r0), .val (.int r1), .val (.int e0), .val (.int e1), .val (.int e2), .val (.double s0), .second, .val (.double s1), .second, .val (.double f0), .second, .val (.double f1), .second, .val (.double f2), .second, .val (.ref a6), .val (.ref a15), .unset]) rfl ?_
    refine own_iload K own_d7_166 rfl ?_
    refine own_ifle K own_d7_168 (fun _ => ?_) (fun q => absurd (by decide) q)
    refine own_iload K own_d7_180 rfl ?_
    refine own_iconst K own_d7_182 (v := (1 : Int32)) rfl ?_
    refine own_icmple K own_d7_183 (fun _ => ?_) (fun q => absurd (by decide) q)
    refine own_iload K own_d7_195 rfl ?_
    refine own_ifle K own_d7_197 (fun _ => ?_) (fun q => absurd (by decide) q)
    refine own_iload K own_d7_209 rfl ?_
    refine own_iconst K own_d7_211 (v := (1 : Int32)) rfl ?_
    refine own_icmple K own_d7_212 (fun _ => ?_) (fun q => absurd (by decide) q)
    refine own_iload K own_d7_224 rfl ?_
    refine own_iconst K own_d7_226 (v := (2 : Int32)) rfl ?_
    refine own_icmple K own_d7_227 (fun _ => ?_) (fun q => absurd (by decide) q)
    refine own_aload K own_d7_239 rfl rfl ?_
    refine own_aload K own_d7_241 rfl rfl ?_
    have H22 := H21.frontO 1 rfl
    replace H22 : own_H Z h16 (own_SD a6 (.ref da11) (.ref sa10) (.int (0 : Int32)) :: own_SD a15 (.ref da20) (.ref sa19) (.int (0 : Int32)) :: []) ((sa19, .double, "[D", [(.double (0 : UInt64)), (.double (0 : UInt64)), (.double (0 : UInt64)), (.double (0 : UInt64))]) :: (da20, .int, "[I", [(.int (0 : Int32)), (.int (0 : Int32)), (.int (0 : Int32)), (.int (0 : Int32))]) :: (sa10, .double, "[D", [(.double (0 : UInt64)), (.double (0 : UInt64)), (.double (0 : UInt64)), (.double (0 : UInt64))]) :: (da11, .int, "[I", [(.int (0 : Int32)), (.int (0 : Int32)), (.int (0 : Int32)), (.int (0 : Int32))]) :: []) := H22
    have H23 := H22.frontA 1 rfl
    replace H23 : own_H Z h16 (own_SD a6 (.ref da11) (.ref sa10) (.int (0 : Int32)) :: own_SD a15 (.ref da20) (.ref sa19) (.int (0 : Int32)) :: []) ((da20, .int, "[I", [(.int (0 : Int32)), (.int (0 : Int32)), (.int (0 : Int32)), (.int (0 : Int32))]) :: (sa19, .double, "[D", [(.double (0 : UInt64)), (.double (0 : UInt64)), (.double (0 : UInt64)), (.double (0 : UInt64))]) :: (sa10, .double, "[D", [(.double (0 : UInt64)), (.double (0 : UInt64)), (.double (0 : UInt64)), (.double (0 : UInt64))]) :: (da11, .int, "[I", [(.int (0 : Int32)), (.int (0 : Int32)), (.int (0 : Int32)), (.int (0 : Int32))]) :: []) := H23
    have H24 := H23.frontA 2 rfl
    replace H24 : own_H Z h16 (own_SD a6 (.ref da11) (.ref sa10) (.int (0 : Int32)) :: own_SD a15 (.ref da20) (.ref sa19) (.int (0 : Int32)) :: []) ((sa10, .double, "[D", [(.double (0 : UInt64)), (.double (0 : UInt64)), (.double (0 : UInt64)), (.double (0 : UInt64))]) :: (da20, .int, "[I", [(.int (0 : Int32)), (.int (0 : Int32)), (.int (0 : Int32)), (.int (0 : Int32))]) :: (sa19, .double, "[D", [(.double (0 : UInt64)), (.double (0 : UInt64)), (.double (0 : UInt64)), (.double (0 : UInt64))]) :: (da11, .int, "[I", [(.int (0 : Int32)), (.int (0 : Int32)), (.int (0 : Int32)), (.int (0 : Int32))]) :: []) := H24
    have H25 := H24.frontA 3 rfl
    replace H25 : own_H Z h16 (own_SD a6 (.ref da11) (.ref sa10) (.int (0 : Int32)) :: own_SD a15 (.ref da20) (.ref sa19) (.int (0 : Int32)) :: []) ((da11, .int, "[I", [(.int (0 : Int32)), (.int (0 : Int32)), (.int (0 : Int32)), (.int (0 : Int32))]) :: (sa10, .double, "[D", [(.double (0 : UInt64)), (.double (0 : UInt64)), (.double (0 : UInt64)), (.double (0 : UInt64))]) :: (da20, .int, "[I", [(.int (0 : Int32)), (.int (0 : Int32)), (.int (0 : Int32)), (.int (0 : Int32))]) :: (sa19, .double, "[D", [(.double (0 : UInt64)), (.double (0 : UInt64)), (.double (0 : UInt64)), (.double (0 : UInt64))]) :: []) := H25
    refine own_virtual K own_d7_243 (own_w20 hw) (own_w21 hw) (own_w23 hw) (own_w22 hw) (own_w7 hw) (own_w24 hw) (H25.atO (i := 0) rfl) (a := a6) (argsL := [(.ref a15)]) (rest := []) (own_adds_0_0 hw H25  ) own_pd2 rfl rfl rfl (by decide) (W := 0) (Nat.le_of_eq rfl) (by decide) (by decide) (by decide) (by decide) ?_
    intro v28 h26 q27
    obtain ⟨rfl, H29⟩ := q27
    replace H29 : own_H Z h26 (own_SD a6 (.ref da11) (.ref sa10) (.int (0 : Int32)) :: own_SD a15 (.ref da20) (.ref sa19) (.int (0 : Int32)) :: []) ((da11, .int, "[I", [(.int (0 : Int32)), (.int (0 : Int32)), (.int (0 : Int32)), (.int (0 : Int32))]) :: (sa10, .double, "[D", [(.double (0 : UInt64)), (.double (0 : UInt64)), (.double (0 : UInt64)), (.double (0 : UInt64))]) :: (da20, .int, "[I", [(.int (0 : Int32)), (.int (0 : Int32)), (.int (0 : Int32)), (.int (0 : Int32))]) :: (sa19, .double, "[D", [(.double (0 : UInt64)), (.double (0 : UInt64)), (.double (0 : UInt64)), (.double (0 : UInt64))]) :: []) := H29
    refine own_aload K own_d7_246 rfl rfl ?_
    refine own_virtual K own_d7_248 (own_w27 hw) (own_w28 hw) (own_w30 hw) (own_w29 hw) (own_w7 hw) (own_w31 hw) (H29.atO (i := 0) rfl) (a := a6) (argsL := []) (rest := []) (own_size hw H29) own_pd3 rfl rfl rfl (by decide) (W := 0) (Nat.le_of_eq rfl) (by decide) (by decide) (by decide) (by decide) ?_
    intro v32 h30 q31
    obtain ⟨rfl, rfl⟩ := q31
    refine own_iload K own_d7_251 rfl ?_
    refine own_icmpeq K own_d7_253 (fun _ => ?_) (fun q => absurd (by decide) q)
    refine own_iconst K own_d7_258 (v := (1 : Int32)) rfl ?_
    refine own_istore K own_d7_259 (Ls' := #[.val (.int i0), .val (.int i1), .val (.int i2), .val (.int i3), .val (.int i4), .val (.int i5), .val (.int (0 : Int32)), .val (.int (0 : Int32)), .val (.int bb), .val (.int r0), .val (.int r1), .val (.int e0), .val (.int e1), .val (.int e2), .val (.double s0), .second, .val (.double s1), .second, .val (.double f0), .second, .val (.double f1), .second, .val (.double f2), .second, .val (.ref a6), .val (.ref a15), .val (.int (1 : Int32))]) rfl ?_
    refine own_iload K own_d7_261 rfl ?_
    refine own_ifle K own_d7_263 (fun _ => ?_) (fun q => absurd (by decide) q)
    refine own_iload K own_d7_309 rfl ?_
    refine own_iconst K own_d7_311 (v := (1 : Int32)) rfl ?_
    refine own_icmple K own_d7_312 (fun _ => ?_) (fun q => absurd (by decide) q)
    refine own_iload K own_d7_358 rfl ?_
    exact own_retZ K (by first | exact Or.inl rfl | exact Or.inr rfl | decide) own_d7_360 (by decide) (by decide) (rfl)
  · refine own_iloadN K own_d7_0 rfl ?_
    refine own_iconst K own_d7_1 (v := (3 : Int32)) rfl ?_
    refine own_iand K own_d7_2 ?_
    refine own_iconst K own_d7_3 (v := (3 : Int32)) rfl ?_
    refine own_irem K own_d7_4 (by decide) ?_
    refine own_topI (x' := (0 : Int32)) (q) ?_
    refine own_istore K own_d7_5 (Ls' := #[.val (.int i0), .val (.int i1), .val (.int i2), .val (.int i3), .val (.int i4), .val (.int i5), .val (.int (0 : Int32)), .unset, .unset, .unset, .unset, .unset, .unset, .unset, .unset, .unset, .unset, .unset, .unset, .unset, .unset, .unset, .unset, .unset, .unset, .unset, .unset]) rfl ?_
    refine own_iloadN K own_d7_7 rfl ?_
    refine own_iconst K own_d7_8 (v := (2 : Int32)) rfl ?_
    refine own_iushr K own_d7_9 ?_
    refine own_iconst K own_d7_10 (v := (3 : Int32)) rfl ?_
    refine own_iand K own_d7_11 ?_
    refine own_topI (x' := (1 : Int32)) (q') ?_
    refine own_istore K own_d7_12 (Ls' := #[.val (.int i0), .val (.int i1), .val (.int i2), .val (.int i3), .val (.int i4), .val (.int i5), .val (.int (0 : Int32)), .val (.int (1 : Int32)), .unset, .unset, .unset, .unset, .unset, .unset, .unset, .unset, .unset, .unset, .unset, .unset, .unset, .unset, .unset, .unset, .unset, .unset, .unset]) rfl ?_
    refine own_iloadN K own_d7_14 rfl ?_
    refine own_ldcI K own_d7_15 (v := (2147483627 : Int32)) (own_w0 hw) ?_
    refine own_static K own_d7_17 (own_w1 hw) (own_w2 hw) (own_w3 hw) (own_w4 hw) (argsL := [(.int i3), (.int (2147483627 : Int32))]) (rest := []) (own_min hw) own_pd0 rfl rfl rfl (by decide) (W := 0) (Nat.le_of_eq rfl) (by decide) (by decide) (by decide) (by decide) ?_
    intro v3 h1 q2
    obtain ⟨⟨bb, rfl, hbb⟩, rfl⟩ := q2
    replace hbb : bb.toInt ≤ 2147483627 := hbb
    refine own_istore K own_d7_20 (Ls' := #[.val (.int i0), .val (.int i1), .val (.int i2), .val (.int i3), .val (.int i4), .val (.int i5), .val (.int (0 : Int32)), .val (.int (1 : Int32)), .val (.int bb), .unset, .unset, .unset, .unset, .unset, .unset, .unset, .unset, .unset, .unset, .unset, .unset, .unset, .unset, .unset, .unset, .unset, .unset]) rfl ?_
    refine own_iload K own_d7_22 rfl ?_
    refine own_iloadN K own_d7_24 rfl ?_
    refine own_iconst K own_d7_25 (v := (3 : Int32)) rfl ?_
    refine own_iand K own_d7_26 ?_
    refine own_iadd K own_d7_27 ?_
    obtain ⟨r0, e_r0⟩ : ∃ z : Int32, z = (bb + (i1 &&& (3 : Int32))) := ⟨_, rfl⟩
    have r0_0 : r0.toInt ≤ 2147483630 := by rw [e_r0]; exact own_a0 _ hbb (by decide)
    refine own_topI (x' := r0) (e_r0.symm) ?_
    refine own_istore K own_d7_28 (Ls' := #[.val (.int i0), .val (.int i1), .val (.int i2), .val (.int i3), .val (.int i4), .val (.int i5), .val (.int (0 : Int32)), .val (.int (1 : Int32)), .val (.int bb), .val (.int r0), .unset, .unset, .unset, .unset, .unset, .unset, .unset, .unset, .unset, .unset, .unset, .unset, .unset, .unset, .unset, .unset, .unset]) rfl ?_
    refine own_iload K own_d7_30 rfl ?_
    refine own_iconst K own_d7_32 (v := (1 : Int32)) rfl ?_
    refine own_iadd K own_d7_33 ?_
    refine own_iloadN K own_d7_34 rfl ?_
    refine own_iconst K own_d7_35 (v := (2 : Int32)) rfl ?_
    refine own_ishr K own_d7_36 ?_
    refine own_iconst K own_d7_37 (v := (3 : Int32)) rfl ?_
    refine own_iand K own_d7_38 ?_
    refine own_iadd K own_d7_39 ?_
    obtain ⟨r1, e_r1⟩ : ∃ z : Int32, z = ((r0 + (1 : Int32)) + ((i1 >>> ((2 : Int32) &&& 31)) &&& (3 : Int32))) := ⟨_, rfl⟩
    have r1_0 : r0.toInt < r1.toInt := by rw [e_r1]; exact (own_a1 _ r0_0 (by decide)).1
    refine own_topI (x' := r1) (e_r1.symm) ?_
    refine own_istore K own_d7_40 (Ls' := #[.val (.int i0), .val (.int i1), .val (.int i2), .val (.int i3), .val (.int i4), .val (.int i5), .val (.int (0 : Int32)), .val (.int (1 : Int32)), .val (.int bb), .val (.int r0), .val (.int r1), .unset, .unset, .unset, .unset, .unset, .unset, .unset, .unset, .unset, .unset, .unset, .unset, .unset, .unset, .unset, .unset]) rfl ?_
    refine own_iload K own_d7_42 rfl ?_
    refine own_iloadN K own_d7_44 rfl ?_
    refine own_iconst K own_d7_45 (v := (3 : Int32)) rfl ?_
    refine own_iand K own_d7_46 ?_
    refine own_iadd K own_d7_47 ?_
    obtain ⟨e0, e_e0⟩ : ∃ z : Int32, z = (bb + (i2 &&& (3 : Int32))) := ⟨_, rfl⟩
    have e0_0 : e0.toInt ≤ 2147483630 := by rw [e_e0]; exact own_a0 _ hbb (by decide)
    refine own_topI (x' := e0) (e_e0.symm) ?_
    refine own_istore K own_d7_48 (Ls' := #[.val (.int i0), .val (.int i1), .val (.int i2), .val (.int i3), .val (.int i4), .val (.int i5), .val (.int (0 : Int32)), .val (.int (1 : Int32)), .val (.int bb), .val (.int r0), .val (.int r1), .val (.int e0), .unset, .unset, .unset, .unset, .unset, .unset, .unset, .unset, .unset, .unset, .unset, .unset, .unset, .unset, .unset]) rfl ?_
    refine own_iload K own_d7_50 rfl ?_
    refine own_iconst K own_d7_52 (v := (1 : Int32)) rfl ?_
    refine own_iadd K own_d7_53 ?_
    refine own_iloadN K own_d7_54 rfl ?_
    refine own_iconst K own_d7_55 (v := (2 : Int32)) rfl ?_
    refine own_ishr K own_d7_56 ?_
    refine own_iconst K own_d7_57 (v := (3 : Int32)) rfl ?_
    refine own_iand K own_d7_58 ?_
    refine own_iadd K own_d7_59 ?_
    obtain ⟨e1, e_e1⟩ : ∃ z : Int32, z = ((e0 + (1 : Int32)) + ((i2 >>> ((2 : Int32) &&& 31)) &&& (3 : Int32))) := ⟨_, rfl⟩
    have e1_0 : e0.toInt < e1.toInt ∧ e1.toInt ≤ 2147483634 := by rw [e_e1]; exact own_a1 _ e0_0 (by decide)
    refine own_topI (x' := e1) (e_e1.symm) ?_
    refine own_istore K own_d7_60 (Ls' := #[.val (.int i0), .val (.int i1), .val (.int i2), .val (.int i3), .val (.int i4), .val (.int i5), .val (.int (0 : Int32)), .val (.int (1 : Int32)), .val (.int bb), .val (.int r0), .val (.int r1), .val (.int e0), .val (.int e1), .unset, .unset, .unset, .unset, .unset, .unset, .unset, .unset, .unset, .unset, .unset, .unset, .unset, .unset]) rfl ?_
    refine own_iload K own_d7_62 rfl ?_
    refine own_iconst K own_d7_64 (v := (1 : Int32)) rfl ?_
    refine own_iadd K own_d7_65 ?_
    refine own_iloadN K own_d7_66 rfl ?_
    refine own_iconst K own_d7_67 (v := (4 : Int32)) rfl ?_
    refine own_ishr K own_d7_68 ?_
    refine own_iconst K own_d7_69 (v := (3 : Int32)) rfl ?_
    refine own_iand K own_d7_70 ?_
    refine own_iadd K own_d7_71 ?_
    obtain ⟨e2, e_e2⟩ : ∃ z : Int32, z = ((e1 + (1 : Int32)) + ((i2 >>> ((4 : Int32) &&& 31)) &&& (3 : Int32))) := ⟨_, rfl⟩
    have e2_0 : e1.toInt < e2.toInt := by rw [e_e2]; exact (own_a1 _ e1_0.2 (by decide)).1
    refine own_topI (x' := e2) (e_e2.symm) ?_
    refine own_istore K own_d7_72 (Ls' := #[.val (.int i0), .val (.int i1), .val (.int i2), .val (.int i3), .val (.int i4), .val (.int i5), .val (.int (0 : Int32)), .val (.int (1 : Int32)), .val (.int bb), .val (.int r0), .val (.int r1), .val (.int e0), .val (.int e1), .val (.int e2), .unset, .unset, .unset, .unset, .unset, .unset, .unset, .unset, .unset, .unset, .unset, .unset, .unset]) rfl ?_
    refine own_iload K own_d7_74 rfl ?_
    refine own_sipush K own_d7_76 (v := (255 : Int32)) rfl ?_
    refine own_iand K own_d7_79 ?_
    refine own_sipush K own_d7_80 (v := (128 : Int32)) rfl ?_
    refine own_isub K own_d7_83 ?_
    refine own_i2d K own_d7_84 ?_
    obtain ⟨s0, e_s0, Fs0⟩ : ∃ z : UInt64, z = (FP.i2d ((i4 &&& (255 : Int32)) - (128 : Int32))) ∧ Fl.Fin64 z := ⟨_, rfl, Fl.i2d_fin _⟩
    refine own_topD (x' := s0) (e_s0.symm) ?_
    refine own_dstore K own_d7_85 (Ls' := #[.val (.int i0), .val (.int i1), .val (.int i2), .val (.int i3), .val (.int i4), .val (.int i5), .val (.int (0 : Int32)), .val (.int (1 : Int32)), .val (.int bb), .val (.int r0), .val (.int r1), .val (.int e0), .val (.int e1), .val (.int e2), .val (.double s0), .second, .unset, .unset, .unset, .unset, .unset, .unset, .unset, .unset, .unset, .unset, .unset]) rfl ?_
    refine own_iload K own_d7_87 rfl ?_
    refine own_bipush K own_d7_89 (v := (8 : Int32)) rfl ?_
    refine own_ishr K own_d7_91 ?_
    refine own_sipush K own_d7_92 (v := (255 : Int32)) rfl ?_
    refine own_iand K own_d7_95 ?_
    refine own_sipush K own_d7_96 (v := (128 : Int32)) rfl ?_
    refine own_isub K own_d7_99 ?_
    refine own_i2d K own_d7_100 ?_
    obtain ⟨s1, e_s1, Fs1⟩ : ∃ z : UInt64, z = (FP.i2d (((i4 >>> ((8 : Int32) &&& 31)) &&& (255 : Int32)) - (128 : Int32))) ∧ Fl.Fin64 z := ⟨_, rfl, Fl.i2d_fin _⟩
    refine own_topD (x' := s1) (e_s1.symm) ?_
    refine own_dstore K own_d7_101 (Ls' := #[.val (.int i0), .val (.int i1), .val (.int i2), .val (.int i3), .val (.int i4), .val (.int i5), .val (.int (0 : Int32)), .val (.int (1 : Int32)), .val (.int bb), .val (.int r0), .val (.int r1), .val (.int e0), .val (.int e1), .val (.int e2), .val (.double s0), .second, .val (.double s1), .second, .unset, .unset, .unset, .unset, .unset, .unset, .unset, .unset, .unset]) rfl ?_
    refine own_iload K own_d7_103 rfl ?_
    refine own_sipush K own_d7_105 (v := (255 : Int32)) rfl ?_
    refine own_iand K own_d7_108 ?_
    refine own_sipush K own_d7_109 (v := (128 : Int32)) rfl ?_
    refine own_isub K own_d7_112 ?_
    refine own_i2d K own_d7_113 ?_
    obtain ⟨f0, e_f0, Ff0⟩ : ∃ z : UInt64, z = (FP.i2d ((i5 &&& (255 : Int32)) - (128 : Int32))) ∧ Fl.Fin64 z := ⟨_, rfl, Fl.i2d_fin _⟩
    refine own_topD (x' := f0) (e_f0.symm) ?_
    refine own_dstore K own_d7_114 (Ls' := #[.val (.int i0), .val (.int i1), .val (.int i2), .val (.int i3), .val (.int i4), .val (.int i5), .val (.int (0 : Int32)), .val (.int (1 : Int32)), .val (.int bb), .val (.int r0), .val (.int r1), .val (.int e0), .val (.int e1), .val (.int e2), .val (.double s0), .second, .val (.double s1), .second, .val (.double f0), .second, .unset, .unset, .unset, .unset, .unset, .unset, .unset]) rfl ?_
    refine own_iload K own_d7_116 rfl ?_
    refine own_bipush K own_d7_118 (v := (8 : Int32)) rfl ?_
    refine own_ishr K own_d7_120 ?_
    refine own_sipush K own_d7_121 (v := (255 : Int32)) rfl ?_
    refine own_iand K own_d7_124 ?_
    refine own_sipush K own_d7_125 (v := (128 : Int32)) rfl ?_
    refine own_isub K own_d7_128 ?_
    refine own_i2d K own_d7_129 ?_
    obtain ⟨f1, e_f1, Ff1⟩ : ∃ z : UInt64, z = (FP.i2d (((i5 >>> ((8 : Int32) &&& 31)) &&& (255 : Int32)) - (128 : Int32))) ∧ Fl.Fin64 z := ⟨_, rfl, Fl.i2d_fin _⟩
    refine own_topD (x' := f1) (e_f1.symm) ?_
    refine own_dstore K own_d7_130 (Ls' := #[.val (.int i0), .val (.int i1), .val (.int i2), .val (.int i3), .val (.int i4), .val (.int i5), .val (.int (0 : Int32)), .val (.int (1 : Int32)), .val (.int bb), .val (.int r0), .val (.int r1), .val (.int e0), .val (.int e1), .val (.int e2), .val (.double s0), .second, .val (.double s1), .second, .val (.double f0), .second, .val (.double f1), .second, .unset, .unset, .unset, .unset, .unset]) rfl ?_
    refine own_iload K own_d7_132 rfl ?_
    refine own_bipush K own_d7_134 (v := (16 : Int32)) rfl ?_
    refine own_ishr K own_d7_136 ?_
    refine own_sipush K own_d7_137 (v := (255 : Int32)) rfl ?_
    refine own_iand K own_d7_140 ?_
    refine own_sipush K own_d7_141 (v := (128 : Int32)) rfl ?_
    refine own_isub K own_d7_144 ?_
    refine own_i2d K own_d7_145 ?_
    obtain ⟨f2, e_f2, Ff2⟩ : ∃ z : UInt64, z = (FP.i2d (((i5 >>> ((16 : Int32) &&& 31)) &&& (255 : Int32)) - (128 : Int32))) ∧ Fl.Fin64 z := ⟨_, rfl, Fl.i2d_fin _⟩
    refine own_topD (x' := f2) (e_f2.symm) ?_
    refine own_dstore K own_d7_146 (Ls' := #[.val (.int i0), .val (.int i1), .val (.int i2), .val (.int i3), .val (.int i4), .val (.int i5), .val (.int (0 : Int32)), .val (.int (1 : Int32)), .val (.int bb), .val (.int r0), .val (.int r1), .val (.int e0), .val (.int e1), .val (.int e2), .val (.double s0), .second, .val (.double s1), .second, .val (.double f0), .second, .val (.double f1), .second, .val (.double f2), .second, .unset, .unset, .unset]) rfl ?_
    refine own_new K own_d7_148 (own_w5 hw) (own_w6 hw) (own_w7 hw) H (own_SD_F hw) (own_SD_P hw) (by decide) (by decide) ?_
    intro h4 a6 H5
    replace H5 : own_H Z h4 (own_SD a6 .null .null (.int (0 : Int32)) :: []) ([]) := H5
    refine own_dup K own_d7_151 rfl ?_
    refine own_special K own_d7_152 rfl (own_w8 hw) (own_w9 hw) (own_w7 hw) (own_w10 hw) (a := a6) (argsL := []) (rest := [(.ref a6)]) (own_init hw H5) own_pd1 rfl rfl rfl (by decide) (W := 1) (Nat.le_of_eq rfl) (by decide) (by decide) (by decide) (by decide) ?_
    intro v9 h7 q8
    obtain ⟨rfl, sa10, da11, H12⟩ := q8
    replace H12 : own_H Z h7 (own_SD a6 (.ref da11) (.ref sa10) (.int (0 : Int32)) :: []) ((sa10, .double, "[D", [(.double (0 : UInt64)), (.double (0 : UInt64)), (.double (0 : UInt64)), (.double (0 : UInt64))]) :: (da11, .int, "[I", [(.int (0 : Int32)), (.int (0 : Int32)), (.int (0 : Int32)), (.int (0 : Int32))]) :: []) := H12
    refine own_astore K own_d7_155 rfl (Ls' := #[.val (.int i0), .val (.int i1), .val (.int i2), .val (.int i3), .val (.int i4), .val (.int i5), .val (.int (0 : Int32)), .val (.int (1 : Int32)), .val (.int bb), .val (.int r0), .val (.int r1), .val (.int e0), .val (.int e1), .val (.int e2), .val (.double s0), .second, .val (.double s1), .second, .val (.double f0), .second, .val (.double f1), .second, .val (.double f2), .second, .val (.ref a6), .unset, .unset]) rfl ?_
    refine own_new K own_d7_157 (own_w5 hw) (own_w6 hw) (own_w7 hw) H12 (own_SD_F hw) (own_SD_P hw) (by decide) (by decide) ?_
    intro h13 a15 H14
    replace H14 : own_H Z h13 (own_SD a15 .null .null (.int (0 : Int32)) :: own_SD a6 (.ref da11) (.ref sa10) (.int (0 : Int32)) :: []) ((sa10, .double, "[D", [(.double (0 : UInt64)), (.double (0 : UInt64)), (.double (0 : UInt64)), (.double (0 : UInt64))]) :: (da11, .int, "[I", [(.int (0 : Int32)), (.int (0 : Int32)), (.int (0 : Int32)), (.int (0 : Int32))]) :: []) := H14
    refine own_dup K own_d7_160 rfl ?_
    refine own_special K own_d7_161 rfl (own_w8 hw) (own_w9 hw) (own_w7 hw) (own_w10 hw) (a := a15) (argsL := []) (rest := [(.ref a15)]) (own_init hw H14) own_pd1 rfl rfl rfl (by decide) (W := 1) (Nat.le_of_eq rfl) (by decide) (by decide) (by decide) (by decide) ?_
    intro v18 h16 q17
    obtain ⟨rfl, sa19, da20, H21⟩ := q17
    replace H21 : own_H Z h16 (own_SD a15 (.ref da20) (.ref sa19) (.int (0 : Int32)) :: own_SD a6 (.ref da11) (.ref sa10) (.int (0 : Int32)) :: []) ((sa19, .double, "[D", [(.double (0 : UInt64)), (.double (0 : UInt64)), (.double (0 : UInt64)), (.double (0 : UInt64))]) :: (da20, .int, "[I", [(.int (0 : Int32)), (.int (0 : Int32)), (.int (0 : Int32)), (.int (0 : Int32))]) :: (sa10, .double, "[D", [(.double (0 : UInt64)), (.double (0 : UInt64)), (.double (0 : UInt64)), (.double (0 : UInt64))]) :: (da11, .int, "[I", [(.int (0 : Int32)), (.int (0 : Int32)), (.int (0 : Int32)), (.int (0 : Int32))]) :: []) := H21
    refine own_astore K own_d7_164 rfl (Ls' := #[.val (.int i0), .val (.int i1), .val (.int i2), .val (.int i3), .val (.int i4), .val (.int i5), .val (.int (0 : Int32)), .val (.int (1 : Int32)), .val (.int bb), .val (.int r0), .val (.int r1), .val (.int e0), .val (.int e1), .val (.int e2), .val (.double s0), .second, .val (.double s1), .second, .val (.double f0), .second, .val (.double f1), .second, .val (.double f2), .second, .val (.ref a6), .val (.ref a15), .unset]) rfl ?_
    refine own_iload K own_d7_166 rfl ?_
    refine own_ifle K own_d7_168 (fun _ => ?_) (fun q => absurd (by decide) q)
    refine own_iload K own_d7_180 rfl ?_
    refine own_iconst K own_d7_182 (v := (1 : Int32)) rfl ?_
    refine own_icmple K own_d7_183 (fun _ => ?_) (fun q => absurd (by decide) q)
    refine own_iload K own_d7_195 rfl ?_
    refine own_ifle K own_d7_197 (fun q => absurd q (by decide)) (fun _ => ?_)
    refine own_aload K own_d7_200 rfl rfl ?_
    refine own_iload K own_d7_202 rfl ?_
    refine own_dload K own_d7_204 rfl ?_
    have H22 := H21.frontA 1 rfl
    replace H22 : own_H Z h16 (own_SD a15 (.ref da20) (.ref sa19) (.int (0 : Int32)) :: own_SD a6 (.ref da11) (.ref sa10) (.int (0 : Int32)) :: []) ((da20, .int, "[I", [(.int (0 : Int32)), (.int (0 : Int32)), (.int (0 : Int32)), (.int (0 : Int32))]) :: (sa19, .double, "[D", [(.double (0 : UInt64)), (.double (0 : UInt64)), (.double (0 : UInt64)), (.double (0 : UInt64))]) :: (sa10, .double, "[D", [(.double (0 : UInt64)), (.double (0 : UInt64)), (.double (0 : UInt64)), (.double (0 : UInt64))]) :: (da11, .int, "[I", [(.int (0 : Int32)), (.int (0 : Int32)), (.int (0 : Int32)), (.int (0 : Int32))]) :: []) := H22
    refine own_virtual K own_d7_206 (own_w32 hw) (own_w33 hw) (own_w35 hw) (own_w34 hw) (own_w7 hw) (own_w36 hw) (H22.atO (i := 0) rfl) (a := a15) (argsL := [(.int e0), (.double f0)]) (rest := []) (own_add0 hw H22) own_pd4 rfl rfl rfl (by decide) (W := 0) (Nat.le_of_eq rfl) (by decide) (by decide) (by decide) (by decide) ?_
    intro v25 h23 q24
    obtain ⟨rfl, H26⟩ := q24
    replace H26 : own_H Z h23 (own_SD a15 (.ref da20) (.ref sa19) (.int (1 : Int32)) :: own_SD a6 (.ref da11) (.ref sa10) (.int (0 : Int32)) :: []) ((da20, .int, "[I", [(.int e0), (.int (0 : Int32)), (.int (0 : Int32)), (.int (0 : Int32))]) :: (sa19, .double, "[D", [(.double f0), (.double (0 : UInt64)), (.double (0 : UInt64)), (.double (0 : UInt64))]) :: (sa10, .double, "[D", [(.double (0 : UInt64)), (.double (0 : UInt64)), (.double (0 : UInt64)), (.double (0 : UInt64))]) :: (da11, .int, "[I", [(.int (0 : Int32)), (.int (0 : Int32)), (.int (0 : Int32)), (.int (0 : Int32))]) :: []) := H26
    refine own_iload K own_d7_209 rfl ?_
    refine own_iconst K own_d7_211 (v := (1 : Int32)) rfl ?_
    refine own_icmple K own_d7_212 (fun _ => ?_) (fun q => absurd (by decide) q)
    refine own_iload K own_d7_224 rfl ?_
    refine own_iconst K own_d7_226 (v := (2 : Int32)) rfl ?_
    refine own_icmple K own_d7_227 (fun _ => ?_) (fun q => absurd (by decide) q)
    refine own_aload K own_d7_239 rfl rfl ?_
    refine own_aload K own_d7_241 rfl rfl ?_
    have H27 := H26.frontO 1 rfl
    replace H27 : own_H Z h23 (own_SD a6 (.ref da11) (.ref sa10) (.int (0 : Int32)) :: own_SD a15 (.ref da20) (.ref sa19) (.int (1 : Int32)) :: []) ((da20, .int, "[I", [(.int e0), (.int (0 : Int32)), (.int (0 : Int32)), (.int (0 : Int32))]) :: (sa19, .double, "[D", [(.double f0), (.double (0 : UInt64)), (.double (0 : UInt64)), (.double (0 : UInt64))]) :: (sa10, .double, "[D", [(.double (0 : UInt64)), (.double (0 : UInt64)), (.double (0 : UInt64)), (.double (0 : UInt64))]) :: (da11, .int, "[I", [(.int (0 : Int32)), (.int (0 : Int32)), (.int (0 : Int32)), (.int (0 : Int32))]) :: []) := H27
    have H28 := H27.frontA 1 rfl
    replace H28 : own_H Z h23 (own_SD a6 (.ref da11) (.ref sa10) (.int (0 : Int32)) :: own_SD a15 (.ref da20) (.ref sa19) (.int (1 : Int32)) :: []) ((sa19, .double, "[D", [(.double f0), (.double (0 : UInt64)), (.double (0 : UInt64)), (.double (0 : UInt64))]) :: (da20, .int, "[I", [(.int e0), (.int (0 : Int32)), (.int (0 : Int32)), (.int (0 : Int32))]) :: (sa10, .double, "[D", [(.double (0 : UInt64)), (.double (0 : UInt64)), (.double (0 : UInt64)), (.double (0 : UInt64))]) :: (da11, .int, "[I", [(.int (0 : Int32)), (.int (0 : Int32)), (.int (0 : Int32)), (.int (0 : Int32))]) :: []) := H28
    have H29 := H28.frontA 1 rfl
    replace H29 : own_H Z h23 (own_SD a6 (.ref da11) (.ref sa10) (.int (0 : Int32)) :: own_SD a15 (.ref da20) (.ref sa19) (.int (1 : Int32)) :: []) ((da20, .int, "[I", [(.int e0), (.int (0 : Int32)), (.int (0 : Int32)), (.int (0 : Int32))]) :: (sa19, .double, "[D", [(.double f0), (.double (0 : UInt64)), (.double (0 : UInt64)), (.double (0 : UInt64))]) :: (sa10, .double, "[D", [(.double (0 : UInt64)), (.double (0 : UInt64)), (.double (0 : UInt64)), (.double (0 : UInt64))]) :: (da11, .int, "[I", [(.int (0 : Int32)), (.int (0 : Int32)), (.int (0 : Int32)), (.int (0 : Int32))]) :: []) := H29
    have H30 := H29.frontA 2 rfl
    replace H30 : own_H Z h23 (own_SD a6 (.ref da11) (.ref sa10) (.int (0 : Int32)) :: own_SD a15 (.ref da20) (.ref sa19) (.int (1 : Int32)) :: []) ((sa10, .double, "[D", [(.double (0 : UInt64)), (.double (0 : UInt64)), (.double (0 : UInt64)), (.double (0 : UInt64))]) :: (da20, .int, "[I", [(.int e0), (.int (0 : Int32)), (.int (0 : Int32)), (.int (0 : Int32))]) :: (sa19, .double, "[D", [(.double f0), (.double (0 : UInt64)), (.double (0 : UInt64)), (.double (0 : UInt64))]) :: (da11, .int, "[I", [(.int (0 : Int32)), (.int (0 : Int32)), (.int (0 : Int32)), (.int (0 : Int32))]) :: []) := H30
    have H31 := H30.frontA 3 rfl
    replace H31 : own_H Z h23 (own_SD a6 (.ref da11) (.ref sa10) (.int (0 : Int32)) :: own_SD a15 (.ref da20) (.ref sa19) (.int (1 : Int32)) :: []) ((da11, .int, "[I", [(.int (0 : Int32)), (.int (0 : Int32)), (.int (0 : Int32)), (.int (0 : Int32))]) :: (sa10, .double, "[D", [(.double (0 : UInt64)), (.double (0 : UInt64)), (.double (0 : UInt64)), (.double (0 : UInt64))]) :: (da20, .int, "[I", [(.int e0), (.int (0 : Int32)), (.int (0 : Int32)), (.int (0 : Int32))]) :: (sa19, .double, "[D", [(.double f0), (.double (0 : UInt64)), (.double (0 : UInt64)), (.double (0 : UInt64))]) :: []) := H31
    refine own_virtual K own_d7_243 (own_w20 hw) (own_w21 hw) (own_w23 hw) (own_w22 hw) (own_w7 hw) (own_w24 hw) (H31.atO (i := 0) rfl) (a := a6) (argsL := [(.ref a15)]) (rest := []) (own_adds_0_1 hw H31  Ff0) own_pd2 rfl rfl rfl (by decide) (W := 0) (Nat.le_of_eq rfl) (by decide) (by decide) (by decide) (by decide) ?_
    intro v34 h32 q33
    obtain ⟨rfl, H35⟩ := q33
    replace H35 : own_H Z h32 (own_SD a6 (.ref da11) (.ref sa10) (.int (0 : Int32)) :: own_SD a15 (.ref da20) (.ref sa19) (.int (1 : Int32)) :: []) ((da11, .int, "[I", [(.int (0 : Int32)), (.int (0 : Int32)), (.int (0 : Int32)), (.int (0 : Int32))]) :: (sa10, .double, "[D", [(.double (0 : UInt64)), (.double (0 : UInt64)), (.double (0 : UInt64)), (.double (0 : UInt64))]) :: (da20, .int, "[I", [(.int e0), (.int (0 : Int32)), (.int (0 : Int32)), (.int (0 : Int32))]) :: (sa19, .double, "[D", [(.double f0), (.double (0 : UInt64)), (.double (0 : UInt64)), (.double (0 : UInt64))]) :: []) := H35
    refine own_aload K own_d7_246 rfl rfl ?_
    refine own_virtual K own_d7_248 (own_w27 hw) (own_w28 hw) (own_w30 hw) (own_w29 hw) (own_w7 hw) (own_w31 hw) (H35.atO (i := 0) rfl) (a := a6) (argsL := []) (rest := []) (own_size hw H35) own_pd3 rfl rfl rfl (by decide) (W := 0) (Nat.le_of_eq rfl) (by decide) (by decide) (by decide) (by decide) ?_
    intro v38 h36 q37
    obtain ⟨rfl, rfl⟩ := q37
    refine own_iload K own_d7_251 rfl ?_
    refine own_icmpeq K own_d7_253 (fun _ => ?_) (fun q => absurd (by decide) q)
    refine own_iconst K own_d7_258 (v := (1 : Int32)) rfl ?_
    refine own_istore K own_d7_259 (Ls' := #[.val (.int i0), .val (.int i1), .val (.int i2), .val (.int i3), .val (.int i4), .val (.int i5), .val (.int (0 : Int32)), .val (.int (1 : Int32)), .val (.int bb), .val (.int r0), .val (.int r1), .val (.int e0), .val (.int e1), .val (.int e2), .val (.double s0), .second, .val (.double s1), .second, .val (.double f0), .second, .val (.double f1), .second, .val (.double f2), .second, .val (.ref a6), .val (.ref a15), .val (.int (1 : Int32))]) rfl ?_
    refine own_iload K own_d7_261 rfl ?_
    refine own_ifle K own_d7_263 (fun _ => ?_) (fun q => absurd (by decide) q)
    refine own_iload K own_d7_309 rfl ?_
    refine own_iconst K own_d7_311 (v := (1 : Int32)) rfl ?_
    refine own_icmple K own_d7_312 (fun _ => ?_) (fun q => absurd (by decide) q)
    refine own_iload K own_d7_358 rfl ?_
    exact own_retZ K (by first | exact Or.inl rfl | exact Or.inr rfl | decide) own_d7_360 (by decide) (by decide) (rfl)
  · refine own_iloadN K own_d7_0 rfl ?_
    refine own_iconst K own_d7_1 (v := (3 : Int32)) rfl ?_
    refine own_iand K own_d7_2 ?_
    refine own_iconst K own_d7_3 (v := (3 : Int32)) rfl ?_
    refine own_irem K own_d7_4 (by decide) ?_
    refine own_topI (x' := (0 : Int32)) (q) ?_
    refine own_istore K own_d7_5 (Ls' := #[.val (.int i0), .val (.int i1), .val (.int i2), .val (.int i3), .val (.int i4), .val (.int i5), .val (.int (0 : Int32)), .unset, .unset, .unset, .unset, .unset, .unset, .unset, .unset, .unset, .unset, .unset, .unset, .unset, .unset, .unset, .unset, .unset, .unset, .unset, .unset]) rfl ?_
    refine own_iloadN K own_d7_7 rfl ?_
    refine own_iconst K own_d7_8 (v := (2 : Int32)) rfl ?_
    refine own_iushr K own_d7_9 ?_
    refine own_iconst K own_d7_10 (v := (3 : Int32)) rfl ?_
    refine own_iand K own_d7_11 ?_
    refine own_topI (x' := (2 : Int32)) (q') ?_
    refine own_istore K own_d7_12 (Ls' := #[.val (.int i0), .val (.int i1), .val (.int i2), .val (.int i3), .val (.int i4), .val (.int i5), .val (.int (0 : Int32)), .val (.int (2 : Int32)), .unset, .unset, .unset, .unset, .unset, .unset, .unset, .unset, .unset, .unset, .unset, .unset, .unset, .unset, .unset, .unset, .unset, .unset, .unset]) rfl ?_
    refine own_iloadN K own_d7_14 rfl ?_
    refine own_ldcI K own_d7_15 (v := (2147483627 : Int32)) (own_w0 hw) ?_
    refine own_static K own_d7_17 (own_w1 hw) (own_w2 hw) (own_w3 hw) (own_w4 hw) (argsL := [(.int i3), (.int (2147483627 : Int32))]) (rest := []) (own_min hw) own_pd0 rfl rfl rfl (by decide) (W := 0) (Nat.le_of_eq rfl) (by decide) (by decide) (by decide) (by decide) ?_
    intro v3 h1 q2
    obtain ⟨⟨bb, rfl, hbb⟩, rfl⟩ := q2
    replace hbb : bb.toInt ≤ 2147483627 := hbb
    refine own_istore K own_d7_20 (Ls' := #[.val (.int i0), .val (.int i1), .val (.int i2), .val (.int i3), .val (.int i4), .val (.int i5), .val (.int (0 : Int32)), .val (.int (2 : Int32)), .val (.int bb), .unset, .unset, .unset, .unset, .unset, .unset, .unset, .unset, .unset, .unset, .unset, .unset, .unset, .unset, .unset, .unset, .unset, .unset]) rfl ?_
    refine own_iload K own_d7_22 rfl ?_
    refine own_iloadN K own_d7_24 rfl ?_
    refine own_iconst K own_d7_25 (v := (3 : Int32)) rfl ?_
    refine own_iand K own_d7_26 ?_
    refine own_iadd K own_d7_27 ?_
    obtain ⟨r0, e_r0⟩ : ∃ z : Int32, z = (bb + (i1 &&& (3 : Int32))) := ⟨_, rfl⟩
    have r0_0 : r0.toInt ≤ 2147483630 := by rw [e_r0]; exact own_a0 _ hbb (by decide)
    refine own_topI (x' := r0) (e_r0.symm) ?_
    refine own_istore K own_d7_28 (Ls' := #[.val (.int i0), .val (.int i1), .val (.int i2), .val (.int i3), .val (.int i4), .val (.int i5), .val (.int (0 : Int32)), .val (.int (2 : Int32)), .val (.int bb), .val (.int r0), .unset, .unset, .unset, .unset, .unset, .unset, .unset, .unset, .unset, .unset, .unset, .unset, .unset, .unset, .unset, .unset, .unset]) rfl ?_
    refine own_iload K own_d7_30 rfl ?_
    refine own_iconst K own_d7_32 (v := (1 : Int32)) rfl ?_
    refine own_iadd K own_d7_33 ?_
    refine own_iloadN K own_d7_34 rfl ?_
    refine own_iconst K own_d7_35 (v := (2 : Int32)) rfl ?_
    refine own_ishr K own_d7_36 ?_
    refine own_iconst K own_d7_37 (v := (3 : Int32)) rfl ?_
    refine own_iand K own_d7_38 ?_
    refine own_iadd K own_d7_39 ?_
    obtain ⟨r1, e_r1⟩ : ∃ z : Int32, z = ((r0 + (1 : Int32)) + ((i1 >>> ((2 : Int32) &&& 31)) &&& (3 : Int32))) := ⟨_, rfl⟩
    have r1_0 : r0.toInt < r1.toInt := by rw [e_r1]; exact (own_a1 _ r0_0 (by decide)).1
    refine own_topI (x' := r1) (e_r1.symm) ?_
    refine own_istore K own_d7_40 (Ls' := #[.val (.int i0), .val (.int i1), .val (.int i2), .val (.int i3), .val (.int i4), .val (.int i5), .val (.int (0 : Int32)), .val (.int (2 : Int32)), .val (.int bb), .val (.int r0), .val (.int r1), .unset, .unset, .unset, .unset, .unset, .unset, .unset, .unset, .unset, .unset, .unset, .unset, .unset, .unset, .unset, .unset]) rfl ?_
    refine own_iload K own_d7_42 rfl ?_
    refine own_iloadN K own_d7_44 rfl ?_
    refine own_iconst K own_d7_45 (v := (3 : Int32)) rfl ?_
    refine own_iand K own_d7_46 ?_
    refine own_iadd K own_d7_47 ?_
    obtain ⟨e0, e_e0⟩ : ∃ z : Int32, z = (bb + (i2 &&& (3 : Int32))) := ⟨_, rfl⟩
    have e0_0 : e0.toInt ≤ 2147483630 := by rw [e_e0]; exact own_a0 _ hbb (by decide)
    refine own_topI (x' := e0) (e_e0.symm) ?_
    refine own_istore K own_d7_48 (Ls' := #[.val (.int i0), .val (.int i1), .val (.int i2), .val (.int i3), .val (.int i4), .val (.int i5), .val (.int (0 : Int32)), .val (.int (2 : Int32)), .val (.int bb), .val (.int r0), .val (.int r1), .val (.int e0), .unset, .unset, .unset, .unset, .unset, .unset, .unset, .unset, .unset, .unset, .unset, .unset, .unset, .unset, .unset]) rfl ?_
    refine own_iload K own_d7_50 rfl ?_
    refine own_iconst K own_d7_52 (v := (1 : Int32)) rfl ?_
    refine own_iadd K own_d7_53 ?_
    refine own_iloadN K own_d7_54 rfl ?_
    refine own_iconst K own_d7_55 (v := (2 : Int32)) rfl ?_
    refine own_ishr K own_d7_56 ?_
    refine own_iconst K own_d7_57 (v := (3 : Int32)) rfl ?_
    refine own_iand K own_d7_58 ?_
    refine own_iadd K own_d7_59 ?_
    obtain ⟨e1, e_e1⟩ : ∃ z : Int32, z = ((e0 + (1 : Int32)) + ((i2 >>> ((2 : Int32) &&& 31)) &&& (3 : Int32))) := ⟨_, rfl⟩
    have e1_0 : e0.toInt < e1.toInt ∧ e1.toInt ≤ 2147483634 := by rw [e_e1]; exact own_a1 _ e0_0 (by decide)
    refine own_topI (x' := e1) (e_e1.symm) ?_
    refine own_istore K own_d7_60 (Ls' := #[.val (.int i0), .val (.int i1), .val (.int i2), .val (.int i3), .val (.int i4), .val (.int i5), .val (.int (0 : Int32)), .val (.int (2 : Int32)), .val (.int bb), .val (.int r0), .val (.int r1), .val (.int e0), .val (.int e1), .unset, .unset, .unset, .unset, .unset, .unset, .unset, .unset, .unset, .unset, .unset, .unset, .unset, .unset]) rfl ?_
    refine own_iload K own_d7_62 rfl ?_
    refine own_iconst K own_d7_64 (v := (1 : Int32)) rfl ?_
    refine own_iadd K own_d7_65 ?_
    refine own_iloadN K own_d7_66 rfl ?_
    refine own_iconst K own_d7_67 (v := (4 : Int32)) rfl ?_
    refine own_ishr K own_d7_68 ?_
    refine own_iconst K own_d7_69 (v := (3 : Int32)) rfl ?_
    refine own_iand K own_d7_70 ?_
    refine own_iadd K own_d7_71 ?_
    obtain ⟨e2, e_e2⟩ : ∃ z : Int32, z = ((e1 + (1 : Int32)) + ((i2 >>> ((4 : Int32) &&& 31)) &&& (3 : Int32))) := ⟨_, rfl⟩
    have e2_0 : e1.toInt < e2.toInt := by rw [e_e2]; exact (own_a1 _ e1_0.2 (by decide)).1
    refine own_topI (x' := e2) (e_e2.symm) ?_
    refine own_istore K own_d7_72 (Ls' := #[.val (.int i0), .val (.int i1), .val (.int i2), .val (.int i3), .val (.int i4), .val (.int i5), .val (.int (0 : Int32)), .val (.int (2 : Int32)), .val (.int bb), .val (.int r0), .val (.int r1), .val (.int e0), .val (.int e1), .val (.int e2), .unset, .unset, .unset, .unset, .unset, .unset, .unset, .unset, .unset, .unset, .unset, .unset, .unset]) rfl ?_
    refine own_iload K own_d7_74 rfl ?_
    refine own_sipush K own_d7_76 (v := (255 : Int32)) rfl ?_
    refine own_iand K own_d7_79 ?_
    refine own_sipush K own_d7_80 (v := (128 : Int32)) rfl ?_
    refine own_isub K own_d7_83 ?_
    refine own_i2d K own_d7_84 ?_
    obtain ⟨s0, e_s0, Fs0⟩ : ∃ z : UInt64, z = (FP.i2d ((i4 &&& (255 : Int32)) - (128 : Int32))) ∧ Fl.Fin64 z := ⟨_, rfl, Fl.i2d_fin _⟩
    refine own_topD (x' := s0) (e_s0.symm) ?_
    refine own_dstore K own_d7_85 (Ls' := #[.val (.int i0), .val (.int i1), .val (.int i2), .val (.int i3), .val (.int i4), .val (.int i5), .val (.int (0 : Int32)), .val (.int (2 : Int32)), .val (.int bb), .val (.int r0), .val (.int r1), .val (.int e0), .val (.int e1), .val (.int e2), .val (.double s0), .second, .unset, .unset, .unset, .unset, .unset, .unset, .unset, .unset, .unset, .unset, .unset]) rfl ?_
    refine own_iload K own_d7_87 rfl ?_
    refine own_bipush K own_d7_89 (v := (8 : Int32)) rfl ?_
    refine own_ishr K own_d7_91 ?_
    refine own_sipush K own_d7_92 (v := (255 : Int32)) rfl ?_
    refine own_iand K own_d7_95 ?_
    refine own_sipush K own_d7_96 (v := (128 : Int32)) rfl ?_
    refine own_isub K own_d7_99 ?_
    refine own_i2d K own_d7_100 ?_
    obtain ⟨s1, e_s1, Fs1⟩ : ∃ z : UInt64, z = (FP.i2d (((i4 >>> ((8 : Int32) &&& 31)) &&& (255 : Int32)) - (128 : Int32))) ∧ Fl.Fin64 z := ⟨_, rfl, Fl.i2d_fin _⟩
    refine own_topD (x' := s1) (e_s1.symm) ?_
    refine own_dstore K own_d7_101 (Ls' := #[.val (.int i0), .val (.int i1), .val (.int i2), .val (.int i3), .val (.int i4), .val (.int i5), .val (.int (0 : Int32)), .val (.int (2 : Int32)), .val (.int bb), .val (.int r0), .val (.int r1), .val (.int e0), .val (.int e1), .val (.int e2), .val (.double s0), .second, .val (.double s1), .second, .unset, .unset, .unset, .unset, .unset, .unset, .unset, .unset, .unset]) rfl ?_
    refine own_iload K own_d7_103 rfl ?_
    refine own_sipush K own_d7_105 (v := (255 : Int32)) rfl ?_
    refine own_iand K own_d7_108 ?_
    refine own_sipush K own_d7_109 (v := (128 : Int32)) rfl ?_
    refine own_isub K own_d7_112 ?_
    refine own_i2d K own_d7_113 ?_
    obtain ⟨f0, e_f0, Ff0⟩ : ∃ z : UInt64, z = (FP.i2d ((i5 &&& (255 : Int32)) - (128 : Int32))) ∧ Fl.Fin64 z := ⟨_, rfl, Fl.i2d_fin _⟩
    refine own_topD (x' := f0) (e_f0.symm) ?_
    refine own_dstore K own_d7_114 (Ls' := #[.val (.int i0), .val (.int i1), .val (.int i2), .val (.int i3), .val (.int i4), .val (.int i5), .val (.int (0 : Int32)), .val (.int (2 : Int32)), .val (.int bb), .val (.int r0), .val (.int r1), .val (.int e0), .val (.int e1), .val (.int e2), .val (.double s0), .second, .val (.double s1), .second, .val (.double f0), .second, .unset, .unset, .unset, .unset, .unset, .unset, .unset]) rfl ?_
    refine own_iload K own_d7_116 rfl ?_
    refine own_bipush K own_d7_118 (v := (8 : Int32)) rfl ?_
    refine own_ishr K own_d7_120 ?_
    refine own_sipush K own_d7_121 (v := (255 : Int32)) rfl ?_
    refine own_iand K own_d7_124 ?_
    refine own_sipush K own_d7_125 (v := (128 : Int32)) rfl ?_
    refine own_isub K own_d7_128 ?_
    refine own_i2d K own_d7_129 ?_
    obtain ⟨f1, e_f1, Ff1⟩ : ∃ z : UInt64, z = (FP.i2d (((i5 >>> ((8 : Int32) &&& 31)) &&& (255 : Int32)) - (128 : Int32))) ∧ Fl.Fin64 z := ⟨_, rfl, Fl.i2d_fin _⟩
    refine own_topD (x' := f1) (e_f1.symm) ?_
    refine own_dstore K own_d7_130 (Ls' := #[.val (.int i0), .val (.int i1), .val (.int i2), .val (.int i3), .val (.int i4), .val (.int i5), .val (.int (0 : Int32)), .val (.int (2 : Int32)), .val (.int bb), .val (.int r0), .val (.int r1), .val (.int e0), .val (.int e1), .val (.int e2), .val (.double s0), .second, .val (.double s1), .second, .val (.double f0), .second, .val (.double f1), .second, .unset, .unset, .unset, .unset, .unset]) rfl ?_
    refine own_iload K own_d7_132 rfl ?_
    refine own_bipush K own_d7_134 (v := (16 : Int32)) rfl ?_
    refine own_ishr K own_d7_136 ?_
    refine own_sipush K own_d7_137 (v := (255 : Int32)) rfl ?_
    refine own_iand K own_d7_140 ?_
    refine own_sipush K own_d7_141 (v := (128 : Int32)) rfl ?_
    refine own_isub K own_d7_144 ?_
    refine own_i2d K own_d7_145 ?_
    obtain ⟨f2, e_f2, Ff2⟩ : ∃ z : UInt64, z = (FP.i2d (((i5 >>> ((16 : Int32) &&& 31)) &&& (255 : Int32)) - (128 : Int32))) ∧ Fl.Fin64 z := ⟨_, rfl, Fl.i2d_fin _⟩
    refine own_topD (x' := f2) (e_f2.symm) ?_
    refine own_dstore K own_d7_146 (Ls' := #[.val (.int i0), .val (.int i1), .val (.int i2), .val (.int i3), .val (.int i4), .val (.int i5), .val (.int (0 : Int32)), .val (.int (2 : Int32)), .val (.int bb), .val (.int r0), .val (.int r1), .val (.int e0), .val (.int e1), .val (.int e2), .val (.double s0), .second, .val (.double s1), .second, .val (.double f0), .second, .val (.double f1), .second, .val (.double f2), .second, .unset, .unset, .unset]) rfl ?_
    refine own_new K own_d7_148 (own_w5 hw) (own_w6 hw) (own_w7 hw) H (own_SD_F hw) (own_SD_P hw) (by decide) (by decide) ?_
    intro h4 a6 H5
    replace H5 : own_H Z h4 (own_SD a6 .null .null (.int (0 : Int32)) :: []) ([]) := H5
    refine own_dup K own_d7_151 rfl ?_
    refine own_special K own_d7_152 rfl (own_w8 hw) (own_w9 hw) (own_w7 hw) (own_w10 hw) (a := a6) (argsL := []) (rest := [(.ref a6)]) (own_init hw H5) own_pd1 rfl rfl rfl (by decide) (W := 1) (Nat.le_of_eq rfl) (by decide) (by decide) (by decide) (by decide) ?_
    intro v9 h7 q8
    obtain ⟨rfl, sa10, da11, H12⟩ := q8
    replace H12 : own_H Z h7 (own_SD a6 (.ref da11) (.ref sa10) (.int (0 : Int32)) :: []) ((sa10, .double, "[D", [(.double (0 : UInt64)), (.double (0 : UInt64)), (.double (0 : UInt64)), (.double (0 : UInt64))]) :: (da11, .int, "[I", [(.int (0 : Int32)), (.int (0 : Int32)), (.int (0 : Int32)), (.int (0 : Int32))]) :: []) := H12
    refine own_astore K own_d7_155 rfl (Ls' := #[.val (.int i0), .val (.int i1), .val (.int i2), .val (.int i3), .val (.int i4), .val (.int i5), .val (.int (0 : Int32)), .val (.int (2 : Int32)), .val (.int bb), .val (.int r0), .val (.int r1), .val (.int e0), .val (.int e1), .val (.int e2), .val (.double s0), .second, .val (.double s1), .second, .val (.double f0), .second, .val (.double f1), .second, .val (.double f2), .second, .val (.ref a6), .unset, .unset]) rfl ?_
    refine own_new K own_d7_157 (own_w5 hw) (own_w6 hw) (own_w7 hw) H12 (own_SD_F hw) (own_SD_P hw) (by decide) (by decide) ?_
    intro h13 a15 H14
    replace H14 : own_H Z h13 (own_SD a15 .null .null (.int (0 : Int32)) :: own_SD a6 (.ref da11) (.ref sa10) (.int (0 : Int32)) :: []) ((sa10, .double, "[D", [(.double (0 : UInt64)), (.double (0 : UInt64)), (.double (0 : UInt64)), (.double (0 : UInt64))]) :: (da11, .int, "[I", [(.int (0 : Int32)), (.int (0 : Int32)), (.int (0 : Int32)), (.int (0 : Int32))]) :: []) := H14
    refine own_dup K own_d7_160 rfl ?_
    refine own_special K own_d7_161 rfl (own_w8 hw) (own_w9 hw) (own_w7 hw) (own_w10 hw) (a := a15) (argsL := []) (rest := [(.ref a15)]) (own_init hw H14) own_pd1 rfl rfl rfl (by decide) (W := 1) (Nat.le_of_eq rfl) (by decide) (by decide) (by decide) (by decide) ?_
    intro v18 h16 q17
    obtain ⟨rfl, sa19, da20, H21⟩ := q17
    replace H21 : own_H Z h16 (own_SD a15 (.ref da20) (.ref sa19) (.int (0 : Int32)) :: own_SD a6 (.ref da11) (.ref sa10) (.int (0 : Int32)) :: []) ((sa19, .double, "[D", [(.double (0 : UInt64)), (.double (0 : UInt64)), (.double (0 : UInt64)), (.double (0 : UInt64))]) :: (da20, .int, "[I", [(.int (0 : Int32)), (.int (0 : Int32)), (.int (0 : Int32)), (.int (0 : Int32))]) :: (sa10, .double, "[D", [(.double (0 : UInt64)), (.double (0 : UInt64)), (.double (0 : UInt64)), (.double (0 : UInt64))]) :: (da11, .int, "[I", [(.int (0 : Int32)), (.int (0 : Int32)), (.int (0 : Int32)), (.int (0 : Int32))]) :: []) := H21
    refine own_astore K own_d7_164 rfl (Ls' := #[.val (.int i0), .val (.int i1), .val (.int i2), .val (.int i3), .val (.int i4), .val (.int i5), .val (.int (0 : Int32)), .val (.int (2 : Int32)), .val (.int bb), .val (.int r0), .val (.int r1), .val (.int e0), .val (.int e1), .val (.int e2), .val (.double s0), .second, .val (.double s1), .second, .val (.double f0), .second, .val (.double f1), .second, .val (.double f2), .second, .val (.ref a6), .val (.ref a15), .unset]) rfl ?_
    refine own_iload K own_d7_166 rfl ?_
    refine own_ifle K own_d7_168 (fun _ => ?_) (fun q => absurd (by decide) q)
    refine own_iload K own_d7_180 rfl ?_
    refine own_iconst K own_d7_182 (v := (1 : Int32)) rfl ?_
    refine own_icmple K own_d7_183 (fun _ => ?_) (fun q => absurd (by decide) q)
    refine own_iload K own_d7_195 rfl ?_
    refine own_ifle K own_d7_197 (fun q => absurd q (by decide)) (fun _ => ?_)
    refine own_aload K own_d7_200 rfl rfl ?_
    refine own_iload K own_d7_202 rfl ?_
    refine own_dload K own_d7_204 rfl ?_
    have H22 := H21.frontA 1 rfl
    replace H22 : own_H Z h16 (own_SD a15 (.ref da20) (.ref sa19) (.int (0 : Int32)) :: own_SD a6 (.ref da11) (.ref sa10) (.int (0 : Int32)) :: []) ((da20, .int, "[I", [(.int (0 : Int32)), (.int (0 : Int32)), (.int (0 : Int32)), (.int (0 : Int32))]) :: (sa19, .double, "[D", [(.double (0 : UInt64)), (.double (0 : UInt64)), (.double (0 : UInt64)), (.double (0 : UInt64))]) :: (sa10, .double, "[D", [(.double (0 : UInt64)), (.double (0 : UInt64)), (.double (0 : UInt64)), (.double (0 : UInt64))]) :: (da11, .int, "[I", [(.int (0 : Int32)), (.int (0 : Int32)), (.int (0 : Int32)), (.int (0 : Int32))]) :: []) := H22
    refine own_virtual K own_d7_206 (own_w32 hw) (own_w33 hw) (own_w35 hw) (own_w34 hw) (own_w7 hw) (own_w36 hw) (H22.atO (i := 0) rfl) (a := a15) (argsL := [(.int e0), (.double f0)]) (rest := []) (own_add0 hw H22) own_pd4 rfl rfl rfl (by decide) (W := 0) (Nat.le_of_eq rfl) (by decide) (by decide) (by decide) (by decide) ?_
    intro v25 h23 q24
    obtain ⟨rfl, H26⟩ := q24
    replace H26 : own_H Z h23 (own_SD a15 (.ref da20) (.ref sa19) (.int (1 : Int32)) :: own_SD a6 (.ref da11) (.ref sa10) (.int (0 : Int32)) :: []) ((da20, .int, "[I", [(.int e0), (.int (0 : Int32)), (.int (0 : Int32)), (.int (0 : Int32))]) :: (sa19, .double, "[D", [(.double f0), (.double (0 : UInt64)), (.double (0 : UInt64)), (.double (0 : UInt64))]) :: (sa10, .double, "[D", [(.double (0 : UInt64)), (.double (0 : UInt64)), (.double (0 : UInt64)), (.double (0 : UInt64))]) :: (da11, .int, "[I", [(.int (0 : Int32)), (.int (0 : Int32)), (.int (0 : Int32)), (.int (0 : Int32))]) :: []) := H26
    refine own_iload K own_d7_209 rfl ?_
    refine own_iconst K own_d7_211 (v := (1 : Int32)) rfl ?_
    refine own_icmple K own_d7_212 (fun q => absurd q (by decide)) (fun _ => ?_)
    refine own_aload K own_d7_215 rfl rfl ?_
    refine own_iload K own_d7_217 rfl ?_
    refine own_dload K own_d7_219 rfl ?_
    have H27 := H26.frontA 1 rfl
    replace H27 : own_H Z h23 (own_SD a15 (.ref da20) (.ref sa19) (.int (1 : Int32)) :: own_SD a6 (.ref da11) (.ref sa10) (.int (0 : Int32)) :: []) ((sa19, .double, "[D", [(.double f0), (.double (0 : UInt64)), (.double (0 : UInt64)), (.double (0 : UInt64))]) :: (da20, .int, "[I", [(.int e0), (.int (0 : Int32)), (.int (0 : Int32)), (.int (0 : Int32))]) :: (sa10, .double, "[D", [(.double (0 : UInt64)), (.double (0 : UInt64)), (.double (0 : UInt64)), (.double (0 : UInt64))]) :: (da11, .int, "[I", [(.int (0 : Int32)), (.int (0 : Int32)), (.int (0 : Int32)), (.int (0 : Int32))]) :: []) := H27
    have H28 := H27.frontA 1 rfl
    replace H28 : own_H Z h23 (own_SD a15 (.ref da20) (.ref sa19) (.int (1 : Int32)) :: own_SD a6 (.ref da11) (.ref sa10) (.int (0 : Int32)) :: []) ((da20, .int, "[I", [(.int e0), (.int (0 : Int32)), (.int (0 : Int32)), (.int (0 : Int32))]) :: (sa19, .double, "[D", [(.double f0), (.double (0 : UInt64)), (.double (0 : UInt64)), (.double (0 : UInt64))]) :: (sa10, .double, "[D", [(.double (0 : UInt64)), (.double (0 : UInt64)), (.double (0 : UInt64)), (.double (0 : UInt64))]) :: (da11, .int, "[I", [(.int (0 : Int32)), (.int (0 : Int32)), (.int (0 : Int32)), (.int (0 : Int32))]) :: []) := H28
    refine own_virtual K own_d7_221 (own_w32 hw) (own_w33 hw) (own_w35 hw) (own_w34 hw) (own_w7 hw) (own_w36 hw) (H28.atO (i := 0) rfl) (a := a15) (argsL := [(.int e1), (.double f1)]) (rest := []) (own_add1 hw H28) own_pd4 rfl rfl rfl (by decide) (W := 0) (Nat.le_of_eq rfl) (by decide) (by decide) (by decide) (by decide) ?_
    intro v31 h29 q30
    obtain ⟨rfl, H32⟩ := q30
    replace H32 : own_H Z h29 (own_SD a15 (.ref da20) (.ref sa19) (.int (2 : Int32)) :: own_SD a6 (.ref da11) (.ref sa10) (.int (0 : Int32)) :: []) ((da20, .int, "[I", [(.int e0), (.int e1), (.int (0 : Int32)), (.int (0 : Int32))]) :: (sa19, .double, "[D", [(.double f0), (.double f1), (.double (0 : UInt64)), (.double (0 : UInt64))]) :: (sa10, .double, "[D", [(.double (0 : UInt64)), (.double (0 : UInt64)), (.double (0 : UInt64)), (.double (0 : UInt64))]) :: (da11, .int, "[I", [(.int (0 : Int32)), (.int (0 : Int32)), (.int (0 : Int32)), (.int (0 : Int32))]) :: []) := H32
    refine own_iload K own_d7_224 rfl ?_
    refine own_iconst K own_d7_226 (v := (2 : Int32)) rfl ?_
    refine own_icmple K own_d7_227 (fun _ => ?_) (fun q => absurd (by decide) q)
    refine own_aload K own_d7_239 rfl rfl ?_
    refine own_aload K own_d7_241 rfl rfl ?_
    have H33 := H32.frontO 1 rfl
    replace H33 : own_H Z h29 (own_SD a6 (.ref da11) (.ref sa10) (.int (0 : Int32)) :: own_SD a15 (.ref da20) (.ref sa19) (.int (2 : Int32)) :: []) ((da20, .int, "[I", [(.int e0), (.int e1), (.int (0 : Int32)), (.int (0 : Int32))]) :: (sa19, .double, "[D", [(.double f0), (.double f1), (.double (0 : UInt64)), (.double (0 : UInt64))]) :: (sa10, .double, "[D", [(.double (0 : UInt64)), (.double (0 : UInt64)), (.double (0 : UInt64)), (.double (0 : UInt64))]) :: (da11, .int, "[I", [(.int (0 : Int32)), (.int (0 : Int32)), (.int (0 : Int32)), (.int (0 : Int32))]) :: []) := H33
    have H34 := H33.frontA 1 rfl
    replace H34 : own_H Z h29 (own_SD a6 (.ref da11) (.ref sa10) (.int (0 : Int32)) :: own_SD a15 (.ref da20) (.ref sa19) (.int (2 : Int32)) :: []) ((sa19, .double, "[D", [(.double f0), (.double f1), (.double (0 : UInt64)), (.double (0 : UInt64))]) :: (da20, .int, "[I", [(.int e0), (.int e1), (.int (0 : Int32)), (.int (0 : Int32))]) :: (sa10, .double, "[D", [(.double (0 : UInt64)), (.double (0 : UInt64)), (.double (0 : UInt64)), (.double (0 : UInt64))]) :: (da11, .int, "[I", [(.int (0 : Int32)), (.int (0 : Int32)), (.int (0 : Int32)), (.int (0 : Int32))]) :: []) := H34
    have H35 := H34.frontA 1 rfl
    replace H35 : own_H Z h29 (own_SD a6 (.ref da11) (.ref sa10) (.int (0 : Int32)) :: own_SD a15 (.ref da20) (.ref sa19) (.int (2 : Int32)) :: []) ((da20, .int, "[I", [(.int e0), (.int e1), (.int (0 : Int32)), (.int (0 : Int32))]) :: (sa19, .double, "[D", [(.double f0), (.double f1), (.double (0 : UInt64)), (.double (0 : UInt64))]) :: (sa10, .double, "[D", [(.double (0 : UInt64)), (.double (0 : UInt64)), (.double (0 : UInt64)), (.double (0 : UInt64))]) :: (da11, .int, "[I", [(.int (0 : Int32)), (.int (0 : Int32)), (.int (0 : Int32)), (.int (0 : Int32))]) :: []) := H35
    have H36 := H35.frontA 2 rfl
    replace H36 : own_H Z h29 (own_SD a6 (.ref da11) (.ref sa10) (.int (0 : Int32)) :: own_SD a15 (.ref da20) (.ref sa19) (.int (2 : Int32)) :: []) ((sa10, .double, "[D", [(.double (0 : UInt64)), (.double (0 : UInt64)), (.double (0 : UInt64)), (.double (0 : UInt64))]) :: (da20, .int, "[I", [(.int e0), (.int e1), (.int (0 : Int32)), (.int (0 : Int32))]) :: (sa19, .double, "[D", [(.double f0), (.double f1), (.double (0 : UInt64)), (.double (0 : UInt64))]) :: (da11, .int, "[I", [(.int (0 : Int32)), (.int (0 : Int32)), (.int (0 : Int32)), (.int (0 : Int32))]) :: []) := H36
    have H37 := H36.frontA 3 rfl
    replace H37 : own_H Z h29 (own_SD a6 (.ref da11) (.ref sa10) (.int (0 : Int32)) :: own_SD a15 (.ref da20) (.ref sa19) (.int (2 : Int32)) :: []) ((da11, .int, "[I", [(.int (0 : Int32)), (.int (0 : Int32)), (.int (0 : Int32)), (.int (0 : Int32))]) :: (sa10, .double, "[D", [(.double (0 : UInt64)), (.double (0 : UInt64)), (.double (0 : UInt64)), (.double (0 : UInt64))]) :: (da20, .int, "[I", [(.int e0), (.int e1), (.int (0 : Int32)), (.int (0 : Int32))]) :: (sa19, .double, "[D", [(.double f0), (.double f1), (.double (0 : UInt64)), (.double (0 : UInt64))]) :: []) := H37
    refine own_virtual K own_d7_243 (own_w20 hw) (own_w21 hw) (own_w23 hw) (own_w22 hw) (own_w7 hw) (own_w24 hw) (H37.atO (i := 0) rfl) (a := a6) (argsL := [(.ref a15)]) (rest := []) (own_adds_0_2 hw H37  Ff0 Ff1 e1_0.1) own_pd2 rfl rfl rfl (by decide) (W := 0) (Nat.le_of_eq rfl) (by decide) (by decide) (by decide) (by decide) ?_
    intro v40 h38 q39
    obtain ⟨rfl, H41⟩ := q39
    replace H41 : own_H Z h38 (own_SD a6 (.ref da11) (.ref sa10) (.int (0 : Int32)) :: own_SD a15 (.ref da20) (.ref sa19) (.int (2 : Int32)) :: []) ((da11, .int, "[I", [(.int (0 : Int32)), (.int (0 : Int32)), (.int (0 : Int32)), (.int (0 : Int32))]) :: (sa10, .double, "[D", [(.double (0 : UInt64)), (.double (0 : UInt64)), (.double (0 : UInt64)), (.double (0 : UInt64))]) :: (da20, .int, "[I", [(.int e0), (.int e1), (.int (0 : Int32)), (.int (0 : Int32))]) :: (sa19, .double, "[D", [(.double f0), (.double f1), (.double (0 : UInt64)), (.double (0 : UInt64))]) :: []) := H41
    refine own_aload K own_d7_246 rfl rfl ?_
    refine own_virtual K own_d7_248 (own_w27 hw) (own_w28 hw) (own_w30 hw) (own_w29 hw) (own_w7 hw) (own_w31 hw) (H41.atO (i := 0) rfl) (a := a6) (argsL := []) (rest := []) (own_size hw H41) own_pd3 rfl rfl rfl (by decide) (W := 0) (Nat.le_of_eq rfl) (by decide) (by decide) (by decide) (by decide) ?_
    intro v44 h42 q43
    obtain ⟨rfl, rfl⟩ := q43
    refine own_iload K own_d7_251 rfl ?_
    refine own_icmpeq K own_d7_253 (fun _ => ?_) (fun q => absurd (by decide) q)
    refine own_iconst K own_d7_258 (v := (1 : Int32)) rfl ?_
    refine own_istore K own_d7_259 (Ls' := #[.val (.int i0), .val (.int i1), .val (.int i2), .val (.int i3), .val (.int i4), .val (.int i5), .val (.int (0 : Int32)), .val (.int (2 : Int32)), .val (.int bb), .val (.int r0), .val (.int r1), .val (.int e0), .val (.int e1), .val (.int e2), .val (.double s0), .second, .val (.double s1), .second, .val (.double f0), .second, .val (.double f1), .second, .val (.double f2), .second, .val (.ref a6), .val (.ref a15), .val (.int (1 : Int32))]) rfl ?_
    refine own_iload K own_d7_261 rfl ?_
    refine own_ifle K own_d7_263 (fun _ => ?_) (fun q => absurd (by decide) q)
    refine own_iload K own_d7_309 rfl ?_
    refine own_iconst K own_d7_311 (v := (1 : Int32)) rfl ?_
    refine own_icmple K own_d7_312 (fun _ => ?_) (fun q => absurd (by decide) q)
    refine own_iload K own_d7_358 rfl ?_
    exact own_retZ K (by first | exact Or.inl rfl | exact Or.inr rfl | decide) own_d7_360 (by decide) (by decide) (rfl)
  · refine own_iloadN K own_d7_0 rfl ?_
    refine own_iconst K own_d7_1 (v := (3 : Int32)) rfl ?_
    refine own_iand K own_d7_2 ?_
    refine own_iconst K own_d7_3 (v := (3 : Int32)) rfl ?_
    refine own_irem K own_d7_4 (by decide) ?_
    refine own_topI (x' := (0 : Int32)) (q) ?_
    refine own_istore K own_d7_5 (Ls' := #[.val (.int i0), .val (.int i1), .val (.int i2), .val (.int i3), .val (.int i4), .val (.int i5), .val (.int (0 : Int32)), .unset, .unset, .unset, .unset, .unset, .unset, .unset, .unset, .unset, .unset, .unset, .unset, .unset, .unset, .unset, .unset, .unset, .unset, .unset, .unset]) rfl ?_
    refine own_iloadN K own_d7_7 rfl ?_
    refine own_iconst K own_d7_8 (v := (2 : Int32)) rfl ?_
    refine own_iushr K own_d7_9 ?_
    refine own_iconst K own_d7_10 (v := (3 : Int32)) rfl ?_
    refine own_iand K own_d7_11 ?_
    refine own_topI (x' := (3 : Int32)) (q') ?_
    refine own_istore K own_d7_12 (Ls' := #[.val (.int i0), .val (.int i1), .val (.int i2), .val (.int i3), .val (.int i4), .val (.int i5), .val (.int (0 : Int32)), .val (.int (3 : Int32)), .unset, .unset, .unset, .unset, .unset, .unset, .unset, .unset, .unset, .unset, .unset, .unset, .unset, .unset, .unset, .unset, .unset, .unset, .unset]) rfl ?_
    refine own_iloadN K own_d7_14 rfl ?_
    refine own_ldcI K own_d7_15 (v := (2147483627 : Int32)) (own_w0 hw) ?_
    refine own_static K own_d7_17 (own_w1 hw) (own_w2 hw) (own_w3 hw) (own_w4 hw) (argsL := [(.int i3), (.int (2147483627 : Int32))]) (rest := []) (own_min hw) own_pd0 rfl rfl rfl (by decide) (W := 0) (Nat.le_of_eq rfl) (by decide) (by decide) (by decide) (by decide) ?_
    intro v3 h1 q2
    obtain ⟨⟨bb, rfl, hbb⟩, rfl⟩ := q2
    replace hbb : bb.toInt ≤ 2147483627 := hbb
    refine own_istore K own_d7_20 (Ls' := #[.val (.int i0), .val (.int i1), .val (.int i2), .val (.int i3), .val (.int i4), .val (.int i5), .val (.int (0 : Int32)), .val (.int (3 : Int32)), .val (.int bb), .unset, .unset, .unset, .unset, .unset, .unset, .unset, .unset, .unset, .unset, .unset, .unset, .unset, .unset, .unset, .unset, .unset, .unset]) rfl ?_
    refine own_iload K own_d7_22 rfl ?_
    refine own_iloadN K own_d7_24 rfl ?_
    refine own_iconst K own_d7_25 (v := (3 : Int32)) rfl ?_
    refine own_iand K own_d7_26 ?_
    refine own_iadd K own_d7_27 ?_
    obtain ⟨r0, e_r0⟩ : ∃ z : Int32, z = (bb + (i1 &&& (3 : Int32))) := ⟨_, rfl⟩
    have r0_0 : r0.toInt ≤ 2147483630 := by rw [e_r0]; exact own_a0 _ hbb (by decide)
    refine own_topI (x' := r0) (e_r0.symm) ?_
    refine own_istore K own_d7_28 (Ls' := #[.val (.int i0), .val (.int i1), .val (.int i2), .val (.int i3), .val (.int i4), .val (.int i5), .val (.int (0 : Int32)), .val (.int (3 : Int32)), .val (.int bb), .val (.int r0), .unset, .unset, .unset, .unset, .unset, .unset, .unset, .unset, .unset, .unset, .unset, .unset, .unset, .unset, .unset, .unset, .unset]) rfl ?_
    refine own_iload K own_d7_30 rfl ?_
    refine own_iconst K own_d7_32 (v := (1 : Int32)) rfl ?_
    refine own_iadd K own_d7_33 ?_
    refine own_iloadN K own_d7_34 rfl ?_
    refine own_iconst K own_d7_35 (v := (2 : Int32)) rfl ?_
    refine own_ishr K own_d7_36 ?_
    refine own_iconst K own_d7_37 (v := (3 : Int32)) rfl ?_
    refine own_iand K own_d7_38 ?_
    refine own_iadd K own_d7_39 ?_
    obtain ⟨r1, e_r1⟩ : ∃ z : Int32, z = ((r0 + (1 : Int32)) + ((i1 >>> ((2 : Int32) &&& 31)) &&& (3 : Int32))) := ⟨_, rfl⟩
    have r1_0 : r0.toInt < r1.toInt := by rw [e_r1]; exact (own_a1 _ r0_0 (by decide)).1
    refine own_topI (x' := r1) (e_r1.symm) ?_
    refine own_istore K own_d7_40 (Ls' := #[.val (.int i0), .val (.int i1), .val (.int i2), .val (.int i3), .val (.int i4), .val (.int i5), .val (.int (0 : Int32)), .val (.int (3 : Int32)), .val (.int bb), .val (.int r0), .val (.int r1), .unset, .unset, .unset, .unset, .unset, .unset, .unset, .unset, .unset, .unset, .unset, .unset, .unset, .unset, .unset, .unset]) rfl ?_
    refine own_iload K own_d7_42 rfl ?_
    refine own_iloadN K own_d7_44 rfl ?_
    refine own_iconst K own_d7_45 (v := (3 : Int32)) rfl ?_
    refine own_iand K own_d7_46 ?_
    refine own_iadd K own_d7_47 ?_
    obtain ⟨e0, e_e0⟩ : ∃ z : Int32, z = (bb + (i2 &&& (3 : Int32))) := ⟨_, rfl⟩
    have e0_0 : e0.toInt ≤ 2147483630 := by rw [e_e0]; exact own_a0 _ hbb (by decide)
    refine own_topI (x' := e0) (e_e0.symm) ?_
    refine own_istore K own_d7_48 (Ls' := #[.val (.int i0), .val (.int i1), .val (.int i2), .val (.int i3), .val (.int i4), .val (.int i5), .val (.int (0 : Int32)), .val (.int (3 : Int32)), .val (.int bb), .val (.int r0), .val (.int r1), .val (.int e0), .unset, .unset, .unset, .unset, .unset, .unset, .unset, .unset, .unset, .unset, .unset, .unset, .unset, .unset, .unset]) rfl ?_
    refine own_iload K own_d7_50 rfl ?_
    refine own_iconst K own_d7_52 (v := (1 : Int32)) rfl ?_
    refine own_iadd K own_d7_53 ?_
    refine own_iloadN K own_d7_54 rfl ?_
    refine own_iconst K own_d7_55 (v := (2 : Int32)) rfl ?_
    refine own_ishr K own_d7_56 ?_
    refine own_iconst K own_d7_57 (v := (3 : Int32)) rfl ?_
    refine own_iand K own_d7_58 ?_
    refine own_iadd K own_d7_59 ?_
    obtain ⟨e1, e_e1⟩ : ∃ z : Int32, z = ((e0 + (1 : Int32)) + ((i2 >>> ((2 : Int32) &&& 31)) &&& (3 : Int32))) := ⟨_, rfl⟩
    have e1_0 : e0.toInt < e1.toInt ∧ e1.toInt ≤ 2147483634 := by rw [e_e1]; exact own_a1 _ e0_0 (by decide)
    refine own_topI (x' := e1) (e_e1.symm) ?_
    refine own_istore K own_d7_60 (Ls' := #[.val (.int i0), .val (.int i1), .val (.int i2), .val (.int i3), .val (.int i4), .val (.int i5), .val (.int (0 : Int32)), .val (.int (3 : Int32)), .val (.int bb), .val (.int r0), .val (.int r1), .val (.int e0), .val (.int e1), .unset, .unset, .unset, .unset, .unset, .unset, .unset, .unset, .unset, .unset, .unset, .unset, .unset, .unset]) rfl ?_
    refine own_iload K own_d7_62 rfl ?_
    refine own_iconst K own_d7_64 (v := (1 : Int32)) rfl ?_
    refine own_iadd K own_d7_65 ?_
    refine own_iloadN K own_d7_66 rfl ?_
    refine own_iconst K own_d7_67 (v := (4 : Int32)) rfl ?_
    refine own_ishr K own_d7_68 ?_
    refine own_iconst K own_d7_69 (v := (3 : Int32)) rfl ?_
    refine own_iand K own_d7_70 ?_
    refine own_iadd K own_d7_71 ?_
    obtain ⟨e2, e_e2⟩ : ∃ z : Int32, z = ((e1 + (1 : Int32)) + ((i2 >>> ((4 : Int32) &&& 31)) &&& (3 : Int32))) := ⟨_, rfl⟩
    have e2_0 : e1.toInt < e2.toInt := by rw [e_e2]; exact (own_a1 _ e1_0.2 (by decide)).1
    refine own_topI (x' := e2) (e_e2.symm) ?_
    refine own_istore K own_d7_72 (Ls' := #[.val (.int i0), .val (.int i1), .val (.int i2), .val (.int i3), .val (.int i4), .val (.int i5), .val (.int (0 : Int32)), .val (.int (3 : Int32)), .val (.int bb), .val (.int r0), .val (.int r1), .val (.int e0), .val (.int e1), .val (.int e2), .unset, .unset, .unset, .unset, .unset, .unset, .unset, .unset, .unset, .unset, .unset, .unset, .unset]) rfl ?_
    refine own_iload K own_d7_74 rfl ?_
    refine own_sipush K own_d7_76 (v := (255 : Int32)) rfl ?_
    refine own_iand K own_d7_79 ?_
    refine own_sipush K own_d7_80 (v := (128 : Int32)) rfl ?_
    refine own_isub K own_d7_83 ?_
    refine own_i2d K own_d7_84 ?_
    obtain ⟨s0, e_s0, Fs0⟩ : ∃ z : UInt64, z = (FP.i2d ((i4 &&& (255 : Int32)) - (128 : Int32))) ∧ Fl.Fin64 z := ⟨_, rfl, Fl.i2d_fin _⟩
    refine own_topD (x' := s0) (e_s0.symm) ?_
    refine own_dstore K own_d7_85 (Ls' := #[.val (.int i0), .val (.int i1), .val (.int i2), .val (.int i3), .val (.int i4), .val (.int i5), .val (.int (0 : Int32)), .val (.int (3 : Int32)), .val (.int bb), .val (.int r0), .val (.int r1), .val (.int e0), .val (.int e1), .val (.int e2), .val (.double s0), .second, .unset, .unset, .unset, .unset, .unset, .unset, .unset, .unset, .unset, .unset, .unset]) rfl ?_
    refine own_iload K own_d7_87 rfl ?_
    refine own_bipush K own_d7_89 (v := (8 : Int32)) rfl ?_
    refine own_ishr K own_d7_91 ?_
    refine own_sipush K own_d7_92 (v := (255 : Int32)) rfl ?_
    refine own_iand K own_d7_95 ?_
    refine own_sipush K own_d7_96 (v := (128 : Int32)) rfl ?_
    refine own_isub K own_d7_99 ?_
    refine own_i2d K own_d7_100 ?_
    obtain ⟨s1, e_s1, Fs1⟩ : ∃ z : UInt64, z = (FP.i2d (((i4 >>> ((8 : Int32) &&& 31)) &&& (255 : Int32)) - (128 : Int32))) ∧ Fl.Fin64 z := ⟨_, rfl, Fl.i2d_fin _⟩
    refine own_topD (x' := s1) (e_s1.symm) ?_
    refine own_dstore K own_d7_101 (Ls' := #[.val (.int i0), .val (.int i1), .val (.int i2), .val (.int i3), .val (.int i4), .val (.int i5), .val (.int (0 : Int32)), .val (.int (3 : Int32)), .val (.int bb), .val (.int r0), .val (.int r1), .val (.int e0), .val (.int e1), .val (.int e2), .val (.double s0), .second, .val (.double s1), .second, .unset, .unset, .unset, .unset, .unset, .unset, .unset, .unset, .unset]) rfl ?_
    refine own_iload K own_d7_103 rfl ?_
    refine own_sipush K own_d7_105 (v := (255 : Int32)) rfl ?_
    refine own_iand K own_d7_108 ?_
    refine own_sipush K own_d7_109 (v := (128 : Int32)) rfl ?_
    refine own_isub K own_d7_112 ?_
    refine own_i2d K own_d7_113 ?_
    obtain ⟨f0, e_f0, Ff0⟩ : ∃ z : UInt64, z = (FP.i2d ((i5 &&& (255 : Int32)) - (128 : Int32))) ∧ Fl.Fin64 z := ⟨_, rfl, Fl.i2d_fin _⟩
    refine own_topD (x' := f0) (e_f0.symm) ?_
    refine own_dstore K own_d7_114 (Ls' := #[.val (.int i0), .val (.int i1), .val (.int i2), .val (.int i3), .val (.int i4), .val (.int i5), .val (.int (0 : Int32)), .val (.int (3 : Int32)), .val (.int bb), .val (.int r0), .val (.int r1), .val (.int e0), .val (.int e1), .val (.int e2), .val (.double s0), .second, .val (.double s1), .second, .val (.double f0), .second, .unset, .unset, .unset, .unset, .unset, .unset, .unset]) rfl ?_
    refine own_iload K own_d7_116 rfl ?_
    refine own_bipush K own_d7_118 (v := (8 : Int32)) rfl ?_
    refine own_ishr K own_d7_120 ?_
    refine own_sipush K own_d7_121 (v := (255 : Int32)) rfl ?_
    refine own_iand K own_d7_124 ?_
    refine own_sipush K own_d7_125 (v := (128 : Int32)) rfl ?_
    refine own_isub K own_d7_128 ?_
    refine own_i2d K own_d7_129 ?_
    obtain ⟨f1, e_f1, Ff1⟩ : ∃ z : UInt64, z = (FP.i2d (((i5 >>> ((8 : Int32) &&& 31)) &&& (255 : Int32)) - (128 : Int32))) ∧ Fl.Fin64 z := ⟨_, rfl, Fl.i2d_fin _⟩
    refine own_topD (x' := f1) (e_f1.symm) ?_
    refine own_dstore K own_d7_130 (Ls' := #[.val (.int i0), .val (.int i1), .val (.int i2), .val (.int i3), .val (.int i4), .val (.int i5), .val (.int (0 : Int32)), .val (.int (3 : Int32)), .val (.int bb), .val (.int r0), .val (.int r1), .val (.int e0), .val (.int e1), .val (.int e2), .val (.double s0), .second, .val (.double s1), .second, .val (.double f0), .second, .val (.double f1), .second, .unset, .unset, .unset, .unset, .unset]) rfl ?_
    refine own_iload K own_d7_132 rfl ?_
    refine own_bipush K own_d7_134 (v := (16 : Int32)) rfl ?_
    refine own_ishr K own_d7_136 ?_
    refine own_sipush K own_d7_137 (v := (255 : Int32)) rfl ?_
    refine own_iand K own_d7_140 ?_
    refine own_sipush K own_d7_141 (v := (128 : Int32)) rfl ?_
    refine own_isub K own_d7_144 ?_
    refine own_i2d K own_d7_145 ?_
    obtain ⟨f2, e_f2, Ff2⟩ : ∃ z : UInt64, z = (FP.i2d (((i5 >>> ((16 : Int32) &&& 31)) &&& (255 : Int32)) - (128 : Int32))) ∧ Fl.Fin64 z := ⟨_, rfl, Fl.i2d_fin _⟩
    refine own_topD (x' := f2) (e_f2.symm) ?_
    refine own_dstore K own_d7_146 (Ls' := #[.val (.int i0), .val (.int i1), .val (.int i2), .val (.int i3), .val (.int i4), .val (.int i5), .val (.int (0 : Int32)), .val (.int (3 : Int32)), .val (.int bb), .val (.int r0), .val (.int r1), .val (.int e0), .val (.int e1), .val (.int e2), .val (.double s0), .second, .val (.double s1), .second, .val (.double f0), .second, .val (.double f1), .second, .val (.double f2), .second, .unset, .unset, .unset]) rfl ?_
    refine own_new K own_d7_148 (own_w5 hw) (own_w6 hw) (own_w7 hw) H (own_SD_F hw) (own_SD_P hw) (by decide) (by decide) ?_
    intro h4 a6 H5
    replace H5 : own_H Z h4 (own_SD a6 .null .null (.int (0 : Int32)) :: []) ([]) := H5
    refine own_dup K own_d7_151 rfl ?_
    refine own_special K own_d7_152 rfl (own_w8 hw) (own_w9 hw) (own_w7 hw) (own_w10 hw) (a := a6) (argsL := []) (rest := [(.ref a6)]) (own_init hw H5) own_pd1 rfl rfl rfl (by decide) (W := 1) (Nat.le_of_eq rfl) (by decide) (by decide) (by decide) (by decide) ?_
    intro v9 h7 q8
    obtain ⟨rfl, sa10, da11, H12⟩ := q8
    replace H12 : own_H Z h7 (own_SD a6 (.ref da11) (.ref sa10) (.int (0 : Int32)) :: []) ((sa10, .double, "[D", [(.double (0 : UInt64)), (.double (0 : UInt64)), (.double (0 : UInt64)), (.double (0 : UInt64))]) :: (da11, .int, "[I", [(.int (0 : Int32)), (.int (0 : Int32)), (.int (0 : Int32)), (.int (0 : Int32))]) :: []) := H12
    refine own_astore K own_d7_155 rfl (Ls' := #[.val (.int i0), .val (.int i1), .val (.int i2), .val (.int i3), .val (.int i4), .val (.int i5), .val (.int (0 : Int32)), .val (.int (3 : Int32)), .val (.int bb), .val (.int r0), .val (.int r1), .val (.int e0), .val (.int e1), .val (.int e2), .val (.double s0), .second, .val (.double s1), .second, .val (.double f0), .second, .val (.double f1), .second, .val (.double f2), .second, .val (.ref a6), .unset, .unset]) rfl ?_
    refine own_new K own_d7_157 (own_w5 hw) (own_w6 hw) (own_w7 hw) H12 (own_SD_F hw) (own_SD_P hw) (by decide) (by decide) ?_
    intro h13 a15 H14
    replace H14 : own_H Z h13 (own_SD a15 .null .null (.int (0 : Int32)) :: own_SD a6 (.ref da11) (.ref sa10) (.int (0 : Int32)) :: []) ((sa10, .double, "[D", [(.double (0 : UInt64)), (.double (0 : UInt64)), (.double (0 : UInt64)), (.double (0 : UInt64))]) :: (da11, .int, "[I", [(.int (0 : Int32)), (.int (0 : Int32)), (.int (0 : Int32)), (.int (0 : Int32))]) :: []) := H14
    refine own_dup K own_d7_160 rfl ?_
    refine own_special K own_d7_161 rfl (own_w8 hw) (own_w9 hw) (own_w7 hw) (own_w10 hw) (a := a15) (argsL := []) (rest := [(.ref a15)]) (own_init hw H14) own_pd1 rfl rfl rfl (by decide) (W := 1) (Nat.le_of_eq rfl) (by decide) (by decide) (by decide) (by decide) ?_
    intro v18 h16 q17
    obtain ⟨rfl, sa19, da20, H21⟩ := q17
    replace H21 : own_H Z h16 (own_SD a15 (.ref da20) (.ref sa19) (.int (0 : Int32)) :: own_SD a6 (.ref da11) (.ref sa10) (.int (0 : Int32)) :: []) ((sa19, .double, "[D", [(.double (0 : UInt64)), (.double (0 : UInt64)), (.double (0 : UInt64)), (.double (0 : UInt64))]) :: (da20, .int, "[I", [(.int (0 : Int32)), (.int (0 : Int32)), (.int (0 : Int32)), (.int (0 : Int32))]) :: (sa10, .double, "[D", [(.double (0 : UInt64)), (.double (0 : UInt64)), (.double (0 : UInt64)), (.double (0 : UInt64))]) :: (da11, .int, "[I", [(.int (0 : Int32)), (.int (0 : Int32)), (.int (0 : Int32)), (.int (0 : Int32))]) :: []) := H21
    refine own_astore K own_d7_164 rfl (Ls' := #[.val (.int i0), .val (.int i1), .val (.int i2), .val (.int i3), .val (.int i4), .val (.int i5), .val (.int (0 : Int32)), .val (.int (3 : Int32)), .val (.int bb), .val (.int r0), .val (.int r1), .val (.int e0), .val (.int e1), .val (.int e2), .val (.double s0), .second, .val (.double s1), .second, .val (.double f0), .second, .val (.double f1), .second, .val (.double f2), .second, .val (.ref a6), .val (.ref a15), .unset]) rfl ?_
    refine own_iload K own_d7_166 rfl ?_
    refine own_ifle K own_d7_168 (fun _ => ?_) (fun q => absurd (by decide) q)
    refine own_iload K own_d7_180 rfl ?_
    refine own_iconst K own_d7_182 (v := (1 : Int32)) rfl ?_
    refine own_icmple K own_d7_183 (fun _ => ?_) (fun q => absurd (by decide) q)
    refine own_iload K own_d7_195 rfl ?_
    refine own_ifle K own_d7_197 (fun q => absurd q (by decide)) (fun _ => ?_)
    refine own_aload K own_d7_200 rfl rfl ?_
    refine own_iload K own_d7_202 rfl ?_
    refine own_dload K own_d7_204 rfl ?_
    have H22 := H21.frontA 1 rfl
    replace H22 : own_H Z h16 (own_SD a15 (.ref da20) (.ref sa19) (.int (0 : Int32)) :: own_SD a6 (.ref da11) (.ref sa10) (.int (0 : Int32)) :: []) ((da20, .int, "[I", [(.int (0 : Int32)), (.int (0 : Int32)), (.int (0 : Int32)), (.int (0 : Int32))]) :: (sa19, .double, "[D", [(.double (0 : UInt64)), (.double (0 : UInt64)), (.double (0 : UInt64)), (.double (0 : UInt64))]) :: (sa10, .double, "[D", [(.double (0 : UInt64)), (.double (0 : UInt64)), (.double (0 : UInt64)), (.double (0 : UInt64))]) :: (da11, .int, "[I", [(.int (0 : Int32)), (.int (0 : Int32)), (.int (0 : Int32)), (.int (0 : Int32))]) :: []) := H22
    refine own_virtual K own_d7_206 (own_w32 hw) (own_w33 hw) (own_w35 hw) (own_w34 hw) (own_w7 hw) (own_w36 hw) (H22.atO (i := 0) rfl) (a := a15) (argsL := [(.int e0), (.double f0)]) (rest := []) (own_add0 hw H22) own_pd4 rfl rfl rfl (by decide) (W := 0) (Nat.le_of_eq rfl) (by decide) (by decide) (by decide) (by decide) ?_
    intro v25 h23 q24
    obtain ⟨rfl, H26⟩ := q24
    replace H26 : own_H Z h23 (own_SD a15 (.ref da20) (.ref sa19) (.int (1 : Int32)) :: own_SD a6 (.ref da11) (.ref sa10) (.int (0 : Int32)) :: []) ((da20, .int, "[I", [(.int e0), (.int (0 : Int32)), (.int (0 : Int32)), (.int (0 : Int32))]) :: (sa19, .double, "[D", [(.double f0), (.double (0 : UInt64)), (.double (0 : UInt64)), (.double (0 : UInt64))]) :: (sa10, .double, "[D", [(.double (0 : UInt64)), (.double (0 : UInt64)), (.double (0 : UInt64)), (.double (0 : UInt64))]) :: (da11, .int, "[I", [(.int (0 : Int32)), (.int (0 : Int32)), (.int (0 : Int32)), (.int (0 : Int32))]) :: []) := H26
    refine own_iload K own_d7_209 rfl ?_
    refine own_iconst K own_d7_211 (v := (1 : Int32)) rfl ?_
    refine own_icmple K own_d7_212 (fun q => absurd q (by decide)) (fun _ => ?_)
    refine own_aload K own_d7_215 rfl rfl ?_
    refine own_iload K own_d7_217 rfl ?_
    refine own_dload K own_d7_219 rfl ?_
    have H27 := H26.frontA 1 rfl
    replace H27 : own_H Z h23 (own_SD a15 (.ref da20) (.ref sa19) (.int (1 : Int32)) :: own_SD a6 (.ref da11) (.ref sa10) (.int (0 : Int32)) :: []) ((sa19, .double, "[D", [(.double f0), (.double (0 : UInt64)), (.double (0 : UInt64)), (.double (0 : UInt64))]) :: (da20, .int, "[I", [(.int e0), (.int (0 : Int32)), (.int (0 : Int32)), (.int (0 : Int32))]) :: (sa10, .double, "[D", [(.double (0 : UInt64)), (.double (0 : UInt64)), (.double (0 : UInt64)), (.double (0 : UInt64))]) :: (da11, .int, "[I", [(.int (0 : Int32)), (.int (0 : Int32)), (.int (0 : Int32)), (.int (0 : Int32))]) :: []) := H27
    have H28 := H27.frontA 1 rfl
    replace H28 : own_H Z h23 (own_SD a15 (.ref da20) (.ref sa19) (.int (1 : Int32)) :: own_SD a6 (.ref da11) (.ref sa10) (.int (0 : Int32)) :: []) ((da20, .int, "[I", [(.int e0), (.int (0 : Int32)), (.int (0 : Int32)), (.int (0 : Int32))]) :: (sa19, .double, "[D", [(.double f0), (.double (0 : UInt64)), (.double (0 : UInt64)), (.double (0 : UInt64))]) :: (sa10, .double, "[D", [(.double (0 : UInt64)), (.double (0 : UInt64)), (.double (0 : UInt64)), (.double (0 : UInt64))]) :: (da11, .int, "[I", [(.int (0 : Int32)), (.int (0 : Int32)), (.int (0 : Int32)), (.int (0 : Int32))]) :: []) := H28
    refine own_virtual K own_d7_221 (own_w32 hw) (own_w33 hw) (own_w35 hw) (own_w34 hw) (own_w7 hw) (own_w36 hw) (H28.atO (i := 0) rfl) (a := a15) (argsL := [(.int e1), (.double f1)]) (rest := []) (own_add1 hw H28) own_pd4 rfl rfl rfl (by decide) (W := 0) (Nat.le_of_eq rfl) (by decide) (by decide) (by decide) (by decide) ?_
    intro v31 h29 q30
    obtain ⟨rfl, H32⟩ := q30
    replace H32 : own_H Z h29 (own_SD a15 (.ref da20) (.ref sa19) (.int (2 : Int32)) :: own_SD a6 (.ref da11) (.ref sa10) (.int (0 : Int32)) :: []) ((da20, .int, "[I", [(.int e0), (.int e1), (.int (0 : Int32)), (.int (0 : Int32))]) :: (sa19, .double, "[D", [(.double f0), (.double f1), (.double (0 : UInt64)), (.double (0 : UInt64))]) :: (sa10, .double, "[D", [(.double (0 : UInt64)), (.double (0 : UInt64)), (.double (0 : UInt64)), (.double (0 : UInt64))]) :: (da11, .int, "[I", [(.int (0 : Int32)), (.int (0 : Int32)), (.int (0 : Int32)), (.int (0 : Int32))]) :: []) := H32
    refine own_iload K own_d7_224 rfl ?_
    refine own_iconst K own_d7_226 (v := (2 : Int32)) rfl ?_
    refine own_icmple K own_d7_227 (fun q => absurd q (by decide)) (fun _ => ?_)
    refine own_aload K own_d7_230 rfl rfl ?_
    refine own_iload K own_d7_232 rfl ?_
    refine own_dload K own_d7_234 rfl ?_
    have H33 := H32.frontA 1 rfl
    replace H33 : own_H Z h29 (own_SD a15 (.ref da20) (.ref sa19) (.int (2 : Int32)) :: own_SD a6 (.ref da11) (.ref sa10) (.int (0 : Int32)) :: []) ((sa19, .double, "[D", [(.double f0), (.double f1), (.double (0 : UInt64)), (.double (0 : UInt64))]) :: (da20, .int, "[I", [(.int e0), (.int e1), (.int (0 : Int32)), (.int (0 : Int32))]) :: (sa10, .double, "[D", [(.double (0 : UInt64)), (.double (0 : UInt64)), (.double (0 : UInt64)), (.double (0 : UInt64))]) :: (da11, .int, "[I", [(.int (0 : Int32)), (.int (0 : Int32)), (.int (0 : Int32)), (.int (0 : Int32))]) :: []) := H33
    have H34 := H33.frontA 1 rfl
    replace H34 : own_H Z h29 (own_SD a15 (.ref da20) (.ref sa19) (.int (2 : Int32)) :: own_SD a6 (.ref da11) (.ref sa10) (.int (0 : Int32)) :: []) ((da20, .int, "[I", [(.int e0), (.int e1), (.int (0 : Int32)), (.int (0 : Int32))]) :: (sa19, .double, "[D", [(.double f0), (.double f1), (.double (0 : UInt64)), (.double (0 : UInt64))]) :: (sa10, .double, "[D", [(.double (0 : UInt64)), (.double (0 : UInt64)), (.double (0 : UInt64)), (.double (0 : UInt64))]) :: (da11, .int, "[I", [(.int (0 : Int32)), (.int (0 : Int32)), (.int (0 : Int32)), (.int (0 : Int32))]) :: []) := H34
    refine own_virtual K own_d7_236 (own_w32 hw) (own_w33 hw) (own_w35 hw) (own_w34 hw) (own_w7 hw) (own_w36 hw) (H34.atO (i := 0) rfl) (a := a15) (argsL := [(.int e2), (.double f2)]) (rest := []) (own_add2 hw H34) own_pd4 rfl rfl rfl (by decide) (W := 0) (Nat.le_of_eq rfl) (by decide) (by decide) (by decide) (by decide) ?_
    intro v37 h35 q36
    obtain ⟨rfl, H38⟩ := q36
    replace H38 : own_H Z h35 (own_SD a15 (.ref da20) (.ref sa19) (.int (3 : Int32)) :: own_SD a6 (.ref da11) (.ref sa10) (.int (0 : Int32)) :: []) ((da20, .int, "[I", [(.int e0), (.int e1), (.int e2), (.int (0 : Int32))]) :: (sa19, .double, "[D", [(.double f0), (.double f1), (.double f2), (.double (0 : UInt64))]) :: (sa10, .double, "[D", [(.double (0 : UInt64)), (.double (0 : UInt64)), (.double (0 : UInt64)), (.double (0 : UInt64))]) :: (da11, .int, "[I", [(.int (0 : Int32)), (.int (0 : Int32)), (.int (0 : Int32)), (.int (0 : Int32))]) :: []) := H38
    refine own_aload K own_d7_239 rfl rfl ?_
    refine own_aload K own_d7_241 rfl rfl ?_
    have H39 := H38.frontO 1 rfl
    replace H39 : own_H Z h35 (own_SD a6 (.ref da11) (.ref sa10) (.int (0 : Int32)) :: own_SD a15 (.ref da20) (.ref sa19) (.int (3 : Int32)) :: []) ((da20, .int, "[I", [(.int e0), (.int e1), (.int e2), (.int (0 : Int32))]) :: (sa19, .double, "[D", [(.double f0), (.double f1), (.double f2), (.double (0 : UInt64))]) :: (sa10, .double, "[D", [(.double (0 : UInt64)), (.double (0 : UInt64)), (.double (0 : UInt64)), (.double (0 : UInt64))]) :: (da11, .int, "[I", [(.int (0 : Int32)), (.int (0 : Int32)), (.int (0 : Int32)), (.int (0 : Int32))]) :: []) := H39
    have H40 := H39.frontA 1 rfl
    replace H40 : own_H Z h35 (own_SD a6 (.ref da11) (.ref sa10) (.int (0 : Int32)) :: own_SD a15 (.ref da20) (.ref sa19) (.int (3 : Int32)) :: []) ((sa19, .double, "[D", [(.double f0), (.double f1), (.double f2), (.double (0 : UInt64))]) :: (da20, .int, "[I", [(.int e0), (.int e1), (.int e2), (.int (0 : Int32))]) :: (sa10, .double, "[D", [(.double (0 : UInt64)), (.double (0 : UInt64)), (.double (0 : UInt64)), (.double (0 : UInt64))]) :: (da11, .int, "[I", [(.int (0 : Int32)), (.int (0 : Int32)), (.int (0 : Int32)), (.int (0 : Int32))]) :: []) := H40
    have H41 := H40.frontA 1 rfl
    replace H41 : own_H Z h35 (own_SD a6 (.ref da11) (.ref sa10) (.int (0 : Int32)) :: own_SD a15 (.ref da20) (.ref sa19) (.int (3 : Int32)) :: []) ((da20, .int, "[I", [(.int e0), (.int e1), (.int e2), (.int (0 : Int32))]) :: (sa19, .double, "[D", [(.double f0), (.double f1), (.double f2), (.double (0 : UInt64))]) :: (sa10, .double, "[D", [(.double (0 : UInt64)), (.double (0 : UInt64)), (.double (0 : UInt64)), (.double (0 : UInt64))]) :: (da11, .int, "[I", [(.int (0 : Int32)), (.int (0 : Int32)), (.int (0 : Int32)), (.int (0 : Int32))]) :: []) := H41
    have H42 := H41.frontA 2 rfl
    replace H42 : own_H Z h35 (own_SD a6 (.ref da11) (.ref sa10) (.int (0 : Int32)) :: own_SD a15 (.ref da20) (.ref sa19) (.int (3 : Int32)) :: []) ((sa10, .double, "[D", [(.double (0 : UInt64)), (.double (0 : UInt64)), (.double (0 : UInt64)), (.double (0 : UInt64))]) :: (da20, .int, "[I", [(.int e0), (.int e1), (.int e2), (.int (0 : Int32))]) :: (sa19, .double, "[D", [(.double f0), (.double f1), (.double f2), (.double (0 : UInt64))]) :: (da11, .int, "[I", [(.int (0 : Int32)), (.int (0 : Int32)), (.int (0 : Int32)), (.int (0 : Int32))]) :: []) := H42
    have H43 := H42.frontA 3 rfl
    replace H43 : own_H Z h35 (own_SD a6 (.ref da11) (.ref sa10) (.int (0 : Int32)) :: own_SD a15 (.ref da20) (.ref sa19) (.int (3 : Int32)) :: []) ((da11, .int, "[I", [(.int (0 : Int32)), (.int (0 : Int32)), (.int (0 : Int32)), (.int (0 : Int32))]) :: (sa10, .double, "[D", [(.double (0 : UInt64)), (.double (0 : UInt64)), (.double (0 : UInt64)), (.double (0 : UInt64))]) :: (da20, .int, "[I", [(.int e0), (.int e1), (.int e2), (.int (0 : Int32))]) :: (sa19, .double, "[D", [(.double f0), (.double f1), (.double f2), (.double (0 : UInt64))]) :: []) := H43
    refine own_virtual K own_d7_243 (own_w20 hw) (own_w21 hw) (own_w23 hw) (own_w22 hw) (own_w7 hw) (own_w24 hw) (H43.atO (i := 0) rfl) (a := a6) (argsL := [(.ref a15)]) (rest := []) (own_adds_0_3 hw H43  Ff0 Ff1 Ff2 e1_0.1 e2_0) own_pd2 rfl rfl rfl (by decide) (W := 0) (Nat.le_of_eq rfl) (by decide) (by decide) (by decide) (by decide) ?_
    intro v46 h44 q45
    obtain ⟨rfl, H47⟩ := q45
    replace H47 : own_H Z h44 (own_SD a6 (.ref da11) (.ref sa10) (.int (0 : Int32)) :: own_SD a15 (.ref da20) (.ref sa19) (.int (3 : Int32)) :: []) ((da11, .int, "[I", [(.int (0 : Int32)), (.int (0 : Int32)), (.int (0 : Int32)), (.int (0 : Int32))]) :: (sa10, .double, "[D", [(.double (0 : UInt64)), (.double (0 : UInt64)), (.double (0 : UInt64)), (.double (0 : UInt64))]) :: (da20, .int, "[I", [(.int e0), (.int e1), (.int e2), (.int (0 : Int32))]) :: (sa19, .double, "[D", [(.double f0), (.double f1), (.double f2), (.double (0 : UInt64))]) :: []) := H47
    refine own_aload K own_d7_246 rfl rfl ?_
    refine own_virtual K own_d7_248 (own_w27 hw) (own_w28 hw) (own_w30 hw) (own_w29 hw) (own_w7 hw) (own_w31 hw) (H47.atO (i := 0) rfl) (a := a6) (argsL := []) (rest := []) (own_size hw H47) own_pd3 rfl rfl rfl (by decide) (W := 0) (Nat.le_of_eq rfl) (by decide) (by decide) (by decide) (by decide) ?_
    intro v50 h48 q49
    obtain ⟨rfl, rfl⟩ := q49
    refine own_iload K own_d7_251 rfl ?_
    refine own_icmpeq K own_d7_253 (fun _ => ?_) (fun q => absurd (by decide) q)
    refine own_iconst K own_d7_258 (v := (1 : Int32)) rfl ?_
    refine own_istore K own_d7_259 (Ls' := #[.val (.int i0), .val (.int i1), .val (.int i2), .val (.int i3), .val (.int i4), .val (.int i5), .val (.int (0 : Int32)), .val (.int (3 : Int32)), .val (.int bb), .val (.int r0), .val (.int r1), .val (.int e0), .val (.int e1), .val (.int e2), .val (.double s0), .second, .val (.double s1), .second, .val (.double f0), .second, .val (.double f1), .second, .val (.double f2), .second, .val (.ref a6), .val (.ref a15), .val (.int (1 : Int32))]) rfl ?_
    refine own_iload K own_d7_261 rfl ?_
    refine own_ifle K own_d7_263 (fun _ => ?_) (fun q => absurd (by decide) q)
    refine own_iload K own_d7_309 rfl ?_
    refine own_iconst K own_d7_311 (v := (1 : Int32)) rfl ?_
    refine own_icmple K own_d7_312 (fun _ => ?_) (fun q => absurd (by decide) q)
    refine own_iload K own_d7_358 rfl ?_
    exact own_retZ K (by first | exact Or.inl rfl | exact Or.inr rfl | decide) own_d7_360 (by decide) (by decide) (rfl)
  · refine own_iloadN K own_d7_0 rfl ?_
    refine own_iconst K own_d7_1 (v := (3 : Int32)) rfl ?_
    refine own_iand K own_d7_2 ?_
    refine own_iconst K own_d7_3 (v := (3 : Int32)) rfl ?_
    refine own_irem K own_d7_4 (by decide) ?_
    refine own_topI (x' := (1 : Int32)) (q) ?_
    refine own_istore K own_d7_5 (Ls' := #[.val (.int i0), .val (.int i1), .val (.int i2), .val (.int i3), .val (.int i4), .val (.int i5), .val (.int (1 : Int32)), .unset, .unset, .unset, .unset, .unset, .unset, .unset, .unset, .unset, .unset, .unset, .unset, .unset, .unset, .unset, .unset, .unset, .unset, .unset, .unset]) rfl ?_
    refine own_iloadN K own_d7_7 rfl ?_
    refine own_iconst K own_d7_8 (v := (2 : Int32)) rfl ?_
    refine own_iushr K own_d7_9 ?_
    refine own_iconst K own_d7_10 (v := (3 : Int32)) rfl ?_
    refine own_iand K own_d7_11 ?_
    refine own_topI (x' := (0 : Int32)) (q') ?_
    refine own_istore K own_d7_12 (Ls' := #[.val (.int i0), .val (.int i1), .val (.int i2), .val (.int i3), .val (.int i4), .val (.int i5), .val (.int (1 : Int32)), .val (.int (0 : Int32)), .unset, .unset, .unset, .unset, .unset, .unset, .unset, .unset, .unset, .unset, .unset, .unset, .unset, .unset, .unset, .unset, .unset, .unset, .unset]) rfl ?_
    refine own_iloadN K own_d7_14 rfl ?_
    refine own_ldcI K own_d7_15 (v := (2147483627 : Int32)) (own_w0 hw) ?_
    refine own_static K own_d7_17 (own_w1 hw) (own_w2 hw) (own_w3 hw) (own_w4 hw) (argsL := [(.int i3), (.int (2147483627 : Int32))]) (rest := []) (own_min hw) own_pd0 rfl rfl rfl (by decide) (W := 0) (Nat.le_of_eq rfl) (by decide) (by decide) (by decide) (by decide) ?_
    intro v3 h1 q2
    obtain ⟨⟨bb, rfl, hbb⟩, rfl⟩ := q2
    replace hbb : bb.toInt ≤ 2147483627 := hbb
    refine own_istore K own_d7_20 (Ls' := #[.val (.int i0), .val (.int i1), .val (.int i2), .val (.int i3), .val (.int i4), .val (.int i5), .val (.int (1 : Int32)), .val (.int (0 : Int32)), .val (.int bb), .unset, .unset, .unset, .unset, .unset, .unset, .unset, .unset, .unset, .unset, .unset, .unset, .unset, .unset, .unset, .unset, .unset, .unset]) rfl ?_
    refine own_iload K own_d7_22 rfl ?_
    refine own_iloadN K own_d7_24 rfl ?_
    refine own_iconst K own_d7_25 (v := (3 : Int32)) rfl ?_
    refine own_iand K own_d7_26 ?_
    refine own_iadd K own_d7_27 ?_
    obtain ⟨r0, e_r0⟩ : ∃ z : Int32, z = (bb + (i1 &&& (3 : Int32))) := ⟨_, rfl⟩
    have r0_0 : r0.toInt ≤ 2147483630 := by rw [e_r0]; exact own_a0 _ hbb (by decide)
    refine own_topI (x' := r0) (e_r0.symm) ?_
    refine own_istore K own_d7_28 (Ls' := #[.val (.int i0), .val (.int i1), .val (.int i2), .val (.int i3), .val (.int i4), .val (.int i5), .val (.int (1 : Int32)), .val (.int (0 : Int32)), .val (.int bb), .val (.int r0), .unset, .unset, .unset, .unset, .unset, .unset, .unset, .unset, .unset, .unset, .unset, .unset, .unset, .unset, .unset, .unset, .unset]) rfl ?_
    refine own_iload K own_d7_30 rfl ?_
    refine own_iconst K own_d7_32 (v := (1 : Int32)) rfl ?_
    refine own_iadd K own_d7_33 ?_
    refine own_iloadN K own_d7_34 rfl ?_
    refine own_iconst K own_d7_35 (v := (2 : Int32)) rfl ?_
    refine own_ishr K own_d7_36 ?_
    refine own_iconst K own_d7_37 (v := (3 : Int32)) rfl ?_
    refine own_iand K own_d7_38 ?_
    refine own_iadd K own_d7_39 ?_
    obtain ⟨r1, e_r1⟩ : ∃ z : Int32, z = ((r0 + (1 : Int32)) + ((i1 >>> ((2 : Int32) &&& 31)) &&& (3 : Int32))) := ⟨_, rfl⟩
    have r1_0 : r0.toInt < r1.toInt := by rw [e_r1]; exact (own_a1 _ r0_0 (by decide)).1
    refine own_topI (x' := r1) (e_r1.symm) ?_
    refine own_istore K own_d7_40 (Ls' := #[.val (.int i0), .val (.int i1), .val (.int i2), .val (.int i3), .val (.int i4), .val (.int i5), .val (.int (1 : Int32)), .val (.int (0 : Int32)), .val (.int bb), .val (.int r0), .val (.int r1), .unset, .unset, .unset, .unset, .unset, .unset, .unset, .unset, .unset, .unset, .unset, .unset, .unset, .unset, .unset, .unset]) rfl ?_
    refine own_iload K own_d7_42 rfl ?_
    refine own_iloadN K own_d7_44 rfl ?_
    refine own_iconst K own_d7_45 (v := (3 : Int32)) rfl ?_
    refine own_iand K own_d7_46 ?_
    refine own_iadd K own_d7_47 ?_
    obtain ⟨e0, e_e0⟩ : ∃ z : Int32, z = (bb + (i2 &&& (3 : Int32))) := ⟨_, rfl⟩
    have e0_0 : e0.toInt ≤ 2147483630 := by rw [e_e0]; exact own_a0 _ hbb (by decide)
    refine own_topI (x' := e0) (e_e0.symm) ?_
    refine own_istore K own_d7_48 (Ls' := #[.val (.int i0), .val (.int i1), .val (.int i2), .val (.int i3), .val (.int i4), .val (.int i5), .val (.int (1 : Int32)), .val (.int (0 : Int32)), .val (.int bb), .val (.int r0), .val (.int r1), .val (.int e0), .unset, .unset, .unset, .unset, .unset, .unset, .unset, .unset, .unset, .unset, .unset, .unset, .unset, .unset, .unset]) rfl ?_
    refine own_iload K own_d7_50 rfl ?_
    refine own_iconst K own_d7_52 (v := (1 : Int32)) rfl ?_
    refine own_iadd K own_d7_53 ?_
    refine own_iloadN K own_d7_54 rfl ?_
    refine own_iconst K own_d7_55 (v := (2 : Int32)) rfl ?_
    refine own_ishr K own_d7_56 ?_
    refine own_iconst K own_d7_57 (v := (3 : Int32)) rfl ?_
    refine own_iand K own_d7_58 ?_
    refine own_iadd K own_d7_59 ?_
    obtain ⟨e1, e_e1⟩ : ∃ z : Int32, z = ((e0 + (1 : Int32)) + ((i2 >>> ((2 : Int32) &&& 31)) &&& (3 : Int32))) := ⟨_, rfl⟩
    have e1_0 : e0.toInt < e1.toInt ∧ e1.toInt ≤ 2147483634 := by rw [e_e1]; exact own_a1 _ e0_0 (by decide)
    refine own_topI (x' := e1) (e_e1.symm) ?_
    refine own_istore K own_d7_60 (Ls' := #[.val (.int i0), .val (.int i1), .val (.int i2), .val (.int i3), .val (.int i4), .val (.int i5), .val (.int (1 : Int32)), .val (.int (0 : Int32)), .val (.int bb), .val (.int r0), .val (.int r1), .val (.int e0), .val (.int e1), .unset, .unset, .unset, .unset, .unset, .unset, .unset, .unset, .unset, .unset, .unset, .unset, .unset, .unset]) rfl ?_
    refine own_iload K own_d7_62 rfl ?_
    refine own_iconst K own_d7_64 (v := (1 : Int32)) rfl ?_
    refine own_iadd K own_d7_65 ?_
    refine own_iloadN K own_d7_66 rfl ?_
    refine own_iconst K own_d7_67 (v := (4 : Int32)) rfl ?_
    refine own_ishr K own_d7_68 ?_
    refine own_iconst K own_d7_69 (v := (3 : Int32)) rfl ?_
    refine own_iand K own_d7_70 ?_
    refine own_iadd K own_d7_71 ?_
    obtain ⟨e2, e_e2⟩ : ∃ z : Int32, z = ((e1 + (1 : Int32)) + ((i2 >>> ((4 : Int32) &&& 31)) &&& (3 : Int32))) := ⟨_, rfl⟩
    have e2_0 : e1.toInt < e2.toInt := by rw [e_e2]; exact (own_a1 _ e1_0.2 (by decide)).1
    refine own_topI (x' := e2) (e_e2.symm) ?_
    refine own_istore K own_d7_72 (Ls' := #[.val (.int i0), .val (.int i1), .val (.int i2), .val (.int i3), .val (.int i4), .val (.int i5), .val (.int (1 : Int32)), .val (.int (0 : Int32)), .val (.int bb), .val (.int r0), .val (.int r1), .val (.int e0), .val (.int e1), .val (.int e2), .unset, .unset, .unset, .unset, .unset, .unset, .unset, .unset, .unset, .unset, .unset, .unset, .unset]) rfl ?_
    refine own_iload K own_d7_74 rfl ?_
    refine own_sipush K own_d7_76 (v := (255 : Int32)) rfl ?_
    refine own_iand K own_d7_79 ?_
    refine own_sipush K own_d7_80 (v := (128 : Int32)) rfl ?_
    refine own_isub K own_d7_83 ?_
    refine own_i2d K own_d7_84 ?_
    obtain ⟨s0, e_s0, Fs0⟩ : ∃ z : UInt64, z = (FP.i2d ((i4 &&& (255 : Int32)) - (128 : Int32))) ∧ Fl.Fin64 z := ⟨_, rfl, Fl.i2d_fin _⟩
    refine own_topD (x' := s0) (e_s0.symm) ?_
    refine own_dstore K own_d7_85 (Ls' := #[.val (.int i0), .val (.int i1), .val (.int i2), .val (.int i3), .val (.int i4), .val (.int i5), .val (.int (1 : Int32)), .val (.int (0 : Int32)), .val (.int bb), .val (.int r0), .val (.int r1), .val (.int e0), .val (.int e1), .val (.int e2), .val (.double s0), .second, .unset, .unset, .unset, .unset, .unset, .unset, .unset, .unset, .unset, .unset, .unset]) rfl ?_
    refine own_iload K own_d7_87 rfl ?_
    refine own_bipush K own_d7_89 (v := (8 : Int32)) rfl ?_
    refine own_ishr K own_d7_91 ?_
    refine own_sipush K own_d7_92 (v := (255 : Int32)) rfl ?_
    refine own_iand K own_d7_95 ?_
    refine own_sipush K own_d7_96 (v := (128 : Int32)) rfl ?_
    refine own_isub K own_d7_99 ?_
    refine own_i2d K own_d7_100 ?_
    obtain ⟨s1, e_s1, Fs1⟩ : ∃ z : UInt64, z = (FP.i2d (((i4 >>> ((8 : Int32) &&& 31)) &&& (255 : Int32)) - (128 : Int32))) ∧ Fl.Fin64 z := ⟨_, rfl, Fl.i2d_fin _⟩
    refine own_topD (x' := s1) (e_s1.symm) ?_
    refine own_dstore K own_d7_101 (Ls' := #[.val (.int i0), .val (.int i1), .val (.int i2), .val (.int i3), .val (.int i4), .val (.int i5), .val (.int (1 : Int32)), .val (.int (0 : Int32)), .val (.int bb), .val (.int r0), .val (.int r1), .val (.int e0), .val (.int e1), .val (.int e2), .val (.double s0), .second, .val (.double s1), .second, .unset, .unset, .unset, .unset, .unset, .unset, .unset, .unset, .unset]) rfl ?_
    refine own_iload K own_d7_103 rfl ?_
    refine own_sipush K own_d7_105 (v := (255 : Int32)) rfl ?_
    refine own_iand K own_d7_108 ?_
    refine own_sipush K own_d7_109 (v := (128 : Int32)) rfl ?_
    refine own_isub K own_d7_112 ?_
    refine own_i2d K own_d7_113 ?_
    obtain ⟨f0, e_f0, Ff0⟩ : ∃ z : UInt64, z = (FP.i2d ((i5 &&& (255 : Int32)) - (128 : Int32))) ∧ Fl.Fin64 z := ⟨_, rfl, Fl.i2d_fin _⟩
    refine own_topD (x' := f0) (e_f0.symm) ?_
    refine own_dstore K own_d7_114 (Ls' := #[.val (.int i0), .val (.int i1), .val (.int i2), .val (.int i3), .val (.int i4), .val (.int i5), .val (.int (1 : Int32)), .val (.int (0 : Int32)), .val (.int bb), .val (.int r0), .val (.int r1), .val (.int e0), .val (.int e1), .val (.int e2), .val (.double s0), .second, .val (.double s1), .second, .val (.double f0), .second, .unset, .unset, .unset, .unset, .unset, .unset, .unset]) rfl ?_
    refine own_iload K own_d7_116 rfl ?_
    refine own_bipush K own_d7_118 (v := (8 : Int32)) rfl ?_
    refine own_ishr K own_d7_120 ?_
    refine own_sipush K own_d7_121 (v := (255 : Int32)) rfl ?_
    refine own_iand K own_d7_124 ?_
    refine own_sipush K own_d7_125 (v := (128 : Int32)) rfl ?_
    refine own_isub K own_d7_128 ?_
    refine own_i2d K own_d7_129 ?_
    obtain ⟨f1, e_f1, Ff1⟩ : ∃ z : UInt64, z = (FP.i2d (((i5 >>> ((8 : Int32) &&& 31)) &&& (255 : Int32)) - (128 : Int32))) ∧ Fl.Fin64 z := ⟨_, rfl, Fl.i2d_fin _⟩
    refine own_topD (x' := f1) (e_f1.symm) ?_
    refine own_dstore K own_d7_130 (Ls' := #[.val (.int i0), .val (.int i1), .val (.int i2), .val (.int i3), .val (.int i4), .val (.int i5), .val (.int (1 : Int32)), .val (.int (0 : Int32)), .val (.int bb), .val (.int r0), .val (.int r1), .val (.int e0), .val (.int e1), .val (.int e2), .val (.double s0), .second, .val (.double s1), .second, .val (.double f0), .second, .val (.double f1), .second, .unset, .unset, .unset, .unset, .unset]) rfl ?_
    refine own_iload K own_d7_132 rfl ?_
    refine own_bipush K own_d7_134 (v := (16 : Int32)) rfl ?_
    refine own_ishr K own_d7_136 ?_
    refine own_sipush K own_d7_137 (v := (255 : Int32)) rfl ?_
    refine own_iand K own_d7_140 ?_
    refine own_sipush K own_d7_141 (v := (128 : Int32)) rfl ?_
    refine own_isub K own_d7_144 ?_
    refine own_i2d K own_d7_145 ?_
    obtain ⟨f2, e_f2, Ff2⟩ : ∃ z : UInt64, z = (FP.i2d (((i5 >>> ((16 : Int32) &&& 31)) &&& (255 : Int32)) - (128 : Int32))) ∧ Fl.Fin64 z := ⟨_, rfl, Fl.i2d_fin _⟩
    refine own_topD (x' := f2) (e_f2.symm) ?_
    refine own_dstore K own_d7_146 (Ls' := #[.val (.int i0), .val (.int i1), .val (.int i2), .val (.int i3), .val (.int i4), .val (.int i5), .val (.int (1 : Int32)), .val (.int (0 : Int32)), .val (.int bb), .val (.int r0), .val (.int r1), .val (.int e0), .val (.int e1), .val (.int e2), .val (.double s0), .second, .val (.double s1), .second, .val (.double f0), .second, .val (.double f1), .second, .val (.double f2), .second, .unset, .unset, .unset]) rfl ?_
    refine own_new K own_d7_148 (own_w5 hw) (own_w6 hw) (own_w7 hw) H (own_SD_F hw) (own_SD_P hw) (by decide) (by decide) ?_
    intro h4 a6 H5
    replace H5 : own_H Z h4 (own_SD a6 .null .null (.int (0 : Int32)) :: []) ([]) := H5
    refine own_dup K own_d7_151 rfl ?_
    refine own_special K own_d7_152 rfl (own_w8 hw) (own_w9 hw) (own_w7 hw) (own_w10 hw) (a := a6) (argsL := []) (rest := [(.ref a6)]) (own_init hw H5) own_pd1 rfl rfl rfl (by decide) (W := 1) (Nat.le_of_eq rfl) (by decide) (by decide) (by decide) (by decide) ?_
    intro v9 h7 q8
    obtain ⟨rfl, sa10, da11, H12⟩ := q8
    replace H12 : own_H Z h7 (own_SD a6 (.ref da11) (.ref sa10) (.int (0 : Int32)) :: []) ((sa10, .double, "[D", [(.double (0 : UInt64)), (.double (0 : UInt64)), (.double (0 : UInt64)), (.double (0 : UInt64))]) :: (da11, .int, "[I", [(.int (0 : Int32)), (.int (0 : Int32)), (.int (0 : Int32)), (.int (0 : Int32))]) :: []) := H12
    refine own_astore K own_d7_155 rfl (Ls' := #[.val (.int i0), .val (.int i1), .val (.int i2), .val (.int i3), .val (.int i4), .val (.int i5), .val (.int (1 : Int32)), .val (.int (0 : Int32)), .val (.int bb), .val (.int r0), .val (.int r1), .val (.int e0), .val (.int e1), .val (.int e2), .val (.double s0), .second, .val (.double s1), .second, .val (.double f0), .second, .val (.double f1), .second, .val (.double f2), .second, .val (.ref a6), .unset, .unset]) rfl ?_
    refine own_new K own_d7_157 (own_w5 hw) (own_w6 hw) (own_w7 hw) H12 (own_SD_F hw) (own_SD_P hw) (by decide) (by decide) ?_
    intro h13 a15 H14
    replace H14 : own_H Z h13 (own_SD a15 .null .null (.int (0 : Int32)) :: own_SD a6 (.ref da11) (.ref sa10) (.int (0 : Int32)) :: []) ((sa10, .double, "[D", [(.double (0 : UInt64)), (.double (0 : UInt64)), (.double (0 : UInt64)), (.double (0 : UInt64))]) :: (da11, .int, "[I", [(.int (0 : Int32)), (.int (0 : Int32)), (.int (0 : Int32)), (.int (0 : Int32))]) :: []) := H14
    refine own_dup K own_d7_160 rfl ?_
    refine own_special K own_d7_161 rfl (own_w8 hw) (own_w9 hw) (own_w7 hw) (own_w10 hw) (a := a15) (argsL := []) (rest := [(.ref a15)]) (own_init hw H14) own_pd1 rfl rfl rfl (by decide) (W := 1) (Nat.le_of_eq rfl) (by decide) (by decide) (by decide) (by decide) ?_
    intro v18 h16 q17
    obtain ⟨rfl, sa19, da20, H21⟩ := q17
    replace H21 : own_H Z h16 (own_SD a15 (.ref da20) (.ref sa19) (.int (0 : Int32)) :: own_SD a6 (.ref da11) (.ref sa10) (.int (0 : Int32)) :: []) ((sa19, .double, "[D", [(.double (0 : UInt64)), (.double (0 : UInt64)), (.double (0 : UInt64)), (.double (0 : UInt64))]) :: (da20, .int, "[I", [(.int (0 : Int32)), (.int (0 : Int32)), (.int (0 : Int32)), (.int (0 : Int32))]) :: (sa10, .double, "[D", [(.double (0 : UInt64)), (.double (0 : UInt64)), (.double (0 : UInt64)), (.double (0 : UInt64))]) :: (da11, .int, "[I", [(.int (0 : Int32)), (.int (0 : Int32)), (.int (0 : Int32)), (.int (0 : Int32))]) :: []) := H21
    refine own_astore K own_d7_164 rfl (Ls' := #[.val (.int i0), .val (.int i1), .val (.int i2), .val (.int i3), .val (.int i4), .val (.int i5), .val (.int (1 : Int32)), .val (.int (0 : Int32)), .val (.int bb), .val (.int r0), .val (.int r1), .val (.int e0), .val (.int e1), .val (.int e2), .val (.double s0), .second, .val (.double s1), .second, .val (.double f0), .second, .val (.double f1), .second, .val (.double f2), .second, .val (.ref a6), .val (.ref a15), .unset]) rfl ?_
    refine own_iload K own_d7_166 rfl ?_
    refine own_ifle K own_d7_168 (fun q => absurd q (by decide)) (fun _ => ?_)
    refine own_aload K own_d7_171 rfl rfl ?_
    refine own_iload K own_d7_173 rfl ?_
    refine own_dload K own_d7_175 rfl ?_
    have H22 := H21.frontO 1 rfl
    replace H22 : own_H Z h16 (own_SD a6 (.ref da11) (.ref sa10) (.int (0 : Int32)) :: own_SD a15 (.ref da20) (.ref sa19) (.int (0 : Int32)) :: []) ((sa19, .double, "[D", [(.double (0 : UInt64)), (.double (0 : UInt64)), (.double (0 : UInt64)), (.double (0 : UInt64))]) :: (da20, .int, "[I", [(.int (0 : Int32)), (.int (0 : Int32)), (.int (0 : Int32)), (.int (0 : Int32))]) :: (sa10, .double, "[D", [(.double (0 : UInt64)), (.double (0 : UInt64)), (.double (0 : UInt64)), (.double (0 : UInt64))]) :: (da11, .int, "[I", [(.int (0 : Int32)), (.int (0 : Int32)), (.int (0 : Int32)), (.int (0 : Int32))]) :: []) := H22
    have H23 := H22.frontA 2 rfl
    replace H23 : own_H Z h16 (own_SD a6 (.ref da11) (.ref sa10) (.int (0 : Int32)) :: own_SD a15 (.ref da20) (.ref sa19) (.int (0 : Int32)) :: []) ((sa10, .double, "[D", [(.double (0 : UInt64)), (.double (0 : UInt64)), (.double (0 : UInt64)), (.double (0 : UInt64))]) :: (sa19, .double, "[D", [(.double (0 : UInt64)), (.double (0 : UInt64)), (.double (0 : UInt64)), (.double (0 : UInt64))]) :: (da20, .int, "[I", [(.int (0 : Int32)), (.int (0 : Int32)), (.int (0 : Int32)), (.int (0 : Int32))]) :: (da11, .int, "[I", [(.int (0 : Int32)), (.int (0 : Int32)), (.int (0 : Int32)), (.int (0 : Int32))]) :: []) := H23
    have H24 := H23.frontA 3 rfl
    replace H24 : own_H Z h16 (own_SD a6 (.ref da11) (.ref sa10) (.int (0 : Int32)) :: own_SD a15 (.ref da20) (.ref sa19) (.int (0 : Int32)) :: []) ((da11, .int, "[I", [(.int (0 : Int32)), (.int (0 : Int32)), (.int (0 : Int32)), (.int (0 : Int32))]) :: (sa10, .double, "[D", [(.double (0 : UInt64)), (.double (0 : UInt64)), (.double (0 : UInt64)), (.double (0 : UInt64))]) :: (sa19, .double, "[D", [(.double (0 : UInt64)), (.double (0 : UInt64)), (.double (0 : UInt64)), (.double (0 : UInt64))]) :: (da20, .int, "[I", [(.int (0 : Int32)), (.int (0 : Int32)), (.int (0 : Int32)), (.int (0 : Int32))]) :: []) := H24
    refine own_virtual K own_d7_177 (own_w32 hw) (own_w33 hw) (own_w35 hw) (own_w34 hw) (own_w7 hw) (own_w36 hw) (H24.atO (i := 0) rfl) (a := a6) (argsL := [(.int r0), (.double s0)]) (rest := []) (own_add0 hw H24) own_pd4 rfl rfl rfl (by decide) (W := 0) (Nat.le_of_eq rfl) (by decide) (by decide) (by decide) (by decide) ?_
    intro v27 h25 q26
    obtain ⟨rfl, H28⟩ := q26
    replace H28 : own_H Z h25 (own_SD a6 (.ref da11) (.ref sa10) (.int (1 : Int32)) :: own_SD a15 (.ref da20) (.ref sa19) (.int (0 : Int32)) :: []) ((da11, .int, "[I", [(.int r0), (.int (0 : Int32)), (.int (0 : Int32)), (.int (0 : Int32))]) :: (sa10, .double, "[D", [(.double s0), (.double (0 : UInt64)), (.double (0 : UInt64)), (.double (0 : UInt64))]) :: (sa19, .double, "[D", [(.double (0 : UInt64)), (.double (0 : UInt64)), (.double (0 : UInt64)), (.double (0 : UInt64))]) :: (da20, .int, "[I", [(.int (0 : Int32)), (.int (0 : Int32)), (.int (0 : Int32)), (.int (0 : Int32))]) :: []) := H28
    refine own_iload K own_d7_180 rfl ?_
    refine own_iconst K own_d7_182 (v := (1 : Int32)) rfl ?_
    refine own_icmple K own_d7_183 (fun _ => ?_) (fun q => absurd (by decide) q)
    refine own_iload K own_d7_195 rfl ?_
    refine own_ifle K own_d7_197 (fun _ => ?_) (fun q => absurd (by decide) q)
    refine own_iload K own_d7_209 rfl ?_
    refine own_iconst K own_d7_211 (v := (1 : Int32)) rfl ?_
    refine own_icmple K own_d7_212 (fun _ => ?_) (fun q => absurd (by decide) q)
    refine own_iload K own_d7_224 rfl ?_
    refine own_iconst K own_d7_226 (v := (2 : Int32)) rfl ?_
    refine own_icmple K own_d7_227 (fun _ => ?_) (fun q => absurd (by decide) q)
    refine own_aload K own_d7_239 rfl rfl ?_
    refine own_aload K own_d7_241 rfl rfl ?_
    have H29 := H28.frontO 1 rfl
    replace H29 : own_H Z h25 (own_SD a15 (.ref da20) (.ref sa19) (.int (0 : Int32)) :: own_SD a6 (.ref da11) (.ref sa10) (.int (1 : Int32)) :: []) ((da11, .int, "[I", [(.int r0), (.int (0 : Int32)), (.int (0 : Int32)), (.int (0 : Int32))]) :: (sa10, .double, "[D", [(.double s0), (.double (0 : UInt64)), (.double (0 : UInt64)), (.double (0 : UInt64))]) :: (sa19, .double, "[D", [(.double (0 : UInt64)), (.double (0 : UInt64)), (.double (0 : UInt64)), (.double (0 : UInt64))]) :: (da20, .int, "[I", [(.int (0 : Int32)), (.int (0 : Int32)), (.int (0 : Int32)), (.int (0 : Int32))]) :: []) := H29
    have H30 := H29.frontO 1 rfl
    replace H30 : own_H Z h25 (own_SD a6 (.ref da11) (.ref sa10) (.int (1 : Int32)) :: own_SD a15 (.ref da20) (.ref sa19) (.int (0 : Int32)) :: []) ((da11, .int, "[I", [(.int r0), (.int (0 : Int32)), (.int (0 : Int32)), (.int (0 : Int32))]) :: (sa10, .double, "[D", [(.double s0), (.double (0 : UInt64)), (.double (0 : UInt64)), (.double (0 : UInt64))]) :: (sa19, .double, "[D", [(.double (0 : UInt64)), (.double (0 : UInt64)), (.double (0 : UInt64)), (.double (0 : UInt64))]) :: (da20, .int, "[I", [(.int (0 : Int32)), (.int (0 : Int32)), (.int (0 : Int32)), (.int (0 : Int32))]) :: []) := H30
    have H31 := H30.frontA 2 rfl
    replace H31 : own_H Z h25 (own_SD a6 (.ref da11) (.ref sa10) (.int (1 : Int32)) :: own_SD a15 (.ref da20) (.ref sa19) (.int (0 : Int32)) :: []) ((sa19, .double, "[D", [(.double (0 : UInt64)), (.double (0 : UInt64)), (.double (0 : UInt64)), (.double (0 : UInt64))]) :: (da11, .int, "[I", [(.int r0), (.int (0 : Int32)), (.int (0 : Int32)), (.int (0 : Int32))]) :: (sa10, .double, "[D", [(.double s0), (.double (0 : UInt64)), (.double (0 : UInt64)), (.double (0 : UInt64))]) :: (da20, .int, "[I", [(.int (0 : Int32)), (.int (0 : Int32)), (.int (0 : Int32)), (.int (0 : Int32))]) :: []) := H31
    have H32 := H31.frontA 3 rfl
    replace H32 : own_H Z h25 (own_SD a6 (.ref da11) (.ref sa10) (.int (1 : Int32)) :: own_SD a15 (.ref da20) (.ref sa19) (.int (0 : Int32)) :: []) ((da20, .int, "[I", [(.int (0 : Int32)), (.int (0 : Int32)), (.int (0 : Int32)), (.int (0 : Int32))]) :: (sa19, .double, "[D", [(.double (0 : UInt64)), (.double (0 : UInt64)), (.double (0 : UInt64)), (.double (0 : UInt64))]) :: (da11, .int, "[I", [(.int r0), (.int (0 : Int32)), (.int (0 : Int32)), (.int (0 : Int32))]) :: (sa10, .double, "[D", [(.double s0), (.double (0 : UInt64)), (.double (0 : UInt64)), (.double (0 : UInt64))]) :: []) := H32
    have H33 := H32.frontA 3 rfl
    replace H33 : own_H Z h25 (own_SD a6 (.ref da11) (.ref sa10) (.int (1 : Int32)) :: own_SD a15 (.ref da20) (.ref sa19) (.int (0 : Int32)) :: []) ((sa10, .double, "[D", [(.double s0), (.double (0 : UInt64)), (.double (0 : UInt64)), (.double (0 : UInt64))]) :: (da20, .int, "[I", [(.int (0 : Int32)), (.int (0 : Int32)), (.int (0 : Int32)), (.int (0 : Int32))]) :: (sa19, .double, "[D", [(.double (0 : UInt64)), (.double (0 : UInt64)), (.double (0 : UInt64)), (.double (0 : UInt64))]) :: (da11, .int, "[I", [(.int r0), (.int (0 : Int32)), (.int (0 : Int32)), (.int (0 : Int32))]) :: []) := H33
    have H34 := H33.frontA 3 rfl
    replace H34 : own_H Z h25 (own_SD a6 (.ref da11) (.ref sa10) (.int (1 : Int32)) :: own_SD a15 (.ref da20) (.ref sa19) (.int (0 : Int32)) :: []) ((da11, .int, "[I", [(.int r0), (.int (0 : Int32)), (.int (0 : Int32)), (.int (0 : Int32))]) :: (sa10, .double, "[D", [(.double s0), (.double (0 : UInt64)), (.double (0 : UInt64)), (.double (0 : UInt64))]) :: (da20, .int, "[I", [(.int (0 : Int32)), (.int (0 : Int32)), (.int (0 : Int32)), (.int (0 : Int32))]) :: (sa19, .double, "[D", [(.double (0 : UInt64)), (.double (0 : UInt64)), (.double (0 : UInt64)), (.double (0 : UInt64))]) :: []) := H34
    refine own_virtual K own_d7_243 (own_w20 hw) (own_w21 hw) (own_w23 hw) (own_w22 hw) (own_w7 hw) (own_w24 hw) (H34.atO (i := 0) rfl) (a := a6) (argsL := [(.ref a15)]) (rest := []) (own_adds_1_0 hw H34 Fs0 ) own_pd2 rfl rfl rfl (by decide) (W := 0) (Nat.le_of_eq rfl) (by decide) (by decide) (by decide) (by decide) ?_
    intro v37 h35 q36
    obtain ⟨rfl, H38⟩ := q36
    replace H38 : own_H Z h35 (own_SD a6 (.ref da11) (.ref sa10) (.int (1 : Int32)) :: own_SD a15 (.ref da20) (.ref sa19) (.int (0 : Int32)) :: []) ((da11, .int, "[I", [(.int r0), (.int (0 : Int32)), (.int (0 : Int32)), (.int (0 : Int32))]) :: (sa10, .double, "[D", [(.double s0), (.double (0 : UInt64)), (.double (0 : UInt64)), (.double (0 : UInt64))]) :: (da20, .int, "[I", [(.int (0 : Int32)), (.int (0 : Int32)), (.int (0 : Int32)), (.int (0 : Int32))]) :: (sa19, .double, "[D", [(.double (0 : UInt64)), (.double (0 : UInt64)), (.double (0 : UInt64)), (.double (0 : UInt64))]) :: []) := H38
    refine own_aload K own_d7_246 rfl rfl ?_
    refine own_virtual K own_d7_248 (own_w27 hw) (own_w28 hw) (own_w30 hw) (own_w29 hw) (own_w7 hw) (own_w31 hw) (H38.atO (i := 0) rfl) (a := a6) (argsL := []) (rest := []) (own_size hw H38) own_pd3 rfl rfl rfl (by decide) (W := 0) (Nat.le_of_eq rfl) (by decide) (by decide) (by decide) (by decide) ?_
    intro v41 h39 q40
    obtain ⟨rfl, rfl⟩ := q40
    refine own_iload K own_d7_251 rfl ?_
    refine own_icmpeq K own_d7_253 (fun _ => ?_) (fun q => absurd (by decide) q)
    refine own_iconst K own_d7_258 (v := (1 : Int32)) rfl ?_
    refine own_istore K own_d7_259 (Ls' := #[.val (.int i0), .val (.int i1), .val (.int i2), .val (.int i3), .val (.int i4), .val (.int i5), .val (.int (1 : Int32)), .val (.int (0 : Int32)), .val (.int bb), .val (.int r0), .val (.int r1), .val (.int e0), .val (.int e1), .val (.int e2), .val (.double s0), .second, .val (.double s1), .second, .val (.double f0), .second, .val (.double f1), .second, .val (.double f2), .second, .val (.ref a6), .val (.ref a15), .val (.int (1 : Int32))]) rfl ?_
    refine own_iload K own_d7_261 rfl ?_
    refine own_ifle K own_d7_263 (fun q => absurd q (by decide)) (fun _ => ?_)
    refine own_iload K own_d7_266 rfl ?_
    refine own_ifeq K own_d7_268 (fun q => absurd q (by decide)) (fun _ => ?_)
    refine own_aload K own_d7_271 rfl rfl ?_
    refine own_iconst K own_d7_273 (v := (0 : Int32)) rfl ?_
    have H42 := H38.frontA 1 rfl
    replace H42 : own_H Z h35 (own_SD a6 (.ref da11) (.ref sa10) (.int (1 : Int32)) :: own_SD a15 (.ref da20) (.ref sa19) (.int (0 : Int32)) :: []) ((sa10, .double, "[D", [(.double s0), (.double (0 : UInt64)), (.double (0 : UInt64)), (.double (0 : UInt64))]) :: (da11, .int, "[I", [(.int r0), (.int (0 : Int32)), (.int (0 : Int32)), (.int (0 : Int32))]) :: (da20, .int, "[I", [(.int (0 : Int32)), (.int (0 : Int32)), (.int (0 : Int32)), (.int (0 : Int32))]) :: (sa19, .double, "[D", [(.double (0 : UInt64)), (.double (0 : UInt64)), (.double (0 : UInt64)), (.double (0 : UInt64))]) :: []) := H42
    refine own_virtual K own_d7_274 (own_w37 hw) (own_w38 hw) (own_w40 hw) (own_w39 hw) (own_w7 hw) (own_w41 hw) (H42.atO (i := 0) rfl) (a := a6) (argsL := [(.int (0 : Int32))]) (rest := []) (own_score hw H42 (q := 0) rfl rfl) own_pd5 rfl rfl rfl (by decide) (W := 0) (Nat.le_of_eq rfl) (by decide) (by decide) (by decide) (by decide) ?_
    intro v45 h43 q44
    obtain ⟨rfl, rfl⟩ := q44
    refine own_iload K own_d7_277 rfl ?_
    refine own_dload K own_d7_279 rfl ?_
    refine own_iload K own_d7_281 rfl ?_
    refine own_iload K own_d7_283 rfl ?_
    refine own_iload K own_d7_285 rfl ?_
    refine own_iload K own_d7_287 rfl ?_
    refine own_dload K own_d7_289 rfl ?_
    refine own_dload K own_d7_291 rfl ?_
    refine own_dload K own_d7_293 rfl ?_
    refine own_static K own_d7_295 (own_w42 hw) (own_w43 hw) (own_w44 hw) (own_w45 hw) (argsL := [(.int r0), (.double s0), (.int (0 : Int32)), (.int e0), (.int e1), (.int e2), (.double f0), (.double f1), (.double f2)]) (rest := [(.double s0)]) (own_exp0 hw Fs0 Ff0 Ff1 Ff2) own_pd6 rfl rfl rfl (by decide) (W := 2) (Nat.le_of_eq rfl) (by decide) (by decide) (by decide) (by decide) ?_
    intro v48 h46 q47
    obtain ⟨rfl, rfl⟩ := q47
    refine own_dcmp K own_d7_298 ?_
    refine own_ifne K own_d7_299 (fun q => absurd q (fun z => z (dcmpV_self (own_expnn 0 Fs0 Ff0 Ff1 Ff2 (e0 = r0) (e1 = r0) (e2 = r0)).1 _))) (fun _ => ?_)
    refine own_iconst K own_d7_302 (v := (1 : Int32)) rfl ?_
    refine own_goto K own_d7_303 ?_
    refine own_istore K own_d7_307 (Ls' := #[.val (.int i0), .val (.int i1), .val (.int i2), .val (.int i3), .val (.int i4), .val (.int i5), .val (.int (1 : Int32)), .val (.int (0 : Int32)), .val (.int bb), .val (.int r0), .val (.int r1), .val (.int e0), .val (.int e1), .val (.int e2), .val (.double s0), .second, .val (.double s1), .second, .val (.double f0), .second, .val (.double f1), .second, .val (.double f2), .second, .val (.ref a6), .val (.ref a15), .val (.int (1 : Int32))]) rfl ?_
    refine own_iload K own_d7_309 rfl ?_
    refine own_iconst K own_d7_311 (v := (1 : Int32)) rfl ?_
    refine own_icmple K own_d7_312 (fun _ => ?_) (fun q => absurd (by decide) q)
    refine own_iload K own_d7_358 rfl ?_
    exact own_retZ K (by first | exact Or.inl rfl | exact Or.inr rfl | decide) own_d7_360 (by decide) (by decide) (rfl)
  · refine own_iloadN K own_d7_0 rfl ?_
    refine own_iconst K own_d7_1 (v := (3 : Int32)) rfl ?_
    refine own_iand K own_d7_2 ?_
    refine own_iconst K own_d7_3 (v := (3 : Int32)) rfl ?_
    refine own_irem K own_d7_4 (by decide) ?_
    refine own_topI (x' := (1 : Int32)) (q) ?_
    refine own_istore K own_d7_5 (Ls' := #[.val (.int i0), .val (.int i1), .val (.int i2), .val (.int i3), .val (.int i4), .val (.int i5), .val (.int (1 : Int32)), .unset, .unset, .unset, .unset, .unset, .unset, .unset, .unset, .unset, .unset, .unset, .unset, .unset, .unset, .unset, .unset, .unset, .unset, .unset, .unset]) rfl ?_
    refine own_iloadN K own_d7_7 rfl ?_
    refine own_iconst K own_d7_8 (v := (2 : Int32)) rfl ?_
    refine own_iushr K own_d7_9 ?_
    refine own_iconst K own_d7_10 (v := (3 : Int32)) rfl ?_
    refine own_iand K own_d7_11 ?_
    refine own_topI (x' := (1 : Int32)) (q') ?_
    refine own_istore K own_d7_12 (Ls' := #[.val (.int i0), .val (.int i1), .val (.int i2), .val (.int i3), .val (.int i4), .val (.int i5), .val (.int (1 : Int32)), .val (.int (1 : Int32)), .unset, .unset, .unset, .unset, .unset, .unset, .unset, .unset, .unset, .unset, .unset, .unset, .unset, .unset, .unset, .unset, .unset, .unset, .unset]) rfl ?_
    refine own_iloadN K own_d7_14 rfl ?_
    refine own_ldcI K own_d7_15 (v := (2147483627 : Int32)) (own_w0 hw) ?_
    refine own_static K own_d7_17 (own_w1 hw) (own_w2 hw) (own_w3 hw) (own_w4 hw) (argsL := [(.int i3), (.int (2147483627 : Int32))]) (rest := []) (own_min hw) own_pd0 rfl rfl rfl (by decide) (W := 0) (Nat.le_of_eq rfl) (by decide) (by decide) (by decide) (by decide) ?_
    intro v3 h1 q2
    obtain ⟨⟨bb, rfl, hbb⟩, rfl⟩ := q2
    replace hbb : bb.toInt ≤ 2147483627 := hbb
    refine own_istore K own_d7_20 (Ls' := #[.val (.int i0), .val (.int i1), .val (.int i2), .val (.int i3), .val (.int i4), .val (.int i5), .val (.int (1 : Int32)), .val (.int (1 : Int32)), .val (.int bb), .unset, .unset, .unset, .unset, .unset, .unset, .unset, .unset, .unset, .unset, .unset, .unset, .unset, .unset, .unset, .unset, .unset, .unset]) rfl ?_
    refine own_iload K own_d7_22 rfl ?_
    refine own_iloadN K own_d7_24 rfl ?_
    refine own_iconst K own_d7_25 (v := (3 : Int32)) rfl ?_
    refine own_iand K own_d7_26 ?_
    refine own_iadd K own_d7_27 ?_
    obtain ⟨r0, e_r0⟩ : ∃ z : Int32, z = (bb + (i1 &&& (3 : Int32))) := ⟨_, rfl⟩
    have r0_0 : r0.toInt ≤ 2147483630 := by rw [e_r0]; exact own_a0 _ hbb (by decide)
    refine own_topI (x' := r0) (e_r0.symm) ?_
    refine own_istore K own_d7_28 (Ls' := #[.val (.int i0), .val (.int i1), .val (.int i2), .val (.int i3), .val (.int i4), .val (.int i5), .val (.int (1 : Int32)), .val (.int (1 : Int32)), .val (.int bb), .val (.int r0), .unset, .unset, .unset, .unset, .unset, .unset, .unset, .unset, .unset, .unset, .unset, .unset, .unset, .unset, .unset, .unset, .unset]) rfl ?_
    refine own_iload K own_d7_30 rfl ?_
    refine own_iconst K own_d7_32 (v := (1 : Int32)) rfl ?_
    refine own_iadd K own_d7_33 ?_
    refine own_iloadN K own_d7_34 rfl ?_
    refine own_iconst K own_d7_35 (v := (2 : Int32)) rfl ?_
    refine own_ishr K own_d7_36 ?_
    refine own_iconst K own_d7_37 (v := (3 : Int32)) rfl ?_
    refine own_iand K own_d7_38 ?_
    refine own_iadd K own_d7_39 ?_
    obtain ⟨r1, e_r1⟩ : ∃ z : Int32, z = ((r0 + (1 : Int32)) + ((i1 >>> ((2 : Int32) &&& 31)) &&& (3 : Int32))) := ⟨_, rfl⟩
    have r1_0 : r0.toInt < r1.toInt := by rw [e_r1]; exact (own_a1 _ r0_0 (by decide)).1
    refine own_topI (x' := r1) (e_r1.symm) ?_
    refine own_istore K own_d7_40 (Ls' := #[.val (.int i0), .val (.int i1), .val (.int i2), .val (.int i3), .val (.int i4), .val (.int i5), .val (.int (1 : Int32)), .val (.int (1 : Int32)), .val (.int bb), .val (.int r0), .val (.int r1), .unset, .unset, .unset, .unset, .unset, .unset, .unset, .unset, .unset, .unset, .unset, .unset, .unset, .unset, .unset, .unset]) rfl ?_
    refine own_iload K own_d7_42 rfl ?_
    refine own_iloadN K own_d7_44 rfl ?_
    refine own_iconst K own_d7_45 (v := (3 : Int32)) rfl ?_
    refine own_iand K own_d7_46 ?_
    refine own_iadd K own_d7_47 ?_
    obtain ⟨e0, e_e0⟩ : ∃ z : Int32, z = (bb + (i2 &&& (3 : Int32))) := ⟨_, rfl⟩
    have e0_0 : e0.toInt ≤ 2147483630 := by rw [e_e0]; exact own_a0 _ hbb (by decide)
    refine own_topI (x' := e0) (e_e0.symm) ?_
    refine own_istore K own_d7_48 (Ls' := #[.val (.int i0), .val (.int i1), .val (.int i2), .val (.int i3), .val (.int i4), .val (.int i5), .val (.int (1 : Int32)), .val (.int (1 : Int32)), .val (.int bb), .val (.int r0), .val (.int r1), .val (.int e0), .unset, .unset, .unset, .unset, .unset, .unset, .unset, .unset, .unset, .unset, .unset, .unset, .unset, .unset, .unset]) rfl ?_
    refine own_iload K own_d7_50 rfl ?_
    refine own_iconst K own_d7_52 (v := (1 : Int32)) rfl ?_
    refine own_iadd K own_d7_53 ?_
    refine own_iloadN K own_d7_54 rfl ?_
    refine own_iconst K own_d7_55 (v := (2 : Int32)) rfl ?_
    refine own_ishr K own_d7_56 ?_
    refine own_iconst K own_d7_57 (v := (3 : Int32)) rfl ?_
    refine own_iand K own_d7_58 ?_
    refine own_iadd K own_d7_59 ?_
    obtain ⟨e1, e_e1⟩ : ∃ z : Int32, z = ((e0 + (1 : Int32)) + ((i2 >>> ((2 : Int32) &&& 31)) &&& (3 : Int32))) := ⟨_, rfl⟩
    have e1_0 : e0.toInt < e1.toInt ∧ e1.toInt ≤ 2147483634 := by rw [e_e1]; exact own_a1 _ e0_0 (by decide)
    refine own_topI (x' := e1) (e_e1.symm) ?_
    refine own_istore K own_d7_60 (Ls' := #[.val (.int i0), .val (.int i1), .val (.int i2), .val (.int i3), .val (.int i4), .val (.int i5), .val (.int (1 : Int32)), .val (.int (1 : Int32)), .val (.int bb), .val (.int r0), .val (.int r1), .val (.int e0), .val (.int e1), .unset, .unset, .unset, .unset, .unset, .unset, .unset, .unset, .unset, .unset, .unset, .unset, .unset, .unset]) rfl ?_
    refine own_iload K own_d7_62 rfl ?_
    refine own_iconst K own_d7_64 (v := (1 : Int32)) rfl ?_
    refine own_iadd K own_d7_65 ?_
    refine own_iloadN K own_d7_66 rfl ?_
    refine own_iconst K own_d7_67 (v := (4 : Int32)) rfl ?_
    refine own_ishr K own_d7_68 ?_
    refine own_iconst K own_d7_69 (v := (3 : Int32)) rfl ?_
    refine own_iand K own_d7_70 ?_
    refine own_iadd K own_d7_71 ?_
    obtain ⟨e2, e_e2⟩ : ∃ z : Int32, z = ((e1 + (1 : Int32)) + ((i2 >>> ((4 : Int32) &&& 31)) &&& (3 : Int32))) := ⟨_, rfl⟩
    have e2_0 : e1.toInt < e2.toInt := by rw [e_e2]; exact (own_a1 _ e1_0.2 (by decide)).1
    refine own_topI (x' := e2) (e_e2.symm) ?_
    refine own_istore K own_d7_72 (Ls' := #[.val (.int i0), .val (.int i1), .val (.int i2), .val (.int i3), .val (.int i4), .val (.int i5), .val (.int (1 : Int32)), .val (.int (1 : Int32)), .val (.int bb), .val (.int r0), .val (.int r1), .val (.int e0), .val (.int e1), .val (.int e2), .unset, .unset, .unset, .unset, .unset, .unset, .unset, .unset, .unset, .unset, .unset, .unset, .unset]) rfl ?_
    refine own_iload K own_d7_74 rfl ?_
    refine own_sipush K own_d7_76 (v := (255 : Int32)) rfl ?_
    refine own_iand K own_d7_79 ?_
    refine own_sipush K own_d7_80 (v := (128 : Int32)) rfl ?_
    refine own_isub K own_d7_83 ?_
    refine own_i2d K own_d7_84 ?_
    obtain ⟨s0, e_s0, Fs0⟩ : ∃ z : UInt64, z = (FP.i2d ((i4 &&& (255 : Int32)) - (128 : Int32))) ∧ Fl.Fin64 z := ⟨_, rfl, Fl.i2d_fin _⟩
    refine own_topD (x' := s0) (e_s0.symm) ?_
    refine own_dstore K own_d7_85 (Ls' := #[.val (.int i0), .val (.int i1), .val (.int i2), .val (.int i3), .val (.int i4), .val (.int i5), .val (.int (1 : Int32)), .val (.int (1 : Int32)), .val (.int bb), .val (.int r0), .val (.int r1), .val (.int e0), .val (.int e1), .val (.int e2), .val (.double s0), .second, .unset, .unset, .unset, .unset, .unset, .unset, .unset, .unset, .unset, .unset, .unset]) rfl ?_
    refine own_iload K own_d7_87 rfl ?_
    refine own_bipush K own_d7_89 (v := (8 : Int32)) rfl ?_
    refine own_ishr K own_d7_91 ?_
    refine own_sipush K own_d7_92 (v := (255 : Int32)) rfl ?_
    refine own_iand K own_d7_95 ?_
    refine own_sipush K own_d7_96 (v := (128 : Int32)) rfl ?_
    refine own_isub K own_d7_99 ?_
    refine own_i2d K own_d7_100 ?_
    obtain ⟨s1, e_s1, Fs1⟩ : ∃ z : UInt64, z = (FP.i2d (((i4 >>> ((8 : Int32) &&& 31)) &&& (255 : Int32)) - (128 : Int32))) ∧ Fl.Fin64 z := ⟨_, rfl, Fl.i2d_fin _⟩
    refine own_topD (x' := s1) (e_s1.symm) ?_
    refine own_dstore K own_d7_101 (Ls' := #[.val (.int i0), .val (.int i1), .val (.int i2), .val (.int i3), .val (.int i4), .val (.int i5), .val (.int (1 : Int32)), .val (.int (1 : Int32)), .val (.int bb), .val (.int r0), .val (.int r1), .val (.int e0), .val (.int e1), .val (.int e2), .val (.double s0), .second, .val (.double s1), .second, .unset, .unset, .unset, .unset, .unset, .unset, .unset, .unset, .unset]) rfl ?_
    refine own_iload K own_d7_103 rfl ?_
    refine own_sipush K own_d7_105 (v := (255 : Int32)) rfl ?_
    refine own_iand K own_d7_108 ?_
    refine own_sipush K own_d7_109 (v := (128 : Int32)) rfl ?_
    refine own_isub K own_d7_112 ?_
    refine own_i2d K own_d7_113 ?_
    obtain ⟨f0, e_f0, Ff0⟩ : ∃ z : UInt64, z = (FP.i2d ((i5 &&& (255 : Int32)) - (128 : Int32))) ∧ Fl.Fin64 z := ⟨_, rfl, Fl.i2d_fin _⟩
    refine own_topD (x' := f0) (e_f0.symm) ?_
    refine own_dstore K own_d7_114 (Ls' := #[.val (.int i0), .val (.int i1), .val (.int i2), .val (.int i3), .val (.int i4), .val (.int i5), .val (.int (1 : Int32)), .val (.int (1 : Int32)), .val (.int bb), .val (.int r0), .val (.int r1), .val (.int e0), .val (.int e1), .val (.int e2), .val (.double s0), .second, .val (.double s1), .second, .val (.double f0), .second, .unset, .unset, .unset, .unset, .unset, .unset, .unset]) rfl ?_
    refine own_iload K own_d7_116 rfl ?_
    refine own_bipush K own_d7_118 (v := (8 : Int32)) rfl ?_
    refine own_ishr K own_d7_120 ?_
    refine own_sipush K own_d7_121 (v := (255 : Int32)) rfl ?_
    refine own_iand K own_d7_124 ?_
    refine own_sipush K own_d7_125 (v := (128 : Int32)) rfl ?_
    refine own_isub K own_d7_128 ?_
    refine own_i2d K own_d7_129 ?_
    obtain ⟨f1, e_f1, Ff1⟩ : ∃ z : UInt64, z = (FP.i2d (((i5 >>> ((8 : Int32) &&& 31)) &&& (255 : Int32)) - (128 : Int32))) ∧ Fl.Fin64 z := ⟨_, rfl, Fl.i2d_fin _⟩
    refine own_topD (x' := f1) (e_f1.symm) ?_
    refine own_dstore K own_d7_130 (Ls' := #[.val (.int i0), .val (.int i1), .val (.int i2), .val (.int i3), .val (.int i4), .val (.int i5), .val (.int (1 : Int32)), .val (.int (1 : Int32)), .val (.int bb), .val (.int r0), .val (.int r1), .val (.int e0), .val (.int e1), .val (.int e2), .val (.double s0), .second, .val (.double s1), .second, .val (.double f0), .second, .val (.double f1), .second, .unset, .unset, .unset, .unset, .unset]) rfl ?_
    refine own_iload K own_d7_132 rfl ?_
    refine own_bipush K own_d7_134 (v := (16 : Int32)) rfl ?_
    refine own_ishr K own_d7_136 ?_
    refine own_sipush K own_d7_137 (v := (255 : Int32)) rfl ?_
    refine own_iand K own_d7_140 ?_
    refine own_sipush K own_d7_141 (v := (128 : Int32)) rfl ?_
    refine own_isub K own_d7_144 ?_
    refine own_i2d K own_d7_145 ?_
    obtain ⟨f2, e_f2, Ff2⟩ : ∃ z : UInt64, z = (FP.i2d (((i5 >>> ((16 : Int32) &&& 31)) &&& (255 : Int32)) - (128 : Int32))) ∧ Fl.Fin64 z := ⟨_, rfl, Fl.i2d_fin _⟩
    refine own_topD (x' := f2) (e_f2.symm) ?_
    refine own_dstore K own_d7_146 (Ls' := #[.val (.int i0), .val (.int i1), .val (.int i2), .val (.int i3), .val (.int i4), .val (.int i5), .val (.int (1 : Int32)), .val (.int (1 : Int32)), .val (.int bb), .val (.int r0), .val (.int r1), .val (.int e0), .val (.int e1), .val (.int e2), .val (.double s0), .second, .val (.double s1), .second, .val (.double f0), .second, .val (.double f1), .second, .val (.double f2), .second, .unset, .unset, .unset]) rfl ?_
    refine own_new K own_d7_148 (own_w5 hw) (own_w6 hw) (own_w7 hw) H (own_SD_F hw) (own_SD_P hw) (by decide) (by decide) ?_
    intro h4 a6 H5
    replace H5 : own_H Z h4 (own_SD a6 .null .null (.int (0 : Int32)) :: []) ([]) := H5
    refine own_dup K own_d7_151 rfl ?_
    refine own_special K own_d7_152 rfl (own_w8 hw) (own_w9 hw) (own_w7 hw) (own_w10 hw) (a := a6) (argsL := []) (rest := [(.ref a6)]) (own_init hw H5) own_pd1 rfl rfl rfl (by decide) (W := 1) (Nat.le_of_eq rfl) (by decide) (by decide) (by decide) (by decide) ?_
    intro v9 h7 q8
    obtain ⟨rfl, sa10, da11, H12⟩ := q8
    replace H12 : own_H Z h7 (own_SD a6 (.ref da11) (.ref sa10) (.int (0 : Int32)) :: []) ((sa10, .double, "[D", [(.double (0 : UInt64)), (.double (0 : UInt64)), (.double (0 : UInt64)), (.double (0 : UInt64))]) :: (da11, .int, "[I", [(.int (0 : Int32)), (.int (0 : Int32)), (.int (0 : Int32)), (.int (0 : Int32))]) :: []) := H12
    refine own_astore K own_d7_155 rfl (Ls' := #[.val (.int i0), .val (.int i1), .val (.int i2), .val (.int i3), .val (.int i4), .val (.int i5), .val (.int (1 : Int32)), .val (.int (1 : Int32)), .val (.int bb), .val (.int r0), .val (.int r1), .val (.int e0), .val (.int e1), .val (.int e2), .val (.double s0), .second, .val (.double s1), .second, .val (.double f0), .second, .val (.double f1), .second, .val (.double f2), .second, .val (.ref a6), .unset, .unset]) rfl ?_
    refine own_new K own_d7_157 (own_w5 hw) (own_w6 hw) (own_w7 hw) H12 (own_SD_F hw) (own_SD_P hw) (by decide) (by decide) ?_
    intro h13 a15 H14
    replace H14 : own_H Z h13 (own_SD a15 .null .null (.int (0 : Int32)) :: own_SD a6 (.ref da11) (.ref sa10) (.int (0 : Int32)) :: []) ((sa10, .double, "[D", [(.double (0 : UInt64)), (.double (0 : UInt64)), (.double (0 : UInt64)), (.double (0 : UInt64))]) :: (da11, .int, "[I", [(.int (0 : Int32)), (.int (0 : Int32)), (.int (0 : Int32)), (.int (0 : Int32))]) :: []) := H14
    refine own_dup K own_d7_160 rfl ?_
    refine own_special K own_d7_161 rfl (own_w8 hw) (own_w9 hw) (own_w7 hw) (own_w10 hw) (a := a15) (argsL := []) (rest := [(.ref a15)]) (own_init hw H14) own_pd1 rfl rfl rfl (by decide) (W := 1) (Nat.le_of_eq rfl) (by decide) (by decide) (by decide) (by decide) ?_
    intro v18 h16 q17
    obtain ⟨rfl, sa19, da20, H21⟩ := q17
    replace H21 : own_H Z h16 (own_SD a15 (.ref da20) (.ref sa19) (.int (0 : Int32)) :: own_SD a6 (.ref da11) (.ref sa10) (.int (0 : Int32)) :: []) ((sa19, .double, "[D", [(.double (0 : UInt64)), (.double (0 : UInt64)), (.double (0 : UInt64)), (.double (0 : UInt64))]) :: (da20, .int, "[I", [(.int (0 : Int32)), (.int (0 : Int32)), (.int (0 : Int32)), (.int (0 : Int32))]) :: (sa10, .double, "[D", [(.double (0 : UInt64)), (.double (0 : UInt64)), (.double (0 : UInt64)), (.double (0 : UInt64))]) :: (da11, .int, "[I", [(.int (0 : Int32)), (.int (0 : Int32)), (.int (0 : Int32)), (.int (0 : Int32))]) :: []) := H21
    refine own_astore K own_d7_164 rfl (Ls' := #[.val (.int i0), .val (.int i1), .val (.int i2), .val (.int i3), .val (.int i4), .val (.int i5), .val (.int (1 : Int32)), .val (.int (1 : Int32)), .val (.int bb), .val (.int r0), .val (.int r1), .val (.int e0), .val (.int e1), .val (.int e2), .val (.double s0), .second, .val (.double s1), .second, .val (.double f0), .second, .val (.double f1), .second, .val (.double f2), .second, .val (.ref a6), .val (.ref a15), .unset]) rfl ?_
    refine own_iload K own_d7_166 rfl ?_
    refine own_ifle K own_d7_168 (fun q => absurd q (by decide)) (fun _ => ?_)
    refine own_aload K own_d7_171 rfl rfl ?_
    refine own_iload K own_d7_173 rfl ?_
    refine own_dload K own_d7_175 rfl ?_
    have H22 := H21.frontO 1 rfl
    replace H22 : own_H Z h16 (own_SD a6 (.ref da11) (.ref sa10) (.int (0 : Int32)) :: own_SD a15 (.ref da20) (.ref sa19) (.int (0 : Int32)) :: []) ((sa19, .double, "[D", [(.double (0 : UInt64)), (.double (0 : UInt64)), (.double (0 : UInt64)), (.double (0 : UInt64))]) :: (da20, .int, "[I", [(.int (0 : Int32)), (.int (0 : Int32)), (.int (0 : Int32)), (.int (0 : Int32))]) :: (sa10, .double, "[D", [(.double (0 : UInt64)), (.double (0 : UInt64)), (.double (0 : UInt64)), (.double (0 : UInt64))]) :: (da11, .int, "[I", [(.int (0 : Int32)), (.int (0 : Int32)), (.int (0 : Int32)), (.int (0 : Int32))]) :: []) := H22
    have H23 := H22.frontA 2 rfl
    replace H23 : own_H Z h16 (own_SD a6 (.ref da11) (.ref sa10) (.int (0 : Int32)) :: own_SD a15 (.ref da20) (.ref sa19) (.int (0 : Int32)) :: []) ((sa10, .double, "[D", [(.double (0 : UInt64)), (.double (0 : UInt64)), (.double (0 : UInt64)), (.double (0 : UInt64))]) :: (sa19, .double, "[D", [(.double (0 : UInt64)), (.double (0 : UInt64)), (.double (0 : UInt64)), (.double (0 : UInt64))]) :: (da20, .int, "[I", [(.int (0 : Int32)), (.int (0 : Int32)), (.int (0 : Int32)), (.int (0 : Int32))]) :: (da11, .int, "[I", [(.int (0 : Int32)), (.int (0 : Int32)), (.int (0 : Int32)), (.int (0 : Int32))]) :: []) := H23
    have H24 := H23.frontA 3 rfl
    replace H24 : own_H Z h16 (own_SD a6 (.ref da11) (.ref sa10) (.int (0 : Int32)) :: own_SD a15 (.ref da20) (.ref sa19) (.int (0 : Int32)) :: []) ((da11, .int, "[I", [(.int (0 : Int32)), (.int (0 : Int32)), (.int (0 : Int32)), (.int (0 : Int32))]) :: (sa10, .double, "[D", [(.double (0 : UInt64)), (.double (0 : UInt64)), (.double (0 : UInt64)), (.double (0 : UInt64))]) :: (sa19, .double, "[D", [(.double (0 : UInt64)), (.double (0 : UInt64)), (.double (0 : UInt64)), (.double (0 : UInt64))]) :: (da20, .int, "[I", [(.int (0 : Int32)), (.int (0 : Int32)), (.int (0 : Int32)), (.int (0 : Int32))]) :: []) := H24
    refine own_virtual K own_d7_177 (own_w32 hw) (own_w33 hw) (own_w35 hw) (own_w34 hw) (own_w7 hw) (own_w36 hw) (H24.atO (i := 0) rfl) (a := a6) (argsL := [(.int r0), (.double s0)]) (rest := []) (own_add0 hw H24) own_pd4 rfl rfl rfl (by decide) (W := 0) (Nat.le_of_eq rfl) (by decide) (by decide) (by decide) (by decide) ?_
    intro v27 h25 q26
    obtain ⟨rfl, H28⟩ := q26
    replace H28 : own_H Z h25 (own_SD a6 (.ref da11) (.ref sa10) (.int (1 : Int32)) :: own_SD a15 (.ref da20) (.ref sa19) (.int (0 : Int32)) :: []) ((da11, .int, "[I", [(.int r0), (.int (0 : Int32)), (.int (0 : Int32)), (.int (0 : Int32))]) :: (sa10, .double, "[D", [(.double s0), (.double (0 : UInt64)), (.double (0 : UInt64)), (.double (0 : UInt64))]) :: (sa19, .double, "[D", [(.double (0 : UInt64)), (.double (0 : UInt64)), (.double (0 : UInt64)), (.double (0 : UInt64))]) :: (da20, .int, "[I", [(.int (0 : Int32)), (.int (0 : Int32)), (.int (0 : Int32)), (.int (0 : Int32))]) :: []) := H28
    refine own_iload K own_d7_180 rfl ?_
    refine own_iconst K own_d7_182 (v := (1 : Int32)) rfl ?_
    refine own_icmple K own_d7_183 (fun _ => ?_) (fun q => absurd (by decide) q)
    refine own_iload K own_d7_195 rfl ?_
    refine own_ifle K own_d7_197 (fun q => absurd q (by decide)) (fun _ => ?_)
    refine own_aload K own_d7_200 rfl rfl ?_
    refine own_iload K own_d7_202 rfl ?_
    refine own_dload K own_d7_204 rfl ?_
    have H29 := H28.frontO 1 rfl
    replace H29 : own_H Z h25 (own_SD a15 (.ref da20) (.ref sa19) (.int (0 : Int32)) :: own_SD a6 (.ref da11) (.ref sa10) (.int (1 : Int32)) :: []) ((da11, .int, "[I", [(.int r0), (.int (0 : Int32)), (.int (0 : Int32)), (.int (0 : Int32))]) :: (sa10, .double, "[D", [(.double s0), (.double (0 : UInt64)), (.double (0 : UInt64)), (.double (0 : UInt64))]) :: (sa19, .double, "[D", [(.double (0 : UInt64)), (.double (0 : UInt64)), (.double (0 : UInt64)), (.double (0 : UInt64))]) :: (da20, .int, "[I", [(.int (0 : Int32)), (.int (0 : Int32)), (.int (0 : Int32)), (.int (0 : Int32))]) :: []) := H29
    have H30 := H29.frontA 2 rfl
    replace H30 : own_H Z h25 (own_SD a15 (.ref da20) (.ref sa19) (.int (0 : Int32)) :: own_SD a6 (.ref da11) (.ref sa10) (.int (1 : Int32)) :: []) ((sa19, .double, "[D", [(.double (0 : UInt64)), (.double (0 : UInt64)), (.double (0 : UInt64)), (.double (0 : UInt64))]) :: (da11, .int, "[I", [(.int r0), (.int (0 : Int32)), (.int (0 : Int32)), (.int (0 : Int32))]) :: (sa10, .double, "[D", [(.double s0), (.double (0 : UInt64)), (.double (0 : UInt64)), (.double (0 : UInt64))]) :: (da20, .int, "[I", [(.int (0 : Int32)), (.int (0 : Int32)), (.int (0 : Int32)), (.int (0 : Int32))]) :: []) := H30
    have H31 := H30.frontA 3 rfl
    replace H31 : own_H Z h25 (own_SD a15 (.ref da20) (.ref sa19) (.int (0 : Int32)) :: own_SD a6 (.ref da11) (.ref sa10) (.int (1 : Int32)) :: []) ((da20, .int, "[I", [(.int (0 : Int32)), (.int (0 : Int32)), (.int (0 : Int32)), (.int (0 : Int32))]) :: (sa19, .double, "[D", [(.double (0 : UInt64)), (.double (0 : UInt64)), (.double (0 : UInt64)), (.double (0 : UInt64))]) :: (da11, .int, "[I", [(.int r0), (.int (0 : Int32)), (.int (0 : Int32)), (.int (0 : Int32))]) :: (sa10, .double, "[D", [(.double s0), (.double (0 : UInt64)), (.double (0 : UInt64)), (.double (0 : UInt64))]) :: []) := H31
    refine own_virtual K own_d7_206 (own_w32 hw) (own_w33 hw) (own_w35 hw) (own_w34 hw) (own_w7 hw) (own_w36 hw) (H31.atO (i := 0) rfl) (a := a15) (argsL := [(.int e0), (.double f0)]) (rest := []) (own_add0 hw H31) own_pd4 rfl rfl rfl (by decide) (W := 0) (Nat.le_of_eq rfl) (by decide) (by decide) (by decide) (by decide) ?_
    intro v34 h32 q33
    obtain ⟨rfl, H35⟩ := q33
    replace H35 : own_H Z h32 (own_SD a15 (.ref da20) (.ref sa19) (.int (1 : Int32)) :: own_SD a6 (.ref da11) (.ref sa10) (.int (1 : Int32)) :: []) ((da20, .int, "[I", [(.int e0), (.int (0 : Int32)), (.int (0 : Int32)), (.int (0 : Int32))]) :: (sa19, .double, "[D", [(.double f0), (.double (0 : UInt64)), (.double (0 : UInt64)), (.double (0 : UInt64))]) :: (da11, .int, "[I", [(.int r0), (.int (0 : Int32)), (.int (0 : Int32)), (.int (0 : Int32))]) :: (sa10, .double, "[D", [(.double s0), (.double (0 : UInt64)), (.double (0 : UInt64)), (.double (0 : UInt64))]) :: []) := H35
    refine own_iload K own_d7_209 rfl ?_
    refine own_iconst K own_d7_211 (v := (1 : Int32)) rfl ?_
    refine own_icmple K own_d7_212 (fun _ => ?_) (fun q => absurd (by decide) q)
    refine own_iload K own_d7_224 rfl ?_
    refine own_iconst K own_d7_226 (v := (2 : Int32)) rfl ?_
    refine own_icmple K own_d7_227 (fun _ => ?_) (fun q => absurd (by decide) q)
    refine own_aload K own_d7_239 rfl rfl ?_
    refine own_aload K own_d7_241 rfl rfl ?_
    have H36 := H35.frontO 1 rfl
    replace H36 : own_H Z h32 (own_SD a6 (.ref da11) (.ref sa10) (.int (1 : Int32)) :: own_SD a15 (.ref da20) (.ref sa19) (.int (1 : Int32)) :: []) ((da20, .int, "[I", [(.int e0), (.int (0 : Int32)), (.int (0 : Int32)), (.int (0 : Int32))]) :: (sa19, .double, "[D", [(.double f0), (.double (0 : UInt64)), (.double (0 : UInt64)), (.double (0 : UInt64))]) :: (da11, .int, "[I", [(.int r0), (.int (0 : Int32)), (.int (0 : Int32)), (.int (0 : Int32))]) :: (sa10, .double, "[D", [(.double s0), (.double (0 : UInt64)), (.double (0 : UInt64)), (.double (0 : UInt64))]) :: []) := H36
    have H37 := H36.frontA 1 rfl
    replace H37 : own_H Z h32 (own_SD a6 (.ref da11) (.ref sa10) (.int (1 : Int32)) :: own_SD a15 (.ref da20) (.ref sa19) (.int (1 : Int32)) :: []) ((sa19, .double, "[D", [(.double f0), (.double (0 : UInt64)), (.double (0 : UInt64)), (.double (0 : UInt64))]) :: (da20, .int, "[I", [(.int e0), (.int (0 : Int32)), (.int (0 : Int32)), (.int (0 : Int32))]) :: (da11, .int, "[I", [(.int r0), (.int (0 : Int32)), (.int (0 : Int32)), (.int (0 : Int32))]) :: (sa10, .double, "[D", [(.double s0), (.double (0 : UInt64)), (.double (0 : UInt64)), (.double (0 : UInt64))]) :: []) := H37
    have H38 := H37.frontA 1 rfl
    replace H38 : own_H Z h32 (own_SD a6 (.ref da11) (.ref sa10) (.int (1 : Int32)) :: own_SD a15 (.ref da20) (.ref sa19) (.int (1 : Int32)) :: []) ((da20, .int, "[I", [(.int e0), (.int (0 : Int32)), (.int (0 : Int32)), (.int (0 : Int32))]) :: (sa19, .double, "[D", [(.double f0), (.double (0 : UInt64)), (.double (0 : UInt64)), (.double (0 : UInt64))]) :: (da11, .int, "[I", [(.int r0), (.int (0 : Int32)), (.int (0 : Int32)), (.int (0 : Int32))]) :: (sa10, .double, "[D", [(.double s0), (.double (0 : UInt64)), (.double (0 : UInt64)), (.double (0 : UInt64))]) :: []) := H38
    have H39 := H38.frontA 3 rfl
    replace H39 : own_H Z h32 (own_SD a6 (.ref da11) (.ref sa10) (.int (1 : Int32)) :: own_SD a15 (.ref da20) (.ref sa19) (.int (1 : Int32)) :: []) ((sa10, .double, "[D", [(.double s0), (.double (0 : UInt64)), (.double (0 : UInt64)), (.double (0 : UInt64))]) :: (da20, .int, "[I", [(.int e0), (.int (0 : Int32)), (.int (0 : Int32)), (.int (0 : Int32))]) :: (sa19, .double, "[D", [(.double f0), (.double (0 : UInt64)), (.double (0 : UInt64)), (.double (0 : UInt64))]) :: (da11, .int, "[I", [(.int r0), (.int (0 : Int32)), (.int (0 : Int32)), (.int (0 : Int32))]) :: []) := H39
    have H40 := H39.frontA 3 rfl
    replace H40 : own_H Z h32 (own_SD a6 (.ref da11) (.ref sa10) (.int (1 : Int32)) :: own_SD a15 (.ref da20) (.ref sa19) (.int (1 : Int32)) :: []) ((da11, .int, "[I", [(.int r0), (.int (0 : Int32)), (.int (0 : Int32)), (.int (0 : Int32))]) :: (sa10, .double, "[D", [(.double s0), (.double (0 : UInt64)), (.double (0 : UInt64)), (.double (0 : UInt64))]) :: (da20, .int, "[I", [(.int e0), (.int (0 : Int32)), (.int (0 : Int32)), (.int (0 : Int32))]) :: (sa19, .double, "[D", [(.double f0), (.double (0 : UInt64)), (.double (0 : UInt64)), (.double (0 : UInt64))]) :: []) := H40
    refine own_virtual K own_d7_243 (own_w20 hw) (own_w21 hw) (own_w23 hw) (own_w22 hw) (own_w7 hw) (own_w24 hw) (H40.atO (i := 0) rfl) (a := a6) (argsL := [(.ref a15)]) (rest := []) (own_adds_1_1 hw H40 Fs0 Ff0) own_pd2 rfl rfl rfl (by decide) (W := 0) (Nat.le_of_eq rfl) (by decide) (by decide) (by decide) (by decide) ?_
    intro v43 h41 q42
    obtain ⟨rfl, H44⟩ := q42
    replace H44 : own_H Z h41 (own_SD a6 (.ref da11) (.ref sa10) (.int (1 : Int32)) :: own_SD a15 (.ref da20) (.ref sa19) (.int (1 : Int32)) :: []) ((da11, .int, "[I", [(.int r0), (.int (0 : Int32)), (.int (0 : Int32)), (.int (0 : Int32))]) :: (sa10, .double, "[D", [(.double (if e0 = r0 then FP.dadd s0 f0 else s0)), (.double (0 : UInt64)), (.double (0 : UInt64)), (.double (0 : UInt64))]) :: (da20, .int, "[I", [(.int e0), (.int (0 : Int32)), (.int (0 : Int32)), (.int (0 : Int32))]) :: (sa19, .double, "[D", [(.double f0), (.double (0 : UInt64)), (.double (0 : UInt64)), (.double (0 : UInt64))]) :: []) := H44
    refine own_aload K own_d7_246 rfl rfl ?_
    refine own_virtual K own_d7_248 (own_w27 hw) (own_w28 hw) (own_w30 hw) (own_w29 hw) (own_w7 hw) (own_w31 hw) (H44.atO (i := 0) rfl) (a := a6) (argsL := []) (rest := []) (own_size hw H44) own_pd3 rfl rfl rfl (by decide) (W := 0) (Nat.le_of_eq rfl) (by decide) (by decide) (by decide) (by decide) ?_
    intro v47 h45 q46
    obtain ⟨rfl, rfl⟩ := q46
    refine own_iload K own_d7_251 rfl ?_
    refine own_icmpeq K own_d7_253 (fun _ => ?_) (fun q => absurd (by decide) q)
    refine own_iconst K own_d7_258 (v := (1 : Int32)) rfl ?_
    refine own_istore K own_d7_259 (Ls' := #[.val (.int i0), .val (.int i1), .val (.int i2), .val (.int i3), .val (.int i4), .val (.int i5), .val (.int (1 : Int32)), .val (.int (1 : Int32)), .val (.int bb), .val (.int r0), .val (.int r1), .val (.int e0), .val (.int e1), .val (.int e2), .val (.double s0), .second, .val (.double s1), .second, .val (.double f0), .second, .val (.double f1), .second, .val (.double f2), .second, .val (.ref a6), .val (.ref a15), .val (.int (1 : Int32))]) rfl ?_
    refine own_iload K own_d7_261 rfl ?_
    refine own_ifle K own_d7_263 (fun q => absurd q (by decide)) (fun _ => ?_)
    refine own_iload K own_d7_266 rfl ?_
    refine own_ifeq K own_d7_268 (fun q => absurd q (by decide)) (fun _ => ?_)
    refine own_aload K own_d7_271 rfl rfl ?_
    refine own_iconst K own_d7_273 (v := (0 : Int32)) rfl ?_
    have H48 := H44.frontA 1 rfl
    replace H48 : own_H Z h41 (own_SD a6 (.ref da11) (.ref sa10) (.int (1 : Int32)) :: own_SD a15 (.ref da20) (.ref sa19) (.int (1 : Int32)) :: []) ((sa10, .double, "[D", [(.double (if e0 = r0 then FP.dadd s0 f0 else s0)), (.double (0 : UInt64)), (.double (0 : UInt64)), (.double (0 : UInt64))]) :: (da11, .int, "[I", [(.int r0), (.int (0 : Int32)), (.int (0 : Int32)), (.int (0 : Int32))]) :: (da20, .int, "[I", [(.int e0), (.int (0 : Int32)), (.int (0 : Int32)), (.int (0 : Int32))]) :: (sa19, .double, "[D", [(.double f0), (.double (0 : UInt64)), (.double (0 : UInt64)), (.double (0 : UInt64))]) :: []) := H48
    refine own_virtual K own_d7_274 (own_w37 hw) (own_w38 hw) (own_w40 hw) (own_w39 hw) (own_w7 hw) (own_w41 hw) (H48.atO (i := 0) rfl) (a := a6) (argsL := [(.int (0 : Int32))]) (rest := []) (own_score hw H48 (q := 0) rfl rfl) own_pd5 rfl rfl rfl (by decide) (W := 0) (Nat.le_of_eq rfl) (by decide) (by decide) (by decide) (by decide) ?_
    intro v51 h49 q50
    obtain ⟨rfl, rfl⟩ := q50
    refine own_iload K own_d7_277 rfl ?_
    refine own_dload K own_d7_279 rfl ?_
    refine own_iload K own_d7_281 rfl ?_
    refine own_iload K own_d7_283 rfl ?_
    refine own_iload K own_d7_285 rfl ?_
    refine own_iload K own_d7_287 rfl ?_
    refine own_dload K own_d7_289 rfl ?_
    refine own_dload K own_d7_291 rfl ?_
    refine own_dload K own_d7_293 rfl ?_
    refine own_static K own_d7_295 (own_w42 hw) (own_w43 hw) (own_w44 hw) (own_w45 hw) (argsL := [(.int r0), (.double s0), (.int (1 : Int32)), (.int e0), (.int e1), (.int e2), (.double f0), (.double f1), (.double f2)]) (rest := [(.double (if e0 = r0 then FP.dadd s0 f0 else s0))]) (own_exp1 hw Fs0 Ff0 Ff1 Ff2) own_pd6 rfl rfl rfl (by decide) (W := 2) (Nat.le_of_eq rfl) (by decide) (by decide) (by decide) (by decide) ?_
    intro v54 h52 q53
    obtain ⟨rfl, rfl⟩ := q53
    refine own_dcmp K own_d7_298 ?_
    refine own_ifne K own_d7_299 (fun q => absurd q (fun z => z (dcmpV_self (own_expnn 0 Fs0 Ff0 Ff1 Ff2 (e0 = r0) (e1 = r0) (e2 = r0)).2.1 _))) (fun _ => ?_)
    refine own_iconst K own_d7_302 (v := (1 : Int32)) rfl ?_
    refine own_goto K own_d7_303 ?_
    refine own_istore K own_d7_307 (Ls' := #[.val (.int i0), .val (.int i1), .val (.int i2), .val (.int i3), .val (.int i4), .val (.int i5), .val (.int (1 : Int32)), .val (.int (1 : Int32)), .val (.int bb), .val (.int r0), .val (.int r1), .val (.int e0), .val (.int e1), .val (.int e2), .val (.double s0), .second, .val (.double s1), .second, .val (.double f0), .second, .val (.double f1), .second, .val (.double f2), .second, .val (.ref a6), .val (.ref a15), .val (.int (1 : Int32))]) rfl ?_
    refine own_iload K own_d7_309 rfl ?_
    refine own_iconst K own_d7_311 (v := (1 : Int32)) rfl ?_
    refine own_icmple K own_d7_312 (fun _ => ?_) (fun q => absurd (by decide) q)
    refine own_iload K own_d7_358 rfl ?_
    exact own_retZ K (by first | exact Or.inl rfl | exact Or.inr rfl | decide) own_d7_360 (by decide) (by decide) (rfl)
  · refine own_iloadN K own_d7_0 rfl ?_
    refine own_iconst K own_d7_1 (v := (3 : Int32)) rfl ?_
    refine own_iand K own_d7_2 ?_
    refine own_iconst K own_d7_3 (v := (3 : Int32)) rfl ?_
    refine own_irem K own_d7_4 (by decide) ?_
    refine own_topI (x' := (1 : Int32)) (q) ?_
    refine own_istore K own_d7_5 (Ls' := #[.val (.int i0), .val (.int i1), .val (.int i2), .val (.int i3), .val (.int i4), .val (.int i5), .val (.int (1 : Int32)), .unset, .unset, .unset, .unset, .unset, .unset, .unset, .unset, .unset, .unset, .unset, .unset, .unset, .unset, .unset, .unset, .unset, .unset, .unset, .unset]) rfl ?_
    refine own_iloadN K own_d7_7 rfl ?_
    refine own_iconst K own_d7_8 (v := (2 : Int32)) rfl ?_
    refine own_iushr K own_d7_9 ?_
    refine own_iconst K own_d7_10 (v := (3 : Int32)) rfl ?_
    refine own_iand K own_d7_11 ?_
    refine own_topI (x' := (2 : Int32)) (q') ?_
    refine own_istore K own_d7_12 (Ls' := #[.val (.int i0), .val (.int i1), .val (.int i2), .val (.int i3), .val (.int i4), .val (.int i5), .val (.int (1 : Int32)), .val (.int (2 : Int32)), .unset, .unset, .unset, .unset, .unset, .unset, .unset, .unset, .unset, .unset, .unset, .unset, .unset, .unset, .unset, .unset, .unset, .unset, .unset]) rfl ?_
    refine own_iloadN K own_d7_14 rfl ?_
    refine own_ldcI K own_d7_15 (v := (2147483627 : Int32)) (own_w0 hw) ?_
    refine own_static K own_d7_17 (own_w1 hw) (own_w2 hw) (own_w3 hw) (own_w4 hw) (argsL := [(.int i3), (.int (2147483627 : Int32))]) (rest := []) (own_min hw) own_pd0 rfl rfl rfl (by decide) (W := 0) (Nat.le_of_eq rfl) (by decide) (by decide) (by decide) (by decide) ?_
    intro v3 h1 q2
    obtain ⟨⟨bb, rfl, hbb⟩, rfl⟩ := q2
    replace hbb : bb.toInt ≤ 2147483627 := hbb
    refine own_istore K own_d7_20 (Ls' := #[.val (.int i0), .val (.int i1), .val (.int i2), .val (.int i3), .val (.int i4), .val (.int i5), .val (.int (1 : Int32)), .val (.int (2 : Int32)), .val (.int bb), .unset, .unset, .unset, .unset, .unset, .unset, .unset, .unset, .unset, .unset, .unset, .unset, .unset, .unset, .unset, .unset, .unset, .unset]) rfl ?_
    refine own_iload K own_d7_22 rfl ?_
    refine own_iloadN K own_d7_24 rfl ?_
    refine own_iconst K own_d7_25 (v := (3 : Int32)) rfl ?_
    refine own_iand K own_d7_26 ?_
    refine own_iadd K own_d7_27 ?_
    obtain ⟨r0, e_r0⟩ : ∃ z : Int32, z = (bb + (i1 &&& (3 : Int32))) := ⟨_, rfl⟩
    have r0_0 : r0.toInt ≤ 2147483630 := by rw [e_r0]; exact own_a0 _ hbb (by decide)
    refine own_topI (x' := r0) (e_r0.symm) ?_
    refine own_istore K own_d7_28 (Ls' := #[.val (.int i0), .val (.int i1), .val (.int i2), .val (.int i3), .val (.int i4), .val (.int i5), .val (.int (1 : Int32)), .val (.int (2 : Int32)), .val (.int bb), .val (.int r0), .unset, .unset, .unset, .unset, .unset, .unset, .unset, .unset, .unset, .unset, .unset, .unset, .unset, .unset, .unset, .unset, .unset]) rfl ?_
    refine own_iload K own_d7_30 rfl ?_
    refine own_iconst K own_d7_32 (v := (1 : Int32)) rfl ?_
    refine own_iadd K own_d7_33 ?_
    refine own_iloadN K own_d7_34 rfl ?_
    refine own_iconst K own_d7_35 (v := (2 : Int32)) rfl ?_
    refine own_ishr K own_d7_36 ?_
    refine own_iconst K own_d7_37 (v := (3 : Int32)) rfl ?_
    refine own_iand K own_d7_38 ?_
    refine own_iadd K own_d7_39 ?_
    obtain ⟨r1, e_r1⟩ : ∃ z : Int32, z = ((r0 + (1 : Int32)) + ((i1 >>> ((2 : Int32) &&& 31)) &&& (3 : Int32))) := ⟨_, rfl⟩
    have r1_0 : r0.toInt < r1.toInt := by rw [e_r1]; exact (own_a1 _ r0_0 (by decide)).1
    refine own_topI (x' := r1) (e_r1.symm) ?_
    refine own_istore K own_d7_40 (Ls' := #[.val (.int i0), .val (.int i1), .val (.int i2), .val (.int i3), .val (.int i4), .val (.int i5), .val (.int (1 : Int32)), .val (.int (2 : Int32)), .val (.int bb), .val (.int r0), .val (.int r1), .unset, .unset, .unset, .unset, .unset, .unset, .unset, .unset, .unset, .unset, .unset, .unset, .unset, .unset, .unset, .unset]) rfl ?_
    refine own_iload K own_d7_42 rfl ?_
    refine own_iloadN K own_d7_44 rfl ?_
    refine own_iconst K own_d7_45 (v := (3 : Int32)) rfl ?_
    refine own_iand K own_d7_46 ?_
    refine own_iadd K own_d7_47 ?_
    obtain ⟨e0, e_e0⟩ : ∃ z : Int32, z = (bb + (i2 &&& (3 : Int32))) := ⟨_, rfl⟩
    have e0_0 : e0.toInt ≤ 2147483630 := by rw [e_e0]; exact own_a0 _ hbb (by decide)
    refine own_topI (x' := e0) (e_e0.symm) ?_
    refine own_istore K own_d7_48 (Ls' := #[.val (.int i0), .val (.int i1), .val (.int i2), .val (.int i3), .val (.int i4), .val (.int i5), .val (.int (1 : Int32)), .val (.int (2 : Int32)), .val (.int bb), .val (.int r0), .val (.int r1), .val (.int e0), .unset, .unset, .unset, .unset, .unset, .unset, .unset, .unset, .unset, .unset, .unset, .unset, .unset, .unset, .unset]) rfl ?_
    refine own_iload K own_d7_50 rfl ?_
    refine own_iconst K own_d7_52 (v := (1 : Int32)) rfl ?_
    refine own_iadd K own_d7_53 ?_
    refine own_iloadN K own_d7_54 rfl ?_
    refine own_iconst K own_d7_55 (v := (2 : Int32)) rfl ?_
    refine own_ishr K own_d7_56 ?_
    refine own_iconst K own_d7_57 (v := (3 : Int32)) rfl ?_
    refine own_iand K own_d7_58 ?_
    refine own_iadd K own_d7_59 ?_
    obtain ⟨e1, e_e1⟩ : ∃ z : Int32, z = ((e0 + (1 : Int32)) + ((i2 >>> ((2 : Int32) &&& 31)) &&& (3 : Int32))) := ⟨_, rfl⟩
    have e1_0 : e0.toInt < e1.toInt ∧ e1.toInt ≤ 2147483634 := by rw [e_e1]; exact own_a1 _ e0_0 (by decide)
    refine own_topI (x' := e1) (e_e1.symm) ?_
    refine own_istore K own_d7_60 (Ls' := #[.val (.int i0), .val (.int i1), .val (.int i2), .val (.int i3), .val (.int i4), .val (.int i5), .val (.int (1 : Int32)), .val (.int (2 : Int32)), .val (.int bb), .val (.int r0), .val (.int r1), .val (.int e0), .val (.int e1), .unset, .unset, .unset, .unset, .unset, .unset, .unset, .unset, .unset, .unset, .unset, .unset, .unset, .unset]) rfl ?_
    refine own_iload K own_d7_62 rfl ?_
    refine own_iconst K own_d7_64 (v := (1 : Int32)) rfl ?_
    refine own_iadd K own_d7_65 ?_
    refine own_iloadN K own_d7_66 rfl ?_
    refine own_iconst K own_d7_67 (v := (4 : Int32)) rfl ?_
    refine own_ishr K own_d7_68 ?_
    refine own_iconst K own_d7_69 (v := (3 : Int32)) rfl ?_
    refine own_iand K own_d7_70 ?_
    refine own_iadd K own_d7_71 ?_
    obtain ⟨e2, e_e2⟩ : ∃ z : Int32, z = ((e1 + (1 : Int32)) + ((i2 >>> ((4 : Int32) &&& 31)) &&& (3 : Int32))) := ⟨_, rfl⟩
    have e2_0 : e1.toInt < e2.toInt := by rw [e_e2]; exact (own_a1 _ e1_0.2 (by decide)).1
    refine own_topI (x' := e2) (e_e2.symm) ?_
    refine own_istore K own_d7_72 (Ls' := #[.val (.int i0), .val (.int i1), .val (.int i2), .val (.int i3), .val (.int i4), .val (.int i5), .val (.int (1 : Int32)), .val (.int (2 : Int32)), .val (.int bb), .val (.int r0), .val (.int r1), .val (.int e0), .val (.int e1), .val (.int e2), .unset, .unset, .unset, .unset, .unset, .unset, .unset, .unset, .unset, .unset, .unset, .unset, .unset]) rfl ?_
    refine own_iload K own_d7_74 rfl ?_
    refine own_sipush K own_d7_76 (v := (255 : Int32)) rfl ?_
    refine own_iand K own_d7_79 ?_
    refine own_sipush K own_d7_80 (v := (128 : Int32)) rfl ?_
    refine own_isub K own_d7_83 ?_
    refine own_i2d K own_d7_84 ?_
    obtain ⟨s0, e_s0, Fs0⟩ : ∃ z : UInt64, z = (FP.i2d ((i4 &&& (255 : Int32)) - (128 : Int32))) ∧ Fl.Fin64 z := ⟨_, rfl, Fl.i2d_fin _⟩
    refine own_topD (x' := s0) (e_s0.symm) ?_
    refine own_dstore K own_d7_85 (Ls' := #[.val (.int i0), .val (.int i1), .val (.int i2), .val (.int i3), .val (.int i4), .val (.int i5), .val (.int (1 : Int32)), .val (.int (2 : Int32)), .val (.int bb), .val (.int r0), .val (.int r1), .val (.int e0), .val (.int e1), .val (.int e2), .val (.double s0), .second, .unset, .unset, .unset, .unset, .unset, .unset, .unset, .unset, .unset, .unset, .unset]) rfl ?_
    refine own_iload K own_d7_87 rfl ?_
    refine own_bipush K own_d7_89 (v := (8 : Int32)) rfl ?_
    refine own_ishr K own_d7_91 ?_
    refine own_sipush K own_d7_92 (v := (255 : Int32)) rfl ?_
    refine own_iand K own_d7_95 ?_
    refine own_sipush K own_d7_96 (v := (128 : Int32)) rfl ?_
    refine own_isub K own_d7_99 ?_
    refine own_i2d K own_d7_100 ?_
    obtain ⟨s1, e_s1, Fs1⟩ : ∃ z : UInt64, z = (FP.i2d (((i4 >>> ((8 : Int32) &&& 31)) &&& (255 : Int32)) - (128 : Int32))) ∧ Fl.Fin64 z := ⟨_, rfl, Fl.i2d_fin _⟩
    refine own_topD (x' := s1) (e_s1.symm) ?_
    refine own_dstore K own_d7_101 (Ls' := #[.val (.int i0), .val (.int i1), .val (.int i2), .val (.int i3), .val (.int i4), .val (.int i5), .val (.int (1 : Int32)), .val (.int (2 : Int32)), .val (.int bb), .val (.int r0), .val (.int r1), .val (.int e0), .val (.int e1), .val (.int e2), .val (.double s0), .second, .val (.double s1), .second, .unset, .unset, .unset, .unset, .unset, .unset, .unset, .unset, .unset]) rfl ?_
    refine own_iload K own_d7_103 rfl ?_
    refine own_sipush K own_d7_105 (v := (255 : Int32)) rfl ?_
    refine own_iand K own_d7_108 ?_
    refine own_sipush K own_d7_109 (v := (128 : Int32)) rfl ?_
    refine own_isub K own_d7_112 ?_
    refine own_i2d K own_d7_113 ?_
    obtain ⟨f0, e_f0, Ff0⟩ : ∃ z : UInt64, z = (FP.i2d ((i5 &&& (255 : Int32)) - (128 : Int32))) ∧ Fl.Fin64 z := ⟨_, rfl, Fl.i2d_fin _⟩
    refine own_topD (x' := f0) (e_f0.symm) ?_
    refine own_dstore K own_d7_114 (Ls' := #[.val (.int i0), .val (.int i1), .val (.int i2), .val (.int i3), .val (.int i4), .val (.int i5), .val (.int (1 : Int32)), .val (.int (2 : Int32)), .val (.int bb), .val (.int r0), .val (.int r1), .val (.int e0), .val (.int e1), .val (.int e2), .val (.double s0), .second, .val (.double s1), .second, .val (.double f0), .second, .unset, .unset, .unset, .unset, .unset, .unset, .unset]) rfl ?_
    refine own_iload K own_d7_116 rfl ?_
    refine own_bipush K own_d7_118 (v := (8 : Int32)) rfl ?_
    refine own_ishr K own_d7_120 ?_
    refine own_sipush K own_d7_121 (v := (255 : Int32)) rfl ?_
    refine own_iand K own_d7_124 ?_
    refine own_sipush K own_d7_125 (v := (128 : Int32)) rfl ?_
    refine own_isub K own_d7_128 ?_
    refine own_i2d K own_d7_129 ?_
    obtain ⟨f1, e_f1, Ff1⟩ : ∃ z : UInt64, z = (FP.i2d (((i5 >>> ((8 : Int32) &&& 31)) &&& (255 : Int32)) - (128 : Int32))) ∧ Fl.Fin64 z := ⟨_, rfl, Fl.i2d_fin _⟩
    refine own_topD (x' := f1) (e_f1.symm) ?_
    refine own_dstore K own_d7_130 (Ls' := #[.val (.int i0), .val (.int i1), .val (.int i2), .val (.int i3), .val (.int i4), .val (.int i5), .val (.int (1 : Int32)), .val (.int (2 : Int32)), .val (.int bb), .val (.int r0), .val (.int r1), .val (.int e0), .val (.int e1), .val (.int e2), .val (.double s0), .second, .val (.double s1), .second, .val (.double f0), .second, .val (.double f1), .second, .unset, .unset, .unset, .unset, .unset]) rfl ?_
    refine own_iload K own_d7_132 rfl ?_
    refine own_bipush K own_d7_134 (v := (16 : Int32)) rfl ?_
    refine own_ishr K own_d7_136 ?_
    refine own_sipush K own_d7_137 (v := (255 : Int32)) rfl ?_
    refine own_iand K own_d7_140 ?_
    refine own_sipush K own_d7_141 (v := (128 : Int32)) rfl ?_
    refine own_isub K own_d7_144 ?_
    refine own_i2d K own_d7_145 ?_
    obtain ⟨f2, e_f2, Ff2⟩ : ∃ z : UInt64, z = (FP.i2d (((i5 >>> ((16 : Int32) &&& 31)) &&& (255 : Int32)) - (128 : Int32))) ∧ Fl.Fin64 z := ⟨_, rfl, Fl.i2d_fin _⟩
    refine own_topD (x' := f2) (e_f2.symm) ?_
    refine own_dstore K own_d7_146 (Ls' := #[.val (.int i0), .val (.int i1), .val (.int i2), .val (.int i3), .val (.int i4), .val (.int i5), .val (.int (1 : Int32)), .val (.int (2 : Int32)), .val (.int bb), .val (.int r0), .val (.int r1), .val (.int e0), .val (.int e1), .val (.int e2), .val (.double s0), .second, .val (.double s1), .second, .val (.double f0), .second, .val (.double f1), .second, .val (.double f2), .second, .unset, .unset, .unset]) rfl ?_
    refine own_new K own_d7_148 (own_w5 hw) (own_w6 hw) (own_w7 hw) H (own_SD_F hw) (own_SD_P hw) (by decide) (by decide) ?_
    intro h4 a6 H5
    replace H5 : own_H Z h4 (own_SD a6 .null .null (.int (0 : Int32)) :: []) ([]) := H5
    refine own_dup K own_d7_151 rfl ?_
    refine own_special K own_d7_152 rfl (own_w8 hw) (own_w9 hw) (own_w7 hw) (own_w10 hw) (a := a6) (argsL := []) (rest := [(.ref a6)]) (own_init hw H5) own_pd1 rfl rfl rfl (by decide) (W := 1) (Nat.le_of_eq rfl) (by decide) (by decide) (by decide) (by decide) ?_
    intro v9 h7 q8
    obtain ⟨rfl, sa10, da11, H12⟩ := q8
    replace H12 : own_H Z h7 (own_SD a6 (.ref da11) (.ref sa10) (.int (0 : Int32)) :: []) ((sa10, .double, "[D", [(.double (0 : UInt64)), (.double (0 : UInt64)), (.double (0 : UInt64)), (.double (0 : UInt64))]) :: (da11, .int, "[I", [(.int (0 : Int32)), (.int (0 : Int32)), (.int (0 : Int32)), (.int (0 : Int32))]) :: []) := H12
    refine own_astore K own_d7_155 rfl (Ls' := #[.val (.int i0), .val (.int i1), .val (.int i2), .val (.int i3), .val (.int i4), .val (.int i5), .val (.int (1 : Int32)), .val (.int (2 : Int32)), .val (.int bb), .val (.int r0), .val (.int r1), .val (.int e0), .val (.int e1), .val (.int e2), .val (.double s0), .second, .val (.double s1), .second, .val (.double f0), .second, .val (.double f1), .second, .val (.double f2), .second, .val (.ref a6), .unset, .unset]) rfl ?_
    refine own_new K own_d7_157 (own_w5 hw) (own_w6 hw) (own_w7 hw) H12 (own_SD_F hw) (own_SD_P hw) (by decide) (by decide) ?_
    intro h13 a15 H14
    replace H14 : own_H Z h13 (own_SD a15 .null .null (.int (0 : Int32)) :: own_SD a6 (.ref da11) (.ref sa10) (.int (0 : Int32)) :: []) ((sa10, .double, "[D", [(.double (0 : UInt64)), (.double (0 : UInt64)), (.double (0 : UInt64)), (.double (0 : UInt64))]) :: (da11, .int, "[I", [(.int (0 : Int32)), (.int (0 : Int32)), (.int (0 : Int32)), (.int (0 : Int32))]) :: []) := H14
    refine own_dup K own_d7_160 rfl ?_
    refine own_special K own_d7_161 rfl (own_w8 hw) (own_w9 hw) (own_w7 hw) (own_w10 hw) (a := a15) (argsL := []) (rest := [(.ref a15)]) (own_init hw H14) own_pd1 rfl rfl rfl (by decide) (W := 1) (Nat.le_of_eq rfl) (by decide) (by decide) (by decide) (by decide) ?_
    intro v18 h16 q17
    obtain ⟨rfl, sa19, da20, H21⟩ := q17
    replace H21 : own_H Z h16 (own_SD a15 (.ref da20) (.ref sa19) (.int (0 : Int32)) :: own_SD a6 (.ref da11) (.ref sa10) (.int (0 : Int32)) :: []) ((sa19, .double, "[D", [(.double (0 : UInt64)), (.double (0 : UInt64)), (.double (0 : UInt64)), (.double (0 : UInt64))]) :: (da20, .int, "[I", [(.int (0 : Int32)), (.int (0 : Int32)), (.int (0 : Int32)), (.int (0 : Int32))]) :: (sa10, .double, "[D", [(.double (0 : UInt64)), (.double (0 : UInt64)), (.double (0 : UInt64)), (.double (0 : UInt64))]) :: (da11, .int, "[I", [(.int (0 : Int32)), (.int (0 : Int32)), (.int (0 : Int32)), (.int (0 : Int32))]) :: []) := H21
    refine own_astore K own_d7_164 rfl (Ls' := #[.val (.int i0), .val (.int i1), .val (.int i2), .val (.int i3), .val (.int i4), .val (.int i5), .val (.int (1 : Int32)), .val (.int (2 : Int32)), .val (.int bb), .val (.int r0), .val (.int r1), .val (.int e0), .val (.int e1), .val (.int e2), .val (.double s0), .second, .val (.double s1), .second, .val (.double f0), .second, .val (.double f1), .second, .val (.double f2), .second, .val (.ref a6), .val (.ref a15), .unset]) rfl ?_
    refine own_iload K own_d7_166 rfl ?_
    refine own_ifle K own_d7_168 (fun q => absurd q (by decide)) (fun _ => ?_)
    refine own_aload K own_d7_171 rfl rfl ?_
    refine own_iload K own_d7_173 rfl ?_
    refine own_dload K own_d7_175 rfl ?_
    have H22 := H21.frontO 1 rfl
    replace H22 : own_H Z h16 (own_SD a6 (.ref da11) (.ref sa10) (.int (0 : Int32)) :: own_SD a15 (.ref da20) (.ref sa19) (.int (0 : Int32)) :: []) ((sa19, .double, "[D", [(.double (0 : UInt64)), (.double (0 : UInt64)), (.double (0 : UInt64)), (.double (0 : UInt64))]) :: (da20, .int, "[I", [(.int (0 : Int32)), (.int (0 : Int32)), (.int (0 : Int32)), (.int (0 : Int32))]) :: (sa10, .double, "[D", [(.double (0 : UInt64)), (.double (0 : UInt64)), (.double (0 : UInt64)), (.double (0 : UInt64))]) :: (da11, .int, "[I", [(.int (0 : Int32)), (.int (0 : Int32)), (.int (0 : Int32)), (.int (0 : Int32))]) :: []) := H22
    have H23 := H22.frontA 2 rfl
    replace H23 : own_H Z h16 (own_SD a6 (.ref da11) (.ref sa10) (.int (0 : Int32)) :: own_SD a15 (.ref da20) (.ref sa19) (.int (0 : Int32)) :: []) ((sa10, .double, "[D", [(.double (0 : UInt64)), (.double (0 : UInt64)), (.double (0 : UInt64)), (.double (0 : UInt64))]) :: (sa19, .double, "[D", [(.double (0 : UInt64)), (.double (0 : UInt64)), (.double (0 : UInt64)), (.double (0 : UInt64))]) :: (da20, .int, "[I", [(.int (0 : Int32)), (.int (0 : Int32)), (.int (0 : Int32)), (.int (0 : Int32))]) :: (da11, .int, "[I", [(.int (0 : Int32)), (.int (0 : Int32)), (.int (0 : Int32)), (.int (0 : Int32))]) :: []) := H23
    have H24 := H23.frontA 3 rfl
    replace H24 : own_H Z h16 (own_SD a6 (.ref da11) (.ref sa10) (.int (0 : Int32)) :: own_SD a15 (.ref da20) (.ref sa19) (.int (0 : Int32)) :: []) ((da11, .int, "[I", [(.int (0 : Int32)), (.int (0 : Int32)), (.int (0 : Int32)), (.int (0 : Int32))]) :: (sa10, .double, "[D", [(.double (0 : UInt64)), (.double (0 : UInt64)), (.double (0 : UInt64)), (.double (0 : UInt64))]) :: (sa19, .double, "[D", [(.double (0 : UInt64)), (.double (0 : UInt64)), (.double (0 : UInt64)), (.double (0 : UInt64))]) :: (da20, .int, "[I", [(.int (0 : Int32)), (.int (0 : Int32)), (.int (0 : Int32)), (.int (0 : Int32))]) :: []) := H24
    refine own_virtual K own_d7_177 (own_w32 hw) (own_w33 hw) (own_w35 hw) (own_w34 hw) (own_w7 hw) (own_w36 hw) (H24.atO (i := 0) rfl) (a := a6) (argsL := [(.int r0), (.double s0)]) (rest := []) (own_add0 hw H24) own_pd4 rfl rfl rfl (by decide) (W := 0) (Nat.le_of_eq rfl) (by decide) (by decide) (by decide) (by decide) ?_
    intro v27 h25 q26
    obtain ⟨rfl, H28⟩ := q26
    replace H28 : own_H Z h25 (own_SD a6 (.ref da11) (.ref sa10) (.int (1 : Int32)) :: own_SD a15 (.ref da20) (.ref sa19) (.int (0 : Int32)) :: []) ((da11, .int, "[I", [(.int r0), (.int (0 : Int32)), (.int (0 : Int32)), (.int (0 : Int32))]) :: (sa10, .double, "[D", [(.double s0), (.double (0 : UInt64)), (.double (0 : UInt64)), (.double (0 : UInt64))]) :: (sa19, .double, "[D", [(.double (0 : UInt64)), (.double (0 : UInt64)), (.double (0 : UInt64)), (.double (0 : UInt64))]) :: (da20, .int, "[I", [(.int (0 : Int32)), (.int (0 : Int32)), (.int (0 : Int32)), (.int (0 : Int32))]) :: []) := H28
    refine own_iload K own_d7_180 rfl ?_
    refine own_iconst K own_d7_182 (v := (1 : Int32)) rfl ?_
    refine own_icmple K own_d7_183 (fun _ => ?_) (fun q => absurd (by decide) q)
    refine own_iload K own_d7_195 rfl ?_
    refine own_ifle K own_d7_197 (fun q => absurd q (by decide)) (fun _ => ?_)
    refine own_aload K own_d7_200 rfl rfl ?_
    refine own_iload K own_d7_202 rfl ?_
    refine own_dload K own_d7_204 rfl ?_
    have H29 := H28.frontO 1 rfl
    replace H29 : own_H Z h25 (own_SD a15 (.ref da20) (.ref sa19) (.int (0 : Int32)) :: own_SD a6 (.ref da11) (.ref sa10) (.int (1 : Int32)) :: []) ((da11, .int, "[I", [(.int r0), (.int (0 : Int32)), (.int (0 : Int32)), (.int (0 : Int32))]) :: (sa10, .double, "[D", [(.double s0), (.double (0 : UInt64)), (.double (0 : UInt64)), (.double (0 : UInt64))]) :: (sa19, .double, "[D", [(.double (0 : UInt64)), (.double (0 : UInt64)), (.double (0 : UInt64)), (.double (0 : UInt64))]) :: (da20, .int, "[I", [(.int (0 : Int32)), (.int (0 : Int32)), (.int (0 : Int32)), (.int (0 : Int32))]) :: []) := H29
    have H30 := H29.frontA 2 rfl
    replace H30 : own_H Z h25 (own_SD a15 (.ref da20) (.ref sa19) (.int (0 : Int32)) :: own_SD a6 (.ref da11) (.ref sa10) (.int (1 : Int32)) :: []) ((sa19, .double, "[D", [(.double (0 : UInt64)), (.double (0 : UInt64)), (.double (0 : UInt64)), (.double (0 : UInt64))]) :: (da11, .int, "[I", [(.int r0), (.int (0 : Int32)), (.int (0 : Int32)), (.int (0 : Int32))]) :: (sa10, .double, "[D", [(.double s0), (.double (0 : UInt64)), (.double (0 : UInt64)), (.double (0 : UInt64))]) :: (da20, .int, "[I", [(.int (0 : Int32)), (.int (0 : Int32)), (.int (0 : Int32)), (.int (0 : Int32))]) :: []) := H30
    have H31 := H30.frontA 3 rfl
    replace H31 : own_H Z h25 (own_SD a15 (.ref da20) (.ref sa19) (.int (0 : Int32)) :: own_SD a6 (.ref da11) (.ref sa10) (.int (1 : Int32)) :: []) ((da20, .int, "[I", [(.int (0 : Int32)), (.int (0 : Int32)), (.int (0 : Int32)), (.int (0 : Int32))]) :: (sa19, .double, "[D", [(.double (0 : UInt64)), (.double (0 : UInt64)), (.double (0 : UInt64)), (.double (0 : UInt64))]) :: (da11, .int, "[I", [(.int r0), (.int (0 : Int32)), (.int (0 : Int32)), (.int (0 : Int32))]) :: (sa10, .double, "[D", [(.double s0), (.double (0 : UInt64)), (.double (0 : UInt64)), (.double (0 : UInt64))]) :: []) := H31
    refine own_virtual K own_d7_206 (own_w32 hw) (own_w33 hw) (own_w35 hw) (own_w34 hw) (own_w7 hw) (own_w36 hw) (H31.atO (i := 0) rfl) (a := a15) (argsL := [(.int e0), (.double f0)]) (rest := []) (own_add0 hw H31) own_pd4 rfl rfl rfl (by decide) (W := 0) (Nat.le_of_eq rfl) (by decide) (by decide) (by decide) (by decide) ?_
    intro v34 h32 q33
    obtain ⟨rfl, H35⟩ := q33
    replace H35 : own_H Z h32 (own_SD a15 (.ref da20) (.ref sa19) (.int (1 : Int32)) :: own_SD a6 (.ref da11) (.ref sa10) (.int (1 : Int32)) :: []) ((da20, .int, "[I", [(.int e0), (.int (0 : Int32)), (.int (0 : Int32)), (.int (0 : Int32))]) :: (sa19, .double, "[D", [(.double f0), (.double (0 : UInt64)), (.double (0 : UInt64)), (.double (0 : UInt64))]) :: (da11, .int, "[I", [(.int r0), (.int (0 : Int32)), (.int (0 : Int32)), (.int (0 : Int32))]) :: (sa10, .double, "[D", [(.double s0), (.double (0 : UInt64)), (.double (0 : UInt64)), (.double (0 : UInt64))]) :: []) := H35
    refine own_iload K own_d7_209 rfl ?_
    refine own_iconst K own_d7_211 (v := (1 : Int32)) rfl ?_
    refine own_icmple K own_d7_212 (fun q => absurd q (by decide)) (fun _ => ?_)
    refine own_aload K own_d7_215 rfl rfl ?_
    refine own_iload K own_d7_217 rfl ?_
    refine own_dload K own_d7_219 rfl ?_
    have H36 := H35.frontA 1 rfl
    replace H36 : own_H Z h32 (own_SD a15 (.ref da20) (.ref sa19) (.int (1 : Int32)) :: own_SD a6 (.ref da11) (.ref sa10) (.int (1 : Int32)) :: []) ((sa19, .double, "[D", [(.double f0), (.double (0 : UInt64)), (.double (0 : UInt64)), (.double (0 : UInt64))]) :: (da20, .int, "[I", [(.int e0), (.int (0 : Int32)), (.int (0 : Int32)), (.int (0 : Int32))]) :: (da11, .int, "[I", [(.int r0), (.int (0 : Int32)), (.int (0 : Int32)), (.int (0 : Int32))]) :: (sa10, .double, "[D", [(.double s0), (.double (0 : UInt64)), (.double (0 : UInt64)), (.double (0 : UInt64))]) :: []) := H36
    have H37 := H36.frontA 1 rfl
    replace H37 : own_H Z h32 (own_SD a15 (.ref da20) (.ref sa19) (.int (1 : Int32)) :: own_SD a6 (.ref da11) (.ref sa10) (.int (1 : Int32)) :: []) ((da20, .int, "[I", [(.int e0), (.int (0 : Int32)), (.int (0 : Int32)), (.int (0 : Int32))]) :: (sa19, .double, "[D", [(.double f0), (.double (0 : UInt64)), (.double (0 : UInt64)), (.double (0 : UInt64))]) :: (da11, .int, "[I", [(.int r0), (.int (0 : Int32)), (.int (0 : Int32)), (.int (0 : Int32))]) :: (sa10, .double, "[D", [(.double s0), (.double (0 : UInt64)), (.double (0 : UInt64)), (.double (0 : UInt64))]) :: []) := H37
    refine own_virtual K own_d7_221 (own_w32 hw) (own_w33 hw) (own_w35 hw) (own_w34 hw) (own_w7 hw) (own_w36 hw) (H37.atO (i := 0) rfl) (a := a15) (argsL := [(.int e1), (.double f1)]) (rest := []) (own_add1 hw H37) own_pd4 rfl rfl rfl (by decide) (W := 0) (Nat.le_of_eq rfl) (by decide) (by decide) (by decide) (by decide) ?_
    intro v40 h38 q39
    obtain ⟨rfl, H41⟩ := q39
    replace H41 : own_H Z h38 (own_SD a15 (.ref da20) (.ref sa19) (.int (2 : Int32)) :: own_SD a6 (.ref da11) (.ref sa10) (.int (1 : Int32)) :: []) ((da20, .int, "[I", [(.int e0), (.int e1), (.int (0 : Int32)), (.int (0 : Int32))]) :: (sa19, .double, "[D", [(.double f0), (.double f1), (.double (0 : UInt64)), (.double (0 : UInt64))]) :: (da11, .int, "[I", [(.int r0), (.int (0 : Int32)), (.int (0 : Int32)), (.int (0 : Int32))]) :: (sa10, .double, "[D", [(.double s0), (.double (0 : UInt64)), (.double (0 : UInt64)), (.double (0 : UInt64))]) :: []) := H41
    refine own_iload K own_d7_224 rfl ?_
    refine own_iconst K own_d7_226 (v := (2 : Int32)) rfl ?_
    refine own_icmple K own_d7_227 (fun _ => ?_) (fun q => absurd (by decide) q)
    refine own_aload K own_d7_239 rfl rfl ?_
    refine own_aload K own_d7_241 rfl rfl ?_
    have H42 := H41.frontO 1 rfl
    replace H42 : own_H Z h38 (own_SD a6 (.ref da11) (.ref sa10) (.int (1 : Int32)) :: own_SD a15 (.ref da20) (.ref sa19) (.int (2 : Int32)) :: []) ((da20, .int, "[I", [(.int e0), (.int e1), (.int (0 : Int32)), (.int (0 : Int32))]) :: (sa19, .double, "[D", [(.double f0), (.double f1), (.double (0 : UInt64)), (.double (0 : UInt64))]) :: (da11, .int, "[I", [(.int r0), (.int (0 : Int32)), (.int (0 : Int32)), (.int (0 : Int32))]) :: (sa10, .double, "[D", [(.double s0), (.double (0 : UInt64)), (.double (0 : UInt64)), (.double (0 : UInt64))]) :: []) := H42
    have H43 := H42.frontA 1 rfl
    replace H43 : own_H Z h38 (own_SD a6 (.ref da11) (.ref sa10) (.int (1 : Int32)) :: own_SD a15 (.ref da20) (.ref sa19) (.int (2 : Int32)) :: []) ((sa19, .double, "[D", [(.double f0), (.double f1), (.double (0 : UInt64)), (.double (0 : UInt64))]) :: (da20, .int, "[I", [(.int e0), (.int e1), (.int (0 : Int32)), (.int (0 : Int32))]) :: (da11, .int, "[I", [(.int r0), (.int (0 : Int32)), (.int (0 : Int32)), (.int (0 : Int32))]) :: (sa10, .double, "[D", [(.double s0), (.double (0 : UInt64)), (.double (0 : UInt64)), (.double (0 : UInt64))]) :: []) := H43
    have H44 := H43.frontA 1 rfl
    replace H44 : own_H Z h38 (own_SD a6 (.ref da11) (.ref sa10) (.int (1 : Int32)) :: own_SD a15 (.ref da20) (.ref sa19) (.int (2 : Int32)) :: []) ((da20, .int, "[I", [(.int e0), (.int e1), (.int (0 : Int32)), (.int (0 : Int32))]) :: (sa19, .double, "[D", [(.double f0), (.double f1), (.double (0 : UInt64)), (.double (0 : UInt64))]) :: (da11, .int, "[I", [(.int r0), (.int (0 : Int32)), (.int (0 : Int32)), (.int (0 : Int32))]) :: (sa10, .double, "[D", [(.double s0), (.double (0 : UInt64)), (.double (0 : UInt64)), (.double (0 : UInt64))]) :: []) := H44
    have H45 := H44.frontA 3 rfl
    replace H45 : own_H Z h38 (own_SD a6 (.ref da11) (.ref sa10) (.int (1 : Int32)) :: own_SD a15 (.ref da20) (.ref sa19) (.int (2 : Int32)) :: []) ((sa10, .double, "[D", [(.double s0), (.double (0 : UInt64)), (.double (0 : UInt64)), (.double (0 : UInt64))]) :: (da20, .int, "[I", [(.int e0), (.int e1), (.int (0 : Int32)), (.int (0 : Int32))]) :: (sa19, .double, "[D", [(.double f0), (.double f1), (.double (0 : UInt64)), (.double (0 : UInt64))]) :: (da11, .int, "[I", [(.int r0), (.int (0 : Int32)), (.int (0 : Int32)), (.int (0 : Int32))]) :: []) := H45
    have H46 := H45.frontA 3 rfl
    replace H46 : own_H Z h38 (own_SD a6 (.ref da11) (.ref sa10) (.int (1 : Int32)) :: own_SD a15 (.ref da20) (.ref sa19) (.int (2 : Int32)) :: []) ((da11, .int, "[I", [(.int r0), (.int (0 : Int32)), (.int (0 : Int32)), (.int (0 : Int32))]) :: (sa10, .double, "[D", [(.double s0), (.double (0 : UInt64)), (.double (0 : UInt64)), (.double (0 : UInt64))]) :: (da20, .int, "[I", [(.int e0), (.int e1), (.int (0 : Int32)), (.int (0 : Int32))]) :: (sa19, .double, "[D", [(.double f0), (.double f1), (.double (0 : UInt64)), (.double (0 : UInt64))]) :: []) := H46
    refine own_virtual K own_d7_243 (own_w20 hw) (own_w21 hw) (own_w23 hw) (own_w22 hw) (own_w7 hw) (own_w24 hw) (H46.atO (i := 0) rfl) (a := a6) (argsL := [(.ref a15)]) (rest := []) (own_adds_1_2 hw H46 Fs0 Ff0 Ff1 e1_0.1) own_pd2 rfl rfl rfl (by decide) (W := 0) (Nat.le_of_eq rfl) (by decide) (by decide) (by decide) (by decide) ?_
    intro v49 h47 q48
    obtain ⟨rfl, H50⟩ := q48
    replace H50 : own_H Z h47 (own_SD a6 (.ref da11) (.ref sa10) (.int (1 : Int32)) :: own_SD a15 (.ref da20) (.ref sa19) (.int (2 : Int32)) :: []) ((da11, .int, "[I", [(.int r0), (.int (0 : Int32)), (.int (0 : Int32)), (.int (0 : Int32))]) :: (sa10, .double, "[D", [(.double (if e0 = r0 then FP.dadd s0 f0 else (if e1 = r0 then FP.dadd s0 f1 else s0))), (.double (0 : UInt64)), (.double (0 : UInt64)), (.double (0 : UInt64))]) :: (da20, .int, "[I", [(.int e0), (.int e1), (.int (0 : Int32)), (.int (0 : Int32))]) :: (sa19, .double, "[D", [(.double f0), (.double f1), (.double (0 : UInt64)), (.double (0 : UInt64))]) :: []) := H50
    refine own_aload K own_d7_246 rfl rfl ?_
    refine own_virtual K own_d7_248 (own_w27 hw) (own_w28 hw) (own_w30 hw) (own_w29 hw) (own_w7 hw) (own_w31 hw) (H50.atO (i := 0) rfl) (a := a6) (argsL := []) (rest := []) (own_size hw H50) own_pd3 rfl rfl rfl (by decide) (W := 0) (Nat.le_of_eq rfl) (by decide) (by decide) (by decide) (by decide) ?_
    intro v53 h51 q52
    obtain ⟨rfl, rfl⟩ := q52
    refine own_iload K own_d7_251 rfl ?_
    refine own_icmpeq K own_d7_253 (fun _ => ?_) (fun q => absurd (by decide) q)
    refine own_iconst K own_d7_258 (v := (1 : Int32)) rfl ?_
    refine own_istore K own_d7_259 (Ls' := #[.val (.int i0), .val (.int i1), .val (.int i2), .val (.int i3), .val (.int i4), .val (.int i5), .val (.int (1 : Int32)), .val (.int (2 : Int32)), .val (.int bb), .val (.int r0), .val (.int r1), .val (.int e0), .val (.int e1), .val (.int e2), .val (.double s0), .second, .val (.double s1), .second, .val (.double f0), .second, .val (.double f1), .second, .val (.double f2), .second, .val (.ref a6), .val (.ref a15), .val (.int (1 : Int32))]) rfl ?_
    refine own_iload K own_d7_261 rfl ?_
    refine own_ifle K own_d7_263 (fun q => absurd q (by decide)) (fun _ => ?_)
    refine own_iload K own_d7_266 rfl ?_
    refine own_ifeq K own_d7_268 (fun q => absurd q (by decide)) (fun _ => ?_)
    refine own_aload K own_d7_271 rfl rfl ?_
    refine own_iconst K own_d7_273 (v := (0 : Int32)) rfl ?_
    have H54 := H50.frontA 1 rfl
    replace H54 : own_H Z h47 (own_SD a6 (.ref da11) (.ref sa10) (.int (1 : Int32)) :: own_SD a15 (.ref da20) (.ref sa19) (.int (2 : Int32)) :: []) ((sa10, .double, "[D", [(.double (if e0 = r0 then FP.dadd s0 f0 else (if e1 = r0 then FP.dadd s0 f1 else s0))), (.double (0 : UInt64)), (.double (0 : UInt64)), (.double (0 : UInt64))]) :: (da11, .int, "[I", [(.int r0), (.int (0 : Int32)), (.int (0 : Int32)), (.int (0 : Int32))]) :: (da20, .int, "[I", [(.int e0), (.int e1), (.int (0 : Int32)), (.int (0 : Int32))]) :: (sa19, .double, "[D", [(.double f0), (.double f1), (.double (0 : UInt64)), (.double (0 : UInt64))]) :: []) := H54
    refine own_virtual K own_d7_274 (own_w37 hw) (own_w38 hw) (own_w40 hw) (own_w39 hw) (own_w7 hw) (own_w41 hw) (H54.atO (i := 0) rfl) (a := a6) (argsL := [(.int (0 : Int32))]) (rest := []) (own_score hw H54 (q := 0) rfl rfl) own_pd5 rfl rfl rfl (by decide) (W := 0) (Nat.le_of_eq rfl) (by decide) (by decide) (by decide) (by decide) ?_
    intro v57 h55 q56
    obtain ⟨rfl, rfl⟩ := q56
    refine own_iload K own_d7_277 rfl ?_
    refine own_dload K own_d7_279 rfl ?_
    refine own_iload K own_d7_281 rfl ?_
    refine own_iload K own_d7_283 rfl ?_
    refine own_iload K own_d7_285 rfl ?_
    refine own_iload K own_d7_287 rfl ?_
    refine own_dload K own_d7_289 rfl ?_
    refine own_dload K own_d7_291 rfl ?_
    refine own_dload K own_d7_293 rfl ?_
    refine own_static K own_d7_295 (own_w42 hw) (own_w43 hw) (own_w44 hw) (own_w45 hw) (argsL := [(.int r0), (.double s0), (.int (2 : Int32)), (.int e0), (.int e1), (.int e2), (.double f0), (.double f1), (.double f2)]) (rest := [(.double (if e0 = r0 then FP.dadd s0 f0 else (if e1 = r0 then FP.dadd s0 f1 else s0)))]) (own_exp2 hw Fs0 Ff0 Ff1 Ff2) own_pd6 rfl rfl rfl (by decide) (W := 2) (Nat.le_of_eq rfl) (by decide) (by decide) (by decide) (by decide) ?_
    intro v60 h58 q59
    obtain ⟨rfl, rfl⟩ := q59
    refine own_dcmp K own_d7_298 ?_
    refine own_ifne K own_d7_299 (fun q => absurd q (fun z => z (dcmpV_self (own_expnn 0 Fs0 Ff0 Ff1 Ff2 (e0 = r0) (e1 = r0) (e2 = r0)).2.2.1 _))) (fun _ => ?_)
    refine own_iconst K own_d7_302 (v := (1 : Int32)) rfl ?_
    refine own_goto K own_d7_303 ?_
    refine own_istore K own_d7_307 (Ls' := #[.val (.int i0), .val (.int i1), .val (.int i2), .val (.int i3), .val (.int i4), .val (.int i5), .val (.int (1 : Int32)), .val (.int (2 : Int32)), .val (.int bb), .val (.int r0), .val (.int r1), .val (.int e0), .val (.int e1), .val (.int e2), .val (.double s0), .second, .val (.double s1), .second, .val (.double f0), .second, .val (.double f1), .second, .val (.double f2), .second, .val (.ref a6), .val (.ref a15), .val (.int (1 : Int32))]) rfl ?_
    refine own_iload K own_d7_309 rfl ?_
    refine own_iconst K own_d7_311 (v := (1 : Int32)) rfl ?_
    refine own_icmple K own_d7_312 (fun _ => ?_) (fun q => absurd (by decide) q)
    refine own_iload K own_d7_358 rfl ?_
    exact own_retZ K (by first | exact Or.inl rfl | exact Or.inr rfl | decide) own_d7_360 (by decide) (by decide) (rfl)
  · refine own_iloadN K own_d7_0 rfl ?_
    refine own_iconst K own_d7_1 (v := (3 : Int32)) rfl ?_
    refine own_iand K own_d7_2 ?_
    refine own_iconst K own_d7_3 (v := (3 : Int32)) rfl ?_
    refine own_irem K own_d7_4 (by decide) ?_
    refine own_topI (x' := (1 : Int32)) (q) ?_
    refine own_istore K own_d7_5 (Ls' := #[.val (.int i0), .val (.int i1), .val (.int i2), .val (.int i3), .val (.int i4), .val (.int i5), .val (.int (1 : Int32)), .unset, .unset, .unset, .unset, .unset, .unset, .unset, .unset, .unset, .unset, .unset, .unset, .unset, .unset, .unset, .unset, .unset, .unset, .unset, .unset]) rfl ?_
    refine own_iloadN K own_d7_7 rfl ?_
    refine own_iconst K own_d7_8 (v := (2 : Int32)) rfl ?_
    refine own_iushr K own_d7_9 ?_
    refine own_iconst K own_d7_10 (v := (3 : Int32)) rfl ?_
    refine own_iand K own_d7_11 ?_
    refine own_topI (x' := (3 : Int32)) (q') ?_
    refine own_istore K own_d7_12 (Ls' := #[.val (.int i0), .val (.int i1), .val (.int i2), .val (.int i3), .val (.int i4), .val (.int i5), .val (.int (1 : Int32)), .val (.int (3 : Int32)), .unset, .unset, .unset, .unset, .unset, .unset, .unset, .unset, .unset, .unset, .unset, .unset, .unset, .unset, .unset, .unset, .unset, .unset, .unset]) rfl ?_
    refine own_iloadN K own_d7_14 rfl ?_
    refine own_ldcI K own_d7_15 (v := (2147483627 : Int32)) (own_w0 hw) ?_
    refine own_static K own_d7_17 (own_w1 hw) (own_w2 hw) (own_w3 hw) (own_w4 hw) (argsL := [(.int i3), (.int (2147483627 : Int32))]) (rest := []) (own_min hw) own_pd0 rfl rfl rfl (by decide) (W := 0) (Nat.le_of_eq rfl) (by decide) (by decide) (by decide) (by decide) ?_
    intro v3 h1 q2
    obtain ⟨⟨bb, rfl, hbb⟩, rfl⟩ := q2
    replace hbb : bb.toInt ≤ 2147483627 := hbb
    refine own_istore K own_d7_20 (Ls' := #[.val (.int i0), .val (.int i1), .val (.int i2), .val (.int i3), .val (.int i4), .val (.int i5), .val (.int (1 : Int32)), .val (.int (3 : Int32)), .val (.int bb), .unset, .unset, .unset, .unset, .unset, .unset, .unset, .unset, .unset, .unset, .unset, .unset, .unset, .unset, .unset, .unset, .unset, .unset]) rfl ?_
    refine own_iload K own_d7_22 rfl ?_
    refine own_iloadN K own_d7_24 rfl ?_
    refine own_iconst K own_d7_25 (v := (3 : Int32)) rfl ?_
    refine own_iand K own_d7_26 ?_
    refine own_iadd K own_d7_27 ?_
    obtain ⟨r0, e_r0⟩ : ∃ z : Int32, z = (bb + (i1 &&& (3 : Int32))) := ⟨_, rfl⟩
    have r0_0 : r0.toInt ≤ 2147483630 := by rw [e_r0]; exact own_a0 _ hbb (by decide)
    refine own_topI (x' := r0) (e_r0.symm) ?_
    refine own_istore K own_d7_28 (Ls' := #[.val (.int i0), .val (.int i1), .val (.int i2), .val (.int i3), .val (.int i4), .val (.int i5), .val (.int (1 : Int32)), .val (.int (3 : Int32)), .val (.int bb), .val (.int r0), .unset, .unset, .unset, .unset, .unset, .unset, .unset, .unset, .unset, .unset, .unset, .unset, .unset, .unset, .unset, .unset, .unset]) rfl ?_
    refine own_iload K own_d7_30 rfl ?_
    refine own_iconst K own_d7_32 (v := (1 : Int32)) rfl ?_
    refine own_iadd K own_d7_33 ?_
    refine own_iloadN K own_d7_34 rfl ?_
    refine own_iconst K own_d7_35 (v := (2 : Int32)) rfl ?_
    refine own_ishr K own_d7_36 ?_
    refine own_iconst K own_d7_37 (v := (3 : Int32)) rfl ?_
    refine own_iand K own_d7_38 ?_
    refine own_iadd K own_d7_39 ?_
    obtain ⟨r1, e_r1⟩ : ∃ z : Int32, z = ((r0 + (1 : Int32)) + ((i1 >>> ((2 : Int32) &&& 31)) &&& (3 : Int32))) := ⟨_, rfl⟩
    have r1_0 : r0.toInt < r1.toInt := by rw [e_r1]; exact (own_a1 _ r0_0 (by decide)).1
    refine own_topI (x' := r1) (e_r1.symm) ?_
    refine own_istore K own_d7_40 (Ls' := #[.val (.int i0), .val (.int i1), .val (.int i2), .val (.int i3), .val (.int i4), .val (.int i5), .val (.int (1 : Int32)), .val (.int (3 : Int32)), .val (.int bb), .val (.int r0), .val (.int r1), .unset, .unset, .unset, .unset, .unset, .unset, .unset, .unset, .unset, .unset, .unset, .unset, .unset, .unset, .unset, .unset]) rfl ?_
    refine own_iload K own_d7_42 rfl ?_
    refine own_iloadN K own_d7_44 rfl ?_
    refine own_iconst K own_d7_45 (v := (3 : Int32)) rfl ?_
    refine own_iand K own_d7_46 ?_
    refine own_iadd K own_d7_47 ?_
    obtain ⟨e0, e_e0⟩ : ∃ z : Int32, z = (bb + (i2 &&& (3 : Int32))) := ⟨_, rfl⟩
    have e0_0 : e0.toInt ≤ 2147483630 := by rw [e_e0]; exact own_a0 _ hbb (by decide)
    refine own_topI (x' := e0) (e_e0.symm) ?_
    refine own_istore K own_d7_48 (Ls' := #[.val (.int i0), .val (.int i1), .val (.int i2), .val (.int i3), .val (.int i4), .val (.int i5), .val (.int (1 : Int32)), .val (.int (3 : Int32)), .val (.int bb), .val (.int r0), .val (.int r1), .val (.int e0), .unset, .unset, .unset, .unset, .unset, .unset, .unset, .unset, .unset, .unset, .unset, .unset, .unset, .unset, .unset]) rfl ?_
    refine own_iload K own_d7_50 rfl ?_
    refine own_iconst K own_d7_52 (v := (1 : Int32)) rfl ?_
    refine own_iadd K own_d7_53 ?_
    refine own_iloadN K own_d7_54 rfl ?_
    refine own_iconst K own_d7_55 (v := (2 : Int32)) rfl ?_
    refine own_ishr K own_d7_56 ?_
    refine own_iconst K own_d7_57 (v := (3 : Int32)) rfl ?_
    refine own_iand K own_d7_58 ?_
    refine own_iadd K own_d7_59 ?_
    obtain ⟨e1, e_e1⟩ : ∃ z : Int32, z = ((e0 + (1 : Int32)) + ((i2 >>> ((2 : Int32) &&& 31)) &&& (3 : Int32))) := ⟨_, rfl⟩
    have e1_0 : e0.toInt < e1.toInt ∧ e1.toInt ≤ 2147483634 := by rw [e_e1]; exact own_a1 _ e0_0 (by decide)
    refine own_topI (x' := e1) (e_e1.symm) ?_
    refine own_istore K own_d7_60 (Ls' := #[.val (.int i0), .val (.int i1), .val (.int i2), .val (.int i3), .val (.int i4), .val (.int i5), .val (.int (1 : Int32)), .val (.int (3 : Int32)), .val (.int bb), .val (.int r0), .val (.int r1), .val (.int e0), .val (.int e1), .unset, .unset, .unset, .unset, .unset, .unset, .unset, .unset, .unset, .unset, .unset, .unset, .unset, .unset]) rfl ?_
    refine own_iload K own_d7_62 rfl ?_
    refine own_iconst K own_d7_64 (v := (1 : Int32)) rfl ?_
    refine own_iadd K own_d7_65 ?_
    refine own_iloadN K own_d7_66 rfl ?_
    refine own_iconst K own_d7_67 (v := (4 : Int32)) rfl ?_
    refine own_ishr K own_d7_68 ?_
    refine own_iconst K own_d7_69 (v := (3 : Int32)) rfl ?_
    refine own_iand K own_d7_70 ?_
    refine own_iadd K own_d7_71 ?_
    obtain ⟨e2, e_e2⟩ : ∃ z : Int32, z = ((e1 + (1 : Int32)) + ((i2 >>> ((4 : Int32) &&& 31)) &&& (3 : Int32))) := ⟨_, rfl⟩
    have e2_0 : e1.toInt < e2.toInt := by rw [e_e2]; exact (own_a1 _ e1_0.2 (by decide)).1
    refine own_topI (x' := e2) (e_e2.symm) ?_
    refine own_istore K own_d7_72 (Ls' := #[.val (.int i0), .val (.int i1), .val (.int i2), .val (.int i3), .val (.int i4), .val (.int i5), .val (.int (1 : Int32)), .val (.int (3 : Int32)), .val (.int bb), .val (.int r0), .val (.int r1), .val (.int e0), .val (.int e1), .val (.int e2), .unset, .unset, .unset, .unset, .unset, .unset, .unset, .unset, .unset, .unset, .unset, .unset, .unset]) rfl ?_
    refine own_iload K own_d7_74 rfl ?_
    refine own_sipush K own_d7_76 (v := (255 : Int32)) rfl ?_
    refine own_iand K own_d7_79 ?_
    refine own_sipush K own_d7_80 (v := (128 : Int32)) rfl ?_
    refine own_isub K own_d7_83 ?_
    refine own_i2d K own_d7_84 ?_
    obtain ⟨s0, e_s0, Fs0⟩ : ∃ z : UInt64, z = (FP.i2d ((i4 &&& (255 : Int32)) - (128 : Int32))) ∧ Fl.Fin64 z := ⟨_, rfl, Fl.i2d_fin _⟩
    refine own_topD (x' := s0) (e_s0.symm) ?_
    refine own_dstore K own_d7_85 (Ls' := #[.val (.int i0), .val (.int i1), .val (.int i2), .val (.int i3), .val (.int i4), .val (.int i5), .val (.int (1 : Int32)), .val (.int (3 : Int32)), .val (.int bb), .val (.int r0), .val (.int r1), .val (.int e0), .val (.int e1), .val (.int e2), .val (.double s0), .second, .unset, .unset, .unset, .unset, .unset, .unset, .unset, .unset, .unset, .unset, .unset]) rfl ?_
    refine own_iload K own_d7_87 rfl ?_
    refine own_bipush K own_d7_89 (v := (8 : Int32)) rfl ?_
    refine own_ishr K own_d7_91 ?_
    refine own_sipush K own_d7_92 (v := (255 : Int32)) rfl ?_
    refine own_iand K own_d7_95 ?_
    refine own_sipush K own_d7_96 (v := (128 : Int32)) rfl ?_
    refine own_isub K own_d7_99 ?_
    refine own_i2d K own_d7_100 ?_
    obtain ⟨s1, e_s1, Fs1⟩ : ∃ z : UInt64, z = (FP.i2d (((i4 >>> ((8 : Int32) &&& 31)) &&& (255 : Int32)) - (128 : Int32))) ∧ Fl.Fin64 z := ⟨_, rfl, Fl.i2d_fin _⟩
    refine own_topD (x' := s1) (e_s1.symm) ?_
    refine own_dstore K own_d7_101 (Ls' := #[.val (.int i0), .val (.int i1), .val (.int i2), .val (.int i3), .val (.int i4), .val (.int i5), .val (.int (1 : Int32)), .val (.int (3 : Int32)), .val (.int bb), .val (.int r0), .val (.int r1), .val (.int e0), .val (.int e1), .val (.int e2), .val (.double s0), .second, .val (.double s1), .second, .unset, .unset, .unset, .unset, .unset, .unset, .unset, .unset, .unset]) rfl ?_
    refine own_iload K own_d7_103 rfl ?_
    refine own_sipush K own_d7_105 (v := (255 : Int32)) rfl ?_
    refine own_iand K own_d7_108 ?_
    refine own_sipush K own_d7_109 (v := (128 : Int32)) rfl ?_
    refine own_isub K own_d7_112 ?_
    refine own_i2d K own_d7_113 ?_
    obtain ⟨f0, e_f0, Ff0⟩ : ∃ z : UInt64, z = (FP.i2d ((i5 &&& (255 : Int32)) - (128 : Int32))) ∧ Fl.Fin64 z := ⟨_, rfl, Fl.i2d_fin _⟩
    refine own_topD (x' := f0) (e_f0.symm) ?_
    refine own_dstore K own_d7_114 (Ls' := #[.val (.int i0), .val (.int i1), .val (.int i2), .val (.int i3), .val (.int i4), .val (.int i5), .val (.int (1 : Int32)), .val (.int (3 : Int32)), .val (.int bb), .val (.int r0), .val (.int r1), .val (.int e0), .val (.int e1), .val (.int e2), .val (.double s0), .second, .val (.double s1), .second, .val (.double f0), .second, .unset, .unset, .unset, .unset, .unset, .unset, .unset]) rfl ?_
    refine own_iload K own_d7_116 rfl ?_
    refine own_bipush K own_d7_118 (v := (8 : Int32)) rfl ?_
    refine own_ishr K own_d7_120 ?_
    refine own_sipush K own_d7_121 (v := (255 : Int32)) rfl ?_
    refine own_iand K own_d7_124 ?_
    refine own_sipush K own_d7_125 (v := (128 : Int32)) rfl ?_
    refine own_isub K own_d7_128 ?_
    refine own_i2d K own_d7_129 ?_
    obtain ⟨f1, e_f1, Ff1⟩ : ∃ z : UInt64, z = (FP.i2d (((i5 >>> ((8 : Int32) &&& 31)) &&& (255 : Int32)) - (128 : Int32))) ∧ Fl.Fin64 z := ⟨_, rfl, Fl.i2d_fin _⟩
    refine own_topD (x' := f1) (e_f1.symm) ?_
    refine own_dstore K own_d7_130 (Ls' := #[.val (.int i0), .val (.int i1), .val (.int i2), .val (.int i3), .val (.int i4), .val (.int i5), .val (.int (1 : Int32)), .val (.int (3 : Int32)), .val (.int bb), .val (.int r0), .val (.int r1), .val (.int e0), .val (.int e1), .val (.int e2), .val (.double s0), .second, .val (.double s1), .second, .val (.double f0), .second, .val (.double f1), .second, .unset, .unset, .unset, .unset, .unset]) rfl ?_
    refine own_iload K own_d7_132 rfl ?_
    refine own_bipush K own_d7_134 (v := (16 : Int32)) rfl ?_
    refine own_ishr K own_d7_136 ?_
    refine own_sipush K own_d7_137 (v := (255 : Int32)) rfl ?_
    refine own_iand K own_d7_140 ?_
    refine own_sipush K own_d7_141 (v := (128 : Int32)) rfl ?_
    refine own_isub K own_d7_144 ?_
    refine own_i2d K own_d7_145 ?_
    obtain ⟨f2, e_f2, Ff2⟩ : ∃ z : UInt64, z = (FP.i2d (((i5 >>> ((16 : Int32) &&& 31)) &&& (255 : Int32)) - (128 : Int32))) ∧ Fl.Fin64 z := ⟨_, rfl, Fl.i2d_fin _⟩
    refine own_topD (x' := f2) (e_f2.symm) ?_
    refine own_dstore K own_d7_146 (Ls' := #[.val (.int i0), .val (.int i1), .val (.int i2), .val (.int i3), .val (.int i4), .val (.int i5), .val (.int (1 : Int32)), .val (.int (3 : Int32)), .val (.int bb), .val (.int r0), .val (.int r1), .val (.int e0), .val (.int e1), .val (.int e2), .val (.double s0), .second, .val (.double s1), .second, .val (.double f0), .second, .val (.double f1), .second, .val (.double f2), .second, .unset, .unset, .unset]) rfl ?_
    refine own_new K own_d7_148 (own_w5 hw) (own_w6 hw) (own_w7 hw) H (own_SD_F hw) (own_SD_P hw) (by decide) (by decide) ?_
    intro h4 a6 H5
    replace H5 : own_H Z h4 (own_SD a6 .null .null (.int (0 : Int32)) :: []) ([]) := H5
    refine own_dup K own_d7_151 rfl ?_
    refine own_special K own_d7_152 rfl (own_w8 hw) (own_w9 hw) (own_w7 hw) (own_w10 hw) (a := a6) (argsL := []) (rest := [(.ref a6)]) (own_init hw H5) own_pd1 rfl rfl rfl (by decide) (W := 1) (Nat.le_of_eq rfl) (by decide) (by decide) (by decide) (by decide) ?_
    intro v9 h7 q8
    obtain ⟨rfl, sa10, da11, H12⟩ := q8
    replace H12 : own_H Z h7 (own_SD a6 (.ref da11) (.ref sa10) (.int (0 : Int32)) :: []) ((sa10, .double, "[D", [(.double (0 : UInt64)), (.double (0 : UInt64)), (.double (0 : UInt64)), (.double (0 : UInt64))]) :: (da11, .int, "[I", [(.int (0 : Int32)), (.int (0 : Int32)), (.int (0 : Int32)), (.int (0 : Int32))]) :: []) := H12
    refine own_astore K own_d7_155 rfl (Ls' := #[.val (.int i0), .val (.int i1), .val (.int i2), .val (.int i3), .val (.int i4), .val (.int i5), .val (.int (1 : Int32)), .val (.int (3 : Int32)), .val (.int bb), .val (.int r0), .val (.int r1), .val (.int e0), .val (.int e1), .val (.int e2), .val (.double s0), .second, .val (.double s1), .second, .val (.double f0), .second, .val (.double f1), .second, .val (.double f2), .second, .val (.ref a6), .unset, .unset]) rfl ?_
    refine own_new K own_d7_157 (own_w5 hw) (own_w6 hw) (own_w7 hw) H12 (own_SD_F hw) (own_SD_P hw) (by decide) (by decide) ?_
    intro h13 a15 H14
    replace H14 : own_H Z h13 (own_SD a15 .null .null (.int (0 : Int32)) :: own_SD a6 (.ref da11) (.ref sa10) (.int (0 : Int32)) :: []) ((sa10, .double, "[D", [(.double (0 : UInt64)), (.double (0 : UInt64)), (.double (0 : UInt64)), (.double (0 : UInt64))]) :: (da11, .int, "[I", [(.int (0 : Int32)), (.int (0 : Int32)), (.int (0 : Int32)), (.int (0 : Int32))]) :: []) := H14
    refine own_dup K own_d7_160 rfl ?_
    refine own_special K own_d7_161 rfl (own_w8 hw) (own_w9 hw) (own_w7 hw) (own_w10 hw) (a := a15) (argsL := []) (rest := [(.ref a15)]) (own_init hw H14) own_pd1 rfl rfl rfl (by decide) (W := 1) (Nat.le_of_eq rfl) (by decide) (by decide) (by decide) (by decide) ?_
    intro v18 h16 q17
    obtain ⟨rfl, sa19, da20, H21⟩ := q17
    replace H21 : own_H Z h16 (own_SD a15 (.ref da20) (.ref sa19) (.int (0 : Int32)) :: own_SD a6 (.ref da11) (.ref sa10) (.int (0 : Int32)) :: []) ((sa19, .double, "[D", [(.double (0 : UInt64)), (.double (0 : UInt64)), (.double (0 : UInt64)), (.double (0 : UInt64))]) :: (da20, .int, "[I", [(.int (0 : Int32)), (.int (0 : Int32)), (.int (0 : Int32)), (.int (0 : Int32))]) :: (sa10, .double, "[D", [(.double (0 : UInt64)), (.double (0 : UInt64)), (.double (0 : UInt64)), (.double (0 : UInt64))]) :: (da11, .int, "[I", [(.int (0 : Int32)), (.int (0 : Int32)), (.int (0 : Int32)), (.int (0 : Int32))]) :: []) := H21
    refine own_astore K own_d7_164 rfl (Ls' := #[.val (.int i0), .val (.int i1), .val (.int i2), .val (.int i3), .val (.int i4), .val (.int i5), .val (.int (1 : Int32)), .val (.int (3 : Int32)), .val (.int bb), .val (.int r0), .val (.int r1), .val (.int e0), .val (.int e1), .val (.int e2), .val (.double s0), .second, .val (.double s1), .second, .val (.double f0), .second, .val (.double f1), .second, .val (.double f2), .second, .val (.ref a6), .val (.ref a15), .unset]) rfl ?_
    refine own_iload K own_d7_166 rfl ?_
    refine own_ifle K own_d7_168 (fun q => absurd q (by decide)) (fun _ => ?_)
    refine own_aload K own_d7_171 rfl rfl ?_
    refine own_iload K own_d7_173 rfl ?_
    refine own_dload K own_d7_175 rfl ?_
    have H22 := H21.frontO 1 rfl
    replace H22 : own_H Z h16 (own_SD a6 (.ref da11) (.ref sa10) (.int (0 : Int32)) :: own_SD a15 (.ref da20) (.ref sa19) (.int (0 : Int32)) :: []) ((sa19, .double, "[D", [(.double (0 : UInt64)), (.double (0 : UInt64)), (.double (0 : UInt64)), (.double (0 : UInt64))]) :: (da20, .int, "[I", [(.int (0 : Int32)), (.int (0 : Int32)), (.int (0 : Int32)), (.int (0 : Int32))]) :: (sa10, .double, "[D", [(.double (0 : UInt64)), (.double (0 : UInt64)), (.double (0 : UInt64)), (.double (0 : UInt64))]) :: (da11, .int, "[I", [(.int (0 : Int32)), (.int (0 : Int32)), (.int (0 : Int32)), (.int (0 : Int32))]) :: []) := H22
    have H23 := H22.frontA 2 rfl
    replace H23 : own_H Z h16 (own_SD a6 (.ref da11) (.ref sa10) (.int (0 : Int32)) :: own_SD a15 (.ref da20) (.ref sa19) (.int (0 : Int32)) :: []) ((sa10, .double, "[D", [(.double (0 : UInt64)), (.double (0 : UInt64)), (.double (0 : UInt64)), (.double (0 : UInt64))]) :: (sa19, .double, "[D", [(.double (0 : UInt64)), (.double (0 : UInt64)), (.double (0 : UInt64)), (.double (0 : UInt64))]) :: (da20, .int, "[I", [(.int (0 : Int32)), (.int (0 : Int32)), (.int (0 : Int32)), (.int (0 : Int32))]) :: (da11, .int, "[I", [(.int (0 : Int32)), (.int (0 : Int32)), (.int (0 : Int32)), (.int (0 : Int32))]) :: []) := H23
    have H24 := H23.frontA 3 rfl
    replace H24 : own_H Z h16 (own_SD a6 (.ref da11) (.ref sa10) (.int (0 : Int32)) :: own_SD a15 (.ref da20) (.ref sa19) (.int (0 : Int32)) :: []) ((da11, .int, "[I", [(.int (0 : Int32)), (.int (0 : Int32)), (.int (0 : Int32)), (.int (0 : Int32))]) :: (sa10, .double, "[D", [(.double (0 : UInt64)), (.double (0 : UInt64)), (.double (0 : UInt64)), (.double (0 : UInt64))]) :: (sa19, .double, "[D", [(.double (0 : UInt64)), (.double (0 : UInt64)), (.double (0 : UInt64)), (.double (0 : UInt64))]) :: (da20, .int, "[I", [(.int (0 : Int32)), (.int (0 : Int32)), (.int (0 : Int32)), (.int (0 : Int32))]) :: []) := H24
    refine own_virtual K own_d7_177 (own_w32 hw) (own_w33 hw) (own_w35 hw) (own_w34 hw) (own_w7 hw) (own_w36 hw) (H24.atO (i := 0) rfl) (a := a6) (argsL := [(.int r0), (.double s0)]) (rest := []) (own_add0 hw H24) own_pd4 rfl rfl rfl (by decide) (W := 0) (Nat.le_of_eq rfl) (by decide) (by decide) (by decide) (by decide) ?_
    intro v27 h25 q26
    obtain ⟨rfl, H28⟩ := q26
    replace H28 : own_H Z h25 (own_SD a6 (.ref da11) (.ref sa10) (.int (1 : Int32)) :: own_SD a15 (.ref da20) (.ref sa19) (.int (0 : Int32)) :: []) ((da11, .int, "[I", [(.int r0), (.int (0 : Int32)), (.int (0 : Int32)), (.int (0 : Int32))]) :: (sa10, .double, "[D", [(.double s0), (.double (0 : UInt64)), (.double (0 : UInt64)), (.double (0 : UInt64))]) :: (sa19, .double, "[D", [(.double (0 : UInt64)), (.double (0 : UInt64)), (.double (0 : UInt64)), (.double (0 : UInt64))]) :: (da20, .int, "[I", [(.int (0 : Int32)), (.int (0 : Int32)), (.int (0 : Int32)), (.int (0 : Int32))]) :: []) := H28
    refine own_iload K own_d7_180 rfl ?_
    refine own_iconst K own_d7_182 (v := (1 : Int32)) rfl ?_
    refine own_icmple K own_d7_183 (fun _ => ?_) (fun q => absurd (by decide) q)
    refine own_iload K own_d7_195 rfl ?_
    refine own_ifle K own_d7_197 (fun q => absurd q (by decide)) (fun _ => ?_)
    refine own_aload K own_d7_200 rfl rfl ?_
    refine own_iload K own_d7_202 rfl ?_
    refine own_dload K own_d7_204 rfl ?_
    have H29 := H28.frontO 1 rfl
    replace H29 : own_H Z h25 (own_SD a15 (.ref da20) (.ref sa19) (.int (0 : Int32)) :: own_SD a6 (.ref da11) (.ref sa10) (.int (1 : Int32)) :: []) ((da11, .int, "[I", [(.int r0), (.int (0 : Int32)), (.int (0 : Int32)), (.int (0 : Int32))]) :: (sa10, .double, "[D", [(.double s0), (.double (0 : UInt64)), (.double (0 : UInt64)), (.double (0 : UInt64))]) :: (sa19, .double, "[D", [(.double (0 : UInt64)), (.double (0 : UInt64)), (.double (0 : UInt64)), (.double (0 : UInt64))]) :: (da20, .int, "[I", [(.int (0 : Int32)), (.int (0 : Int32)), (.int (0 : Int32)), (.int (0 : Int32))]) :: []) := H29
    have H30 := H29.frontA 2 rfl
    replace H30 : own_H Z h25 (own_SD a15 (.ref da20) (.ref sa19) (.int (0 : Int32)) :: own_SD a6 (.ref da11) (.ref sa10) (.int (1 : Int32)) :: []) ((sa19, .double, "[D", [(.double (0 : UInt64)), (.double (0 : UInt64)), (.double (0 : UInt64)), (.double (0 : UInt64))]) :: (da11, .int, "[I", [(.int r0), (.int (0 : Int32)), (.int (0 : Int32)), (.int (0 : Int32))]) :: (sa10, .double, "[D", [(.double s0), (.double (0 : UInt64)), (.double (0 : UInt64)), (.double (0 : UInt64))]) :: (da20, .int, "[I", [(.int (0 : Int32)), (.int (0 : Int32)), (.int (0 : Int32)), (.int (0 : Int32))]) :: []) := H30
    have H31 := H30.frontA 3 rfl
    replace H31 : own_H Z h25 (own_SD a15 (.ref da20) (.ref sa19) (.int (0 : Int32)) :: own_SD a6 (.ref da11) (.ref sa10) (.int (1 : Int32)) :: []) ((da20, .int, "[I", [(.int (0 : Int32)), (.int (0 : Int32)), (.int (0 : Int32)), (.int (0 : Int32))]) :: (sa19, .double, "[D", [(.double (0 : UInt64)), (.double (0 : UInt64)), (.double (0 : UInt64)), (.double (0 : UInt64))]) :: (da11, .int, "[I", [(.int r0), (.int (0 : Int32)), (.int (0 : Int32)), (.int (0 : Int32))]) :: (sa10, .double, "[D", [(.double s0), (.double (0 : UInt64)), (.double (0 : UInt64)), (.double (0 : UInt64))]) :: []) := H31
    refine own_virtual K own_d7_206 (own_w32 hw) (own_w33 hw) (own_w35 hw) (own_w34 hw) (own_w7 hw) (own_w36 hw) (H31.atO (i := 0) rfl) (a := a15) (argsL := [(.int e0), (.double f0)]) (rest := []) (own_add0 hw H31) own_pd4 rfl rfl rfl (by decide) (W := 0) (Nat.le_of_eq rfl) (by decide) (by decide) (by decide) (by decide) ?_
    intro v34 h32 q33
    obtain ⟨rfl, H35⟩ := q33
    replace H35 : own_H Z h32 (own_SD a15 (.ref da20) (.ref sa19) (.int (1 : Int32)) :: own_SD a6 (.ref da11) (.ref sa10) (.int (1 : Int32)) :: []) ((da20, .int, "[I", [(.int e0), (.int (0 : Int32)), (.int (0 : Int32)), (.int (0 : Int32))]) :: (sa19, .double, "[D", [(.double f0), (.double (0 : UInt64)), (.double (0 : UInt64)), (.double (0 : UInt64))]) :: (da11, .int, "[I", [(.int r0), (.int (0 : Int32)), (.int (0 : Int32)), (.int (0 : Int32))]) :: (sa10, .double, "[D", [(.double s0), (.double (0 : UInt64)), (.double (0 : UInt64)), (.double (0 : UInt64))]) :: []) := H35
    refine own_iload K own_d7_209 rfl ?_
    refine own_iconst K own_d7_211 (v := (1 : Int32)) rfl ?_
    refine own_icmple K own_d7_212 (fun q => absurd q (by decide)) (fun _ => ?_)
    refine own_aload K own_d7_215 rfl rfl ?_
    refine own_iload K own_d7_217 rfl ?_
    refine own_dload K own_d7_219 rfl ?_
    have H36 := H35.frontA 1 rfl
    replace H36 : own_H Z h32 (own_SD a15 (.ref da20) (.ref sa19) (.int (1 : Int32)) :: own_SD a6 (.ref da11) (.ref sa10) (.int (1 : Int32)) :: []) ((sa19, .double, "[D", [(.double f0), (.double (0 : UInt64)), (.double (0 : UInt64)), (.double (0 : UInt64))]) :: (da20, .int, "[I", [(.int e0), (.int (0 : Int32)), (.int (0 : Int32)), (.int (0 : Int32))]) :: (da11, .int, "[I", [(.int r0), (.int (0 : Int32)), (.int (0 : Int32)), (.int (0 : Int32))]) :: (sa10, .double, "[D", [(.double s0), (.double (0 : UInt64)), (.double (0 : UInt64)), (.double (0 : UInt64))]) :: []) := H36
    have H37 := H36.frontA 1 rfl
    replace H37 : own_H Z h32 (own_SD a15 (.ref da20) (.ref sa19) (.int (1 : Int32)) :: own_SD a6 (.ref da11) (.ref sa10) (.int (1 : Int32)) :: []) ((da20, .int, "[I", [(.int e0), (.int (0 : Int32)), (.int (0 : Int32)), (.int (0 : Int32))]) :: (sa19, .double, "[D", [(.double f0), (.double (0 : UInt64)), (.double (0 : UInt64)), (.double (0 : UInt64))]) :: (da11, .int, "[I", [(.int r0), (.int (0 : Int32)), (.int (0 : Int32)), (.int (0 : Int32))]) :: (sa10, .double, "[D", [(.double s0), (.double (0 : UInt64)), (.double (0 : UInt64)), (.double (0 : UInt64))]) :: []) := H37
    refine own_virtual K own_d7_221 (own_w32 hw) (own_w33 hw) (own_w35 hw) (own_w34 hw) (own_w7 hw) (own_w36 hw) (H37.atO (i := 0) rfl) (a := a15) (argsL := [(.int e1), (.double f1)]) (rest := []) (own_add1 hw H37) own_pd4 rfl rfl rfl (by decide) (W := 0) (Nat.le_of_eq rfl) (by decide) (by decide) (by decide) (by decide) ?_
    intro v40 h38 q39
    obtain ⟨rfl, H41⟩ := q39
    replace H41 : own_H Z h38 (own_SD a15 (.ref da20) (.ref sa19) (.int (2 : Int32)) :: own_SD a6 (.ref da11) (.ref sa10) (.int (1 : Int32)) :: []) ((da20, .int, "[I", [(.int e0), (.int e1), (.int (0 : Int32)), (.int (0 : Int32))]) :: (sa19, .double, "[D", [(.double f0), (.double f1), (.double (0 : UInt64)), (.double (0 : UInt64))]) :: (da11, .int, "[I", [(.int r0), (.int (0 : Int32)), (.int (0 : Int32)), (.int (0 : Int32))]) :: (sa10, .double, "[D", [(.double s0), (.double (0 : UInt64)), (.double (0 : UInt64)), (.double (0 : UInt64))]) :: []) := H41
    refine own_iload K own_d7_224 rfl ?_
    refine own_iconst K own_d7_226 (v := (2 : Int32)) rfl ?_
    refine own_icmple K own_d7_227 (fun q => absurd q (by decide)) (fun _ => ?_)
    refine own_aload K own_d7_230 rfl rfl ?_
    refine own_iload K own_d7_232 rfl ?_
    refine own_dload K own_d7_234 rfl ?_
    have H42 := H41.frontA 1 rfl
    replace H42 : own_H Z h38 (own_SD a15 (.ref da20) (.ref sa19) (.int (2 : Int32)) :: own_SD a6 (.ref da11) (.ref sa10) (.int (1 : Int32)) :: []) ((sa19, .double, "[D", [(.double f0), (.double f1), (.double (0 : UInt64)), (.double (0 : UInt64))]) :: (da20, .int, "[I", [(.int e0), (.int e1), (.int (0 : Int32)), (.int (0 : Int32))]) :: (da11, .int, "[I", [(.int r0), (.int (0 : Int32)), (.int (0 : Int32)), (.int (0 : Int32))]) :: (sa10, .double, "[D", [(.double s0), (.double (0 : UInt64)), (.double (0 : UInt64)), (.double (0 : UInt64))]) :: []) := H42
    have H43 := H42.frontA 1 rfl
    replace H43 : own_H Z h38 (own_SD a15 (.ref da20) (.ref sa19) (.int (2 : Int32)) :: own_SD a6 (.ref da11) (.ref sa10) (.int (1 : Int32)) :: []) ((da20, .int, "[I", [(.int e0), (.int e1), (.int (0 : Int32)), (.int (0 : Int32))]) :: (sa19, .double, "[D", [(.double f0), (.double f1), (.double (0 : UInt64)), (.double (0 : UInt64))]) :: (da11, .int, "[I", [(.int r0), (.int (0 : Int32)), (.int (0 : Int32)), (.int (0 : Int32))]) :: (sa10, .double, "[D", [(.double s0), (.double (0 : UInt64)), (.double (0 : UInt64)), (.double (0 : UInt64))]) :: []) := H43
    refine own_virtual K own_d7_236 (own_w32 hw) (own_w33 hw) (own_w35 hw) (own_w34 hw) (own_w7 hw) (own_w36 hw) (H43.atO (i := 0) rfl) (a := a15) (argsL := [(.int e2), (.double f2)]) (rest := []) (own_add2 hw H43) own_pd4 rfl rfl rfl (by decide) (W := 0) (Nat.le_of_eq rfl) (by decide) (by decide) (by decide) (by decide) ?_
    intro v46 h44 q45
    obtain ⟨rfl, H47⟩ := q45
    replace H47 : own_H Z h44 (own_SD a15 (.ref da20) (.ref sa19) (.int (3 : Int32)) :: own_SD a6 (.ref da11) (.ref sa10) (.int (1 : Int32)) :: []) ((da20, .int, "[I", [(.int e0), (.int e1), (.int e2), (.int (0 : Int32))]) :: (sa19, .double, "[D", [(.double f0), (.double f1), (.double f2), (.double (0 : UInt64))]) :: (da11, .int, "[I", [(.int r0), (.int (0 : Int32)), (.int (0 : Int32)), (.int (0 : Int32))]) :: (sa10, .double, "[D", [(.double s0), (.double (0 : UInt64)), (.double (0 : UInt64)), (.double (0 : UInt64))]) :: []) := H47
    refine own_aload K own_d7_239 rfl rfl ?_
    refine own_aload K own_d7_241 rfl rfl ?_
    have H48 := H47.frontO 1 rfl
    replace H48 : own_H Z h44 (own_SD a6 (.ref da11) (.ref sa10) (.int (1 : Int32)) :: own_SD a15 (.ref da20) (.ref sa19) (.int (3 : Int32)) :: []) ((da20, .int, "[I", [(.int e0), (.int e1), (.int e2), (.int (0 : Int32))]) :: (sa19, .double, "[D", [(.double f0), (.double f1), (.double f2), (.double (0 : UInt64))]) :: (da11, .int, "[I", [(.int r0), (.int (0 : Int32)), (.int (0 : Int32)), (.int (0 : Int32))]) :: (sa10, .double, "[D", [(.double s0), (.double (0 : UInt64)), (.double (0 : UInt64)), (.double (0 : UInt64))]) :: []) := H48
    have H49 := H48.frontA 1 rfl
    replace H49 : own_H Z h44 (own_SD a6 (.ref da11) (.ref sa10) (.int (1 : Int32)) :: own_SD a15 (.ref da20) (.ref sa19) (.int (3 : Int32)) :: []) ((sa19, .double, "[D", [(.double f0), (.double f1), (.double f2), (.double (0 : UInt64))]) :: (da20, .int, "[I", [(.int e0), (.int e1), (.int e2), (.int (0 : Int32))]) :: (da11, .int, "[I", [(.int r0), (.int (0 : Int32)), (.int (0 : Int32)), (.int (0 : Int32))]) :: (sa10, .double, "[D", [(.double s0), (.double (0 : UInt64)), (.double (0 : UInt64)), (.double (0 : UInt64))]) :: []) := H49
    have H50 := H49.frontA 1 rfl
    replace H50 : own_H Z h44 (own_SD a6 (.ref da11) (.ref sa10) (.int (1 : Int32)) :: own_SD a15 (.ref da20) (.ref sa19) (.int (3 : Int32)) :: []) ((da20, .int, "[I", [(.int e0), (.int e1), (.int e2), (.int (0 : Int32))]) :: (sa19, .double, "[D", [(.double f0), (.double f1), (.double f2), (.double (0 : UInt64))]) :: (da11, .int, "[I", [(.int r0), (.int (0 : Int32)), (.int (0 : Int32)), (.int (0 : Int32))]) :: (sa10, .double, "[D", [(.double s0), (.double (0 : UInt64)), (.double (0 : UInt64)), (.double (0 : UInt64))]) :: []) := H50
    have H51 := H50.frontA 3 rfl
    replace H51 : own_H Z h44 (own_SD a6 (.ref da11) (.ref sa10) (.int (1 : Int32)) :: own_SD a15 (.ref da20) (.ref sa19) (.int (3 : Int32)) :: []) ((sa10, .double, "[D", [(.double s0), (.double (0 : UInt64)), (.double (0 : UInt64)), (.double (0 : UInt64))]) :: (da20, .int, "[I", [(.int e0), (.int e1), (.int e2), (.int (0 : Int32))]) :: (sa19, .double, "[D", [(.double f0), (.double f1), (.double f2), (.double (0 : UInt64))]) :: (da11, .int, "[I", [(.int r0), (.int (0 : Int32)), (.int (0 : Int32)), (.int (0 : Int32))]) :: []) := H51
    have H52 := H51.frontA 3 rfl
    replace H52 : own_H Z h44 (own_SD a6 (.ref da11) (.ref sa10) (.int (1 : Int32)) :: own_SD a15 (.ref da20) (.ref sa19) (.int (3 : Int32)) :: []) ((da11, .int, "[I", [(.int r0), (.int (0 : Int32)), (.int (0 : Int32)), (.int (0 : Int32))]) :: (sa10, .double, "[D", [(.double s0), (.double (0 : UInt64)), (.double (0 : UInt64)), (.double (0 : UInt64))]) :: (da20, .int, "[I", [(.int e0), (.int e1), (.int e2), (.int (0 : Int32))]) :: (sa19, .double, "[D", [(.double f0), (.double f1), (.double f2), (.double (0 : UInt64))]) :: []) := H52
    refine own_virtual K own_d7_243 (own_w20 hw) (own_w21 hw) (own_w23 hw) (own_w22 hw) (own_w7 hw) (own_w24 hw) (H52.atO (i := 0) rfl) (a := a6) (argsL := [(.ref a15)]) (rest := []) (own_adds_1_3 hw H52 Fs0 Ff0 Ff1 Ff2 e1_0.1 e2_0) own_pd2 rfl rfl rfl (by decide) (W := 0) (Nat.le_of_eq rfl) (by decide) (by decide) (by decide) (by decide) ?_
    intro v55 h53 q54
    obtain ⟨rfl, H56⟩ := q54
    replace H56 : own_H Z h53 (own_SD a6 (.ref da11) (.ref sa10) (.int (1 : Int32)) :: own_SD a15 (.ref da20) (.ref sa19) (.int (3 : Int32)) :: []) ((da11, .int, "[I", [(.int r0), (.int (0 : Int32)), (.int (0 : Int32)), (.int (0 : Int32))]) :: (sa10, .double, "[D", [(.double (if e0 = r0 then FP.dadd s0 f0 else (if e1 = r0 then FP.dadd s0 f1 else (if e2 = r0 then FP.dadd s0 f2 else s0)))), (.double (0 : UInt64)), (.double (0 : UInt64)), (.double (0 : UInt64))]) :: (da20, .int, "[I", [(.int e0), (.int e1), (.int e2), (.int (0 : Int32))]) :: (sa19, .double, "[D", [(.double f0), (.double f1), (.double f2), (.double (0 : UInt64))]) :: []) := H56
    refine own_aload K own_d7_246 rfl rfl ?_
    refine own_virtual K own_d7_248 (own_w27 hw) (own_w28 hw) (own_w30 hw) (own_w29 hw) (own_w7 hw) (own_w31 hw) (H56.atO (i := 0) rfl) (a := a6) (argsL := []) (rest := []) (own_size hw H56) own_pd3 rfl rfl rfl (by decide) (W := 0) (Nat.le_of_eq rfl) (by decide) (by decide) (by decide) (by decide) ?_
    intro v59 h57 q58
    obtain ⟨rfl, rfl⟩ := q58
    refine own_iload K own_d7_251 rfl ?_
    refine own_icmpeq K own_d7_253 (fun _ => ?_) (fun q => absurd (by decide) q)
    refine own_iconst K own_d7_258 (v := (1 : Int32)) rfl ?_
    refine own_istore K own_d7_259 (Ls' := #[.val (.int i0), .val (.int i1), .val (.int i2), .val (.int i3), .val (.int i4), .val (.int i5), .val (.int (1 : Int32)), .val (.int (3 : Int32)), .val (.int bb), .val (.int r0), .val (.int r1), .val (.int e0), .val (.int e1), .val (.int e2), .val (.double s0), .second, .val (.double s1), .second, .val (.double f0), .second, .val (.double f1), .second, .val (.double f2), .second, .val (.ref a6), .val (.ref a15), .val (.int (1 : Int32))]) rfl ?_
    refine own_iload K own_d7_261 rfl ?_
    refine own_ifle K own_d7_263 (fun q => absurd q (by decide)) (fun _ => ?_)
    refine own_iload K own_d7_266 rfl ?_
    refine own_ifeq K own_d7_268 (fun q => absurd q (by decide)) (fun _ => ?_)
    refine own_aload K own_d7_271 rfl rfl ?_
    refine own_iconst K own_d7_273 (v := (0 : Int32)) rfl ?_
    have H60 := H56.frontA 1 rfl
    replace H60 : own_H Z h53 (own_SD a6 (.ref da11) (.ref sa10) (.int (1 : Int32)) :: own_SD a15 (.ref da20) (.ref sa19) (.int (3 : Int32)) :: []) ((sa10, .double, "[D", [(.double (if e0 = r0 then FP.dadd s0 f0 else (if e1 = r0 then FP.dadd s0 f1 else (if e2 = r0 then FP.dadd s0 f2 else s0)))), (.double (0 : UInt64)), (.double (0 : UInt64)), (.double (0 : UInt64))]) :: (da11, .int, "[I", [(.int r0), (.int (0 : Int32)), (.int (0 : Int32)), (.int (0 : Int32))]) :: (da20, .int, "[I", [(.int e0), (.int e1), (.int e2), (.int (0 : Int32))]) :: (sa19, .double, "[D", [(.double f0), (.double f1), (.double f2), (.double (0 : UInt64))]) :: []) := H60
    refine own_virtual K own_d7_274 (own_w37 hw) (own_w38 hw) (own_w40 hw) (own_w39 hw) (own_w7 hw) (own_w41 hw) (H60.atO (i := 0) rfl) (a := a6) (argsL := [(.int (0 : Int32))]) (rest := []) (own_score hw H60 (q := 0) rfl rfl) own_pd5 rfl rfl rfl (by decide) (W := 0) (Nat.le_of_eq rfl) (by decide) (by decide) (by decide) (by decide) ?_
    intro v63 h61 q62
    obtain ⟨rfl, rfl⟩ := q62
    refine own_iload K own_d7_277 rfl ?_
    refine own_dload K own_d7_279 rfl ?_
    refine own_iload K own_d7_281 rfl ?_
    refine own_iload K own_d7_283 rfl ?_
    refine own_iload K own_d7_285 rfl ?_
    refine own_iload K own_d7_287 rfl ?_
    refine own_dload K own_d7_289 rfl ?_
    refine own_dload K own_d7_291 rfl ?_
    refine own_dload K own_d7_293 rfl ?_
    refine own_static K own_d7_295 (own_w42 hw) (own_w43 hw) (own_w44 hw) (own_w45 hw) (argsL := [(.int r0), (.double s0), (.int (3 : Int32)), (.int e0), (.int e1), (.int e2), (.double f0), (.double f1), (.double f2)]) (rest := [(.double (if e0 = r0 then FP.dadd s0 f0 else (if e1 = r0 then FP.dadd s0 f1 else (if e2 = r0 then FP.dadd s0 f2 else s0))))]) (own_exp3 hw Fs0 Ff0 Ff1 Ff2) own_pd6 rfl rfl rfl (by decide) (W := 2) (Nat.le_of_eq rfl) (by decide) (by decide) (by decide) (by decide) ?_
    intro v66 h64 q65
    obtain ⟨rfl, rfl⟩ := q65
    refine own_dcmp K own_d7_298 ?_
    refine own_ifne K own_d7_299 (fun q => absurd q (fun z => z (dcmpV_self (own_expnn 0 Fs0 Ff0 Ff1 Ff2 (e0 = r0) (e1 = r0) (e2 = r0)).2.2.2 _))) (fun _ => ?_)
    refine own_iconst K own_d7_302 (v := (1 : Int32)) rfl ?_
    refine own_goto K own_d7_303 ?_
    refine own_istore K own_d7_307 (Ls' := #[.val (.int i0), .val (.int i1), .val (.int i2), .val (.int i3), .val (.int i4), .val (.int i5), .val (.int (1 : Int32)), .val (.int (3 : Int32)), .val (.int bb), .val (.int r0), .val (.int r1), .val (.int e0), .val (.int e1), .val (.int e2), .val (.double s0), .second, .val (.double s1), .second, .val (.double f0), .second, .val (.double f1), .second, .val (.double f2), .second, .val (.ref a6), .val (.ref a15), .val (.int (1 : Int32))]) rfl ?_
    refine own_iload K own_d7_309 rfl ?_
    refine own_iconst K own_d7_311 (v := (1 : Int32)) rfl ?_
    refine own_icmple K own_d7_312 (fun _ => ?_) (fun q => absurd (by decide) q)
    refine own_iload K own_d7_358 rfl ?_
    exact own_retZ K (by first | exact Or.inl rfl | exact Or.inr rfl | decide) own_d7_360 (by decide) (by decide) (rfl)
  · refine own_iloadN K own_d7_0 rfl ?_
    refine own_iconst K own_d7_1 (v := (3 : Int32)) rfl ?_
    refine own_iand K own_d7_2 ?_
    refine own_iconst K own_d7_3 (v := (3 : Int32)) rfl ?_
    refine own_irem K own_d7_4 (by decide) ?_
    refine own_topI (x' := (2 : Int32)) (q) ?_
    refine own_istore K own_d7_5 (Ls' := #[.val (.int i0), .val (.int i1), .val (.int i2), .val (.int i3), .val (.int i4), .val (.int i5), .val (.int (2 : Int32)), .unset, .unset, .unset, .unset, .unset, .unset, .unset, .unset, .unset, .unset, .unset, .unset, .unset, .unset, .unset, .unset, .unset, .unset, .unset, .unset]) rfl ?_
    refine own_iloadN K own_d7_7 rfl ?_
    refine own_iconst K own_d7_8 (v := (2 : Int32)) rfl ?_
    refine own_iushr K own_d7_9 ?_
    refine own_iconst K own_d7_10 (v := (3 : Int32)) rfl ?_
    refine own_iand K own_d7_11 ?_
    refine own_topI (x' := (0 : Int32)) (q') ?_
    refine own_istore K own_d7_12 (Ls' := #[.val (.int i0), .val (.int i1), .val (.int i2), .val (.int i3), .val (.int i4), .val (.int i5), .val (.int (2 : Int32)), .val (.int (0 : Int32)), .unset, .unset, .unset, .unset, .unset, .unset, .unset, .unset, .unset, .unset, .unset, .unset, .unset, .unset, .unset, .unset, .unset, .unset, .unset]) rfl ?_
    refine own_iloadN K own_d7_14 rfl ?_
    refine own_ldcI K own_d7_15 (v := (2147483627 : Int32)) (own_w0 hw) ?_
    refine own_static K own_d7_17 (own_w1 hw) (own_w2 hw) (own_w3 hw) (own_w4 hw) (argsL := [(.int i3), (.int (2147483627 : Int32))]) (rest := []) (own_min hw) own_pd0 rfl rfl rfl (by decide) (W := 0) (Nat.le_of_eq rfl) (by decide) (by decide) (by decide) (by decide) ?_
    intro v3 h1 q2
    obtain ⟨⟨bb, rfl, hbb⟩, rfl⟩ := q2
    replace hbb : bb.toInt ≤ 2147483627 := hbb
    refine own_istore K own_d7_20 (Ls' := #[.val (.int i0), .val (.int i1), .val (.int i2), .val (.int i3), .val (.int i4), .val (.int i5), .val (.int (2 : Int32)), .val (.int (0 : Int32)), .val (.int bb), .unset, .unset, .unset, .unset, .unset, .unset, .unset, .unset, .unset, .unset, .unset, .unset, .unset, .unset, .unset, .unset, .unset, .unset]) rfl ?_
    refine own_iload K own_d7_22 rfl ?_
    refine own_iloadN K own_d7_24 rfl ?_
    refine own_iconst K own_d7_25 (v := (3 : Int32)) rfl ?_
    refine own_iand K own_d7_26 ?_
    refine own_iadd K own_d7_27 ?_
    obtain ⟨r0, e_r0⟩ : ∃ z : Int32, z = (bb + (i1 &&& (3 : Int32))) := ⟨_, rfl⟩
    have r0_0 : r0.toInt ≤ 2147483630 := by rw [e_r0]; exact own_a0 _ hbb (by decide)
    refine own_topI (x' := r0) (e_r0.symm) ?_
    refine own_istore K own_d7_28 (Ls' := #[.val (.int i0), .val (.int i1), .val (.int i2), .val (.int i3), .val (.int i4), .val (.int i5), .val (.int (2 : Int32)), .val (.int (0 : Int32)), .val (.int bb), .val (.int r0), .unset, .unset, .unset, .unset, .unset, .unset, .unset, .unset, .unset, .unset, .unset, .unset, .unset, .unset, .unset, .unset, .unset]) rfl ?_
    refine own_iload K own_d7_30 rfl ?_
    refine own_iconst K own_d7_32 (v := (1 : Int32)) rfl ?_
    refine own_iadd K own_d7_33 ?_
    refine own_iloadN K own_d7_34 rfl ?_
    refine own_iconst K own_d7_35 (v := (2 : Int32)) rfl ?_
    refine own_ishr K own_d7_36 ?_
    refine own_iconst K own_d7_37 (v := (3 : Int32)) rfl ?_
    refine own_iand K own_d7_38 ?_
    refine own_iadd K own_d7_39 ?_
    obtain ⟨r1, e_r1⟩ : ∃ z : Int32, z = ((r0 + (1 : Int32)) + ((i1 >>> ((2 : Int32) &&& 31)) &&& (3 : Int32))) := ⟨_, rfl⟩
    have r1_0 : r0.toInt < r1.toInt := by rw [e_r1]; exact (own_a1 _ r0_0 (by decide)).1
    refine own_topI (x' := r1) (e_r1.symm) ?_
    refine own_istore K own_d7_40 (Ls' := #[.val (.int i0), .val (.int i1), .val (.int i2), .val (.int i3), .val (.int i4), .val (.int i5), .val (.int (2 : Int32)), .val (.int (0 : Int32)), .val (.int bb), .val (.int r0), .val (.int r1), .unset, .unset, .unset, .unset, .unset, .unset, .unset, .unset, .unset, .unset, .unset, .unset, .unset, .unset, .unset, .unset]) rfl ?_
    refine own_iload K own_d7_42 rfl ?_
    refine own_iloadN K own_d7_44 rfl ?_
    refine own_iconst K own_d7_45 (v := (3 : Int32)) rfl ?_
    refine own_iand K own_d7_46 ?_
    refine own_iadd K own_d7_47 ?_
    obtain ⟨e0, e_e0⟩ : ∃ z : Int32, z = (bb + (i2 &&& (3 : Int32))) := ⟨_, rfl⟩
    have e0_0 : e0.toInt ≤ 2147483630 := by rw [e_e0]; exact own_a0 _ hbb (by decide)
    refine own_topI (x' := e0) (e_e0.symm) ?_
    refine own_istore K own_d7_48 (Ls' := #[.val (.int i0), .val (.int i1), .val (.int i2), .val (.int i3), .val (.int i4), .val (.int i5), .val (.int (2 : Int32)), .val (.int (0 : Int32)), .val (.int bb), .val (.int r0), .val (.int r1), .val (.int e0), .unset, .unset, .unset, .unset, .unset, .unset, .unset, .unset, .unset, .unset, .unset, .unset, .unset, .unset, .unset]) rfl ?_
    refine own_iload K own_d7_50 rfl ?_
    refine own_iconst K own_d7_52 (v := (1 : Int32)) rfl ?_
    refine own_iadd K own_d7_53 ?_
    refine own_iloadN K own_d7_54 rfl ?_
    refine own_iconst K own_d7_55 (v := (2 : Int32)) rfl ?_
    refine own_ishr K own_d7_56 ?_
    refine own_iconst K own_d7_57 (v := (3 : Int32)) rfl ?_
    refine own_iand K own_d7_58 ?_
    refine own_iadd K own_d7_59 ?_
    obtain ⟨e1, e_e1⟩ : ∃ z : Int32, z = ((e0 + (1 : Int32)) + ((i2 >>> ((2 : Int32) &&& 31)) &&& (3 : Int32))) := ⟨_, rfl⟩
    have e1_0 : e0.toInt < e1.toInt ∧ e1.toInt ≤ 2147483634 := by rw [e_e1]; exact own_a1 _ e0_0 (by decide)
    refine own_topI (x' := e1) (e_e1.symm) ?_
    refine own_istore K own_d7_60 (Ls' := #[.val (.int i0), .val (.int i1), .val (.int i2), .val (.int i3), .val (.int i4), .val (.int i5), .val (.int (2 : Int32)), .val (.int (0 : Int32)), .val (.int bb), .val (.int r0), .val (.int r1), .val (.int e0), .val (.int e1), .unset, .unset, .unset, .unset, .unset, .unset, .unset, .unset, .unset, .unset, .unset, .unset, .unset, .unset]) rfl ?_
    refine own_iload K own_d7_62 rfl ?_
    refine own_iconst K own_d7_64 (v := (1 : Int32)) rfl ?_
    refine own_iadd K own_d7_65 ?_
    refine own_iloadN K own_d7_66 rfl ?_
    refine own_iconst K own_d7_67 (v := (4 : Int32)) rfl ?_
    refine own_ishr K own_d7_68 ?_
    refine own_iconst K own_d7_69 (v := (3 : Int32)) rfl ?_
    refine own_iand K own_d7_70 ?_
    refine own_iadd K own_d7_71 ?_
    obtain ⟨e2, e_e2⟩ : ∃ z : Int32, z = ((e1 + (1 : Int32)) + ((i2 >>> ((4 : Int32) &&& 31)) &&& (3 : Int32))) := ⟨_, rfl⟩
    have e2_0 : e1.toInt < e2.toInt := by rw [e_e2]; exact (own_a1 _ e1_0.2 (by decide)).1
    refine own_topI (x' := e2) (e_e2.symm) ?_
    refine own_istore K own_d7_72 (Ls' := #[.val (.int i0), .val (.int i1), .val (.int i2), .val (.int i3), .val (.int i4), .val (.int i5), .val (.int (2 : Int32)), .val (.int (0 : Int32)), .val (.int bb), .val (.int r0), .val (.int r1), .val (.int e0), .val (.int e1), .val (.int e2), .unset, .unset, .unset, .unset, .unset, .unset, .unset, .unset, .unset, .unset, .unset, .unset, .unset]) rfl ?_
    refine own_iload K own_d7_74 rfl ?_
    refine own_sipush K own_d7_76 (v := (255 : Int32)) rfl ?_
    refine own_iand K own_d7_79 ?_
    refine own_sipush K own_d7_80 (v := (128 : Int32)) rfl ?_
    refine own_isub K own_d7_83 ?_
    refine own_i2d K own_d7_84 ?_
    obtain ⟨s0, e_s0, Fs0⟩ : ∃ z : UInt64, z = (FP.i2d ((i4 &&& (255 : Int32)) - (128 : Int32))) ∧ Fl.Fin64 z := ⟨_, rfl, Fl.i2d_fin _⟩
    refine own_topD (x' := s0) (e_s0.symm) ?_
    refine own_dstore K own_d7_85 (Ls' := #[.val (.int i0), .val (.int i1), .val (.int i2), .val (.int i3), .val (.int i4), .val (.int i5), .val (.int (2 : Int32)), .val (.int (0 : Int32)), .val (.int bb), .val (.int r0), .val (.int r1), .val (.int e0), .val (.int e1), .val (.int e2), .val (.double s0), .second, .unset, .unset, .unset, .unset, .unset, .unset, .unset, .unset, .unset, .unset, .unset]) rfl ?_
    refine own_iload K own_d7_87 rfl ?_
    refine own_bipush K own_d7_89 (v := (8 : Int32)) rfl ?_
    refine own_ishr K own_d7_91 ?_
    refine own_sipush K own_d7_92 (v := (255 : Int32)) rfl ?_
    refine own_iand K own_d7_95 ?_
    refine own_sipush K own_d7_96 (v := (128 : Int32)) rfl ?_
    refine own_isub K own_d7_99 ?_
    refine own_i2d K own_d7_100 ?_
    obtain ⟨s1, e_s1, Fs1⟩ : ∃ z : UInt64, z = (FP.i2d (((i4 >>> ((8 : Int32) &&& 31)) &&& (255 : Int32)) - (128 : Int32))) ∧ Fl.Fin64 z := ⟨_, rfl, Fl.i2d_fin _⟩
    refine own_topD (x' := s1) (e_s1.symm) ?_
    refine own_dstore K own_d7_101 (Ls' := #[.val (.int i0), .val (.int i1), .val (.int i2), .val (.int i3), .val (.int i4), .val (.int i5), .val (.int (2 : Int32)), .val (.int (0 : Int32)), .val (.int bb), .val (.int r0), .val (.int r1), .val (.int e0), .val (.int e1), .val (.int e2), .val (.double s0), .second, .val (.double s1), .second, .unset, .unset, .unset, .unset, .unset, .unset, .unset, .unset, .unset]) rfl ?_
    refine own_iload K own_d7_103 rfl ?_
    refine own_sipush K own_d7_105 (v := (255 : Int32)) rfl ?_
    refine own_iand K own_d7_108 ?_
    refine own_sipush K own_d7_109 (v := (128 : Int32)) rfl ?_
    refine own_isub K own_d7_112 ?_
    refine own_i2d K own_d7_113 ?_
    obtain ⟨f0, e_f0, Ff0⟩ : ∃ z : UInt64, z = (FP.i2d ((i5 &&& (255 : Int32)) - (128 : Int32))) ∧ Fl.Fin64 z := ⟨_, rfl, Fl.i2d_fin _⟩
    refine own_topD (x' := f0) (e_f0.symm) ?_
    refine own_dstore K own_d7_114 (Ls' := #[.val (.int i0), .val (.int i1), .val (.int i2), .val (.int i3), .val (.int i4), .val (.int i5), .val (.int (2 : Int32)), .val (.int (0 : Int32)), .val (.int bb), .val (.int r0), .val (.int r1), .val (.int e0), .val (.int e1), .val (.int e2), .val (.double s0), .second, .val (.double s1), .second, .val (.double f0), .second, .unset, .unset, .unset, .unset, .unset, .unset, .unset]) rfl ?_
    refine own_iload K own_d7_116 rfl ?_
    refine own_bipush K own_d7_118 (v := (8 : Int32)) rfl ?_
    refine own_ishr K own_d7_120 ?_
    refine own_sipush K own_d7_121 (v := (255 : Int32)) rfl ?_
    refine own_iand K own_d7_124 ?_
    refine own_sipush K own_d7_125 (v := (128 : Int32)) rfl ?_
    refine own_isub K own_d7_128 ?_
    refine own_i2d K own_d7_129 ?_
    obtain ⟨f1, e_f1, Ff1⟩ : ∃ z : UInt64, z = (FP.i2d (((i5 >>> ((8 : Int32) &&& 31)) &&& (255 : Int32)) - (128 : Int32))) ∧ Fl.Fin64 z := ⟨_, rfl, Fl.i2d_fin _⟩
    refine own_topD (x' := f1) (e_f1.symm) ?_
    refine own_dstore K own_d7_130 (Ls' := #[.val (.int i0), .val (.int i1), .val (.int i2), .val (.int i3), .val (.int i4), .val (.int i5), .val (.int (2 : Int32)), .val (.int (0 : Int32)), .val (.int bb), .val (.int r0), .val (.int r1), .val (.int e0), .val (.int e1), .val (.int e2), .val (.double s0), .second, .val (.double s1), .second, .val (.double f0), .second, .val (.double f1), .second, .unset, .unset, .unset, .unset, .unset]) rfl ?_
    refine own_iload K own_d7_132 rfl ?_
    refine own_bipush K own_d7_134 (v := (16 : Int32)) rfl ?_
    refine own_ishr K own_d7_136 ?_
    refine own_sipush K own_d7_137 (v := (255 : Int32)) rfl ?_
    refine own_iand K own_d7_140 ?_
    refine own_sipush K own_d7_141 (v := (128 : Int32)) rfl ?_
    refine own_isub K own_d7_144 ?_
    refine own_i2d K own_d7_145 ?_
    obtain ⟨f2, e_f2, Ff2⟩ : ∃ z : UInt64, z = (FP.i2d (((i5 >>> ((16 : Int32) &&& 31)) &&& (255 : Int32)) - (128 : Int32))) ∧ Fl.Fin64 z := ⟨_, rfl, Fl.i2d_fin _⟩
    refine own_topD (x' := f2) (e_f2.symm) ?_
    refine own_dstore K own_d7_146 (Ls' := #[.val (.int i0), .val (.int i1), .val (.int i2), .val (.int i3), .val (.int i4), .val (.int i5), .val (.int (2 : Int32)), .val (.int (0 : Int32)), .val (.int bb), .val (.int r0), .val (.int r1), .val (.int e0), .val (.int e1), .val (.int e2), .val (.double s0), .second, .val (.double s1), .second, .val (.double f0), .second, .val (.double f1), .second, .val (.double f2), .second, .unset, .unset, .unset]) rfl ?_
    refine own_new K own_d7_148 (own_w5 hw) (own_w6 hw) (own_w7 hw) H (own_SD_F hw) (own_SD_P hw) (by decide) (by decide) ?_
    intro h4 a6 H5
    replace H5 : own_H Z h4 (own_SD a6 .null .null (.int (0 : Int32)) :: []) ([]) := H5
    refine own_dup K own_d7_151 rfl ?_
    refine own_special K own_d7_152 rfl (own_w8 hw) (own_w9 hw) (own_w7 hw) (own_w10 hw) (a := a6) (argsL := []) (rest := [(.ref a6)]) (own_init hw H5) own_pd1 rfl rfl rfl (by decide) (W := 1) (Nat.le_of_eq rfl) (by decide) (by decide) (by decide) (by decide) ?_
    intro v9 h7 q8
    obtain ⟨rfl, sa10, da11, H12⟩ := q8
    replace H12 : own_H Z h7 (own_SD a6 (.ref da11) (.ref sa10) (.int (0 : Int32)) :: []) ((sa10, .double, "[D", [(.double (0 : UInt64)), (.double (0 : UInt64)), (.double (0 : UInt64)), (.double (0 : UInt64))]) :: (da11, .int, "[I", [(.int (0 : Int32)), (.int (0 : Int32)), (.int (0 : Int32)), (.int (0 : Int32))]) :: []) := H12
    refine own_astore K own_d7_155 rfl (Ls' := #[.val (.int i0), .val (.int i1), .val (.int i2), .val (.int i3), .val (.int i4), .val (.int i5), .val (.int (2 : Int32)), .val (.int (0 : Int32)), .val (.int bb), .val (.int r0), .val (.int r1), .val (.int e0), .val (.int e1), .val (.int e2), .val (.double s0), .second, .val (.double s1), .second, .val (.double f0), .second, .val (.double f1), .second, .val (.double f2), .second, .val (.ref a6), .unset, .unset]) rfl ?_
    refine own_new K own_d7_157 (own_w5 hw) (own_w6 hw) (own_w7 hw) H12 (own_SD_F hw) (own_SD_P hw) (by decide) (by decide) ?_
    intro h13 a15 H14
    replace H14 : own_H Z h13 (own_SD a15 .null .null (.int (0 : Int32)) :: own_SD a6 (.ref da11) (.ref sa10) (.int (0 : Int32)) :: []) ((sa10, .double, "[D", [(.double (0 : UInt64)), (.double (0 : UInt64)), (.double (0 : UInt64)), (.double (0 : UInt64))]) :: (da11, .int, "[I", [(.int (0 : Int32)), (.int (0 : Int32)), (.int (0 : Int32)), (.int (0 : Int32))]) :: []) := H14
    refine own_dup K own_d7_160 rfl ?_
    refine own_special K own_d7_161 rfl (own_w8 hw) (own_w9 hw) (own_w7 hw) (own_w10 hw) (a := a15) (argsL := []) (rest := [(.ref a15)]) (own_init hw H14) own_pd1 rfl rfl rfl (by decide) (W := 1) (Nat.le_of_eq rfl) (by decide) (by decide) (by decide) (by decide) ?_
    intro v18 h16 q17
    obtain ⟨rfl, sa19, da20, H21⟩ := q17
    replace H21 : own_H Z h16 (own_SD a15 (.ref da20) (.ref sa19) (.int (0 : Int32)) :: own_SD a6 (.ref da11) (.ref sa10) (.int (0 : Int32)) :: []) ((sa19, .double, "[D", [(.double (0 : UInt64)), (.double (0 : UInt64)), (.double (0 : UInt64)), (.double (0 : UInt64))]) :: (da20, .int, "[I", [(.int (0 : Int32)), (.int (0 : Int32)), (.int (0 : Int32)), (.int (0 : Int32))]) :: (sa10, .double, "[D", [(.double (0 : UInt64)), (.double (0 : UInt64)), (.double (0 : UInt64)), (.double (0 : UInt64))]) :: (da11, .int, "[I", [(.int (0 : Int32)), (.int (0 : Int32)), (.int (0 : Int32)), (.int (0 : Int32))]) :: []) := H21
    refine own_astore K own_d7_164 rfl (Ls' := #[.val (.int i0), .val (.int i1), .val (.int i2), .val (.int i3), .val (.int i4), .val (.int i5), .val (.int (2 : Int32)), .val (.int (0 : Int32)), .val (.int bb), .val (.int r0), .val (.int r1), .val (.int e0), .val (.int e1), .val (.int e2), .val (.double s0), .second, .val (.double s1), .second, .val (.double f0), .second, .val (.double f1), .second, .val (.double f2), .second, .val (.ref a6), .val (.ref a15), .unset]) rfl ?_
    refine own_iload K own_d7_166 rfl ?_
    refine own_ifle K own_d7_168 (fun q => absurd q (by decide)) (fun _ => ?_)
    refine own_aload K own_d7_171 rfl rfl ?_
    refine own_iload K own_d7_173 rfl ?_
    refine own_dload K own_d7_175 rfl ?_
    have H22 := H21.frontO 1 rfl
    replace H22 : own_H Z h16 (own_SD a6 (.ref da11) (.ref sa10) (.int (0 : Int32)) :: own_SD a15 (.ref da20) (.ref sa19) (.int (0 : Int32)) :: []) ((sa19, .double, "[D", [(.double (0 : UInt64)), (.double (0 : UInt64)), (.double (0 : UInt64)), (.double (0 : UInt64))]) :: (da20, .int, "[I", [(.int (0 : Int32)), (.int (0 : Int32)), (.int (0 : Int32)), (.int (0 : Int32))]) :: (sa10, .double, "[D", [(.double (0 : UInt64)), (.double (0 : UInt64)), (.double (0 : UInt64)), (.double (0 : UInt64))]) :: (da11, .int, "[I", [(.int (0 : Int32)), (.int (0 : Int32)), (.int (0 : Int32)), (.int (0 : Int32))]) :: []) := H22
    have H23 := H22.frontA 2 rfl
    replace H23 : own_H Z h16 (own_SD a6 (.ref da11) (.ref sa10) (.int (0 : Int32)) :: own_SD a15 (.ref da20) (.ref sa19) (.int (0 : Int32)) :: []) ((sa10, .double, "[D", [(.double (0 : UInt64)), (.double (0 : UInt64)), (.double (0 : UInt64)), (.double (0 : UInt64))]) :: (sa19, .double, "[D", [(.double (0 : UInt64)), (.double (0 : UInt64)), (.double (0 : UInt64)), (.double (0 : UInt64))]) :: (da20, .int, "[I", [(.int (0 : Int32)), (.int (0 : Int32)), (.int (0 : Int32)), (.int (0 : Int32))]) :: (da11, .int, "[I", [(.int (0 : Int32)), (.int (0 : Int32)), (.int (0 : Int32)), (.int (0 : Int32))]) :: []) := H23
    have H24 := H23.frontA 3 rfl
    replace H24 : own_H Z h16 (own_SD a6 (.ref da11) (.ref sa10) (.int (0 : Int32)) :: own_SD a15 (.ref da20) (.ref sa19) (.int (0 : Int32)) :: []) ((da11, .int, "[I", [(.int (0 : Int32)), (.int (0 : Int32)), (.int (0 : Int32)), (.int (0 : Int32))]) :: (sa10, .double, "[D", [(.double (0 : UInt64)), (.double (0 : UInt64)), (.double (0 : UInt64)), (.double (0 : UInt64))]) :: (sa19, .double, "[D", [(.double (0 : UInt64)), (.double (0 : UInt64)), (.double (0 : UInt64)), (.double (0 : UInt64))]) :: (da20, .int, "[I", [(.int (0 : Int32)), (.int (0 : Int32)), (.int (0 : Int32)), (.int (0 : Int32))]) :: []) := H24
    refine own_virtual K own_d7_177 (own_w32 hw) (own_w33 hw) (own_w35 hw) (own_w34 hw) (own_w7 hw) (own_w36 hw) (H24.atO (i := 0) rfl) (a := a6) (argsL := [(.int r0), (.double s0)]) (rest := []) (own_add0 hw H24) own_pd4 rfl rfl rfl (by decide) (W := 0) (Nat.le_of_eq rfl) (by decide) (by decide) (by decide) (by decide) ?_
    intro v27 h25 q26
    obtain ⟨rfl, H28⟩ := q26
    replace H28 : own_H Z h25 (own_SD a6 (.ref da11) (.ref sa10) (.int (1 : Int32)) :: own_SD a15 (.ref da20) (.ref sa19) (.int (0 : Int32)) :: []) ((da11, .int, "[I", [(.int r0), (.int (0 : Int32)), (.int (0 : Int32)), (.int (0 : Int32))]) :: (sa10, .double, "[D", [(.double s0), (.double (0 : UInt64)), (.double (0 : UInt64)), (.double (0 : UInt64))]) :: (sa19, .double, "[D", [(.double (0 : UInt64)), (.double (0 : UInt64)), (.double (0 : UInt64)), (.double (0 : UInt64))]) :: (da20, .int, "[I", [(.int (0 : Int32)), (.int (0 : Int32)), (.int (0 : Int32)), (.int (0 : Int32))]) :: []) := H28
    refine own_iload K own_d7_180 rfl ?_
    refine own_iconst K own_d7_182 (v := (1 : Int32)) rfl ?_
    refine own_icmple K own_d7_183 (fun q => absurd q (by decide)) (fun _ => ?_)
    refine own_aload K own_d7_186 rfl rfl ?_
    refine own_iload K own_d7_188 rfl ?_
    refine own_dload K own_d7_190 rfl ?_
    have H29 := H28.frontA 1 rfl
    replace H29 : own_H Z h25 (own_SD a6 (.ref da11) (.ref sa10) (.int (1 : Int32)) :: own_SD a15 (.ref da20) (.ref sa19) (.int (0 : Int32)) :: []) ((sa10, .double, "[D", [(.double s0), (.double (0 : UInt64)), (.double (0 : UInt64)), (.double (0 : UInt64))]) :: (da11, .int, "[I", [(.int r0), (.int (0 : Int32)), (.int (0 : Int32)), (.int (0 : Int32))]) :: (sa19, .double, "[D", [(.double (0 : UInt64)), (.double (0 : UInt64)), (.double (0 : UInt64)), (.double (0 : UInt64))]) :: (da20, .int, "[I", [(.int (0 : Int32)), (.int (0 : Int32)), (.int (0 : Int32)), (.int (0 : Int32))]) :: []) := H29
    have H30 := H29.frontA 1 rfl
    replace H30 : own_H Z h25 (own_SD a6 (.ref da11) (.ref sa10) (.int (1 : Int32)) :: own_SD a15 (.ref da20) (.ref sa19) (.int (0 : Int32)) :: []) ((da11, .int, "[I", [(.int r0), (.int (0 : Int32)), (.int (0 : Int32)), (.int (0 : Int32))]) :: (sa10, .double, "[D", [(.double s0), (.double (0 : UInt64)), (.double (0 : UInt64)), (.double (0 : UInt64))]) :: (sa19, .double, "[D", [(.double (0 : UInt64)), (.double (0 : UInt64)), (.double (0 : UInt64)), (.double (0 : UInt64))]) :: (da20, .int, "[I", [(.int (0 : Int32)), (.int (0 : Int32)), (.int (0 : Int32)), (.int (0 : Int32))]) :: []) := H30
    refine own_virtual K own_d7_192 (own_w32 hw) (own_w33 hw) (own_w35 hw) (own_w34 hw) (own_w7 hw) (own_w36 hw) (H30.atO (i := 0) rfl) (a := a6) (argsL := [(.int r1), (.double s1)]) (rest := []) (own_add1 hw H30) own_pd4 rfl rfl rfl (by decide) (W := 0) (Nat.le_of_eq rfl) (by decide) (by decide) (by decide) (by decide) ?_
    intro v33 h31 q32
    obtain ⟨rfl, H34⟩ := q32
    replace H34 : own_H Z h31 (own_SD a6 (.ref da11) (.ref sa10) (.int (2 : Int32)) :: own_SD a15 (.ref da20) (.ref sa19) (.int (0 : Int32)) :: []) ((da11, .int, "[I", [(.int r0), (.int r1), (.int (0 : Int32)), (.int (0 : Int32))]) :: (sa10, .double, "[D", [(.double s0), (.double s1), (.double (0 : UInt64)), (.double (0 : UInt64))]) :: (sa19, .double, "[D", [(.double (0 : UInt64)), (.double (0 : UInt64)), (.double (0 : UInt64)), (.double (0 : UInt64))]) :: (da20, .int, "[I", [(.int (0 : Int32)), (.int (0 : Int32)), (.int (0 : Int32)), (.int (0 : Int32))]) :: []) := H34
    refine own_iload K own_d7_195 rfl ?_
    refine own_ifle K own_d7_197 (fun _ => ?_) (fun q => absurd (by decide) q)
    refine own_iload K own_d7_209 rfl ?_
    refine own_iconst K own_d7_211 (v := (1 : Int32)) rfl ?_
    refine own_icmple K own_d7_212 (fun _ => ?_) (fun q => absurd (by decide) q)
    refine own_iload K own_d7_224 rfl ?_
    refine own_iconst K own_d7_226 (v := (2 : Int32)) rfl ?_
    refine own_icmple K own_d7_227 (fun _ => ?_) (fun q => absurd (by decide) q)
    refine own_aload K own_d7_239 rfl rfl ?_
    refine own_aload K own_d7_241 rfl rfl ?_
    have H35 := H34.frontO 1 rfl
    replace H35 : own_H Z h31 (own_SD a15 (.ref da20) (.ref sa19) (.int (0 : Int32)) :: own_SD a6 (.ref da11) (.ref sa10) (.int (2 : Int32)) :: []) ((da11, .int, "[I", [(.int r0), (.int r1), (.int (0 : Int32)), (.int (0 : Int32))]) :: (sa10, .double, "[D", [(.double s0), (.double s1), (.double (0 : UInt64)), (.double (0 : UInt64))]) :: (sa19, .double, "[D", [(.double (0 : UInt64)), (.double (0 : UInt64)), (.double (0 : UInt64)), (.double (0 : UInt64))]) :: (da20, .int, "[I", [(.int (0 : Int32)), (.int (0 : Int32)), (.int (0 : Int32)), (.int (0 : Int32))]) :: []) := H35
    have H36 := H35.frontO 1 rfl
    replace H36 : own_H Z h31 (own_SD a6 (.ref da11) (.ref sa10) (.int (2 : Int32)) :: own_SD a15 (.ref da20) (.ref sa19) (.int (0 : Int32)) :: []) ((da11, .int, "[I", [(.int r0), (.int r1), (.int (0 : Int32)), (.int (0 : Int32))]) :: (sa10, .double, "[D", [(.double s0), (.double s1), (.double (0 : UInt64)), (.double (0 : UInt64))]) :: (sa19, .double, "[D", [(.double (0 : UInt64)), (.double (0 : UInt64)), (.double (0 : UInt64)), (.double (0 : UInt64))]) :: (da20, .int, "[I", [(.int (0 : Int32)), (.int (0 : Int32)), (.int (0 : Int32)), (.int (0 : Int32))]) :: []) := H36
    have H37 := H36.frontA 2 rfl
    replace H37 : own_H Z h31 (own_SD a6 (.ref da11) (.ref sa10) (.int (2 : Int32)) :: own_SD a15 (.ref da20) (.ref sa19) (.int (0 : Int32)) :: []) ((sa19, .double, "[D", [(.double (0 : UInt64)), (.double (0 : UInt64)), (.double (0 : UInt64)), (.double (0 : UInt64))]) :: (da11, .int, "[I", [(.int r0), (.int r1), (.int (0 : Int32)), (.int (0 : Int32))]) :: (sa10, .double, "[D", [(.double s0), (.double s1), (.double (0 : UInt64)), (.double (0 : UInt64))]) :: (da20, .int, "[I", [(.int (0 : Int32)), (.int (0 : Int32)), (.int (0 : Int32)), (.int (0 : Int32))]) :: []) := H37
    have H38 := H37.frontA 3 rfl
    replace H38 : own_H Z h31 (own_SD a6 (.ref da11) (.ref sa10) (.int (2 : Int32)) :: own_SD a15 (.ref da20) (.ref sa19) (.int (0 : Int32)) :: []) ((da20, .int, "[I", [(.int (0 : Int32)), (.int (0 : Int32)), (.int (0 : Int32)), (.int (0 : Int32))]) :: (sa19, .double, "[D", [(.double (0 : UInt64)), (.double (0 : UInt64)), (.double (0 : UInt64)), (.double (0 : UInt64))]) :: (da11, .int, "[I", [(.int r0), (.int r1), (.int (0 : Int32)), (.int (0 : Int32))]) :: (sa10, .double, "[D", [(.double s0), (.double s1), (.double (0 : UInt64)), (.double (0 : UInt64))]) :: []) := H38
    have H39 := H38.frontA 3 rfl
    replace H39 : own_H Z h31 (own_SD a6 (.ref da11) (.ref sa10) (.int (2 : Int32)) :: own_SD a15 (.ref da20) (.ref sa19) (.int (0 : Int32)) :: []) ((sa10, .double, "[D", [(.double s0), (.double s1), (.double (0 : UInt64)), (.double (0 : UInt64))]) :: (da20, .int, "[I", [(.int (0 : Int32)), (.int (0 : Int32)), (.int (0 : Int32)), (.int (0 : Int32))]) :: (sa19, .double, "[D", [(.double (0 : UInt64)), (.double (0 : UInt64)), (.double (0 : UInt64)), (.double (0 : UInt64))]) :: (da11, .int, "[I", [(.int r0), (.int r1), (.int (0 : Int32)), (.int (0 : Int32))]) :: []) := H39
    have H40 := H39.frontA 3 rfl
    replace H40 : own_H Z h31 (own_SD a6 (.ref da11) (.ref sa10) (.int (2 : Int32)) :: own_SD a15 (.ref da20) (.ref sa19) (.int (0 : Int32)) :: []) ((da11, .int, "[I", [(.int r0), (.int r1), (.int (0 : Int32)), (.int (0 : Int32))]) :: (sa10, .double, "[D", [(.double s0), (.double s1), (.double (0 : UInt64)), (.double (0 : UInt64))]) :: (da20, .int, "[I", [(.int (0 : Int32)), (.int (0 : Int32)), (.int (0 : Int32)), (.int (0 : Int32))]) :: (sa19, .double, "[D", [(.double (0 : UInt64)), (.double (0 : UInt64)), (.double (0 : UInt64)), (.double (0 : UInt64))]) :: []) := H40
    refine own_virtual K own_d7_243 (own_w20 hw) (own_w21 hw) (own_w23 hw) (own_w22 hw) (own_w7 hw) (own_w24 hw) (H40.atO (i := 0) rfl) (a := a6) (argsL := [(.ref a15)]) (rest := []) (own_adds_2_0 hw H40 Fs0 Fs1  r1_0) own_pd2 rfl rfl rfl (by decide) (W := 0) (Nat.le_of_eq rfl) (by decide) (by decide) (by decide) (by decide) ?_
    intro v43 h41 q42
    obtain ⟨rfl, H44⟩ := q42
    replace H44 : own_H Z h41 (own_SD a6 (.ref da11) (.ref sa10) (.int (2 : Int32)) :: own_SD a15 (.ref da20) (.ref sa19) (.int (0 : Int32)) :: []) ((da11, .int, "[I", [(.int r0), (.int r1), (.int (0 : Int32)), (.int (0 : Int32))]) :: (sa10, .double, "[D", [(.double s0), (.double s1), (.double (0 : UInt64)), (.double (0 : UInt64))]) :: (da20, .int, "[I", [(.int (0 : Int32)), (.int (0 : Int32)), (.int (0 : Int32)), (.int (0 : Int32))]) :: (sa19, .double, "[D", [(.double (0 : UInt64)), (.double (0 : UInt64)), (.double (0 : UInt64)), (.double (0 : UInt64))]) :: []) := H44
    refine own_aload K own_d7_246 rfl rfl ?_
    refine own_virtual K own_d7_248 (own_w27 hw) (own_w28 hw) (own_w30 hw) (own_w29 hw) (own_w7 hw) (own_w31 hw) (H44.atO (i := 0) rfl) (a := a6) (argsL := []) (rest := []) (own_size hw H44) own_pd3 rfl rfl rfl (by decide) (W := 0) (Nat.le_of_eq rfl) (by decide) (by decide) (by decide) (by decide) ?_
    intro v47 h45 q46
    obtain ⟨rfl, rfl⟩ := q46
    refine own_iload K own_d7_251 rfl ?_
    refine own_icmpeq K own_d7_253 (fun _ => ?_) (fun q => absurd (by decide) q)
    refine own_iconst K own_d7_258 (v := (1 : Int32)) rfl ?_
    refine own_istore K own_d7_259 (Ls' := #[.val (.int i0), .val (.int i1), .val (.int i2), .val (.int i3), .val (.int i4), .val (.int i5), .val (.int (2 : Int32)), .val (.int (0 : Int32)), .val (.int bb), .val (.int r0), .val (.int r1), .val (.int e0), .val (.int e1), .val (.int e2), .val (.double s0), .second, .val (.double s1), .second, .val (.double f0), .second, .val (.double f1), .second, .val (.double f2), .second, .val (.ref a6), .val (.ref a15), .val (.int (1 : Int32))]) rfl ?_
    refine own_iload K own_d7_261 rfl ?_
    refine own_ifle K own_d7_263 (fun q => absurd q (by decide)) (fun _ => ?_)
    refine own_iload K own_d7_266 rfl ?_
    refine own_ifeq K own_d7_268 (fun q => absurd q (by decide)) (fun _ => ?_)
    refine own_aload K own_d7_271 rfl rfl ?_
    refine own_iconst K own_d7_273 (v := (0 : Int32)) rfl ?_
    have H48 := H44.frontA 1 rfl
    replace H48 : own_H Z h41 (own_SD a6 (.ref da11) (.ref sa10) (.int (2 : Int32)) :: own_SD a15 (.ref da20) (.ref sa19) (.int (0 : Int32)) :: []) ((sa10, .double, "[D", [(.double s0), (.double s1), (.double (0 : UInt64)), (.double (0 : UInt64))]) :: (da11, .int, "[I", [(.int r0), (.int r1), (.int (0 : Int32)), (.int (0 : Int32))]) :: (da20, .int, "[I", [(.int (0 : Int32)), (.int (0 : Int32)), (.int (0 : Int32)), (.int (0 : Int32))]) :: (sa19, .double, "[D", [(.double (0 : UInt64)), (.double (0 : UInt64)), (.double (0 : UInt64)), (.double (0 : UInt64))]) :: []) := H48
    refine own_virtual K own_d7_274 (own_w37 hw) (own_w38 hw) (own_w40 hw) (own_w39 hw) (own_w7 hw) (own_w41 hw) (H48.atO (i := 0) rfl) (a := a6) (argsL := [(.int (0 : Int32))]) (rest := []) (own_score hw H48 (q := 0) rfl rfl) own_pd5 rfl rfl rfl (by decide) (W := 0) (Nat.le_of_eq rfl) (by decide) (by decide) (by decide) (by decide) ?_
    intro v51 h49 q50
    obtain ⟨rfl, rfl⟩ := q50
    refine own_iload K own_d7_277 rfl ?_
    refine own_dload K own_d7_279 rfl ?_
    refine own_iload K own_d7_281 rfl ?_
    refine own_iload K own_d7_283 rfl ?_
    refine own_iload K own_d7_285 rfl ?_
    refine own_iload K own_d7_287 rfl ?_
    refine own_dload K own_d7_289 rfl ?_
    refine own_dload K own_d7_291 rfl ?_
    refine own_dload K own_d7_293 rfl ?_
    refine own_static K own_d7_295 (own_w42 hw) (own_w43 hw) (own_w44 hw) (own_w45 hw) (argsL := [(.int r0), (.double s0), (.int (0 : Int32)), (.int e0), (.int e1), (.int e2), (.double f0), (.double f1), (.double f2)]) (rest := [(.double s0)]) (own_exp0 hw Fs0 Ff0 Ff1 Ff2) own_pd6 rfl rfl rfl (by decide) (W := 2) (Nat.le_of_eq rfl) (by decide) (by decide) (by decide) (by decide) ?_
    intro v54 h52 q53
    obtain ⟨rfl, rfl⟩ := q53
    refine own_dcmp K own_d7_298 ?_
    refine own_ifne K own_d7_299 (fun q => absurd q (fun z => z (dcmpV_self (own_expnn 0 Fs0 Ff0 Ff1 Ff2 (e0 = r0) (e1 = r0) (e2 = r0)).1 _))) (fun _ => ?_)
    refine own_iconst K own_d7_302 (v := (1 : Int32)) rfl ?_
    refine own_goto K own_d7_303 ?_
    refine own_istore K own_d7_307 (Ls' := #[.val (.int i0), .val (.int i1), .val (.int i2), .val (.int i3), .val (.int i4), .val (.int i5), .val (.int (2 : Int32)), .val (.int (0 : Int32)), .val (.int bb), .val (.int r0), .val (.int r1), .val (.int e0), .val (.int e1), .val (.int e2), .val (.double s0), .second, .val (.double s1), .second, .val (.double f0), .second, .val (.double f1), .second, .val (.double f2), .second, .val (.ref a6), .val (.ref a15), .val (.int (1 : Int32))]) rfl ?_
    refine own_iload K own_d7_309 rfl ?_
    refine own_iconst K own_d7_311 (v := (1 : Int32)) rfl ?_
    refine own_icmple K own_d7_312 (fun q => absurd q (by decide)) (fun _ => ?_)
    refine own_iload K own_d7_315 rfl ?_
    refine own_ifeq K own_d7_317 (fun q => absurd q (by decide)) (fun _ => ?_)
    refine own_aload K own_d7_320 rfl rfl ?_
    refine own_iconst K own_d7_322 (v := (1 : Int32)) rfl ?_
    refine own_virtual K own_d7_323 (own_w37 hw) (own_w38 hw) (own_w40 hw) (own_w39 hw) (own_w7 hw) (own_w41 hw) (H48.atO (i := 0) rfl) (a := a6) (argsL := [(.int (1 : Int32))]) (rest := []) (own_score hw H48 (q := 1) rfl rfl) own_pd5 rfl rfl rfl (by decide) (W := 0) (Nat.le_of_eq rfl) (by decide) (by decide) (by decide) (by decide) ?_
    intro v57 h55 q56
    obtain ⟨rfl, rfl⟩ := q56
    refine own_iload K own_d7_326 rfl ?_
    refine own_dload K own_d7_328 rfl ?_
    refine own_iload K own_d7_330 rfl ?_
    refine own_iload K own_d7_332 rfl ?_
    refine own_iload K own_d7_334 rfl ?_
    refine own_iload K own_d7_336 rfl ?_
    refine own_dload K own_d7_338 rfl ?_
    refine own_dload K own_d7_340 rfl ?_
    refine own_dload K own_d7_342 rfl ?_
    refine own_static K own_d7_344 (own_w42 hw) (own_w43 hw) (own_w44 hw) (own_w45 hw) (argsL := [(.int r1), (.double s1), (.int (0 : Int32)), (.int e0), (.int e1), (.int e2), (.double f0), (.double f1), (.double f2)]) (rest := [(.double s1)]) (own_exp0 hw Fs1 Ff0 Ff1 Ff2) own_pd6 rfl rfl rfl (by decide) (W := 2) (Nat.le_of_eq rfl) (by decide) (by decide) (by decide) (by decide) ?_
    intro v60 h58 q59
    obtain ⟨rfl, rfl⟩ := q59
    refine own_dcmp K own_d7_347 ?_
    refine own_ifne K own_d7_348 (fun q => absurd q (fun z => z (dcmpV_self (own_expnn 0 Fs1 Ff0 Ff1 Ff2 (e0 = r1) (e1 = r1) (e2 = r1)).1 _))) (fun _ => ?_)
    refine own_iconst K own_d7_351 (v := (1 : Int32)) rfl ?_
    refine own_goto K own_d7_352 ?_
    refine own_istore K own_d7_356 (Ls' := #[.val (.int i0), .val (.int i1), .val (.int i2), .val (.int i3), .val (.int i4), .val (.int i5), .val (.int (2 : Int32)), .val (.int (0 : Int32)), .val (.int bb), .val (.int r0), .val (.int r1), .val (.int e0), .val (.int e1), .val (.int e2), .val (.double s0), .second, .val (.double s1), .second, .val (.double f0), .second, .val (.double f1), .second, .val (.double f2), .second, .val (.ref a6), .val (.ref a15), .val (.int (1 : Int32))]) rfl ?_
    refine own_iload K own_d7_358 rfl ?_
    exact own_retZ K (by first | exact Or.inl rfl | exact Or.inr rfl | decide) own_d7_360 (by decide) (by decide) (rfl)
  · refine own_iloadN K own_d7_0 rfl ?_
    refine own_iconst K own_d7_1 (v := (3 : Int32)) rfl ?_
    refine own_iand K own_d7_2 ?_
    refine own_iconst K own_d7_3 (v := (3 : Int32)) rfl ?_
    refine own_irem K own_d7_4 (by decide) ?_
    refine own_topI (x' := (2 : Int32)) (q) ?_
    refine own_istore K own_d7_5 (Ls' := #[.val (.int i0), .val (.int i1), .val (.int i2), .val (.int i3), .val (.int i4), .val (.int i5), .val (.int (2 : Int32)), .unset, .unset, .unset, .unset, .unset, .unset, .unset, .unset, .unset, .unset, .unset, .unset, .unset, .unset, .unset, .unset, .unset, .unset, .unset, .unset]) rfl ?_
    refine own_iloadN K own_d7_7 rfl ?_
    refine own_iconst K own_d7_8 (v := (2 : Int32)) rfl ?_
    refine own_iushr K own_d7_9 ?_
    refine own_iconst K own_d7_10 (v := (3 : Int32)) rfl ?_
    refine own_iand K own_d7_11 ?_
    refine own_topI (x' := (1 : Int32)) (q') ?_
    refine own_istore K own_d7_12 (Ls' := #[.val (.int i0), .val (.int i1), .val (.int i2), .val (.int i3), .val (.int i4), .val (.int i5), .val (.int (2 : Int32)), .val (.int (1 : Int32)), .unset, .unset, .unset, .unset, .unset, .unset, .unset, .unset, .unset, .unset, .unset, .unset, .unset, .unset, .unset, .unset, .unset, .unset, .unset]) rfl ?_
    refine own_iloadN K own_d7_14 rfl ?_
    refine own_ldcI K own_d7_15 (v := (2147483627 : Int32)) (own_w0 hw) ?_
    refine own_static K own_d7_17 (own_w1 hw) (own_w2 hw) (own_w3 hw) (own_w4 hw) (argsL := [(.int i3), (.int (2147483627 : Int32))]) (rest := []) (own_min hw) own_pd0 rfl rfl rfl (by decide) (W := 0) (Nat.le_of_eq rfl) (by decide) (by decide) (by decide) (by decide) ?_
    intro v3 h1 q2
    obtain ⟨⟨bb, rfl, hbb⟩, rfl⟩ := q2
    replace hbb : bb.toInt ≤ 2147483627 := hbb
    refine own_istore K own_d7_20 (Ls' := #[.val (.int i0), .val (.int i1), .val (.int i2), .val (.int i3), .val (.int i4), .val (.int i5), .val (.int (2 : Int32)), .val (.int (1 : Int32)), .val (.int bb), .unset, .unset, .unset, .unset, .unset, .unset, .unset, .unset, .unset, .unset, .unset, .unset, .unset, .unset, .unset, .unset, .unset, .unset]) rfl ?_
    refine own_iload K own_d7_22 rfl ?_
    refine own_iloadN K own_d7_24 rfl ?_
    refine own_iconst K own_d7_25 (v := (3 : Int32)) rfl ?_
    refine own_iand K own_d7_26 ?_
    refine own_iadd K own_d7_27 ?_
    obtain ⟨r0, e_r0⟩ : ∃ z : Int32, z = (bb + (i1 &&& (3 : Int32))) := ⟨_, rfl⟩
    have r0_0 : r0.toInt ≤ 2147483630 := by rw [e_r0]; exact own_a0 _ hbb (by decide)
    refine own_topI (x' := r0) (e_r0.symm) ?_
    refine own_istore K own_d7_28 (Ls' := #[.val (.int i0), .val (.int i1), .val (.int i2), .val (.int i3), .val (.int i4), .val (.int i5), .val (.int (2 : Int32)), .val (.int (1 : Int32)), .val (.int bb), .val (.int r0), .unset, .unset, .unset, .unset, .unset, .unset, .unset, .unset, .unset, .unset, .unset, .unset, .unset, .unset, .unset, .unset, .unset]) rfl ?_
    refine own_iload K own_d7_30 rfl ?_
    refine own_iconst K own_d7_32 (v := (1 : Int32)) rfl ?_
    refine own_iadd K own_d7_33 ?_
    refine own_iloadN K own_d7_34 rfl ?_
    refine own_iconst K own_d7_35 (v := (2 : Int32)) rfl ?_
    refine own_ishr K own_d7_36 ?_
    refine own_iconst K own_d7_37 (v := (3 : Int32)) rfl ?_
    refine own_iand K own_d7_38 ?_
    refine own_iadd K own_d7_39 ?_
    obtain ⟨r1, e_r1⟩ : ∃ z : Int32, z = ((r0 + (1 : Int32)) + ((i1 >>> ((2 : Int32) &&& 31)) &&& (3 : Int32))) := ⟨_, rfl⟩
    have r1_0 : r0.toInt < r1.toInt := by rw [e_r1]; exact (own_a1 _ r0_0 (by decide)).1
    refine own_topI (x' := r1) (e_r1.symm) ?_
    refine own_istore K own_d7_40 (Ls' := #[.val (.int i0), .val (.int i1), .val (.int i2), .val (.int i3), .val (.int i4), .val (.int i5), .val (.int (2 : Int32)), .val (.int (1 : Int32)), .val (.int bb), .val (.int r0), .val (.int r1), .unset, .unset, .unset, .unset, .unset, .unset, .unset, .unset, .unset, .unset, .unset, .unset, .unset, .unset, .unset, .unset]) rfl ?_
    refine own_iload K own_d7_42 rfl ?_
    refine own_iloadN K own_d7_44 rfl ?_
    refine own_iconst K own_d7_45 (v := (3 : Int32)) rfl ?_
    refine own_iand K own_d7_46 ?_
    refine own_iadd K own_d7_47 ?_
    obtain ⟨e0, e_e0⟩ : ∃ z : Int32, z = (bb + (i2 &&& (3 : Int32))) := ⟨_, rfl⟩
    have e0_0 : e0.toInt ≤ 2147483630 := by rw [e_e0]; exact own_a0 _ hbb (by decide)
    refine own_topI (x' := e0) (e_e0.symm) ?_
    refine own_istore K own_d7_48 (Ls' := #[.val (.int i0), .val (.int i1), .val (.int i2), .val (.int i3), .val (.int i4), .val (.int i5), .val (.int (2 : Int32)), .val (.int (1 : Int32)), .val (.int bb), .val (.int r0), .val (.int r1), .val (.int e0), .unset, .unset, .unset, .unset, .unset, .unset, .unset, .unset, .unset, .unset, .unset, .unset, .unset, .unset, .unset]) rfl ?_
    refine own_iload K own_d7_50 rfl ?_
    refine own_iconst K own_d7_52 (v := (1 : Int32)) rfl ?_
    refine own_iadd K own_d7_53 ?_
    refine own_iloadN K own_d7_54 rfl ?_
    refine own_iconst K own_d7_55 (v := (2 : Int32)) rfl ?_
    refine own_ishr K own_d7_56 ?_
    refine own_iconst K own_d7_57 (v := (3 : Int32)) rfl ?_
    refine own_iand K own_d7_58 ?_
    refine own_iadd K own_d7_59 ?_
    obtain ⟨e1, e_e1⟩ : ∃ z : Int32, z = ((e0 + (1 : Int32)) + ((i2 >>> ((2 : Int32) &&& 31)) &&& (3 : Int32))) := ⟨_, rfl⟩
    have e1_0 : e0.toInt < e1.toInt ∧ e1.toInt ≤ 2147483634 := by rw [e_e1]; exact own_a1 _ e0_0 (by decide)
    refine own_topI (x' := e1) (e_e1.symm) ?_
    refine own_istore K own_d7_60 (Ls' := #[.val (.int i0), .val (.int i1), .val (.int i2), .val (.int i3), .val (.int i4), .val (.int i5), .val (.int (2 : Int32)), .val (.int (1 : Int32)), .val (.int bb), .val (.int r0), .val (.int r1), .val (.int e0), .val (.int e1), .unset, .unset, .unset, .unset, .unset, .unset, .unset, .unset, .unset, .unset, .unset, .unset, .unset, .unset]) rfl ?_
    refine own_iload K own_d7_62 rfl ?_
    refine own_iconst K own_d7_64 (v := (1 : Int32)) rfl ?_
    refine own_iadd K own_d7_65 ?_
    refine own_iloadN K own_d7_66 rfl ?_
    refine own_iconst K own_d7_67 (v := (4 : Int32)) rfl ?_
    refine own_ishr K own_d7_68 ?_
    refine own_iconst K own_d7_69 (v := (3 : Int32)) rfl ?_
    refine own_iand K own_d7_70 ?_
    refine own_iadd K own_d7_71 ?_
    obtain ⟨e2, e_e2⟩ : ∃ z : Int32, z = ((e1 + (1 : Int32)) + ((i2 >>> ((4 : Int32) &&& 31)) &&& (3 : Int32))) := ⟨_, rfl⟩
    have e2_0 : e1.toInt < e2.toInt := by rw [e_e2]; exact (own_a1 _ e1_0.2 (by decide)).1
    refine own_topI (x' := e2) (e_e2.symm) ?_
    refine own_istore K own_d7_72 (Ls' := #[.val (.int i0), .val (.int i1), .val (.int i2), .val (.int i3), .val (.int i4), .val (.int i5), .val (.int (2 : Int32)), .val (.int (1 : Int32)), .val (.int bb), .val (.int r0), .val (.int r1), .val (.int e0), .val (.int e1), .val (.int e2), .unset, .unset, .unset, .unset, .unset, .unset, .unset, .unset, .unset, .unset, .unset, .unset, .unset]) rfl ?_
    refine own_iload K own_d7_74 rfl ?_
    refine own_sipush K own_d7_76 (v := (255 : Int32)) rfl ?_
    refine own_iand K own_d7_79 ?_
    refine own_sipush K own_d7_80 (v := (128 : Int32)) rfl ?_
    refine own_isub K own_d7_83 ?_
    refine own_i2d K own_d7_84 ?_
    obtain ⟨s0, e_s0, Fs0⟩ : ∃ z : UInt64, z = (FP.i2d ((i4 &&& (255 : Int32)) - (128 : Int32))) ∧ Fl.Fin64 z := ⟨_, rfl, Fl.i2d_fin _⟩
    refine own_topD (x' := s0) (e_s0.symm) ?_
    refine own_dstore K own_d7_85 (Ls' := #[.val (.int i0), .val (.int i1), .val (.int i2), .val (.int i3), .val (.int i4), .val (.int i5), .val (.int (2 : Int32)), .val (.int (1 : Int32)), .val (.int bb), .val (.int r0), .val (.int r1), .val (.int e0), .val (.int e1), .val (.int e2), .val (.double s0), .second, .unset, .unset, .unset, .unset, .unset, .unset, .unset, .unset, .unset, .unset, .unset]) rfl ?_
    refine own_iload K own_d7_87 rfl ?_
    refine own_bipush K own_d7_89 (v := (8 : Int32)) rfl ?_
    refine own_ishr K own_d7_91 ?_
    refine own_sipush K own_d7_92 (v := (255 : Int32)) rfl ?_
    refine own_iand K own_d7_95 ?_
    refine own_sipush K own_d7_96 (v := (128 : Int32)) rfl ?_
    refine own_isub K own_d7_99 ?_
    refine own_i2d K own_d7_100 ?_
    obtain ⟨s1, e_s1, Fs1⟩ : ∃ z : UInt64, z = (FP.i2d (((i4 >>> ((8 : Int32) &&& 31)) &&& (255 : Int32)) - (128 : Int32))) ∧ Fl.Fin64 z := ⟨_, rfl, Fl.i2d_fin _⟩
    refine own_topD (x' := s1) (e_s1.symm) ?_
    refine own_dstore K own_d7_101 (Ls' := #[.val (.int i0), .val (.int i1), .val (.int i2), .val (.int i3), .val (.int i4), .val (.int i5), .val (.int (2 : Int32)), .val (.int (1 : Int32)), .val (.int bb), .val (.int r0), .val (.int r1), .val (.int e0), .val (.int e1), .val (.int e2), .val (.double s0), .second, .val (.double s1), .second, .unset, .unset, .unset, .unset, .unset, .unset, .unset, .unset, .unset]) rfl ?_
    refine own_iload K own_d7_103 rfl ?_
    refine own_sipush K own_d7_105 (v := (255 : Int32)) rfl ?_
    refine own_iand K own_d7_108 ?_
    refine own_sipush K own_d7_109 (v := (128 : Int32)) rfl ?_
    refine own_isub K own_d7_112 ?_
    refine own_i2d K own_d7_113 ?_
    obtain ⟨f0, e_f0, Ff0⟩ : ∃ z : UInt64, z = (FP.i2d ((i5 &&& (255 : Int32)) - (128 : Int32))) ∧ Fl.Fin64 z := ⟨_, rfl, Fl.i2d_fin _⟩
    refine own_topD (x' := f0) (e_f0.symm) ?_
    refine own_dstore K own_d7_114 (Ls' := #[.val (.int i0), .val (.int i1), .val (.int i2), .val (.int i3), .val (.int i4), .val (.int i5), .val (.int (2 : Int32)), .val (.int (1 : Int32)), .val (.int bb), .val (.int r0), .val (.int r1), .val (.int e0), .val (.int e1), .val (.int e2), .val (.double s0), .second, .val (.double s1), .second, .val (.double f0), .second, .unset, .unset, .unset, .unset, .unset, .unset, .unset]) rfl ?_
    refine own_iload K own_d7_116 rfl ?_
    refine own_bipush K own_d7_118 (v := (8 : Int32)) rfl ?_
    refine own_ishr K own_d7_120 ?_
    refine own_sipush K own_d7_121 (v := (255 : Int32)) rfl ?_
    refine own_iand K own_d7_124 ?_
    refine own_sipush K own_d7_125 (v := (128 : Int32)) rfl ?_
    refine own_isub K own_d7_128 ?_
    refine own_i2d K own_d7_129 ?_
    obtain ⟨f1, e_f1, Ff1⟩ : ∃ z : UInt64, z = (FP.i2d (((i5 >>> ((8 : Int32) &&& 31)) &&& (255 : Int32)) - (128 : Int32))) ∧ Fl.Fin64 z := ⟨_, rfl, Fl.i2d_fin _⟩
    refine own_topD (x' := f1) (e_f1.symm) ?_
    refine own_dstore K own_d7_130 (Ls' := #[.val (.int i0), .val (.int i1), .val (.int i2), .val (.int i3), .val (.int i4), .val (.int i5), .val (.int (2 : Int32)), .val (.int (1 : Int32)), .val (.int bb), .val (.int r0), .val (.int r1), .val (.int e0), .val (.int e1), .val (.int e2), .val (.double s0), .second, .val (.double s1), .second, .val (.double f0), .second, .val (.double f1), .second, .unset, .unset, .unset, .unset, .unset]) rfl ?_
    refine own_iload K own_d7_132 rfl ?_
    refine own_bipush K own_d7_134 (v := (16 : Int32)) rfl ?_
    refine own_ishr K own_d7_136 ?_
    refine own_sipush K own_d7_137 (v := (255 : Int32)) rfl ?_
    refine own_iand K own_d7_140 ?_
    refine own_sipush K own_d7_141 (v := (128 : Int32)) rfl ?_
    refine own_isub K own_d7_144 ?_
    refine own_i2d K own_d7_145 ?_
    obtain ⟨f2, e_f2, Ff2⟩ : ∃ z : UInt64, z = (FP.i2d (((i5 >>> ((16 : Int32) &&& 31)) &&& (255 : Int32)) - (128 : Int32))) ∧ Fl.Fin64 z := ⟨_, rfl, Fl.i2d_fin _⟩
    refine own_topD (x' := f2) (e_f2.symm) ?_
    refine own_dstore K own_d7_146 (Ls' := #[.val (.int i0), .val (.int i1), .val (.int i2), .val (.int i3), .val (.int i4), .val (.int i5), .val (.int (2 : Int32)), .val (.int (1 : Int32)), .val (.int bb), .val (.int r0), .val (.int r1), .val (.int e0), .val (.int e1), .val (.int e2), .val (.double s0), .second, .val (.double s1), .second, .val (.double f0), .second, .val (.double f1), .second, .val (.double f2), .second, .unset, .unset, .unset]) rfl ?_
    refine own_new K own_d7_148 (own_w5 hw) (own_w6 hw) (own_w7 hw) H (own_SD_F hw) (own_SD_P hw) (by decide) (by decide) ?_
    intro h4 a6 H5
    replace H5 : own_H Z h4 (own_SD a6 .null .null (.int (0 : Int32)) :: []) ([]) := H5
    refine own_dup K own_d7_151 rfl ?_
    refine own_special K own_d7_152 rfl (own_w8 hw) (own_w9 hw) (own_w7 hw) (own_w10 hw) (a := a6) (argsL := []) (rest := [(.ref a6)]) (own_init hw H5) own_pd1 rfl rfl rfl (by decide) (W := 1) (Nat.le_of_eq rfl) (by decide) (by decide) (by decide) (by decide) ?_
    intro v9 h7 q8
    obtain ⟨rfl, sa10, da11, H12⟩ := q8
    replace H12 : own_H Z h7 (own_SD a6 (.ref da11) (.ref sa10) (.int (0 : Int32)) :: []) ((sa10, .double, "[D", [(.double (0 : UInt64)), (.double (0 : UInt64)), (.double (0 : UInt64)), (.double (0 : UInt64))]) :: (da11, .int, "[I", [(.int (0 : Int32)), (.int (0 : Int32)), (.int (0 : Int32)), (.int (0 : Int32))]) :: []) := H12
    refine own_astore K own_d7_155 rfl (Ls' := #[.val (.int i0), .val (.int i1), .val (.int i2), .val (.int i3), .val (.int i4), .val (.int i5), .val (.int (2 : Int32)), .val (.int (1 : Int32)), .val (.int bb), .val (.int r0), .val (.int r1), .val (.int e0), .val (.int e1), .val (.int e2), .val (.double s0), .second, .val (.double s1), .second, .val (.double f0), .second, .val (.double f1), .second, .val (.double f2), .second, .val (.ref a6), .unset, .unset]) rfl ?_
    refine own_new K own_d7_157 (own_w5 hw) (own_w6 hw) (own_w7 hw) H12 (own_SD_F hw) (own_SD_P hw) (by decide) (by decide) ?_
    intro h13 a15 H14
    replace H14 : own_H Z h13 (own_SD a15 .null .null (.int (0 : Int32)) :: own_SD a6 (.ref da11) (.ref sa10) (.int (0 : Int32)) :: []) ((sa10, .double, "[D", [(.double (0 : UInt64)), (.double (0 : UInt64)), (.double (0 : UInt64)), (.double (0 : UInt64))]) :: (da11, .int, "[I", [(.int (0 : Int32)), (.int (0 : Int32)), (.int (0 : Int32)), (.int (0 : Int32))]) :: []) := H14
    refine own_dup K own_d7_160 rfl ?_
    refine own_special K own_d7_161 rfl (own_w8 hw) (own_w9 hw) (own_w7 hw) (own_w10 hw) (a := a15) (argsL := []) (rest := [(.ref a15)]) (own_init hw H14) own_pd1 rfl rfl rfl (by decide) (W := 1) (Nat.le_of_eq rfl) (by decide) (by decide) (by decide) (by decide) ?_
    intro v18 h16 q17
    obtain ⟨rfl, sa19, da20, H21⟩ := q17
    replace H21 : own_H Z h16 (own_SD a15 (.ref da20) (.ref sa19) (.int (0 : Int32)) :: own_SD a6 (.ref da11) (.ref sa10) (.int (0 : Int32)) :: []) ((sa19, .double, "[D", [(.double (0 : UInt64)), (.double (0 : UInt64)), (.double (0 : UInt64)), (.double (0 : UInt64))]) :: (da20, .int, "[I", [(.int (0 : Int32)), (.int (0 : Int32)), (.int (0 : Int32)), (.int (0 : Int32))]) :: (sa10, .double, "[D", [(.double (0 : UInt64)), (.double (0 : UInt64)), (.double (0 : UInt64)), (.double (0 : UInt64))]) :: (da11, .int, "[I", [(.int (0 : Int32)), (.int (0 : Int32)), (.int (0 : Int32)), (.int (0 : Int32))]) :: []) := H21
    refine own_astore K own_d7_164 rfl (Ls' := #[.val (.int i0), .val (.int i1), .val (.int i2), .val (.int i3), .val (.int i4), .val (.int i5), .val (.int (2 : Int32)), .val (.int (1 : Int32)), .val (.int bb), .val (.int r0), .val (.int r1), .val (.int e0), .val (.int e1), .val (.int e2), .val (.double s0), .second, .val (.double s1), .second, .val (.double f0), .second, .val (.double f1), .second, .val (.double f2), .second, .val (.ref a6), .val (.ref a15), .unset]) rfl ?_
    refine own_iload K own_d7_166 rfl ?_
    refine own_ifle K own_d7_168 (fun q => absurd q (by decide)) (fun _ => ?_)
    refine own_aload K own_d7_171 rfl rfl ?_
    refine own_iload K own_d7_173 rfl ?_
    refine own_dload K own_d7_175 rfl ?_
    have H22 := H21.frontO 1 rfl
    replace H22 : own_H Z h16 (own_SD a6 (.ref da11) (.ref sa10) (.int (0 : Int32)) :: own_SD a15 (.ref da20) (.ref sa19) (.int (0 : Int32)) :: []) ((sa19, .double, "[D", [(.double (0 : UInt64)), (.double (0 : UInt64)), (.double (0 : UInt64)), (.double (0 : UInt64))]) :: (da20, .int, "[I", [(.int (0 : Int32)), (.int (0 : Int32)), (.int (0 : Int32)), (.int (0 : Int32))]) :: (sa10, .double, "[D", [(.double (0 : UInt64)), (.double (0 : UInt64)), (.double (0 : UInt64)), (.double (0 : UInt64))]) :: (da11, .int, "[I", [(.int (0 : Int32)), (.int (0 : Int32)), (.int (0 : Int32)), (.int (0 : Int32))]) :: []) := H22
    have H23 := H22.frontA 2 rfl
    replace H23 : own_H Z h16 (own_SD a6 (.ref da11) (.ref sa10) (.int (0 : Int32)) :: own_SD a15 (.ref da20) (.ref sa19) (.int (0 : Int32)) :: []) ((sa10, .double, "[D", [(.double (0 : UInt64)), (.double (0 : UInt64)), (.double (0 : UInt64)), (.double (0 : UInt64))]) :: (sa19, .double, "[D", [(.double (0 : UInt64)), (.double (0 : UInt64)), (.double (0 : UInt64)), (.double (0 : UInt64))]) :: (da20, .int, "[I", [(.int (0 : Int32)), (.int (0 : Int32)), (.int (0 : Int32)), (.int (0 : Int32))]) :: (da11, .int, "[I", [(.int (0 : Int32)), (.int (0 : Int32)), (.int (0 : Int32)), (.int (0 : Int32))]) :: []) := H23
    have H24 := H23.frontA 3 rfl
    replace H24 : own_H Z h16 (own_SD a6 (.ref da11) (.ref sa10) (.int (0 : Int32)) :: own_SD a15 (.ref da20) (.ref sa19) (.int (0 : Int32)) :: []) ((da11, .int, "[I", [(.int (0 : Int32)), (.int (0 : Int32)), (.int (0 : Int32)), (.int (0 : Int32))]) :: (sa10, .double, "[D", [(.double (0 : UInt64)), (.double (0 : UInt64)), (.double (0 : UInt64)), (.double (0 : UInt64))]) :: (sa19, .double, "[D", [(.double (0 : UInt64)), (.double (0 : UInt64)), (.double (0 : UInt64)), (.double (0 : UInt64))]) :: (da20, .int, "[I", [(.int (0 : Int32)), (.int (0 : Int32)), (.int (0 : Int32)), (.int (0 : Int32))]) :: []) := H24
    refine own_virtual K own_d7_177 (own_w32 hw) (own_w33 hw) (own_w35 hw) (own_w34 hw) (own_w7 hw) (own_w36 hw) (H24.atO (i := 0) rfl) (a := a6) (argsL := [(.int r0), (.double s0)]) (rest := []) (own_add0 hw H24) own_pd4 rfl rfl rfl (by decide) (W := 0) (Nat.le_of_eq rfl) (by decide) (by decide) (by decide) (by decide) ?_
    intro v27 h25 q26
    obtain ⟨rfl, H28⟩ := q26
    replace H28 : own_H Z h25 (own_SD a6 (.ref da11) (.ref sa10) (.int (1 : Int32)) :: own_SD a15 (.ref da20) (.ref sa19) (.int (0 : Int32)) :: []) ((da11, .int, "[I", [(.int r0), (.int (0 : Int32)), (.int (0 : Int32)), (.int (0 : Int32))]) :: (sa10, .double, "[D", [(.double s0), (.double (0 : UInt64)), (.double (0 : UInt64)), (.double (0 : UInt64))]) :: (sa19, .double, "[D", [(.double (0 : UInt64)), (.double (0 : UInt64)), (.double (0 : UInt64)), (.double (0 : UInt64))]) :: (da20, .int, "[I", [(.int (0 : Int32)), (.int (0 : Int32)), (.int (0 : Int32)), (.int (0 : Int32))]) :: []) := H28
    refine own_iload K own_d7_180 rfl ?_
    refine own_iconst K own_d7_182 (v := (1 : Int32)) rfl ?_
    refine own_icmple K own_d7_183 (fun q => absurd q (by decide)) (fun _ => ?_)
    refine own_aload K own_d7_186 rfl rfl ?_
    refine own_iload K own_d7_188 rfl ?_
    refine own_dload K own_d7_190 rfl ?_
    have H29 := H28.frontA 1 rfl
    replace H29 : own_H Z h25 (own_SD a6 (.ref da11) (.ref sa10) (.int (1 : Int32)) :: own_SD a15 (.ref da20) (.ref sa19) (.int (0 : Int32)) :: []) ((sa10, .double, "[D", [(.double s0), (.double (0 : UInt64)), (.double (0 : UInt64)), (.double (0 : UInt64))]) :: (da11, .int, "[I", [(.int r0), (.int (0 : Int32)), (.int (0 : Int32)), (.int (0 : Int32))]) :: (sa19, .double, "[D", [(.double (0 : UInt64)), (.double (0 : UInt64)), (.double (0 : UInt64)), (.double (0 : UInt64))]) :: (da20, .int, "[I", [(.int (0 : Int32)), (.int (0 : Int32)), (.int (0 : Int32)), (.int (0 : Int32))]) :: []) := H29
    have H30 := H29.frontA 1 rfl
    replace H30 : own_H Z h25 (own_SD a6 (.ref da11) (.ref sa10) (.int (1 : Int32)) :: own_SD a15 (.ref da20) (.ref sa19) (.int (0 : Int32)) :: []) ((da11, .int, "[I", [(.int r0), (.int (0 : Int32)), (.int (0 : Int32)), (.int (0 : Int32))]) :: (sa10, .double, "[D", [(.double s0), (.double (0 : UInt64)), (.double (0 : UInt64)), (.double (0 : UInt64))]) :: (sa19, .double, "[D", [(.double (0 : UInt64)), (.double (0 : UInt64)), (.double (0 : UInt64)), (.double (0 : UInt64))]) :: (da20, .int, "[I", [(.int (0 : Int32)), (.int (0 : Int32)), (.int (0 : Int32)), (.int (0 : Int32))]) :: []) := H30
    refine own_virtual K own_d7_192 (own_w32 hw) (own_w33 hw) (own_w35 hw) (own_w34 hw) (own_w7 hw) (own_w36 hw) (H30.atO (i := 0) rfl) (a := a6) (argsL := [(.int r1), (.double s1)]) (rest := []) (own_add1 hw H30) own_pd4 rfl rfl rfl (by decide) (W := 0) (Nat.le_of_eq rfl) (by decide) (by decide) (by decide) (by decide) ?_
    intro v33 h31 q32
    obtain ⟨rfl, H34⟩ := q32
    replace H34 : own_H Z h31 (own_SD a6 (.ref da11) (.ref sa10) (.int (2 : Int32)) :: own_SD a15 (.ref da20) (.ref sa19) (.int (0 : Int32)) :: []) ((da11, .int, "[I", [(.int r0), (.int r1), (.int (0 : Int32)), (.int (0 : Int32))]) :: (sa10, .double, "[D", [(.double s0), (.double s1), (.double (0 : UInt64)), (.double (0 : UInt64))]) :: (sa19, .double, "[D", [(.double (0 : UInt64)), (.double (0 : UInt64)), (.double (0 : UInt64)), (.double (0 : UInt64))]) :: (da20, .int, "[I", [(.int (0 : Int32)), (.int (0 : Int32)), (.int (0 : Int32)), (.int (0 : Int32))]) :: []) := H34
    refine own_iload K own_d7_195 rfl ?_
    refine own_ifle K own_d7_197 (fun q => absurd q (by decide)) (fun _ => ?_)
    refine own_aload K own_d7_200 rfl rfl ?_
    refine own_iload K own_d7_202 rfl ?_
    refine own_dload K own_d7_204 rfl ?_
    have H35 := H34.frontO 1 rfl
    replace H35 : own_H Z h31 (own_SD a15 (.ref da20) (.ref sa19) (.int (0 : Int32)) :: own_SD a6 (.ref da11) (.ref sa10) (.int (2 : Int32)) :: []) ((da11, .int, "[I", [(.int r0), (.int r1), (.int (0 : Int32)), (.int (0 : Int32))]) :: (sa10, .double, "[D", [(.double s0), (.double s1), (.double (0 : UInt64)), (.double (0 : UInt64))]) :: (sa19, .double, "[D", [(.double (0 : UInt64)), (.double (0 : UInt64)), (.double (0 : UInt64)), (.double (0 : UInt64))]) :: (da20, .int, "[I", [(.int (0 : Int32)), (.int (0 : Int32)), (.int (0 : Int32)), (.int (0 : Int32))]) :: []) := H35
    have H36 := H35.frontA 2 rfl
    replace H36 : own_H Z h31 (own_SD a15 (.ref da20) (.ref sa19) (.int (0 : Int32)) :: own_SD a6 (.ref da11) (.ref sa10) (.int (2 : Int32)) :: []) ((sa19, .double, "[D", [(.double (0 : UInt64)), (.double (0 : UInt64)), (.double (0 : UInt64)), (.double (0 : UInt64))]) :: (da11, .int, "[I", [(.int r0), (.int r1), (.int (0 : Int32)), (.int (0 : Int32))]) :: (sa10, .double, "[D", [(.double s0), (.double s1), (.double (0 : UInt64)), (.double (0 : UInt64))]) :: (da20, .int, "[I", [(.int (0 : Int32)), (.int (0 : Int32)), (.int (0 : Int32)), (.int (0 : Int32))]) :: []) := H36
    have H37 := H36.frontA 3 rfl
    replace H37 : own_H Z h31 (own_SD a15 (.ref da20) (.ref sa19) (.int (0 : Int32)) :: own_SD a6 (.ref da11) (.ref sa10) (.int (2 : Int32)) :: []) ((da20, .int, "[I", [(.int (0 : Int32)), (.int (0 : Int32)), (.int (0 : Int32)), (.int (0 : Int32))]) :: (sa19, .double, "[D", [(.double (0 : UInt64)), (.double (0 : UInt64)), (.double (0 : UInt64)), (.double (0 : UInt64))]) :: (da11, .int, "[I", [(.int r0), (.int r1), (.int (0 : Int32)), (.int (0 : Int32))]) :: (sa10, .double, "[D", [(.double s0), (.double s1), (.double (0 : UInt64)), (.double (0 : UInt64))]) :: []) := H37
    refine own_virtual K own_d7_206 (own_w32 hw) (own_w33 hw) (own_w35 hw) (own_w34 hw) (own_w7 hw) (own_w36 hw) (H37.atO (i := 0) rfl) (a := a15) (argsL := [(.int e0), (.double f0)]) (rest := []) (own_add0 hw H37) own_pd4 rfl rfl rfl (by decide) (W := 0) (Nat.le_of_eq rfl) (by decide) (by decide) (by decide) (by decide) ?_
    intro v40 h38 q39
    obtain ⟨rfl, H41⟩ := q39
    replace H41 : own_H Z h38 (own_SD a15 (.ref da20) (.ref sa19) (.int (1 : Int32)) :: own_SD a6 (.ref da11) (.ref sa10) (.int (2 : Int32)) :: []) ((da20, .int, "[I", [(.int e0), (.int (0 : Int32)), (.int (0 : Int32)), (.int (0 : Int32))]) :: (sa19, .double, "[D", [(.double f0), (.double (0 : UInt64)), (.double (0 : UInt64)), (.double (0 : UInt64))]) :: (da11, .int, "[I", [(.int r0), (.int r1), (.int (0 : Int32)), (.int (0 : Int32))]) :: (sa10, .double, "[D", [(.double s0), (.double s1), (.double (0 : UInt64)), (.double (0 : UInt64))]) :: []) := H41
    refine own_iload K own_d7_209 rfl ?_
    refine own_iconst K own_d7_211 (v := (1 : Int32)) rfl ?_
    refine own_icmple K own_d7_212 (fun _ => ?_) (fun q => absurd (by decide) q)
    refine own_iload K own_d7_224 rfl ?_
    refine own_iconst K own_d7_226 (v := (2 : Int32)) rfl ?_
    refine own_icmple K own_d7_227 (fun _ => ?_) (fun q => absurd (by decide) q)
    refine own_aload K own_d7_239 rfl rfl ?_
    refine own_aload K own_d7_241 rfl rfl ?_
    have H42 := H41.frontO 1 rfl
    replace H42 : own_H Z h38 (own_SD a6 (.ref da11) (.ref sa10) (.int (2 : Int32)) :: own_SD a15 (.ref da20) (.ref sa19) (.int (1 : Int32)) :: []) ((da20, .int, "[I", [(.int e0), (.int (0 : Int32)), (.int (0 : Int32)), (.int (0 : Int32))]) :: (sa19, .double, "[D", [(.double f0), (.double (0 : UInt64)), (.double (0 : UInt64)), (.double (0 : UInt64))]) :: (da11, .int, "[I", [(.int r0), (.int r1), (.int (0 : Int32)), (.int (0 : Int32))]) :: (sa10, .double, "[D", [(.double s0), (.double s1), (.double (0 : UInt64)), (.double (0 : UInt64))]) :: []) := H42
    have H43 := H42.frontA 1 rfl
    replace H43 : own_H Z h38 (own_SD a6 (.ref da11) (.ref sa10) (.int (2 : Int32)) :: own_SD a15 (.ref da20) (.ref sa19) (.int (1 : Int32)) :: []) ((sa19, .double, "[D", [(.double f0), (.double (0 : UInt64)), (.double (0 : UInt64)), (.double (0 : UInt64))]) :: (da20, .int, "[I", [(.int e0), (.int (0 : Int32)), (.int (0 : Int32)), (.int (0 : Int32))]) :: (da11, .int, "[I", [(.int r0), (.int r1), (.int (0 : Int32)), (.int (0 : Int32))]) :: (sa10, .double, "[D", [(.double s0), (.double s1), (.double (0 : UInt64)), (.double (0 : UInt64))]) :: []) := H43
    have H44 := H43.frontA 1 rfl
    replace H44 : own_H Z h38 (own_SD a6 (.ref da11) (.ref sa10) (.int (2 : Int32)) :: own_SD a15 (.ref da20) (.ref sa19) (.int (1 : Int32)) :: []) ((da20, .int, "[I", [(.int e0), (.int (0 : Int32)), (.int (0 : Int32)), (.int (0 : Int32))]) :: (sa19, .double, "[D", [(.double f0), (.double (0 : UInt64)), (.double (0 : UInt64)), (.double (0 : UInt64))]) :: (da11, .int, "[I", [(.int r0), (.int r1), (.int (0 : Int32)), (.int (0 : Int32))]) :: (sa10, .double, "[D", [(.double s0), (.double s1), (.double (0 : UInt64)), (.double (0 : UInt64))]) :: []) := H44
    have H45 := H44.frontA 3 rfl
    replace H45 : own_H Z h38 (own_SD a6 (.ref da11) (.ref sa10) (.int (2 : Int32)) :: own_SD a15 (.ref da20) (.ref sa19) (.int (1 : Int32)) :: []) ((sa10, .double, "[D", [(.double s0), (.double s1), (.double (0 : UInt64)), (.double (0 : UInt64))]) :: (da20, .int, "[I", [(.int e0), (.int (0 : Int32)), (.int (0 : Int32)), (.int (0 : Int32))]) :: (sa19, .double, "[D", [(.double f0), (.double (0 : UInt64)), (.double (0 : UInt64)), (.double (0 : UInt64))]) :: (da11, .int, "[I", [(.int r0), (.int r1), (.int (0 : Int32)), (.int (0 : Int32))]) :: []) := H45
    have H46 := H45.frontA 3 rfl
    replace H46 : own_H Z h38 (own_SD a6 (.ref da11) (.ref sa10) (.int (2 : Int32)) :: own_SD a15 (.ref da20) (.ref sa19) (.int (1 : Int32)) :: []) ((da11, .int, "[I", [(.int r0), (.int r1), (.int (0 : Int32)), (.int (0 : Int32))]) :: (sa10, .double, "[D", [(.double s0), (.double s1), (.double (0 : UInt64)), (.double (0 : UInt64))]) :: (da20, .int, "[I", [(.int e0), (.int (0 : Int32)), (.int (0 : Int32)), (.int (0 : Int32))]) :: (sa19, .double, "[D", [(.double f0), (.double (0 : UInt64)), (.double (0 : UInt64)), (.double (0 : UInt64))]) :: []) := H46
    refine own_virtual K own_d7_243 (own_w20 hw) (own_w21 hw) (own_w23 hw) (own_w22 hw) (own_w7 hw) (own_w24 hw) (H46.atO (i := 0) rfl) (a := a6) (argsL := [(.ref a15)]) (rest := []) (own_adds_2_1 hw H46 Fs0 Fs1 Ff0 r1_0) own_pd2 rfl rfl rfl (by decide) (W := 0) (Nat.le_of_eq rfl) (by decide) (by decide) (by decide) (by decide) ?_
    intro v49 h47 q48
    obtain ⟨rfl, H50⟩ := q48
    replace H50 : own_H Z h47 (own_SD a6 (.ref da11) (.ref sa10) (.int (2 : Int32)) :: own_SD a15 (.ref da20) (.ref sa19) (.int (1 : Int32)) :: []) ((da11, .int, "[I", [(.int r0), (.int r1), (.int (0 : Int32)), (.int (0 : Int32))]) :: (sa10, .double, "[D", [(.double (if e0 = r0 then FP.dadd s0 f0 else s0)), (.double (if e0 = r1 then FP.dadd s1 f0 else s1)), (.double (0 : UInt64)), (.double (0 : UInt64))]) :: (da20, .int, "[I", [(.int e0), (.int (0 : Int32)), (.int (0 : Int32)), (.int (0 : Int32))]) :: (sa19, .double, "[D", [(.double f0), (.double (0 : UInt64)), (.double (0 : UInt64)), (.double (0 : UInt64))]) :: []) := H50
    refine own_aload K own_d7_246 rfl rfl ?_
    refine own_virtual K own_d7_248 (own_w27 hw) (own_w28 hw) (own_w30 hw) (own_w29 hw) (own_w7 hw) (own_w31 hw) (H50.atO (i := 0) rfl) (a := a6) (argsL := []) (rest := []) (own_size hw H50) own_pd3 rfl rfl rfl (by decide) (W := 0) (Nat.le_of_eq rfl) (by decide) (by decide) (by decide) (by decide) ?_
    intro v53 h51 q52
    obtain ⟨rfl, rfl⟩ := q52
    refine own_iload K own_d7_251 rfl ?_
    refine own_icmpeq K own_d7_253 (fun _ => ?_) (fun q => absurd (by decide) q)
    refine own_iconst K own_d7_258 (v := (1 : Int32)) rfl ?_
    refine own_istore K own_d7_259 (Ls' := #[.val (.int i0), .val (.int i1), .val (.int i2), .val (.int i3), .val (.int i4), .val (.int i5), .val (.int (2 : Int32)), .val (.int (1 : Int32)), .val (.int bb), .val (.int r0), .val (.int r1), .val (.int e0), .val (.int e1), .val (.int e2), .val (.double s0), .second, .val (.double s1), .second, .val (.double f0), .second, .val (.double f1), .second, .val (.double f2), .second, .val (.ref a6), .val (.ref a15), .val (.int (1 : Int32))]) rfl ?_
    refine own_iload K own_d7_261 rfl ?_
    refine own_ifle K own_d7_263 (fun q => absurd q (by decide)) (fun _ => ?_)
    refine own_iload K own_d7_266 rfl ?_
    refine own_ifeq K own_d7_268 (fun q => absurd q (by decide)) (fun _ => ?_)
    refine own_aload K own_d7_271 rfl rfl ?_
    refine own_iconst K own_d7_273 (v := (0 : Int32)) rfl ?_
    have H54 := H50.frontA 1 rfl
    replace H54 : own_H Z h47 (own_SD a6 (.ref da11) (.ref sa10) (.int (2 : Int32)) :: own_SD a15 (.ref da20) (.ref sa19) (.int (1 : Int32)) :: []) ((sa10, .double, "[D", [(.double (if e0 = r0 then FP.dadd s0 f0 else s0)), (.double (if e0 = r1 then FP.dadd s1 f0 else s1)), (.double (0 : UInt64)), (.double (0 : UInt64))]) :: (da11, .int, "[I", [(.int r0), (.int r1), (.int (0 : Int32)), (.int (0 : Int32))]) :: (da20, .int, "[I", [(.int e0), (.int (0 : Int32)), (.int (0 : Int32)), (.int (0 : Int32))]) :: (sa19, .double, "[D", [(.double f0), (.double (0 : UInt64)), (.double (0 : UInt64)), (.double (0 : UInt64))]) :: []) := H54
    refine own_virtual K own_d7_274 (own_w37 hw) (own_w38 hw) (own_w40 hw) (own_w39 hw) (own_w7 hw) (own_w41 hw) (H54.atO (i := 0) rfl) (a := a6) (argsL := [(.int (0 : Int32))]) (rest := []) (own_score hw H54 (q := 0) rfl rfl) own_pd5 rfl rfl rfl (by decide) (W := 0) (Nat.le_of_eq rfl) (by decide) (by decide) (by decide) (by decide) ?_
    intro v57 h55 q56
    obtain ⟨rfl, rfl⟩ := q56
    refine own_iload K own_d7_277 rfl ?_
    refine own_dload K own_d7_279 rfl ?_
    refine own_iload K own_d7_281 rfl ?_
    refine own_iload K own_d7_283 rfl ?_
    refine own_iload K own_d7_285 rfl ?_
    refine own_iload K own_d7_287 rfl ?_
    refine own_dload K own_d7_289 rfl ?_
    refine own_dload K own_d7_291 rfl ?_
    refine own_dload K own_d7_293 rfl ?_
    refine own_static K own_d7_295 (own_w42 hw) (own_w43 hw) (own_w44 hw) (own_w45 hw) (argsL := [(.int r0), (.double s0), (.int (1 : Int32)), (.int e0), (.int e1), (.int e2), (.double f0), (.double f1), (.double f2)]) (rest := [(.double (if e0 = r0 then FP.dadd s0 f0 else s0))]) (own_exp1 hw Fs0 Ff0 Ff1 Ff2) own_pd6 rfl rfl rfl (by decide) (W := 2) (Nat.le_of_eq rfl) (by decide) (by decide) (by decide) (by decide) ?_
    intro v60 h58 q59
    obtain ⟨rfl, rfl⟩ := q59
    refine own_dcmp K own_d7_298 ?_
    refine own_ifne K own_d7_299 (fun q => absurd q (fun z => z (dcmpV_self (own_expnn 0 Fs0 Ff0 Ff1 Ff2 (e0 = r0) (e1 = r0) (e2 = r0)).2.1 _))) (fun _ => ?_)
    refine own_iconst K own_d7_302 (v := (1 : Int32)) rfl ?_
    refine own_goto K own_d7_303 ?_
    refine own_istore K own_d7_307 (Ls' := #[.val (.int i0), .val (.int i1), .val (.int i2), .val (.int i3), .val (.int i4), .val (.int i5), .val (.int (2 : Int32)), .val (.int (1 : Int32)), .val (.int bb), .val (.int r0), .val (.int r1), .val (.int e0), .val (.int e1), .val (.int e2), .val (.double s0), .second, .val (.double s1), .second, .val (.double f0), .second, .val (.double f1), .second, .val (.double f2), .second, .val (.ref a6), .val (.ref a15), .val (.int (1 : Int32))]) rfl ?_
    refine own_iload K own_d7_309 rfl ?_
    refine own_iconst K own_d7_311 (v := (1 : Int32)) rfl ?_
    refine own_icmple K own_d7_312 (fun q => absurd q (by decide)) (fun _ => ?_)
    refine own_iload K own_d7_315 rfl ?_
    refine own_ifeq K own_d7_317 (fun q => absurd q (by decide)) (fun _ => ?_)
    refine own_aload K own_d7_320 rfl rfl ?_
    refine own_iconst K own_d7_322 (v := (1 : Int32)) rfl ?_
    refine own_virtual K own_d7_323 (own_w37 hw) (own_w38 hw) (own_w40 hw) (own_w39 hw) (own_w7 hw) (own_w41 hw) (H54.atO (i := 0) rfl) (a := a6) (argsL := [(.int (1 : Int32))]) (rest := []) (own_score hw H54 (q := 1) rfl rfl) own_pd5 rfl rfl rfl (by decide) (W := 0) (Nat.le_of_eq rfl) (by decide) (by decide) (by decide) (by decide) ?_
    intro v63 h61 q62
    obtain ⟨rfl, rfl⟩ := q62
    refine own_iload K own_d7_326 rfl ?_
    refine own_dload K own_d7_328 rfl ?_
    refine own_iload K own_d7_330 rfl ?_
    refine own_iload K own_d7_332 rfl ?_
    refine own_iload K own_d7_334 rfl ?_
    refine own_iload K own_d7_336 rfl ?_
    refine own_dload K own_d7_338 rfl ?_
    refine own_dload K own_d7_340 rfl ?_
    refine own_dload K own_d7_342 rfl ?_
    refine own_static K own_d7_344 (own_w42 hw) (own_w43 hw) (own_w44 hw) (own_w45 hw) (argsL := [(.int r1), (.double s1), (.int (1 : Int32)), (.int e0), (.int e1), (.int e2), (.double f0), (.double f1), (.double f2)]) (rest := [(.double (if e0 = r1 then FP.dadd s1 f0 else s1))]) (own_exp1 hw Fs1 Ff0 Ff1 Ff2) own_pd6 rfl rfl rfl (by decide) (W := 2) (Nat.le_of_eq rfl) (by decide) (by decide) (by decide) (by decide) ?_
    intro v66 h64 q65
    obtain ⟨rfl, rfl⟩ := q65
    refine own_dcmp K own_d7_347 ?_
    refine own_ifne K own_d7_348 (fun q => absurd q (fun z => z (dcmpV_self (own_expnn 0 Fs1 Ff0 Ff1 Ff2 (e0 = r1) (e1 = r1) (e2 = r1)).2.1 _))) (fun _ => ?_)
    refine own_iconst K own_d7_351 (v := (1 : Int32)) rfl ?_
    refine own_goto K own_d7_352 ?_
    refine own_istore K own_d7_356 (Ls' := #[.val (.int i0), .val (.int i1), .val (.int i2), .val (.int i3), .val (.int i4), .val (.int i5), .val (.int (2 : Int32)), .val (.int (1 : Int32)), .val (.int bb), .val (.int r0), .val (.int r1), .val (.int e0), .val (.int e1), .val (.int e2), .val (.double s0), .second, .val (.double s1), .second, .val (.double f0), .second, .val (.double f1), .second, .val (.double f2), .second, .val (.ref a6), .val (.ref a15), .val (.int (1 : Int32))]) rfl ?_
    refine own_iload K own_d7_358 rfl ?_
    exact own_retZ K (by first | exact Or.inl rfl | exact Or.inr rfl | decide) own_d7_360 (by decide) (by decide) (rfl)
  · refine own_iloadN K own_d7_0 rfl ?_
    refine own_iconst K own_d7_1 (v := (3 : Int32)) rfl ?_
    refine own_iand K own_d7_2 ?_
    refine own_iconst K own_d7_3 (v := (3 : Int32)) rfl ?_
    refine own_irem K own_d7_4 (by decide) ?_
    refine own_topI (x' := (2 : Int32)) (q) ?_
    refine own_istore K own_d7_5 (Ls' := #[.val (.int i0), .val (.int i1), .val (.int i2), .val (.int i3), .val (.int i4), .val (.int i5), .val (.int (2 : Int32)), .unset, .unset, .unset, .unset, .unset, .unset, .unset, .unset, .unset, .unset, .unset, .unset, .unset, .unset, .unset, .unset, .unset, .unset, .unset, .unset]) rfl ?_
    refine own_iloadN K own_d7_7 rfl ?_
    refine own_iconst K own_d7_8 (v := (2 : Int32)) rfl ?_
    refine own_iushr K own_d7_9 ?_
    refine own_iconst K own_d7_10 (v := (3 : Int32)) rfl ?_
    refine own_iand K own_d7_11 ?_
    refine own_topI (x' := (2 : Int32)) (q') ?_
    refine own_istore K own_d7_12 (Ls' := #[.val (.int i0), .val (.int i1), .val (.int i2), .val (.int i3), .val (.int i4), .val (.int i5), .val (.int (2 : Int32)), .val (.int (2 : Int32)), .unset, .unset, .unset, .unset, .unset, .unset, .unset, .unset, .unset, .unset, .unset, .unset, .unset, .unset, .unset, .unset, .unset, .unset, .unset]) rfl ?_
    refine own_iloadN K own_d7_14 rfl ?_
    refine own_ldcI K own_d7_15 (v := (2147483627 : Int32)) (own_w0 hw) ?_
    refine own_static K own_d7_17 (own_w1 hw) (own_w2 hw) (own_w3 hw) (own_w4 hw) (argsL := [(.int i3), (.int (2147483627 : Int32))]) (rest := []) (own_min hw) own_pd0 rfl rfl rfl (by decide) (W := 0) (Nat.le_of_eq rfl) (by decide) (by decide) (by decide) (by decide) ?_
    intro v3 h1 q2
    obtain ⟨⟨bb, rfl, hbb⟩, rfl⟩ := q2
    replace hbb : bb.toInt ≤ 2147483627 := hbb
    refine own_istore K own_d7_20 (Ls' := #[.val (.int i0), .val (.int i1), .val (.int i2), .val (.int i3), .val (.int i4), .val (.int i5), .val (.int (2 : Int32)), .val (.int (2 : Int32)), .val (.int bb), .unset, .unset, .unset, .unset, .unset, .unset, .unset, .unset, .unset, .unset, .unset, .unset, .unset, .unset, .unset, .unset, .unset, .unset]) rfl ?_
    refine own_iload K own_d7_22 rfl ?_
    refine own_iloadN K own_d7_24 rfl ?_
    refine own_iconst K own_d7_25 (v := (3 : Int32)) rfl ?_
    refine own_iand K own_d7_26 ?_
    refine own_iadd K own_d7_27 ?_
    obtain ⟨r0, e_r0⟩ : ∃ z : Int32, z = (bb + (i1 &&& (3 : Int32))) := ⟨_, rfl⟩
    have r0_0 : r0.toInt ≤ 2147483630 := by rw [e_r0]; exact own_a0 _ hbb (by decide)
    refine own_topI (x' := r0) (e_r0.symm) ?_
    refine own_istore K own_d7_28 (Ls' := #[.val (.int i0), .val (.int i1), .val (.int i2), .val (.int i3), .val (.int i4), .val (.int i5), .val (.int (2 : Int32)), .val (.int (2 : Int32)), .val (.int bb), .val (.int r0), .unset, .unset, .unset, .unset, .unset, .unset, .unset, .unset, .unset, .unset, .unset, .unset, .unset, .unset, .unset, .unset, .unset]) rfl ?_
    refine own_iload K own_d7_30 rfl ?_
    refine own_iconst K own_d7_32 (v := (1 : Int32)) rfl ?_
    refine own_iadd K own_d7_33 ?_
    refine own_iloadN K own_d7_34 rfl ?_
    refine own_iconst K own_d7_35 (v := (2 : Int32)) rfl ?_
    refine own_ishr K own_d7_36 ?_
    refine own_iconst K own_d7_37 (v := (3 : Int32)) rfl ?_
    refine own_iand K own_d7_38 ?_
    refine own_iadd K own_d7_39 ?_
    obtain ⟨r1, e_r1⟩ : ∃ z : Int32, z = ((r0 + (1 : Int32)) + ((i1 >>> ((2 : Int32) &&& 31)) &&& (3 : Int32))) := ⟨_, rfl⟩
    have r1_0 : r0.toInt < r1.toInt := by rw [e_r1]; exact (own_a1 _ r0_0 (by decide)).1
    refine own_topI (x' := r1) (e_r1.symm) ?_
    refine own_istore K own_d7_40 (Ls' := #[.val (.int i0), .val (.int i1), .val (.int i2), .val (.int i3), .val (.int i4), .val (.int i5), .val (.int (2 : Int32)), .val (.int (2 : Int32)), .val (.int bb), .val (.int r0), .val (.int r1), .unset, .unset, .unset, .unset, .unset, .unset, .unset, .unset, .unset, .unset, .unset, .unset, .unset, .unset, .unset, .unset]) rfl ?_
    refine own_iload K own_d7_42 rfl ?_
    refine own_iloadN K own_d7_44 rfl ?_
    refine own_iconst K own_d7_45 (v := (3 : Int32)) rfl ?_
    refine own_iand K own_d7_46 ?_
    refine own_iadd K own_d7_47 ?_
    obtain ⟨e0, e_e0⟩ : ∃ z : Int32, z = (bb + (i2 &&& (3 : Int32))) := ⟨_, rfl⟩
    have e0_0 : e0.toInt ≤ 2147483630 := by rw [e_e0]; exact own_a0 _ hbb (by decide)
    refine own_topI (x' := e0) (e_e0.symm) ?_
    refine own_istore K own_d7_48 (Ls' := #[.val (.int i0), .val (.int i1), .val (.int i2), .val (.int i3), .val (.int i4), .val (.int i5), .val (.int (2 : Int32)), .val (.int (2 : Int32)), .val (.int bb), .val (.int r0), .val (.int r1), .val (.int e0), .unset, .unset, .unset, .unset, .unset, .unset, .unset, .unset, .unset, .unset, .unset, .unset, .unset, .unset, .unset]) rfl ?_
    refine own_iload K own_d7_50 rfl ?_
    refine own_iconst K own_d7_52 (v := (1 : Int32)) rfl ?_
    refine own_iadd K own_d7_53 ?_
    refine own_iloadN K own_d7_54 rfl ?_
    refine own_iconst K own_d7_55 (v := (2 : Int32)) rfl ?_
    refine own_ishr K own_d7_56 ?_
    refine own_iconst K own_d7_57 (v := (3 : Int32)) rfl ?_
    refine own_iand K own_d7_58 ?_
    refine own_iadd K own_d7_59 ?_
    obtain ⟨e1, e_e1⟩ : ∃ z : Int32, z = ((e0 + (1 : Int32)) + ((i2 >>> ((2 : Int32) &&& 31)) &&& (3 : Int32))) := ⟨_, rfl⟩
    have e1_0 : e0.toInt < e1.toInt ∧ e1.toInt ≤ 2147483634 := by rw [e_e1]; exact own_a1 _ e0_0 (by decide)
    refine own_topI (x' := e1) (e_e1.symm) ?_
    refine own_istore K own_d7_60 (Ls' := #[.val (.int i0), .val (.int i1), .val (.int i2), .val (.int i3), .val (.int i4), .val (.int i5), .val (.int (2 : Int32)), .val (.int (2 : Int32)), .val (.int bb), .val (.int r0), .val (.int r1), .val (.int e0), .val (.int e1), .unset, .unset, .unset, .unset, .unset, .unset, .unset, .unset, .unset, .unset, .unset, .unset, .unset, .unset]) rfl ?_
    refine own_iload K own_d7_62 rfl ?_
    refine own_iconst K own_d7_64 (v := (1 : Int32)) rfl ?_
    refine own_iadd K own_d7_65 ?_
    refine own_iloadN K own_d7_66 rfl ?_
    refine own_iconst K own_d7_67 (v := (4 : Int32)) rfl ?_
    refine own_ishr K own_d7_68 ?_
    refine own_iconst K own_d7_69 (v := (3 : Int32)) rfl ?_
    refine own_iand K own_d7_70 ?_
    refine own_iadd K own_d7_71 ?_
    obtain ⟨e2, e_e2⟩ : ∃ z : Int32, z = ((e1 + (1 : Int32)) + ((i2 >>> ((4 : Int32) &&& 31)) &&& (3 : Int32))) := ⟨_, rfl⟩
    have e2_0 : e1.toInt < e2.toInt := by rw [e_e2]; exact (own_a1 _ e1_0.2 (by decide)).1
    refine own_topI (x' := e2) (e_e2.symm) ?_
    refine own_istore K own_d7_72 (Ls' := #[.val (.int i0), .val (.int i1), .val (.int i2), .val (.int i3), .val (.int i4), .val (.int i5), .val (.int (2 : Int32)), .val (.int (2 : Int32)), .val (.int bb), .val (.int r0), .val (.int r1), .val (.int e0), .val (.int e1), .val (.int e2), .unset, .unset, .unset, .unset, .unset, .unset, .unset, .unset, .unset, .unset, .unset, .unset, .unset]) rfl ?_
    refine own_iload K own_d7_74 rfl ?_
    refine own_sipush K own_d7_76 (v := (255 : Int32)) rfl ?_
    refine own_iand K own_d7_79 ?_
    refine own_sipush K own_d7_80 (v := (128 : Int32)) rfl ?_
    refine own_isub K own_d7_83 ?_
    refine own_i2d K own_d7_84 ?_
    obtain ⟨s0, e_s0, Fs0⟩ : ∃ z : UInt64, z = (FP.i2d ((i4 &&& (255 : Int32)) - (128 : Int32))) ∧ Fl.Fin64 z := ⟨_, rfl, Fl.i2d_fin _⟩
    refine own_topD (x' := s0) (e_s0.symm) ?_
    refine own_dstore K own_d7_85 (Ls' := #[.val (.int i0), .val (.int i1), .val (.int i2), .val (.int i3), .val (.int i4), .val (.int i5), .val (.int (2 : Int32)), .val (.int (2 : Int32)), .val (.int bb), .val (.int r0), .val (.int r1), .val (.int e0), .val (.int e1), .val (.int e2), .val (.double s0), .second, .unset, .unset, .unset, .unset, .unset, .unset, .unset, .unset, .unset, .unset, .unset]) rfl ?_
    refine own_iload K own_d7_87 rfl ?_
    refine own_bipush K own_d7_89 (v := (8 : Int32)) rfl ?_
    refine own_ishr K own_d7_91 ?_
    refine own_sipush K own_d7_92 (v := (255 : Int32)) rfl ?_
    refine own_iand K own_d7_95 ?_
    refine own_sipush K own_d7_96 (v := (128 : Int32)) rfl ?_
    refine own_isub K own_d7_99 ?_
    refine own_i2d K own_d7_100 ?_
    obtain ⟨s1, e_s1, Fs1⟩ : ∃ z : UInt64, z = (FP.i2d (((i4 >>> ((8 : Int32) &&& 31)) &&& (255 : Int32)) - (128 : Int32))) ∧ Fl.Fin64 z := ⟨_, rfl, Fl.i2d_fin _⟩
    refine own_topD (x' := s1) (e_s1.symm) ?_
    refine own_dstore K own_d7_101 (Ls' := #[.val (.int i0), .val (.int i1), .val (.int i2), .val (.int i3), .val (.int i4), .val (.int i5), .val (.int (2 : Int32)), .val (.int (2 : Int32)), .val (.int bb), .val (.int r0), .val (.int r1), .val (.int e0), .val (.int e1), .val (.int e2), .val (.double s0), .second, .val (.double s1), .second, .unset, .unset, .unset, .unset, .unset, .unset, .unset, .unset, .unset]) rfl ?_
    refine own_iload K own_d7_103 rfl ?_
    refine own_sipush K own_d7_105 (v := (255 : Int32)) rfl ?_
    refine own_iand K own_d7_108 ?_
    refine own_sipush K own_d7_109 (v := (128 : Int32)) rfl ?_
    refine own_isub K own_d7_112 ?_
    refine own_i2d K own_d7_113 ?_
    obtain ⟨f0, e_f0, Ff0⟩ : ∃ z : UInt64, z = (FP.i2d ((i5 &&& (255 : Int32)) - (128 : Int32))) ∧ Fl.Fin64 z := ⟨_, rfl, Fl.i2d_fin _⟩
    refine own_topD (x' := f0) (e_f0.symm) ?_
    refine own_dstore K own_d7_114 (Ls' := #[.val (.int i0), .val (.int i1), .val (.int i2), .val (.int i3), .val (.int i4), .val (.int i5), .val (.int (2 : Int32)), .val (.int (2 : Int32)), .val (.int bb), .val (.int r0), .val (.int r1), .val (.int e0), .val (.int e1), .val (.int e2), .val (.double s0), .second, .val (.double s1), .second, .val (.double f0), .second, .unset, .unset, .unset, .unset, .unset, .unset, .unset]) rfl ?_
    refine own_iload K own_d7_116 rfl ?_
    refine own_bipush K own_d7_118 (v := (8 : Int32)) rfl ?_
    refine own_ishr K own_d7_120 ?_
    refine own_sipush K own_d7_121 (v := (255 : Int32)) rfl ?_
    refine own_iand K own_d7_124 ?_
    refine own_sipush K own_d7_125 (v := (128 : Int32)) rfl ?_
    refine own_isub K own_d7_128 ?_
    refine own_i2d K own_d7_129 ?_
    obtain ⟨f1, e_f1, Ff1⟩ : ∃ z : UInt64, z = (FP.i2d (((i5 >>> ((8 : Int32) &&& 31)) &&& (255 : Int32)) - (128 : Int32))) ∧ Fl.Fin64 z := ⟨_, rfl, Fl.i2d_fin _⟩
    refine own_topD (x' := f1) (e_f1.symm) ?_
    refine own_dstore K own_d7_130 (Ls' := #[.val (.int i0), .val (.int i1), .val (.int i2), .val (.int i3), .val (.int i4), .val (.int i5), .val (.int (2 : Int32)), .val (.int (2 : Int32)), .val (.int bb), .val (.int r0), .val (.int r1), .val (.int e0), .val (.int e1), .val (.int e2), .val (.double s0), .second, .val (.double s1), .second, .val (.double f0), .second, .val (.double f1), .second, .unset, .unset, .unset, .unset, .unset]) rfl ?_
    refine own_iload K own_d7_132 rfl ?_
    refine own_bipush K own_d7_134 (v := (16 : Int32)) rfl ?_
    refine own_ishr K own_d7_136 ?_
    refine own_sipush K own_d7_137 (v := (255 : Int32)) rfl ?_
    refine own_iand K own_d7_140 ?_
    refine own_sipush K own_d7_141 (v := (128 : Int32)) rfl ?_
    refine own_isub K own_d7_144 ?_
    refine own_i2d K own_d7_145 ?_
    obtain ⟨f2, e_f2, Ff2⟩ : ∃ z : UInt64, z = (FP.i2d (((i5 >>> ((16 : Int32) &&& 31)) &&& (255 : Int32)) - (128 : Int32))) ∧ Fl.Fin64 z := ⟨_, rfl, Fl.i2d_fin _⟩
    refine own_topD (x' := f2) (e_f2.symm) ?_
    refine own_dstore K own_d7_146 (Ls' := #[.val (.int i0), .val (.int i1), .val (.int i2), .val (.int i3), .val (.int i4), .val (.int i5), .val (.int (2 : Int32)), .val (.int (2 : Int32)), .val (.int bb), .val (.int r0), .val (.int r1), .val (.int e0), .val (.int e1), .val (.int e2), .val (.double s0), .second, .val (.double s1), .second, .val (.double f0), .second, .val (.double f1), .second, .val (.double f2), .second, .unset, .unset, .unset]) rfl ?_
    refine own_new K own_d7_148 (own_w5 hw) (own_w6 hw) (own_w7 hw) H (own_SD_F hw) (own_SD_P hw) (by decide) (by decide) ?_
    intro h4 a6 H5
    replace H5 : own_H Z h4 (own_SD a6 .null .null (.int (0 : Int32)) :: []) ([]) := H5
    refine own_dup K own_d7_151 rfl ?_
    refine own_special K own_d7_152 rfl (own_w8 hw) (own_w9 hw) (own_w7 hw) (own_w10 hw) (a := a6) (argsL := []) (rest := [(.ref a6)]) (own_init hw H5) own_pd1 rfl rfl rfl (by decide) (W := 1) (Nat.le_of_eq rfl) (by decide) (by decide) (by decide) (by decide) ?_
    intro v9 h7 q8
    obtain ⟨rfl, sa10, da11, H12⟩ := q8
    replace H12 : own_H Z h7 (own_SD a6 (.ref da11) (.ref sa10) (.int (0 : Int32)) :: []) ((sa10, .double, "[D", [(.double (0 : UInt64)), (.double (0 : UInt64)), (.double (0 : UInt64)), (.double (0 : UInt64))]) :: (da11, .int, "[I", [(.int (0 : Int32)), (.int (0 : Int32)), (.int (0 : Int32)), (.int (0 : Int32))]) :: []) := H12
    refine own_astore K own_d7_155 rfl (Ls' := #[.val (.int i0), .val (.int i1), .val (.int i2), .val (.int i3), .val (.int i4), .val (.int i5), .val (.int (2 : Int32)), .val (.int (2 : Int32)), .val (.int bb), .val (.int r0), .val (.int r1), .val (.int e0), .val (.int e1), .val (.int e2), .val (.double s0), .second, .val (.double s1), .second, .val (.double f0), .second, .val (.double f1), .second, .val (.double f2), .second, .val (.ref a6), .unset, .unset]) rfl ?_
    refine own_new K own_d7_157 (own_w5 hw) (own_w6 hw) (own_w7 hw) H12 (own_SD_F hw) (own_SD_P hw) (by decide) (by decide) ?_
    intro h13 a15 H14
    replace H14 : own_H Z h13 (own_SD a15 .null .null (.int (0 : Int32)) :: own_SD a6 (.ref da11) (.ref sa10) (.int (0 : Int32)) :: []) ((sa10, .double, "[D", [(.double (0 : UInt64)), (.double (0 : UInt64)), (.double (0 : UInt64)), (.double (0 : UInt64))]) :: (da11, .int, "[I", [(.int (0 : Int32)), (.int (0 : Int32)), (.int (0 : Int32)), (.int (0 : Int32))]) :: []) := H14
    refine own_dup K own_d7_160 rfl ?_
    refine own_special K own_d7_161 rfl (own_w8 hw) (own_w9 hw) (own_w7 hw) (own_w10 hw) (a := a15) (argsL := []) (rest := [(.ref a15)]) (own_init hw H14) own_pd1 rfl rfl rfl (by decide) (W := 1) (Nat.le_of_eq rfl) (by decide) (by decide) (by decide) (by decide) ?_
    intro v18 h16 q17
    obtain ⟨rfl, sa19, da20, H21⟩ := q17
    replace H21 : own_H Z h16 (own_SD a15 (.ref da20) (.ref sa19) (.int (0 : Int32)) :: own_SD a6 (.ref da11) (.ref sa10) (.int (0 : Int32)) :: []) ((sa19, .double, "[D", [(.double (0 : UInt64)), (.double (0 : UInt64)), (.double (0 : UInt64)), (.double (0 : UInt64))]) :: (da20, .int, "[I", [(.int (0 : Int32)), (.int (0 : Int32)), (.int (0 : Int32)), (.int (0 : Int32))]) :: (sa10, .double, "[D", [(.double (0 : UInt64)), (.double (0 : UInt64)), (.double (0 : UInt64)), (.double (0 : UInt64))]) :: (da11, .int, "[I", [(.int (0 : Int32)), (.int (0 : Int32)), (.int (0 : Int32)), (.int (0 : Int32))]) :: []) := H21
    refine own_astore K own_d7_164 rfl (Ls' := #[.val (.int i0), .val (.int i1), .val (.int i2), .val (.int i3), .val (.int i4), .val (.int i5), .val (.int (2 : Int32)), .val (.int (2 : Int32)), .val (.int bb), .val (.int r0), .val (.int r1), .val (.int e0), .val (.int e1), .val (.int e2), .val (.double s0), .second, .val (.double s1), .second, .val (.double f0), .second, .val (.double f1), .second, .val (.double f2), .second, .val (.ref a6), .val (.ref a15), .unset]) rfl ?_
    refine own_iload K own_d7_166 rfl ?_
    refine own_ifle K own_d7_168 (fun q => absurd q (by decide)) (fun _ => ?_)
    refine own_aload K own_d7_171 rfl rfl ?_
    refine own_iload K own_d7_173 rfl ?_
    refine own_dload K own_d7_175 rfl ?_
    have H22 := H21.frontO 1 rfl
    replace H22 : own_H Z h16 (own_SD a6 (.ref da11) (.ref sa10) (.int (0 : Int32)) :: own_SD a15 (.ref da20) (.ref sa19) (.int (0 : Int32)) :: []) ((sa19, .double, "[D", [(.double (0 : UInt64)), (.double (0 : UInt64)), (.double (0 : UInt64)), (.double (0 : UInt64))]) :: (da20, .int, "[I", [(.int (0 : Int32)), (.int (0 : Int32)), (.int (0 : Int32)), (.int (0 : Int32))]) :: (sa10, .double, "[D", [(.double (0 : UInt64)), (.double (0 : UInt64)), (.double (0 : UInt64)), (.double (0 : UInt64))]) :: (da11, .int, "[I", [(.int (0 : Int32)), (.int (0 : Int32)), (.int (0 : Int32)), (.int (0 : Int32))]) :: []) := H22
    have H23 := H22.frontA 2 rfl
    replace H23 : own_H Z h16 (own_SD a6 (.ref da11) (.ref sa10) (.int (0 : Int32)) :: own_SD a15 (.ref da20) (.ref sa19) (.int (0 : Int32)) :: []) ((sa10, .double, "[D", [(.double (0 : UInt64)), (.double (0 : UInt64)), (.double (0 : UInt64)), (.double (0 : UInt64))]) :: (sa19, .double, "[D", [(.double (0 : UInt64)), (.double (0 : UInt64)), (.double (0 : UInt64)), (.double (0 : UInt64))]) :: (da20, .int, "[I", [(.int (0 : Int32)), (.int (0 : Int32)), (.int (0 : Int32)), (.int (0 : Int32))]) :: (da11, .int, "[I", [(.int (0 : Int32)), (.int (0 : Int32)), (.int (0 : Int32)), (.int (0 : Int32))]) :: []) := H23
    have H24 := H23.frontA 3 rfl
    replace H24 : own_H Z h16 (own_SD a6 (.ref da11) (.ref sa10) (.int (0 : Int32)) :: own_SD a15 (.ref da20) (.ref sa19) (.int (0 : Int32)) :: []) ((da11, .int, "[I", [(.int (0 : Int32)), (.int (0 : Int32)), (.int (0 : Int32)), (.int (0 : Int32))]) :: (sa10, .double, "[D", [(.double (0 : UInt64)), (.double (0 : UInt64)), (.double (0 : UInt64)), (.double (0 : UInt64))]) :: (sa19, .double, "[D", [(.double (0 : UInt64)), (.double (0 : UInt64)), (.double (0 : UInt64)), (.double (0 : UInt64))]) :: (da20, .int, "[I", [(.int (0 : Int32)), (.int (0 : Int32)), (.int (0 : Int32)), (.int (0 : Int32))]) :: []) := H24
    refine own_virtual K own_d7_177 (own_w32 hw) (own_w33 hw) (own_w35 hw) (own_w34 hw) (own_w7 hw) (own_w36 hw) (H24.atO (i := 0) rfl) (a := a6) (argsL := [(.int r0), (.double s0)]) (rest := []) (own_add0 hw H24) own_pd4 rfl rfl rfl (by decide) (W := 0) (Nat.le_of_eq rfl) (by decide) (by decide) (by decide) (by decide) ?_
    intro v27 h25 q26
    obtain ⟨rfl, H28⟩ := q26
    replace H28 : own_H Z h25 (own_SD a6 (.ref da11) (.ref sa10) (.int (1 : Int32)) :: own_SD a15 (.ref da20) (.ref sa19) (.int (0 : Int32)) :: []) ((da11, .int, "[I", [(.int r0), (.int (0 : Int32)), (.int (0 : Int32)), (.int (0 : Int32))]) :: (sa10, .double, "[D", [(.double s0), (.double (0 : UInt64)), (.double (0 : UInt64)), (.double (0 : UInt64))]) :: (sa19, .double, "[D", [(.double (0 : UInt64)), (.double (0 : UInt64)), (.double (0 : UInt64)), (.double (0 : UInt64))]) :: (da20, .int, "[I", [(.int (0 : Int32)), (.int (0 : Int32)), (.int (0 : Int32)), (.int (0 : Int32))]) :: []) := H28
    refine own_iload K own_d7_180 rfl ?_
    refine own_iconst K own_d7_182 (v := (1 : Int32)) rfl ?_
    refine own_icmple K own_d7_183 (fun q => absurd q (by decide)) (fun _ => ?_)
    refine own_aload K own_d7_186 rfl rfl ?_
    refine own_iload K own_d7_188 rfl ?_
    refine own_dload K own_d7_190 rfl ?_
    have H29 := H28.frontA 1 rfl
    replace H29 : own_H Z h25 (own_SD a6 (.ref da11) (.ref sa10) (.int (1 : Int32)) :: own_SD a15 (.ref da20) (.ref sa19) (.int (0 : Int32)) :: []) ((sa10, .double, "[D", [(.double s0), (.double (0 : UInt64)), (.double (0 : UInt64)), (.double (0 : UInt64))]) :: (da11, .int, "[I", [(.int r0), (.int (0 : Int32)), (.int (0 : Int32)), (.int (0 : Int32))]) :: (sa19, .double, "[D", [(.double (0 : UInt64)), (.double (0 : UInt64)), (.double (0 : UInt64)), (.double (0 : UInt64))]) :: (da20, .int, "[I", [(.int (0 : Int32)), (.int (0 : Int32)), (.int (0 : Int32)), (.int (0 : Int32))]) :: []) := H29
    have H30 := H29.frontA 1 rfl
    replace H30 : own_H Z h25 (own_SD a6 (.ref da11) (.ref sa10) (.int (1 : Int32)) :: own_SD a15 (.ref da20) (.ref sa19) (.int (0 : Int32)) :: []) ((da11, .int, "[I", [(.int r0), (.int (0 : Int32)), (.int (0 : Int32)), (.int (0 : Int32))]) :: (sa10, .double, "[D", [(.double s0), (.double (0 : UInt64)), (.double (0 : UInt64)), (.double (0 : UInt64))]) :: (sa19, .double, "[D", [(.double (0 : UInt64)), (.double (0 : UInt64)), (.double (0 : UInt64)), (.double (0 : UInt64))]) :: (da20, .int, "[I", [(.int (0 : Int32)), (.int (0 : Int32)), (.int (0 : Int32)), (.int (0 : Int32))]) :: []) := H30
    refine own_virtual K own_d7_192 (own_w32 hw) (own_w33 hw) (own_w35 hw) (own_w34 hw) (own_w7 hw) (own_w36 hw) (H30.atO (i := 0) rfl) (a := a6) (argsL := [(.int r1), (.double s1)]) (rest := []) (own_add1 hw H30) own_pd4 rfl rfl rfl (by decide) (W := 0) (Nat.le_of_eq rfl) (by decide) (by decide) (by decide) (by decide) ?_
    intro v33 h31 q32
    obtain ⟨rfl, H34⟩ := q32
    replace H34 : own_H Z h31 (own_SD a6 (.ref da11) (.ref sa10) (.int (2 : Int32)) :: own_SD a15 (.ref da20) (.ref sa19) (.int (0 : Int32)) :: []) ((da11, .int, "[I", [(.int r0), (.int r1), (.int (0 : Int32)), (.int (0 : Int32))]) :: (sa10, .double, "[D", [(.double s0), (.double s1), (.double (0 : UInt64)), (.double (0 : UInt64))]) :: (sa19, .double, "[D", [(.double (0 : UInt64)), (.double (0 : UInt64)), (.double (0 : UInt64)), (.double (0 : UInt64))]) :: (da20, .int, "[I", [(.int (0 : Int32)), (.int (0 : Int32)), (.int (0 : Int32)), (.int (0 : Int32))]) :: []) := H34
    refine own_iload K own_d7_195 rfl ?_
    refine own_ifle K own_d7_197 (fun q => absurd q (by decide)) (fun _ => ?_)
    refine own_aload K own_d7_200 rfl rfl ?_
    refine own_iload K own_d7_202 rfl ?_
    refine own_dload K own_d7_204 rfl ?_
    have H35 := H34.frontO 1 rfl
    replace H35 : own_H Z h31 (own_SD a15 (.ref da20) (.ref sa19) (.int (0 : Int32)) :: own_SD a6 (.ref da11) (.ref sa10) (.int (2 : Int32)) :: []) ((da11, .int, "[I", [(.int r0), (.int r1), (.int (0 : Int32)), (.int (0 : Int32))]) :: (sa10, .double, "[D", [(.double s0), (.double s1), (.double (0 : UInt64)), (.double (0 : UInt64))]) :: (sa19, .double, "[D", [(.double (0 : UInt64)), (.double (0 : UInt64)), (.double (0 : UInt64)), (.double (0 : UInt64))]) :: (da20, .int, "[I", [(.int (0 : Int32)), (.int (0 : Int32)), (.int (0 : Int32)), (.int (0 : Int32))]) :: []) := H35
    have H36 := H35.frontA 2 rfl
    replace H36 : own_H Z h31 (own_SD a15 (.ref da20) (.ref sa19) (.int (0 : Int32)) :: own_SD a6 (.ref da11) (.ref sa10) (.int (2 : Int32)) :: []) ((sa19, .double, "[D", [(.double (0 : UInt64)), (.double (0 : UInt64)), (.double (0 : UInt64)), (.double (0 : UInt64))]) :: (da11, .int, "[I", [(.int r0), (.int r1), (.int (0 : Int32)), (.int (0 : Int32))]) :: (sa10, .double, "[D", [(.double s0), (.double s1), (.double (0 : UInt64)), (.double (0 : UInt64))]) :: (da20, .int, "[I", [(.int (0 : Int32)), (.int (0 : Int32)), (.int (0 : Int32)), (.int (0 : Int32))]) :: []) := H36
    have H37 := H36.frontA 3 rfl
    replace H37 : own_H Z h31 (own_SD a15 (.ref da20) (.ref sa19) (.int (0 : Int32)) :: own_SD a6 (.ref da11) (.ref sa10) (.int (2 : Int32)) :: []) ((da20, .int, "[I", [(.int (0 : Int32)), (.int (0 : Int32)), (.int (0 : Int32)), (.int (0 : Int32))]) :: (sa19, .double, "[D", [(.double (0 : UInt64)), (.double (0 : UInt64)), (.double (0 : UInt64)), (.double (0 : UInt64))]) :: (da11, .int, "[I", [(.int r0), (.int r1), (.int (0 : Int32)), (.int (0 : Int32))]) :: (sa10, .double, "[D", [(.double s0), (.double s1), (.double (0 : UInt64)), (.double (0 : UInt64))]) :: []) := H37
    refine own_virtual K own_d7_206 (own_w32 hw) (own_w33 hw) (own_w35 hw) (own_w34 hw) (own_w7 hw) (own_w36 hw) (H37.atO (i := 0) rfl) (a := a15) (argsL := [(.int e0), (.double f0)]) (rest := []) (own_add0 hw H37) own_pd4 rfl rfl rfl (by decide) (W := 0) (Nat.le_of_eq rfl) (by decide) (by decide) (by decide) (by decide) ?_
    intro v40 h38 q39
    obtain ⟨rfl, H41⟩ := q39
    replace H41 : own_H Z h38 (own_SD a15 (.ref da20) (.ref sa19) (.int (1 : Int32)) :: own_SD a6 (.ref da11) (.ref sa10) (.int (2 : Int32)) :: []) ((da20, .int, "[I", [(.int e0), (.int (0 : Int32)), (.int (0 : Int32)), (.int (0 : Int32))]) :: (sa19, .double, "[D", [(.double f0), (.double (0 : UInt64)), (.double (0 : UInt64)), (.double (0 : UInt64))]) :: (da11, .int, "[I", [(.int r0), (.int r1), (.int (0 : Int32)), (.int (0 : Int32))]) :: (sa10, .double, "[D", [(.double s0), (.double s1), (.double (0 : UInt64)), (.double (0 : UInt64))]) :: []) := H41
    refine own_iload K own_d7_209 rfl ?_
    refine own_iconst K own_d7_211 (v := (1 : Int32)) rfl ?_
    refine own_icmple K own_d7_212 (fun q => absurd q (by decide)) (fun _ => ?_)
    refine own_aload K own_d7_215 rfl rfl ?_
    refine own_iload K own_d7_217 rfl ?_
    refine own_dload K own_d7_219 rfl ?_
    have H42 := H41.frontA 1 rfl
    replace H42 : own_H Z h38 (own_SD a15 (.ref da20) (.ref sa19) (.int (1 : Int32)) :: own_SD a6 (.ref da11) (.ref sa10) (.int (2 : Int32)) :: []) ((sa19, .double, "[D", [(.double f0), (.double (0 : UInt64)), (.double (0 : UInt64)), (.double (0 : UInt64))]) :: (da20, .int, "[I", [(.int e0), (.int (0 : Int32)), (.int (0 : Int32)), (.int (0 : Int32))]) :: (da11, .int, "[I", [(.int r0), (.int r1), (.int (0 : Int32)), (.int (0 : Int32))]) :: (sa10, .double, "[D", [(.double s0), (.double s1), (.double (0 : UInt64)), (.double (0 : UInt64))]) :: []) := H42
    have H43 := H42.frontA 1 rfl
    replace H43 : own_H Z h38 (own_SD a15 (.ref da20) (.ref sa19) (.int (1 : Int32)) :: own_SD a6 (.ref da11) (.ref sa10) (.int (2 : Int32)) :: []) ((da20, .int, "[I", [(.int e0), (.int (0 : Int32)), (.int (0 : Int32)), (.int (0 : Int32))]) :: (sa19, .double, "[D", [(.double f0), (.double (0 : UInt64)), (.double (0 : UInt64)), (.double (0 : UInt64))]) :: (da11, .int, "[I", [(.int r0), (.int r1), (.int (0 : Int32)), (.int (0 : Int32))]) :: (sa10, .double, "[D", [(.double s0), (.double s1), (.double (0 : UInt64)), (.double (0 : UInt64))]) :: []) := H43
    refine own_virtual K own_d7_221 (own_w32 hw) (own_w33 hw) (own_w35 hw) (own_w34 hw) (own_w7 hw) (own_w36 hw) (H43.atO (i := 0) rfl) (a := a15) (argsL := [(.int e1), (.double f1)]) (rest := []) (own_add1 hw H43) own_pd4 rfl rfl rfl (by decide) (W := 0) (Nat.le_of_eq rfl) (by decide) (by decide) (by decide) (by decide) ?_
    intro v46 h44 q45
    obtain ⟨rfl, H47⟩ := q45
    replace H47 : own_H Z h44 (own_SD a15 (.ref da20) (.ref sa19) (.int (2 : Int32)) :: own_SD a6 (.ref da11) (.ref sa10) (.int (2 : Int32)) :: []) ((da20, .int, "[I", [(.int e0), (.int e1), (.int (0 : Int32)), (.int (0 : Int32))]) :: (sa19, .double, "[D", [(.double f0), (.double f1), (.double (0 : UInt64)), (.double (0 : UInt64))]) :: (da11, .int, "[I", [(.int r0), (.int r1), (.int (0 : Int32)), (.int (0 : Int32))]) :: (sa10, .double, "[D", [(.double s0), (.double s1), (.double (0 : UInt64)), (.double (0 : UInt64))]) :: []) := H47
    refine own_iload K own_d7_224 rfl ?_
    refine own_iconst K own_d7_226 (v := (2 : Int32)) rfl ?_
    refine own_icmple K own_d7_227 (fun _ => ?_) (fun q => absurd (by decide) q)
    refine own_aload K own_d7_239 rfl rfl ?_
    refine own_aload K own_d7_241 rfl rfl ?_
    have H48 := H47.frontO 1 rfl
    replace H48 : own_H Z h44 (own_SD a6 (.ref da11) (.ref sa10) (.int (2 : Int32)) :: own_SD a15 (.ref da20) (.ref sa19) (.int (2 : Int32)) :: []) ((da20, .int, "[I", [(.int e0), (.int e1), (.int (0 : Int32)), (.int (0 : Int32))]) :: (sa19, .double, "[D", [(.double f0), (.double f1), (.double (0 : UInt64)), (.double (0 : UInt64))]) :: (da11, .int, "[I", [(.int r0), (.int r1), (.int (0 : Int32)), (.int (0 : Int32))]) :: (sa10, .double, "[D", [(.double s0), (.double s1), (.double (0 : UInt64)), (.double (0 : UInt64))]) :: []) := H48
    have H49 := H48.frontA 1 rfl
    replace H49 : own_H Z h44 (own_SD a6 (.ref da11) (.ref sa10) (.int (2 : Int32)) :: own_SD a15 (.ref da20) (.ref sa19) (.int (2 : Int32)) :: []) ((sa19, .double, "[D", [(.double f0), (.double f1), (.double (0 : UInt64)), (.double (0 : UInt64))]) :: (da20, .int, "[I", [(.int e0), (.int e1), (.int (0 : Int32)), (.int (0 : Int32))]) :: (da11, .int, "[I", [(.int r0), (.int r1), (.int (0 : Int32)), (.int (0 : Int32))]) :: (sa10, .double, "[D", [(.double s0), (.double s1), (.double (0 : UInt64)), (.double (0 : UInt64))]) :: []) := H49
    have H50 := H49.frontA 1 rfl
    replace H50 : own_H Z h44 (own_SD a6 (.ref da11) (.ref sa10) (.int (2 : Int32)) :: own_SD a15 (.ref da20) (.ref sa19) (.int (2 : Int32)) :: []) ((da20, .int, "[I", [(.int e0), (.int e1), (.int (0 : Int32)), (.int (0 : Int32))]) :: (sa19, .double, "[D", [(.double f0), (.double f1), (.double (0 : UInt64)), (.double (0 : UInt64))]) :: (da11, .int, "[I", [(.int r0), (.int r1), (.int (0 : Int32)), (.int (0 : Int32))]) :: (sa10, .double, "[D", [(.double s0), (.double s1), (.double (0 : UInt64)), (.double (0 : UInt64))]) :: []) := H50
    have H51 := H50.frontA 3 rfl
    replace H51 : own_H Z h44 (own_SD a6 (.ref da11) (.ref sa10) (.int (2 : Int32)) :: own_SD a15 (.ref da20) (.ref sa19) (.int (2 : Int32)) :: []) ((sa10, .double, "[D", [(.double s0), (.double s1), (.double (0 : UInt64)), (.double (0 : UInt64))]) :: (da20, .int, "[I", [(.int e0), (.int e1), (.int (0 : Int32)), (.int (0 : Int32))]) :: (sa19, .double, "[D", [(.double f0), (.double f1), (.double (0 : UInt64)), (.double (0 : UInt64))]) :: (da11, .int, "[I", [(.int r0), (.int r1), (.int (0 : Int32)), (.int (0 : Int32))]) :: []) := H51
    have H52 := H51.frontA 3 rfl
    replace H52 : own_H Z h44 (own_SD a6 (.ref da11) (.ref sa10) (.int (2 : Int32)) :: own_SD a15 (.ref da20) (.ref sa19) (.int (2 : Int32)) :: []) ((da11, .int, "[I", [(.int r0), (.int r1), (.int (0 : Int32)), (.int (0 : Int32))]) :: (sa10, .double, "[D", [(.double s0), (.double s1), (.double (0 : UInt64)), (.double (0 : UInt64))]) :: (da20, .int, "[I", [(.int e0), (.int e1), (.int (0 : Int32)), (.int (0 : Int32))]) :: (sa19, .double, "[D", [(.double f0), (.double f1), (.double (0 : UInt64)), (.double (0 : UInt64))]) :: []) := H52
    refine own_virtual K own_d7_243 (own_w20 hw) (own_w21 hw) (own_w23 hw) (own_w22 hw) (own_w7 hw) (own_w24 hw) (H52.atO (i := 0) rfl) (a := a6) (argsL := [(.ref a15)]) (rest := []) (own_adds_2_2 hw H52 Fs0 Fs1 Ff0 Ff1 r1_0 e1_0.1) own_pd2 rfl rfl rfl (by decide) (W := 0) (Nat.le_of_eq rfl) (by decide) (by decide) (by decide) (by decide) ?_
    intro v55 h53 q54
    obtain ⟨rfl, H56⟩ := q54
    replace H56 : own_H Z h53 (own_SD a6 (.ref da11) (.ref sa10) (.int (2 : Int32)) :: own_SD a15 (.ref da20) (.ref sa19) (.int (2 : Int32)) :: []) ((da11, .int, "[I", [(.int r0), (.int r1), (.int (0 : Int32)), (.int (0 : Int32))]) :: (sa10, .double, "[D", [(.double (if e0 = r0 then FP.dadd s0 f0 else (if e1 = r0 then FP.dadd s0 f1 else s0))), (.double (if e0 = r1 then FP.dadd s1 f0 else (if e1 = r1 then FP.dadd s1 f1 else s1))), (.double (0 : UInt64)), (.double (0 : UInt64))]) :: (da20, .int, "[I", [(.int e0), (.int e1), (.int (0 : Int32)), (.int (0 : Int32))]) :: (sa19, .double, "[D", [(.double f0), (.double f1), (.double (0 : UInt64)), (.double (0 : UInt64))]) :: []) := H56
    refine own_aload K own_d7_246 rfl rfl ?_
    refine own_virtual K own_d7_248 (own_w27 hw) (own_w28 hw) (own_w30 hw) (own_w29 hw) (own_w7 hw) (own_w31 hw) (H56.atO (i := 0) rfl) (a := a6) (argsL := []) (rest := []) (own_size hw H56) own_pd3 rfl rfl rfl (by decide) (W := 0) (Nat.le_of_eq rfl) (by decide) (by decide) (by decide) (by decide) ?_
    intro v59 h57 q58
    obtain ⟨rfl, rfl⟩ := q58
    refine own_iload K own_d7_251 rfl ?_
    refine own_icmpeq K own_d7_253 (fun _ => ?_) (fun q => absurd (by decide) q)
    refine own_iconst K own_d7_258 (v := (1 : Int32)) rfl ?_
    refine own_istore K own_d7_259 (Ls' := #[.val (.int i0), .val (.int i1), .val (.int i2), .val (.int i3), .val (.int i4), .val (.int i5), .val (.int (2 : Int32)), .val (.int (2 : Int32)), .val (.int bb), .val (.int r0), .val (.int r1), .val (.int e0), .val (.int e1), .val (.int e2), .val (.double s0), .second, .val (.double s1), .second, .val (.double f0), .second, .val (.double f1), .second, .val (.double f2), .second, .val (.ref a6), .val (.ref a15), .val (.int (1 : Int32))]) rfl ?_
    refine own_iload K own_d7_261 rfl ?_
    refine own_ifle K own_d7_263 (fun q => absurd q (by decide)) (fun _ => ?_)
    refine own_iload K own_d7_266 rfl ?_
    refine own_ifeq K own_d7_268 (fun q => absurd q (by decide)) (fun _ => ?_)
    refine own_aload K own_d7_271 rfl rfl ?_
    refine own_iconst K own_d7_273 (v := (0 : Int32)) rfl ?_
    have H60 := H56.frontA 1 rfl
    replace H60 : own_H Z h53 (own_SD a6 (.ref da11) (.ref sa10) (.int (2 : Int32)) :: own_SD a15 (.ref da20) (.ref sa19) (.int (2 : Int32)) :: []) ((sa10, .double, "[D", [(.double (if e0 = r0 then FP.dadd s0 f0 else (if e1 = r0 then FP.dadd s0 f1 else s0))), (.double (if e0 = r1 then FP.dadd s1 f0 else (if e1 = r1 then FP.dadd s1 f1 else s1))), (.double (0 : UInt64)), (.double (0 : UInt64))]) :: (da11, .int, "[I", [(.int r0), (.int r1), (.int (0 : Int32)), (.int (0 : Int32))]) :: (da20, .int, "[I", [(.int e0), (.int e1), (.int (0 : Int32)), (.int (0 : Int32))]) :: (sa19, .double, "[D", [(.double f0), (.double f1), (.double (0 : UInt64)), (.double (0 : UInt64))]) :: []) := H60
    refine own_virtual K own_d7_274 (own_w37 hw) (own_w38 hw) (own_w40 hw) (own_w39 hw) (own_w7 hw) (own_w41 hw) (H60.atO (i := 0) rfl) (a := a6) (argsL := [(.int (0 : Int32))]) (rest := []) (own_score hw H60 (q := 0) rfl rfl) own_pd5 rfl rfl rfl (by decide) (W := 0) (Nat.le_of_eq rfl) (by decide) (by decide) (by decide) (by decide) ?_
    intro v63 h61 q62
    obtain ⟨rfl, rfl⟩ := q62
    refine own_iload K own_d7_277 rfl ?_
    refine own_dload K own_d7_279 rfl ?_
    refine own_iload K own_d7_281 rfl ?_
    refine own_iload K own_d7_283 rfl ?_
    refine own_iload K own_d7_285 rfl ?_
    refine own_iload K own_d7_287 rfl ?_
    refine own_dload K own_d7_289 rfl ?_
    refine own_dload K own_d7_291 rfl ?_
    refine own_dload K own_d7_293 rfl ?_
    refine own_static K own_d7_295 (own_w42 hw) (own_w43 hw) (own_w44 hw) (own_w45 hw) (argsL := [(.int r0), (.double s0), (.int (2 : Int32)), (.int e0), (.int e1), (.int e2), (.double f0), (.double f1), (.double f2)]) (rest := [(.double (if e0 = r0 then FP.dadd s0 f0 else (if e1 = r0 then FP.dadd s0 f1 else s0)))]) (own_exp2 hw Fs0 Ff0 Ff1 Ff2) own_pd6 rfl rfl rfl (by decide) (W := 2) (Nat.le_of_eq rfl) (by decide) (by decide) (by decide) (by decide) ?_
    intro v66 h64 q65
    obtain ⟨rfl, rfl⟩ := q65
    refine own_dcmp K own_d7_298 ?_
    refine own_ifne K own_d7_299 (fun q => absurd q (fun z => z (dcmpV_self (own_expnn 0 Fs0 Ff0 Ff1 Ff2 (e0 = r0) (e1 = r0) (e2 = r0)).2.2.1 _))) (fun _ => ?_)
    refine own_iconst K own_d7_302 (v := (1 : Int32)) rfl ?_
    refine own_goto K own_d7_303 ?_
    refine own_istore K own_d7_307 (Ls' := #[.val (.int i0), .val (.int i1), .val (.int i2), .val (.int i3), .val (.int i4), .val (.int i5), .val (.int (2 : Int32)), .val (.int (2 : Int32)), .val (.int bb), .val (.int r0), .val (.int r1), .val (.int e0), .val (.int e1), .val (.int e2), .val (.double s0), .second, .val (.double s1), .second, .val (.double f0), .second, .val (.double f1), .second, .val (.double f2), .second, .val (.ref a6), .val (.ref a15), .val (.int (1 : Int32))]) rfl ?_
    refine own_iload K own_d7_309 rfl ?_
    refine own_iconst K own_d7_311 (v := (1 : Int32)) rfl ?_
    refine own_icmple K own_d7_312 (fun q => absurd q (by decide)) (fun _ => ?_)
    refine own_iload K own_d7_315 rfl ?_
    refine own_ifeq K own_d7_317 (fun q => absurd q (by decide)) (fun _ => ?_)
    refine own_aload K own_d7_320 rfl rfl ?_
    refine own_iconst K own_d7_322 (v := (1 : Int32)) rfl ?_
    refine own_virtual K own_d7_323 (own_w37 hw) (own_w38 hw) (own_w40 hw) (own_w39 hw) (own_w7 hw) (own_w41 hw) (H60.atO (i := 0) rfl) (a := a6) (argsL := [(.int (1 : Int32))]) (rest := []) (own_score hw H60 (q := 1) rfl rfl) own_pd5 rfl rfl rfl (by decide) (W := 0) (Nat.le_of_eq rfl) (by decide) (by decide) (by decide) (by decide) ?_
    intro v69 h67 q68
    obtain ⟨rfl, rfl⟩ := q68
    refine own_iload K own_d7_326 rfl ?_
    refine own_dload K own_d7_328 rfl ?_
    refine own_iload K own_d7_330 rfl ?_
    refine own_iload K own_d7_332 rfl ?_
    refine own_iload K own_d7_334 rfl ?_
    refine own_iload K own_d7_336 rfl ?_
    refine own_dload K own_d7_338 rfl ?_
    refine own_dload K own_d7_340 rfl ?_
    refine own_dload K own_d7_342 rfl ?_
    refine own_static K own_d7_344 (own_w42 hw) (own_w43 hw) (own_w44 hw) (own_w45 hw) (argsL := [(.int r1), (.double s1), (.int (2 : Int32)), (.int e0), (.int e1), (.int e2), (.double f0), (.double f1), (.double f2)]) (rest := [(.double (if e0 = r1 then FP.dadd s1 f0 else (if e1 = r1 then FP.dadd s1 f1 else s1)))]) (own_exp2 hw Fs1 Ff0 Ff1 Ff2) own_pd6 rfl rfl rfl (by decide) (W := 2) (Nat.le_of_eq rfl) (by decide) (by decide) (by decide) (by decide) ?_
    intro v72 h70 q71
    obtain ⟨rfl, rfl⟩ := q71
    refine own_dcmp K own_d7_347 ?_
    refine own_ifne K own_d7_348 (fun q => absurd q (fun z => z (dcmpV_self (own_expnn 0 Fs1 Ff0 Ff1 Ff2 (e0 = r1) (e1 = r1) (e2 = r1)).2.2.1 _))) (fun _ => ?_)
    refine own_iconst K own_d7_351 (v := (1 : Int32)) rfl ?_
    refine own_goto K own_d7_352 ?_
    refine own_istore K own_d7_356 (Ls' := #[.val (.int i0), .val (.int i1), .val (.int i2), .val (.int i3), .val (.int i4), .val (.int i5), .val (.int (2 : Int32)), .val (.int (2 : Int32)), .val (.int bb), .val (.int r0), .val (.int r1), .val (.int e0), .val (.int e1), .val (.int e2), .val (.double s0), .second, .val (.double s1), .second, .val (.double f0), .second, .val (.double f1), .second, .val (.double f2), .second, .val (.ref a6), .val (.ref a15), .val (.int (1 : Int32))]) rfl ?_
    refine own_iload K own_d7_358 rfl ?_
    exact own_retZ K (by first | exact Or.inl rfl | exact Or.inr rfl | decide) own_d7_360 (by decide) (by decide) (rfl)
  · refine own_iloadN K own_d7_0 rfl ?_
    refine own_iconst K own_d7_1 (v := (3 : Int32)) rfl ?_
    refine own_iand K own_d7_2 ?_
    refine own_iconst K own_d7_3 (v := (3 : Int32)) rfl ?_
    refine own_irem K own_d7_4 (by decide) ?_
    refine own_topI (x' := (2 : Int32)) (q) ?_
    refine own_istore K own_d7_5 (Ls' := #[.val (.int i0), .val (.int i1), .val (.int i2), .val (.int i3), .val (.int i4), .val (.int i5), .val (.int (2 : Int32)), .unset, .unset, .unset, .unset, .unset, .unset, .unset, .unset, .unset, .unset, .unset, .unset, .unset, .unset, .unset, .unset, .unset, .unset, .unset, .unset]) rfl ?_
    refine own_iloadN K own_d7_7 rfl ?_
    refine own_iconst K own_d7_8 (v := (2 : Int32)) rfl ?_
    refine own_iushr K own_d7_9 ?_
    refine own_iconst K own_d7_10 (v := (3 : Int32)) rfl ?_
    refine own_iand K own_d7_11 ?_
    refine own_topI (x' := (3 : Int32)) (q') ?_
    refine own_istore K own_d7_12 (Ls' := #[.val (.int i0), .val (.int i1), .val (.int i2), .val (.int i3), .val (.int i4), .val (.int i5), .val (.int (2 : Int32)), .val (.int (3 : Int32)), .unset, .unset, .unset, .unset, .unset, .unset, .unset, .unset, .unset, .unset, .unset, .unset, .unset, .unset, .unset, .unset, .unset, .unset, .unset]) rfl ?_
    refine own_iloadN K own_d7_14 rfl ?_
    refine own_ldcI K own_d7_15 (v := (2147483627 : Int32)) (own_w0 hw) ?_
    refine own_static K own_d7_17 (own_w1 hw) (own_w2 hw) (own_w3 hw) (own_w4 hw) (argsL := [(.int i3), (.int (2147483627 : Int32))]) (rest := []) (own_min hw) own_pd0 rfl rfl rfl (by decide) (W := 0) (Nat.le_of_eq rfl) (by decide) (by decide) (by decide) (by decide) ?_
    intro v3 h1 q2
    obtain ⟨⟨bb, rfl, hbb⟩, rfl⟩ := q2
    replace hbb : bb.toInt ≤ 2147483627 := hbb
    refine own_istore K own_d7_20 (Ls' := #[.val (.int i0), .val (.int i1), .val (.int i2), .val (.int i3), .val (.int i4), .val (.int i5), .val (.int (2 : Int32)), .val (.int (3 : Int32)), .val (.int bb), .unset, .unset, .unset, .unset, .unset, .unset, .unset, .unset, .unset, .unset, .unset, .unset, .unset, .unset, .unset, .unset, .unset, .unset]) rfl ?_
    refine own_iload K own_d7_22 rfl ?_
    refine own_iloadN K own_d7_24 rfl ?_
    refine own_iconst K own_d7_25 (v := (3 : Int32)) rfl ?_
    refine own_iand K own_d7_26 ?_
    refine own_iadd K own_d7_27 ?_
    obtain ⟨r0, e_r0⟩ : ∃ z : Int32, z = (bb + (i1 &&& (3 : Int32))) := ⟨_, rfl⟩
    have r0_0 : r0.toInt ≤ 2147483630 := by rw [e_r0]; exact own_a0 _ hbb (by decide)
    refine own_topI (x' := r0) (e_r0.symm) ?_
    refine own_istore K own_d7_28 (Ls' := #[.val (.int i0), .val (.int i1), .val (.int i2), .val (.int i3), .val (.int i4), .val (.int i5), .val (.int (2 : Int32)), .val (.int (3 : Int32)), .val (.int bb), .val (.int r0), .unset, .unset, .unset, .unset, .unset, .unset, .unset, .unset, .unset, .unset, .unset, .unset, .unset, .unset, .unset, .unset, .unset]) rfl ?_
    refine own_iload K own_d7_30 rfl ?_
    refine own_iconst K own_d7_32 (v := (1 : Int32)) rfl ?_
    refine own_iadd K own_d7_33 ?_
    refine own_iloadN K own_d7_34 rfl ?_
    refine own_iconst K own_d7_35 (v := (2 : Int32)) rfl ?_
    refine own_ishr K own_d7_36 ?_
    refine own_iconst K own_d7_37 (v := (3 : Int32)) rfl ?_
    refine own_iand K own_d7_38 ?_
    refine own_iadd K own_d7_39 ?_
    obtain ⟨r1, e_r1⟩ : ∃ z : Int32, z = ((r0 + (1 : Int32)) + ((i1 >>> ((2 : Int32) &&& 31)) &&& (3 : Int32))) := ⟨_, rfl⟩
    have r1_0 : r0.toInt < r1.toInt := by rw [e_r1]; exact (own_a1 _ r0_0 (by decide)).1
    refine own_topI (x' := r1) (e_r1.symm) ?_
    refine own_istore K own_d7_40 (Ls' := #[.val (.int i0), .val (.int i1), .val (.int i2), .val (.int i3), .val (.int i4), .val (.int i5), .val (.int (2 : Int32)), .val (.int (3 : Int32)), .val (.int bb), .val (.int r0), .val (.int r1), .unset, .unset, .unset, .unset, .unset, .unset, .unset, .unset, .unset, .unset, .unset, .unset, .unset, .unset, .unset, .unset]) rfl ?_
    refine own_iload K own_d7_42 rfl ?_
    refine own_iloadN K own_d7_44 rfl ?_
    refine own_iconst K own_d7_45 (v := (3 : Int32)) rfl ?_
    refine own_iand K own_d7_46 ?_
    refine own_iadd K own_d7_47 ?_
    obtain ⟨e0, e_e0⟩ : ∃ z : Int32, z = (bb + (i2 &&& (3 : Int32))) := ⟨_, rfl⟩
    have e0_0 : e0.toInt ≤ 2147483630 := by rw [e_e0]; exact own_a0 _ hbb (by decide)
    refine own_topI (x' := e0) (e_e0.symm) ?_
    refine own_istore K own_d7_48 (Ls' := #[.val (.int i0), .val (.int i1), .val (.int i2), .val (.int i3), .val (.int i4), .val (.int i5), .val (.int (2 : Int32)), .val (.int (3 : Int32)), .val (.int bb), .val (.int r0), .val (.int r1), .val (.int e0), .unset, .unset, .unset, .unset, .unset, .unset, .unset, .unset, .unset, .unset, .unset, .unset, .unset, .unset, .unset]) rfl ?_
    refine own_iload K own_d7_50 rfl ?_
    refine own_iconst K own_d7_52 (v := (1 : Int32)) rfl ?_
    refine own_iadd K own_d7_53 ?_
    refine own_iloadN K own_d7_54 rfl ?_
    refine own_iconst K own_d7_55 (v := (2 : Int32)) rfl ?_
    refine own_ishr K own_d7_56 ?_
    refine own_iconst K own_d7_57 (v := (3 : Int32)) rfl ?_
    refine own_iand K own_d7_58 ?_
    refine own_iadd K own_d7_59 ?_
    obtain ⟨e1, e_e1⟩ : ∃ z : Int32, z = ((e0 + (1 : Int32)) + ((i2 >>> ((2 : Int32) &&& 31)) &&& (3 : Int32))) := ⟨_, rfl⟩
    have e1_0 : e0.toInt < e1.toInt ∧ e1.toInt ≤ 2147483634 := by rw [e_e1]; exact own_a1 _ e0_0 (by decide)
    refine own_topI (x' := e1) (e_e1.symm) ?_
    refine own_istore K own_d7_60 (Ls' := #[.val (.int i0), .val (.int i1), .val (.int i2), .val (.int i3), .val (.int i4), .val (.int i5), .val (.int (2 : Int32)), .val (.int (3 : Int32)), .val (.int bb), .val (.int r0), .val (.int r1), .val (.int e0), .val (.int e1), .unset, .unset, .unset, .unset, .unset, .unset, .unset, .unset, .unset, .unset, .unset, .unset, .unset, .unset]) rfl ?_
    refine own_iload K own_d7_62 rfl ?_
    refine own_iconst K own_d7_64 (v := (1 : Int32)) rfl ?_
    refine own_iadd K own_d7_65 ?_
    refine own_iloadN K own_d7_66 rfl ?_
    refine own_iconst K own_d7_67 (v := (4 : Int32)) rfl ?_
    refine own_ishr K own_d7_68 ?_
    refine own_iconst K own_d7_69 (v := (3 : Int32)) rfl ?_
    refine own_iand K own_d7_70 ?_
    refine own_iadd K own_d7_71 ?_
    obtain ⟨e2, e_e2⟩ : ∃ z : Int32, z = ((e1 + (1 : Int32)) + ((i2 >>> ((4 : Int32) &&& 31)) &&& (3 : Int32))) := ⟨_, rfl⟩
    have e2_0 : e1.toInt < e2.toInt := by rw [e_e2]; exact (own_a1 _ e1_0.2 (by decide)).1
    refine own_topI (x' := e2) (e_e2.symm) ?_
    refine own_istore K own_d7_72 (Ls' := #[.val (.int i0), .val (.int i1), .val (.int i2), .val (.int i3), .val (.int i4), .val (.int i5), .val (.int (2 : Int32)), .val (.int (3 : Int32)), .val (.int bb), .val (.int r0), .val (.int r1), .val (.int e0), .val (.int e1), .val (.int e2), .unset, .unset, .unset, .unset, .unset, .unset, .unset, .unset, .unset, .unset, .unset, .unset, .unset]) rfl ?_
    refine own_iload K own_d7_74 rfl ?_
    refine own_sipush K own_d7_76 (v := (255 : Int32)) rfl ?_
    refine own_iand K own_d7_79 ?_
    refine own_sipush K own_d7_80 (v := (128 : Int32)) rfl ?_
    refine own_isub K own_d7_83 ?_
    refine own_i2d K own_d7_84 ?_
    obtain ⟨s0, e_s0, Fs0⟩ : ∃ z : UInt64, z = (FP.i2d ((i4 &&& (255 : Int32)) - (128 : Int32))) ∧ Fl.Fin64 z := ⟨_, rfl, Fl.i2d_fin _⟩
    refine own_topD (x' := s0) (e_s0.symm) ?_
    refine own_dstore K own_d7_85 (Ls' := #[.val (.int i0), .val (.int i1), .val (.int i2), .val (.int i3), .val (.int i4), .val (.int i5), .val (.int (2 : Int32)), .val (.int (3 : Int32)), .val (.int bb), .val (.int r0), .val (.int r1), .val (.int e0), .val (.int e1), .val (.int e2), .val (.double s0), .second, .unset, .unset, .unset, .unset, .unset, .unset, .unset, .unset, .unset, .unset, .unset]) rfl ?_
    refine own_iload K own_d7_87 rfl ?_
    refine own_bipush K own_d7_89 (v := (8 : Int32)) rfl ?_
    refine own_ishr K own_d7_91 ?_
    refine own_sipush K own_d7_92 (v := (255 : Int32)) rfl ?_
    refine own_iand K own_d7_95 ?_
    refine own_sipush K own_d7_96 (v := (128 : Int32)) rfl ?_
    refine own_isub K own_d7_99 ?_
    refine own_i2d K own_d7_100 ?_
    obtain ⟨s1, e_s1, Fs1⟩ : ∃ z : UInt64, z = (FP.i2d (((i4 >>> ((8 : Int32) &&& 31)) &&& (255 : Int32)) - (128 : Int32))) ∧ Fl.Fin64 z := ⟨_, rfl, Fl.i2d_fin _⟩
    refine own_topD (x' := s1) (e_s1.symm) ?_
    refine own_dstore K own_d7_101 (Ls' := #[.val (.int i0), .val (.int i1), .val (.int i2), .val (.int i3), .val (.int i4), .val (.int i5), .val (.int (2 : Int32)), .val (.int (3 : Int32)), .val (.int bb), .val (.int r0), .val (.int r1), .val (.int e0), .val (.int e1), .val (.int e2), .val (.double s0), .second, .val (.double s1), .second, .unset, .unset, .unset, .unset, .unset, .unset, .unset, .unset, .unset]) rfl ?_
    refine own_iload K own_d7_103 rfl ?_
    refine own_sipush K own_d7_105 (v := (255 : Int32)) rfl ?_
    refine own_iand K own_d7_108 ?_
    refine own_sipush K own_d7_109 (v := (128 : Int32)) rfl ?_
    refine own_isub K own_d7_112 ?_
    refine own_i2d K own_d7_113 ?_
    obtain ⟨f0, e_f0, Ff0⟩ : ∃ z : UInt64, z = (FP.i2d ((i5 &&& (255 : Int32)) - (128 : Int32))) ∧ Fl.Fin64 z := ⟨_, rfl, Fl.i2d_fin _⟩
    refine own_topD (x' := f0) (e_f0.symm) ?_
    refine own_dstore K own_d7_114 (Ls' := #[.val (.int i0), .val (.int i1), .val (.int i2), .val (.int i3), .val (.int i4), .val (.int i5), .val (.int (2 : Int32)), .val (.int (3 : Int32)), .val (.int bb), .val (.int r0), .val (.int r1), .val (.int e0), .val (.int e1), .val (.int e2), .val (.double s0), .second, .val (.double s1), .second, .val (.double f0), .second, .unset, .unset, .unset, .unset, .unset, .unset, .unset]) rfl ?_
    refine own_iload K own_d7_116 rfl ?_
    refine own_bipush K own_d7_118 (v := (8 : Int32)) rfl ?_
    refine own_ishr K own_d7_120 ?_
    refine own_sipush K own_d7_121 (v := (255 : Int32)) rfl ?_
    refine own_iand K own_d7_124 ?_
    refine own_sipush K own_d7_125 (v := (128 : Int32)) rfl ?_
    refine own_isub K own_d7_128 ?_
    refine own_i2d K own_d7_129 ?_
    obtain ⟨f1, e_f1, Ff1⟩ : ∃ z : UInt64, z = (FP.i2d (((i5 >>> ((8 : Int32) &&& 31)) &&& (255 : Int32)) - (128 : Int32))) ∧ Fl.Fin64 z := ⟨_, rfl, Fl.i2d_fin _⟩
    refine own_topD (x' := f1) (e_f1.symm) ?_
    refine own_dstore K own_d7_130 (Ls' := #[.val (.int i0), .val (.int i1), .val (.int i2), .val (.int i3), .val (.int i4), .val (.int i5), .val (.int (2 : Int32)), .val (.int (3 : Int32)), .val (.int bb), .val (.int r0), .val (.int r1), .val (.int e0), .val (.int e1), .val (.int e2), .val (.double s0), .second, .val (.double s1), .second, .val (.double f0), .second, .val (.double f1), .second, .unset, .unset, .unset, .unset, .unset]) rfl ?_
    refine own_iload K own_d7_132 rfl ?_
    refine own_bipush K own_d7_134 (v := (16 : Int32)) rfl ?_
    refine own_ishr K own_d7_136 ?_
    refine own_sipush K own_d7_137 (v := (255 : Int32)) rfl ?_
    refine own_iand K own_d7_140 ?_
    refine own_sipush K own_d7_141 (v := (128 : Int32)) rfl ?_
    refine own_isub K own_d7_144 ?_
    refine own_i2d K own_d7_145 ?_
    obtain ⟨f2, e_f2, Ff2⟩ : ∃ z : UInt64, z = (FP.i2d (((i5 >>> ((16 : Int32) &&& 31)) &&& (255 : Int32)) - (128 : Int32))) ∧ Fl.Fin64 z := ⟨_, rfl, Fl.i2d_fin _⟩
    refine own_topD (x' := f2) (e_f2.symm) ?_
    refine own_dstore K own_d7_146 (Ls' := #[.val (.int i0), .val (.int i1), .val (.int i2), .val (.int i3), .val (.int i4), .val (.int i5), .val (.int (2 : Int32)), .val (.int (3 : Int32)), .val (.int bb), .val (.int r0), .val (.int r1), .val (.int e0), .val (.int e1), .val (.int e2), .val (.double s0), .second, .val (.double s1), .second, .val (.double f0), .second, .val (.double f1), .second, .val (.double f2), .second, .unset, .unset, .unset]) rfl ?_
    refine own_new K own_d7_148 (own_w5 hw) (own_w6 hw) (own_w7 hw) H (own_SD_F hw) (own_SD_P hw) (by decide) (by decide) ?_
    intro h4 a6 H5
    replace H5 : own_H Z h4 (own_SD a6 .null .null (.int (0 : Int32)) :: []) ([]) := H5
    refine own_dup K own_d7_151 rfl ?_
    refine own_special K own_d7_152 rfl (own_w8 hw) (own_w9 hw) (own_w7 hw) (own_w10 hw) (a := a6) (argsL := []) (rest := [(.ref a6)]) (own_init hw H5) own_pd1 rfl rfl rfl (by decide) (W := 1) (Nat.le_of_eq rfl) (by decide) (by decide) (by decide) (by decide) ?_
    intro v9 h7 q8
    obtain ⟨rfl, sa10, da11, H12⟩ := q8
    replace H12 : own_H Z h7 (own_SD a6 (.ref da11) (.ref sa10) (.int (0 : Int32)) :: []) ((sa10, .double, "[D", [(.double (0 : UInt64)), (.double (0 : UInt64)), (.double (0 : UInt64)), (.double (0 : UInt64))]) :: (da11, .int, "[I", [(.int (0 : Int32)), (.int (0 : Int32)), (.int (0 : Int32)), (.int (0 : Int32))]) :: []) := H12
    refine own_astore K own_d7_155 rfl (Ls' := #[.val (.int i0), .val (.int i1), .val (.int i2), .val (.int i3), .val (.int i4), .val (.int i5), .val (.int (2 : Int32)), .val (.int (3 : Int32)), .val (.int bb), .val (.int r0), .val (.int r1), .val (.int e0), .val (.int e1), .val (.int e2), .val (.double s0), .second, .val (.double s1), .second, .val (.double f0), .second, .val (.double f1), .second, .val (.double f2), .second, .val (.ref a6), .unset, .unset]) rfl ?_
    refine own_new K own_d7_157 (own_w5 hw) (own_w6 hw) (own_w7 hw) H12 (own_SD_F hw) (own_SD_P hw) (by decide) (by decide) ?_
    intro h13 a15 H14
    replace H14 : own_H Z h13 (own_SD a15 .null .null (.int (0 : Int32)) :: own_SD a6 (.ref da11) (.ref sa10) (.int (0 : Int32)) :: []) ((sa10, .double, "[D", [(.double (0 : UInt64)), (.double (0 : UInt64)), (.double (0 : UInt64)), (.double (0 : UInt64))]) :: (da11, .int, "[I", [(.int (0 : Int32)), (.int (0 : Int32)), (.int (0 : Int32)), (.int (0 : Int32))]) :: []) := H14
    refine own_dup K own_d7_160 rfl ?_
    refine own_special K own_d7_161 rfl (own_w8 hw) (own_w9 hw) (own_w7 hw) (own_w10 hw) (a := a15) (argsL := []) (rest := [(.ref a15)]) (own_init hw H14) own_pd1 rfl rfl rfl (by decide) (W := 1) (Nat.le_of_eq rfl) (by decide) (by decide) (by decide) (by decide) ?_
    intro v18 h16 q17
    obtain ⟨rfl, sa19, da20, H21⟩ := q17
    replace H21 : own_H Z h16 (own_SD a15 (.ref da20) (.ref sa19) (.int (0 : Int32)) :: own_SD a6 (.ref da11) (.ref sa10) (.int (0 : Int32)) :: []) ((sa19, .double, "[D", [(.double (0 : UInt64)), (.double (0 : UInt64)), (.double (0 : UInt64)), (.double (0 : UInt64))]) :: (da20, .int, "[I", [(.int (0 : Int32)), (.int (0 : Int32)), (.int (0 : Int32)), (.int (0 : Int32))]) :: (sa10, .double, "[D", [(.double (0 : UInt64)), (.double (0 : UInt64)), (.double (0 : UInt64)), (.double (0 : UInt64))]) :: (da11, .int, "[I", [(.int (0 : Int32)), (.int (0 : Int32)), (.int (0 : Int32)), (.int (0 : Int32))]) :: []) := H21
    refine own_astore K own_d7_164 rfl (Ls' := #[.val (.int i0), .val (.int i1), .val (.int i2), .val (.int i3), .val (.int i4), .val (.int i5), .val (.int (2 : Int32)), .val (.int (3 : Int32)), .val (.int bb), .val (.int r0), .val (.int r1), .val (.int e0), .val (.int e1), .val (.int e2), .val (.double s0), .second, .val (.double s1), .second, .val (.double f0), .second, .val (.double f1), .second, .val (.double f2), .second, .val (.ref a6), .val (.ref a15), .unset]) rfl ?_
    refine own_iload K own_d7_166 rfl ?_
    refine own_ifle K own_d7_168 (fun q => absurd q (by decide)) (fun _ => ?_)
    refine own_aload K own_d7_171 rfl rfl ?_
    refine own_iload K own_d7_173 rfl ?_
    refine own_dload K own_d7_175 rfl ?_
    have H22 := H21.frontO 1 rfl
    replace H22 : own_H Z h16 (own_SD a6 (.ref da11) (.ref sa10) (.int (0 : Int32)) :: own_SD a15 (.ref da20) (.ref sa19) (.int (0 : Int32)) :: []) ((sa19, .double, "[D", [(.double (0 : UInt64)), (.double (0 : UInt64)), (.double (0 : UInt64)), (.double (0 : UInt64))]) :: (da20, .int, "[I", [(.int (0 : Int32)), (.int (0 : Int32)), (.int (0 : Int32)), (.int (0 : Int32))]) :: (sa10, .double, "[D", [(.double (0 : UInt64)), (.double (0 : UInt64)), (.double (0 : UInt64)), (.double (0 : UInt64))]) :: (da11, .int, "[I", [(.int (0 : Int32)), (.int (0 : Int32)), (.int (0 : Int32)), (.int (0 : Int32))]) :: []) := H22
    have H23 := H22.frontA 2 rfl
    replace H23 : own_H Z h16 (own_SD a6 (.ref da11) (.ref sa10) (.int (0 : Int32)) :: own_SD a15 (.ref da20) (.ref sa19) (.int (0 : Int32)) :: []) ((sa10, .double, "[D", [(.double (0 : UInt64)), (.double (0 : UInt64)), (.double (0 : UInt64)), (.double (0 : UInt64))]) :: (sa19, .double, "[D", [(.double (0 : UInt64)), (.double (0 : UInt64)), (.double (0 : UInt64)), (.double (0 : UInt64))]) :: (da20, .int, "[I", [(.int (0 : Int32)), (.int (0 : Int32)), (.int (0 : Int32)), (.int (0 : Int32))]) :: (da11, .int, "[I", [(.int (0 : Int32)), (.int (0 : Int32)), (.int (0 : Int32)), (.int (0 : Int32))]) :: []) := H23
    have H24 := H23.frontA 3 rfl
    replace H24 : own_H Z h16 (own_SD a6 (.ref da11) (.ref sa10) (.int (0 : Int32)) :: own_SD a15 (.ref da20) (.ref sa19) (.int (0 : Int32)) :: []) ((da11, .int, "[I", [(.int (0 : Int32)), (.int (0 : Int32)), (.int (0 : Int32)), (.int (0 : Int32))]) :: (sa10, .double, "[D", [(.double (0 : UInt64)), (.double (0 : UInt64)), (.double (0 : UInt64)), (.double (0 : UInt64))]) :: (sa19, .double, "[D", [(.double (0 : UInt64)), (.double (0 : UInt64)), (.double (0 : UInt64)), (.double (0 : UInt64))]) :: (da20, .int, "[I", [(.int (0 : Int32)), (.int (0 : Int32)), (.int (0 : Int32)), (.int (0 : Int32))]) :: []) := H24
    refine own_virtual K own_d7_177 (own_w32 hw) (own_w33 hw) (own_w35 hw) (own_w34 hw) (own_w7 hw) (own_w36 hw) (H24.atO (i := 0) rfl) (a := a6) (argsL := [(.int r0), (.double s0)]) (rest := []) (own_add0 hw H24) own_pd4 rfl rfl rfl (by decide) (W := 0) (Nat.le_of_eq rfl) (by decide) (by decide) (by decide) (by decide) ?_
    intro v27 h25 q26
    obtain ⟨rfl, H28⟩ := q26
    replace H28 : own_H Z h25 (own_SD a6 (.ref da11) (.ref sa10) (.int (1 : Int32)) :: own_SD a15 (.ref da20) (.ref sa19) (.int (0 : Int32)) :: []) ((da11, .int, "[I", [(.int r0), (.int (0 : Int32)), (.int (0 : Int32)), (.int (0 : Int32))]) :: (sa10, .double, "[D", [(.double s0), (.double (0 : UInt64)), (.double (0 : UInt64)), (.double (0 : UInt64))]) :: (sa19, .double, "[D", [(.double (0 : UInt64)), (.double (0 : UInt64)), (.double (0 : UInt64)), (.double (0 : UInt64))]) :: (da20, .int, "[I", [(.int (0 : Int32)), (.int (0 : Int32)), (.int (0 : Int32)), (.int (0 : Int32))]) :: []) := H28
    refine own_iload K own_d7_180 rfl ?_
    refine own_iconst K own_d7_182 (v := (1 : Int32)) rfl ?_
    refine own_icmple K own_d7_183 (fun q => absurd q (by decide)) (fun _ => ?_)
    refine own_aload K own_d7_186 rfl rfl ?_
    refine own_iload K own_d7_188 rfl ?_
    refine own_dload K own_d7_190 rfl ?_
    have H29 := H28.frontA 1 rfl
    replace H29 : own_H Z h25 (own_SD a6 (.ref da11) (.ref sa10) (.int (1 : Int32)) :: own_SD a15 (.ref da20) (.ref sa19) (.int (0 : Int32)) :: []) ((sa10, .double, "[D", [(.double s0), (.double (0 : UInt64)), (.double (0 : UInt64)), (.double (0 : UInt64))]) :: (da11, .int, "[I", [(.int r0), (.int (0 : Int32)), (.int (0 : Int32)), (.int (0 : Int32))]) :: (sa19, .double, "[D", [(.double (0 : UInt64)), (.double (0 : UInt64)), (.double (0 : UInt64)), (.double (0 : UInt64))]) :: (da20, .int, "[I", [(.int (0 : Int32)), (.int (0 : Int32)), (.int (0 : Int32)), (.int (0 : Int32))]) :: []) := H29
    have H30 := H29.frontA 1 rfl
    replace H30 : own_H Z h25 (own_SD a6 (.ref da11) (.ref sa10) (.int (1 : Int32)) :: own_SD a15 (.ref da20) (.ref sa19) (.int (0 : Int32)) :: []) ((da11, .int, "[I", [(.int r0), (.int (0 : Int32)), (.int (0 : Int32)), (.int (0 : Int32))]) :: (sa10, .double, "[D", [(.double s0), (.double (0 : UInt64)), (.double (0 : UInt64)), (.double (0 : UInt64))]) :: (sa19, .double, "[D", [(.double (0 : UInt64)), (.double (0 : UInt64)), (.double (0 : UInt64)), (.double (0 : UInt64))]) :: (da20, .int, "[I", [(.int (0 : Int32)), (.int (0 : Int32)), (.int (0 : Int32)), (.int (0 : Int32))]) :: []) := H30
    refine own_virtual K own_d7_192 (own_w32 hw) (own_w33 hw) (own_w35 hw) (own_w34 hw) (own_w7 hw) (own_w36 hw) (H30.atO (i := 0) rfl) (a := a6) (argsL := [(.int r1), (.double s1)]) (rest := []) (own_add1 hw H30) own_pd4 rfl rfl rfl (by decide) (W := 0) (Nat.le_of_eq rfl) (by decide) (by decide) (by decide) (by decide) ?_
    intro v33 h31 q32
    obtain ⟨rfl, H34⟩ := q32
    replace H34 : own_H Z h31 (own_SD a6 (.ref da11) (.ref sa10) (.int (2 : Int32)) :: own_SD a15 (.ref da20) (.ref sa19) (.int (0 : Int32)) :: []) ((da11, .int, "[I", [(.int r0), (.int r1), (.int (0 : Int32)), (.int (0 : Int32))]) :: (sa10, .double, "[D", [(.double s0), (.double s1), (.double (0 : UInt64)), (.double (0 : UInt64))]) :: (sa19, .double, "[D", [(.double (0 : UInt64)), (.double (0 : UInt64)), (.double (0 : UInt64)), (.double (0 : UInt64))]) :: (da20, .int, "[I", [(.int (0 : Int32)), (.int (0 : Int32)), (.int (0 : Int32)), (.int (0 : Int32))]) :: []) := H34
    refine own_iload K own_d7_195 rfl ?_
    refine own_ifle K own_d7_197 (fun q => absurd q (by decide)) (fun _ => ?_)
    refine own_aload K own_d7_200 rfl rfl ?_
    refine own_iload K own_d7_202 rfl ?_
    refine own_dload K own_d7_204 rfl ?_
    have H35 := H34.frontO 1 rfl
    replace H35 : own_H Z h31 (own_SD a15 (.ref da20) (.ref sa19) (.int (0 : Int32)) :: own_SD a6 (.ref da11) (.ref sa10) (.int (2 : Int32)) :: []) ((da11, .int, "[I", [(.int r0), (.int r1), (.int (0 : Int32)), (.int (0 : Int32))]) :: (sa10, .double, "[D", [(.double s0), (.double s1), (.double (0 : UInt64)), (.double (0 : UInt64))]) :: (sa19, .double, "[D", [(.double (0 : UInt64)), (.double (0 : UInt64)), (.double (0 : UInt64)), (.double (0 : UInt64))]) :: (da20, .int, "[I", [(.int (0 : Int32)), (.int (0 : Int32)), (.int (0 : Int32)), (.int (0 : Int32))]) :: []) := H35
    have H36 := H35.frontA 2 rfl
    replace H36 : own_H Z h31 (own_SD a15 (.ref da20) (.ref sa19) (.int (0 : Int32)) :: own_SD a6 (.ref da11) (.ref sa10) (.int (2 : Int32)) :: []) ((sa19, .double, "[D", [(.double (0 : UInt64)), (.double (0 : UInt64)), (.double (0 : UInt64)), (.double (0 : UInt64))]) :: (da11, .int, "[I", [(.int r0), (.int r1), (.int (0 : Int32)), (.int (0 : Int32))]) :: (sa10, .double, "[D", [(.double s0), (.double s1), (.double (0 : UInt64)), (.double (0 : UInt64))]) :: (da20, .int, "[I", [(.int (0 : Int32)), (.int (0 : Int32)), (.int (0 : Int32)), (.int (0 : Int32))]) :: []) := H36
    have H37 := H36.frontA 3 rfl
    replace H37 : own_H Z h31 (own_SD a15 (.ref da20) (.ref sa19) (.int (0 : Int32)) :: own_SD a6 (.ref da11) (.ref sa10) (.int (2 : Int32)) :: []) ((da20, .int, "[I", [(.int (0 : Int32)), (.int (0 : Int32)), (.int (0 : Int32)), (.int (0 : Int32))]) :: (sa19, .double, "[D", [(.double (0 : UInt64)), (.double (0 : UInt64)), (.double (0 : UInt64)), (.double (0 : UInt64))]) :: (da11, .int, "[I", [(.int r0), (.int r1), (.int (0 : Int32)), (.int (0 : Int32))]) :: (sa10, .double, "[D", [(.double s0), (.double s1), (.double (0 : UInt64)), (.double (0 : UInt64))]) :: []) := H37
    refine own_virtual K own_d7_206 (own_w32 hw) (own_w33 hw) (own_w35 hw) (own_w34 hw) (own_w7 hw) (own_w36 hw) (H37.atO (i := 0) rfl) (a := a15) (argsL := [(.int e0), (.double f0)]) (rest := []) (own_add0 hw H37) own_pd4 rfl rfl rfl (by decide) (W := 0) (Nat.le_of_eq rfl) (by decide) (by decide) (by decide) (by decide) ?_
    intro v40 h38 q39
    obtain ⟨rfl, H41⟩ := q39
    replace H41 : own_H Z h38 (own_SD a15 (.ref da20) (.ref sa19) (.int (1 : Int32)) :: own_SD a6 (.ref da11) (.ref sa10) (.int (2 : Int32)) :: []) ((da20, .int, "[I", [(.int e0), (.int (0 : Int32)), (.int (0 : Int32)), (.int (0 : Int32))]) :: (sa19, .double, "[D", [(.double f0), (.double (0 : UInt64)), (.double (0 : UInt64)), (.double (0 : UInt64))]) :: (da11, .int, "[I", [(.int r0), (.int r1), (.int (0 : Int32)), (.int (0 : Int32))]) :: (sa10, .double, "[D", [(.double s0), (.double s1), (.double (0 : UInt64)), (.double (0 : UInt64))]) :: []) := H41
    refine own_iload K own_d7_209 rfl ?_
    refine own_iconst K own_d7_211 (v := (1 : Int32)) rfl ?_
    refine own_icmple K own_d7_212 (fun q => absurd q (by decide)) (fun _ => ?_)
    refine own_aload K own_d7_215 rfl rfl ?_
    refine own_iload K own_d7_217 rfl ?_
    refine own_dload K own_d7_219 rfl ?_
    have H42 := H41.frontA 1 rfl
    replace H42 : own_H Z h38 (own_SD a15 (.ref da20) (.ref sa19) (.int (1 : Int32)) :: own_SD a6 (.ref da11) (.ref sa10) (.int (2 : Int32)) :: []) ((sa19, .double, "[D", [(.double f0), (.double (0 : UInt64)), (.double (0 : UInt64)), (.double (0 : UInt64))]) :: (da20, .int, "[I", [(.int e0), (.int (0 : Int32)), (.int (0 : Int32)), (.int (0 : Int32))]) :: (da11, .int, "[I", [(.int r0), (.int r1), (.int (0 : Int32)), (.int (0 : Int32))]) :: (sa10, .double, "[D", [(.double s0), (.double s1), (.double (0 : UInt64)), (.double (0 : UInt64))]) :: []) := H42
    have H43 := H42.frontA 1 rfl
    replace H43 : own_H Z h38 (own_SD a15 (.ref da20) (.ref sa19) (.int (1 : Int32)) :: own_SD a6 (.ref da11) (.ref sa10) (.int (2 : Int32)) :: []) ((da20, .int, "[I", [(.int e0), (.int (0 : Int32)), (.int (0 : Int32)), (.int (0 : Int32))]) :: (sa19, .double, "[D", [(.double f0), (.double (0 : UInt64)), (.double (0 : UInt64)), (.double (0 : UInt64))]) :: (da11, .int, "[I", [(.int r0), (.int r1), (.int (0 : Int32)), (.int (0 : Int32))]) :: (sa10, .double, "[D", [(.double s0), (.double s1), (.double (0 : UInt64)), (.double (0 : UInt64))]) :: []) := H43
    refine own_virtual K own_d7_221 (own_w32 hw) (own_w33 hw) (own_w35 hw) (own_w34 hw) (own_w7 hw) (own_w36 hw) (H43.atO (i := 0) rfl) (a := a15) (argsL := [(.int e1), (.double f1)]) (rest := []) (own_add1 hw H43) own_pd4 rfl rfl rfl (by decide) (W := 0) (Nat.le_of_eq rfl) (by decide) (by decide) (by decide) (by decide) ?_
    intro v46 h44 q45
    obtain ⟨rfl, H47⟩ := q45
    replace H47 : own_H Z h44 (own_SD a15 (.ref da20) (.ref sa19) (.int (2 : Int32)) :: own_SD a6 (.ref da11) (.ref sa10) (.int (2 : Int32)) :: []) ((da20, .int, "[I", [(.int e0), (.int e1), (.int (0 : Int32)), (.int (0 : Int32))]) :: (sa19, .double, "[D", [(.double f0), (.double f1), (.double (0 : UInt64)), (.double (0 : UInt64))]) :: (da11, .int, "[I", [(.int r0), (.int r1), (.int (0 : Int32)), (.int (0 : Int32))]) :: (sa10, .double, "[D", [(.double s0), (.double s1), (.double (0 : UInt64)), (.double (0 : UInt64))]) :: []) := H47
    refine own_iload K own_d7_224 rfl ?_
    refine own_iconst K own_d7_226 (v := (2 : Int32)) rfl ?_
    refine own_icmple K own_d7_227 (fun q => absurd q (by decide)) (fun _ => ?_)
    refine own_aload K own_d7_230 rfl rfl ?_
    refine own_iload K own_d7_232 rfl ?_
    refine own_dload K own_d7_234 rfl ?_
    have H48 := H47.frontA 1 rfl
    replace H48 : own_H Z h44 (own_SD a15 (.ref da20) (.ref sa19) (.int (2 : Int32)) :: own_SD a6 (.ref da11) (.ref sa10) (.int (2 : Int32)) :: []) ((sa19, .double, "[D", [(.double f0), (.double f1), (.double (0 : UInt64)), (.double (0 : UInt64))]) :: (da20, .int, "[I", [(.int e0), (.int e1), (.int (0 : Int32)), (.int (0 : Int32))]) :: (da11, .int, "[I", [(.int r0), (.int r1), (.int (0 : Int32)), (.int (0 : Int32))]) :: (sa10, .double, "[D", [(.double s0), (.double s1), (.double (0 : UInt64)), (.double (0 : UInt64))]) :: []) := H48
    have H49 := H48.frontA 1 rfl
    replace H49 : own_H Z h44 (own_SD a15 (.ref da20) (.ref sa19) (.int (2 : Int32)) :: own_SD a6 (.ref da11) (.ref sa10) (.int (2 : Int32)) :: []) ((da20, .int, "[I", [(.int e0), (.int e1), (.int (0 : Int32)), (.int (0 : Int32))]) :: (sa19, .double, "[D", [(.double f0), (.double f1), (.double (0 : UInt64)), (.double (0 : UInt64))]) :: (da11, .int, "[I", [(.int r0), (.int r1), (.int (0 : Int32)), (.int (0 : Int32))]) :: (sa10, .double, "[D", [(.double s0), (.double s1), (.double (0 : UInt64)), (.double (0 : UInt64))]) :: []) := H49
    refine own_virtual K own_d7_236 (own_w32 hw) (own_w33 hw) (own_w35 hw) (own_w34 hw) (own_w7 hw) (own_w36 hw) (H49.atO (i := 0) rfl) (a := a15) (argsL := [(.int e2), (.double f2)]) (rest := []) (own_add2 hw H49) own_pd4 rfl rfl rfl (by decide) (W := 0) (Nat.le_of_eq rfl) (by decide) (by decide) (by decide) (by decide) ?_
    intro v52 h50 q51
    obtain ⟨rfl, H53⟩ := q51
    replace H53 : own_H Z h50 (own_SD a15 (.ref da20) (.ref sa19) (.int (3 : Int32)) :: own_SD a6 (.ref da11) (.ref sa10) (.int (2 : Int32)) :: []) ((da20, .int, "[I", [(.int e0), (.int e1), (.int e2), (.int (0 : Int32))]) :: (sa19, .double, "[D", [(.double f0), (.double f1), (.double f2), (.double (0 : UInt64))]) :: (da11, .int, "[I", [(.int r0), (.int r1), (.int (0 : Int32)), (.int (0 : Int32))]) :: (sa10, .double, "[D", [(.double s0), (.double s1), (.double (0 : UInt64)), (.double (0 : UInt64))]) :: []) := H53
    refine own_aload K own_d7_239 rfl rfl ?_
    refine own_aload K own_d7_241 rfl rfl ?_
    have H54 := H53.frontO 1 rfl
    replace H54 : own_H Z h50 (own_SD a6 (.ref da11) (.ref sa10) (.int (2 : Int32)) :: own_SD a15 (.ref da20) (.ref sa19) (.int (3 : Int32)) :: []) ((da20, .int, "[I", [(.int e0), (.int e1), (.int e2), (.int (0 : Int32))]) :: (sa19, .double, "[D", [(.double f0), (.double f1), (.double f2), (.double (0 : UInt64))]) :: (da11, .int, "[I", [(.int r0), (.int r1), (.int (0 : Int32)), (.int (0 : Int32))]) :: (sa10, .double, "[D", [(.double s0), (.double s1), (.double (0 : UInt64)), (.double (0 : UInt64))]) :: []) := H54
    have H55 := H54.frontA 1 rfl
    replace H55 : own_H Z h50 (own_SD a6 (.ref da11) (.ref sa10) (.int (2 : Int32)) :: own_SD a15 (.ref da20) (.ref sa19) (.int (3 : Int32)) :: []) ((sa19, .double, "[D", [(.double f0), (.double f1), (.double f2), (.double (0 : UInt64))]) :: (da20, .int, "[I", [(.int e0), (.int e1), (.int e2), (.int (0 : Int32))]) :: (da11, .int, "[I", [(.int r0), (.int r1), (.int (0 : Int32)), (.int (0 : Int32))]) :: (sa10, .double, "[D", [(.double s0), (.double s1), (.double (0 : UInt64)), (.double (0 : UInt64))]) :: []) := H55
    have H56 := H55.frontA 1 rfl
    replace H56 : own_H Z h50 (own_SD a6 (.ref da11) (.ref sa10) (.int (2 : Int32)) :: own_SD a15 (.ref da20) (.ref sa19) (.int (3 : Int32)) :: []) ((da20, .int, "[I", [(.int e0), (.int e1), (.int e2), (.int (0 : Int32))]) :: (sa19, .double, "[D", [(.double f0), (.double f1), (.double f2), (.double (0 : UInt64))]) :: (da11, .int, "[I", [(.int r0), (.int r1), (.int (0 : Int32)), (.int (0 : Int32))]) :: (sa10, .double, "[D", [(.double s0), (.double s1), (.double (0 : UInt64)), (.double (0 : UInt64))]) :: []) := H56
    have H57 := H56.frontA 3 rfl
    replace H57 : own_H Z h50 (own_SD a6 (.ref da11) (.ref sa10) (.int (2 : Int32)) :: own_SD a15 (.ref da20) (.ref sa19) (.int (3 : Int32)) :: []) ((sa10, .double, "[D", [(.double s0), (.double s1), (.double (0 : UInt64)), (.double (0 : UInt64))]) :: (da20, .int, "[I", [(.int e0), (.int e1), (.int e2), (.int (0 : Int32))]) :: (sa19, .double, "[D", [(.double f0), (.double f1), (.double f2), (.double (0 : UInt64))]) :: (da11, .int, "[I", [(.int r0), (.int r1), (.int (0 : Int32)), (.int (0 : Int32))]) :: []) := H57
    have H58 := H57.frontA 3 rfl
    replace H58 : own_H Z h50 (own_SD a6 (.ref da11) (.ref sa10) (.int (2 : Int32)) :: own_SD a15 (.ref da20) (.ref sa19) (.int (3 : Int32)) :: []) ((da11, .int, "[I", [(.int r0), (.int r1), (.int (0 : Int32)), (.int (0 : Int32))]) :: (sa10, .double, "[D", [(.double s0), (.double s1), (.double (0 : UInt64)), (.double (0 : UInt64))]) :: (da20, .int, "[I", [(.int e0), (.int e1), (.int e2), (.int (0 : Int32))]) :: (sa19, .double, "[D", [(.double f0), (.double f1), (.double f2), (.double (0 : UInt64))]) :: []) := H58
    refine own_virtual K own_d7_243 (own_w20 hw) (own_w21 hw) (own_w23 hw) (own_w22 hw) (own_w7 hw) (own_w24 hw) (H58.atO (i := 0) rfl) (a := a6) (argsL := [(.ref a15)]) (rest := []) (own_adds_2_3 hw H58 Fs0 Fs1 Ff0 Ff1 Ff2 r1_0 e1_0.1 e2_0) own_pd2 rfl rfl rfl (by decide) (W := 0) (Nat.le_of_eq rfl) (by decide) (by decide) (by decide) (by decide) ?_
    intro v61 h59 q60
    obtain ⟨rfl, H62⟩ := q60
    replace H62 : own_H Z h59 (own_SD a6 (.ref da11) (.ref sa10) (.int (2 : Int32)) :: own_SD a15 (.ref da20) (.ref sa19) (.int (3 : Int32)) :: []) ((da11, .int, "[I", [(.int r0), (.int r1), (.int (0 : Int32)), (.int (0 : Int32))]) :: (sa10, .double, "[D", [(.double (if e0 = r0 then FP.dadd s0 f0 else (if e1 = r0 then FP.dadd s0 f1 else (if e2 = r0 then FP.dadd s0 f2 else s0)))), (.double (if e0 = r1 then FP.dadd s1 f0 else (if e1 = r1 then FP.dadd s1 f1 else (if e2 = r1 then FP.dadd s1 f2 else s1)))), (.double (0 : UInt64)), (.double (0 : UInt64))]) :: (da20, .int, "[I", [(.int e0), (.int e1), (.int e2), (.int (0 : Int32))]) :: (sa19, .double, "[D", [(.double f0), (.double f1), (.double f2), (.double (0 : UInt64))]) :: []) := H62
    refine own_aload K own_d7_246 rfl rfl ?_
    refine own_virtual K own_d7_248 (own_w27 hw) (own_w28 hw) (own_w30 hw) (own_w29 hw) (own_w7 hw) (own_w31 hw) (H62.atO (i := 0) rfl) (a := a6) (argsL := []) (rest := []) (own_size hw H62) own_pd3 rfl rfl rfl (by decide) (W := 0) (Nat.le_of_eq rfl) (by decide) (by decide) (by decide) (by decide) ?_
    intro v65 h63 q64
    obtain ⟨rfl, rfl⟩ := q64
    refine own_iload K own_d7_251 rfl ?_
    refine own_icmpeq K own_d7_253 (fun _ => ?_) (fun q => absurd (by decide) q)
    refine own_iconst K own_d7_258 (v := (1 : Int32)) rfl ?_
    refine own_istore K own_d7_259 (Ls' := #[.val (.int i0), .val (.int i1), .val (.int i2), .val (.int i3), .val (.int i4), .val (.int i5), .val (.int (2 : Int32)), .val (.int (3 : Int32)), .val (.int bb), .val (.int r0), .val (.int r1), .val (.int e0), .val (.int e1), .val (.int e2), .val (.double s0), .second, .val (.double s1), .second, .val (.double f0), .second, .val (.double f1), .second, .val (.double f2), .second, .val (.ref a6), .val (.ref a15), .val (.int (1 : Int32))]) rfl ?_
    refine own_iload K own_d7_261 rfl ?_
    refine own_ifle K own_d7_263 (fun q => absurd q (by decide)) (fun _ => ?_)
    refine own_iload K own_d7_266 rfl ?_
    refine own_ifeq K own_d7_268 (fun q => absurd q (by decide)) (fun _ => ?_)
    refine own_aload K own_d7_271 rfl rfl ?_
    refine own_iconst K own_d7_273 (v := (0 : Int32)) rfl ?_
    have H66 := H62.frontA 1 rfl
    replace H66 : own_H Z h59 (own_SD a6 (.ref da11) (.ref sa10) (.int (2 : Int32)) :: own_SD a15 (.ref da20) (.ref sa19) (.int (3 : Int32)) :: []) ((sa10, .double, "[D", [(.double (if e0 = r0 then FP.dadd s0 f0 else (if e1 = r0 then FP.dadd s0 f1 else (if e2 = r0 then FP.dadd s0 f2 else s0)))), (.double (if e0 = r1 then FP.dadd s1 f0 else (if e1 = r1 then FP.dadd s1 f1 else (if e2 = r1 then FP.dadd s1 f2 else s1)))), (.double (0 : UInt64)), (.double (0 : UInt64))]) :: (da11, .int, "[I", [(.int r0), (.int r1), (.int (0 : Int32)), (.int (0 : Int32))]) :: (da20, .int, "[I", [(.int e0), (.int e1), (.int e2), (.int (0 : Int32))]) :: (sa19, .double, "[D", [(.double f0), (.double f1), (.double f2), (.double (0 : UInt64))]) :: []) := H66
    refine own_virtual K own_d7_274 (own_w37 hw) (own_w38 hw) (own_w40 hw) (own_w39 hw) (own_w7 hw) (own_w41 hw) (H66.atO (i := 0) rfl) (a := a6) (argsL := [(.int (0 : Int32))]) (rest := []) (own_score hw H66 (q := 0) rfl rfl) own_pd5 rfl rfl rfl (by decide) (W := 0) (Nat.le_of_eq rfl) (by decide) (by decide) (by decide) (by decide) ?_
    intro v69 h67 q68
    obtain ⟨rfl, rfl⟩ := q68
    refine own_iload K own_d7_277 rfl ?_
    refine own_dload K own_d7_279 rfl ?_
    refine own_iload K own_d7_281 rfl ?_
    refine own_iload K own_d7_283 rfl ?_
    refine own_iload K own_d7_285 rfl ?_
    refine own_iload K own_d7_287 rfl ?_
    refine own_dload K own_d7_289 rfl ?_
    refine own_dload K own_d7_291 rfl ?_
    refine own_dload K own_d7_293 rfl ?_
    refine own_static K own_d7_295 (own_w42 hw) (own_w43 hw) (own_w44 hw) (own_w45 hw) (argsL := [(.int r0), (.double s0), (.int (3 : Int32)), (.int e0), (.int e1), (.int e2), (.double f0), (.double f1), (.double f2)]) (rest := [(.double (if e0 = r0 then FP.dadd s0 f0 else (if e1 = r0 then FP.dadd s0 f1 else (if e2 = r0 then FP.dadd s0 f2 else s0))))]) (own_exp3 hw Fs0 Ff0 Ff1 Ff2) own_pd6 rfl rfl rfl (by decide) (W := 2) (Nat.le_of_eq rfl) (by decide) (by decide) (by decide) (by decide) ?_
    intro v72 h70 q71
    obtain ⟨rfl, rfl⟩ := q71
    refine own_dcmp K own_d7_298 ?_
    refine own_ifne K own_d7_299 (fun q => absurd q (fun z => z (dcmpV_self (own_expnn 0 Fs0 Ff0 Ff1 Ff2 (e0 = r0) (e1 = r0) (e2 = r0)).2.2.2 _))) (fun _ => ?_)
    refine own_iconst K own_d7_302 (v := (1 : Int32)) rfl ?_
    refine own_goto K own_d7_303 ?_
    refine own_istore K own_d7_307 (Ls' := #[.val (.int i0), .val (.int i1), .val (.int i2), .val (.int i3), .val (.int i4), .val (.int i5), .val (.int (2 : Int32)), .val (.int (3 : Int32)), .val (.int bb), .val (.int r0), .val (.int r1), .val (.int e0), .val (.int e1), .val (.int e2), .val (.double s0), .second, .val (.double s1), .second, .val (.double f0), .second, .val (.double f1), .second, .val (.double f2), .second, .val (.ref a6), .val (.ref a15), .val (.int (1 : Int32))]) rfl ?_
    refine own_iload K own_d7_309 rfl ?_
    refine own_iconst K own_d7_311 (v := (1 : Int32)) rfl ?_
    refine own_icmple K own_d7_312 (fun q => absurd q (by decide)) (fun _ => ?_)
    refine own_iload K own_d7_315 rfl ?_
    refine own_ifeq K own_d7_317 (fun q => absurd q (by decide)) (fun _ => ?_)
    refine own_aload K own_d7_320 rfl rfl ?_
    refine own_iconst K own_d7_322 (v := (1 : Int32)) rfl ?_
    refine own_virtual K own_d7_323 (own_w37 hw) (own_w38 hw) (own_w40 hw) (own_w39 hw) (own_w7 hw) (own_w41 hw) (H66.atO (i := 0) rfl) (a := a6) (argsL := [(.int (1 : Int32))]) (rest := []) (own_score hw H66 (q := 1) rfl rfl) own_pd5 rfl rfl rfl (by decide) (W := 0) (Nat.le_of_eq rfl) (by decide) (by decide) (by decide) (by decide) ?_
    intro v75 h73 q74
    obtain ⟨rfl, rfl⟩ := q74
    refine own_iload K own_d7_326 rfl ?_
    refine own_dload K own_d7_328 rfl ?_
    refine own_iload K own_d7_330 rfl ?_
    refine own_iload K own_d7_332 rfl ?_
    refine own_iload K own_d7_334 rfl ?_
    refine own_iload K own_d7_336 rfl ?_
    refine own_dload K own_d7_338 rfl ?_
    refine own_dload K own_d7_340 rfl ?_
    refine own_dload K own_d7_342 rfl ?_
    refine own_static K own_d7_344 (own_w42 hw) (own_w43 hw) (own_w44 hw) (own_w45 hw) (argsL := [(.int r1), (.double s1), (.int (3 : Int32)), (.int e0), (.int e1), (.int e2), (.double f0), (.double f1), (.double f2)]) (rest := [(.double (if e0 = r1 then FP.dadd s1 f0 else (if e1 = r1 then FP.dadd s1 f1 else (if e2 = r1 then FP.dadd s1 f2 else s1))))]) (own_exp3 hw Fs1 Ff0 Ff1 Ff2) own_pd6 rfl rfl rfl (by decide) (W := 2) (Nat.le_of_eq rfl) (by decide) (by decide) (by decide) (by decide) ?_
    intro v78 h76 q77
    obtain ⟨rfl, rfl⟩ := q77
    refine own_dcmp K own_d7_347 ?_
    refine own_ifne K own_d7_348 (fun q => absurd q (fun z => z (dcmpV_self (own_expnn 0 Fs1 Ff0 Ff1 Ff2 (e0 = r1) (e1 = r1) (e2 = r1)).2.2.2 _))) (fun _ => ?_)
    refine own_iconst K own_d7_351 (v := (1 : Int32)) rfl ?_
    refine own_goto K own_d7_352 ?_
    refine own_istore K own_d7_356 (Ls' := #[.val (.int i0), .val (.int i1), .val (.int i2), .val (.int i3), .val (.int i4), .val (.int i5), .val (.int (2 : Int32)), .val (.int (3 : Int32)), .val (.int bb), .val (.int r0), .val (.int r1), .val (.int e0), .val (.int e1), .val (.int e2), .val (.double s0), .second, .val (.double s1), .second, .val (.double f0), .second, .val (.double f1), .second, .val (.double f2), .second, .val (.ref a6), .val (.ref a15), .val (.int (1 : Int32))]) rfl ?_
    refine own_iload K own_d7_358 rfl ?_
    exact own_retZ K (by first | exact Or.inl rfl | exact Or.inr rfl | decide) own_d7_360 (by decide) (by decide) (rfl)
set_option maxRecDepth 65536 in
set_option maxHeartbeats 40000000 in
theorem comes_1 {Post : Tables → Env → Array Value → State → Outcome → State → Prop} (hpost : ∀ tb e args s v u, (limb_1_1.after args s (.returned v) u = true ∧ limb_1_2.after args s (.returned v) u = true ∧ True) → FrameEnd s (.returned v) u (Jvm.fieldLocs frame_1_writes args s ++ Jvm.arrayLocs frame_1_arrays args s ++ Jvm.staticLocs frame_1_statics s) 24 128 → Post tb e args s (.returned v) u) :
    ArmFor flags0 classFile x code maxLocals ret World_1 tables_1 room_1 Calls_1 rest_1 Pre_1 Post := by
  intro l hfl _ _ p e ha hc hk s m args below hf hA hF happ hP
  obtain ⟨hcalls, hrest, hpre⟩ := hP
  obtain ⟨-, -, -, hnamed, -, -, -, hat⟩ := (Spec.applies_iff hf).mp happ
  obtain ⟨hg, hn⟩ := and_e (Cond.before_iff.mp (show (Jvm.Cond.and given_1 narrow_1).before args s = true from hpre))
  obtain ⟨h1, hq0⟩ := and_e hg
  obtain ⟨hi0, hq1⟩ := and_e hq0
  obtain ⟨hi1, hq2⟩ := and_e hq1
  obtain ⟨hi2, hq3⟩ := and_e hq2
  obtain ⟨hi3, hq4⟩ := and_e hq3
  obtain ⟨hi4, hq5⟩ := and_e hq4
  have hi5 := hq5
  obtain ⟨w0, w1, w2, w3, w4, w5, rfl⟩ : ∃ w0 w1 w2 w3 w4 w5 : Value, args = #[w0, w1, w2, w3, w4, w5] := by
    have hs : args.size = 6 := by simpa [Cond.value, given_1] using h1
    obtain ⟨L⟩ := args
    match L, hs with
    | [w0, w1, w2, w3, w4, w5], _ => exact ⟨w0, w1, w2, w3, w4, w5, rfl⟩
  have hw : own_Z s #[w0, w1, w2, w3, w4, w5] := fun d (hd : d ∈ tables_1) => atoms_spec (ws := Jvm.Cond.code x code maxLocals ret :: tables_1) hat d (List.mem_cons_of_mem _ hd)
  obtain ⟨i0, e0⟩ := is_v hi0
  obtain rfl : w0 = (.int i0) := Option.some.inj e0
  obtain ⟨i1, e1⟩ := is_v hi1
  obtain rfl : w1 = (.int i1) := Option.some.inj e1
  obtain ⟨i2, e2⟩ := is_v hi2
  obtain rfl : w2 = (.int i2) := Option.some.inj e2
  obtain ⟨i3, e3⟩ := is_v hi3
  obtain rfl : w3 = (.int i3) := Option.some.inj e3
  obtain ⟨i4, e4⟩ := is_v hi4
  obtain rfl : w4 = (.int i4) := Option.some.inj e4
  obtain ⟨i5, e5⟩ := is_v hi5
  obtain rfl : w5 = (.int i5) := Option.some.inj e5
  obtain ⟨n, o, h1, h2, h3, v, L, rfl, ⟨rfl, N, -⟩, hq⟩ := own_law hw p e ha hc hk s m _ below hf ((Spec.applies_iff_loose hf).mp happ).1 ⟨rfl, State.Warmed39.refl s, rfl⟩ trivial
  refine ⟨n, _, h1, h2, h3, hpost _ _ _ _ _ _ ⟨Cond.after_iff.mpr rfl, Cond.after_iff.mpr (eq_i res_at (Term.int_eval (1)) rfl), trivial⟩ ⟨hq.1, hq.2.1, (hq.2.2.sift fun y hy => Or.inr (N y hy)).mono (by decide) (by decide)⟩⟩
theorem main_1_1 : Claimed_1_1 := comes_1 fun _ _ _ _ _ _ h hF => ⟨h.1, hF⟩
theorem main_1_2 : Claimed_1_2 := comes_1 fun _ _ _ _ _ _ h hF => ⟨h.2.1, hF⟩
end Jvm.Pilot.@@N@@
namespace Jvm.Pilot.@@N@@
open Jvm Jvm.ClassFile Sem Op Lib Jvm.Free Jvm.Stand Jvm.Pilot.@@N@@.Jvm.D
/-! MADE BY PROGRAM (witnessworld.py) out of the Statement's table words and the real class files: 13 classes; the members and pool entries that the words name. The judged class is class 1, her method 2. -/
namespace start1
open Jvm.ClassFile
def u (s : String) : CpInfo := .utf8 (stringToUtf16 s)
/-- a pool by its gaps: so many unusable entries, then the entry; so many at the end -/
def gap : Nat → List CpInfo → List CpInfo
  | 0, r => r
  | n + 1, r => .unusable :: gap n r
def poolList (es : List (Nat × CpInfo)) (last : Nat) : List CpInfo := es.foldr (fun e r => gap e.1 (e.2 :: r)) (gap last [])
def pool (es : List (Nat × CpInfo)) (last : Nat) : Array CpInfo := ⟨poolList es last⟩
def fileOf (pool : Array CpInfo) (this : Nat) (attrs : Array Attribute := #[]) (ms : Array MethodInfo := #[]) (fl : Nat := 33) (sup : Nat := 0) (ifs : Array Nat := #[]) (fds : Array FieldInfo := #[]) : ClassFile where
  minorVersion := 0
  majorVersion := 65
  constantPool := pool
  accessFlags := fl
  thisClass := this
  superClass := sup
  interfaces := ifs
  fields := fds
  methods := ms
  attributes := attrs
def plain (name : String) (sup : Option ClassId) : Class where
  name := name
  kind := .ordinary
  loader := none
  accessFlags := 33
  super := sup
  interfaces := #[]
  cf := none
  fields := #[]
  methods := #[]
  instanceTypes := #[]
  staticTypes := #[]
  resolved := #[]
  callSites := []
  init := .initialized
  statics := none
  mirror := none

def pool0 : Array CpInfo := pool [(5, u "<init>"), (0, u "()V"), (1, .class_ 10), (1, u "java/lang/Object")] 113

def k0c0 : Code := { maxStack := 0, maxLocals := 1, code := object_method_1_code, exceptionTable := #[], attributes := #[] }
def k0m0 : Method := { name := "<init>", desc := "()V", sig := { parameters := [], returnType := none }, accessFlags := 1, code := some k0c0 }
/-- java/lang/Object -/
def k0 : Class := { plain "java/lang/Object" none with
  accessFlags := 33
  interfaces := #[]
  cf := some (fileOf pool0 8 #[] #[{ accessFlags := 1, nameIndex := 5, descriptorIndex := 6, attributes := #[] }] 33 0 #[] #[])
  fields := #[]
  methods := #[k0m0]
  instanceTypes := #[]
  staticTypes := #[]
  resolved := Array.replicate 124 none
  statics := none }

def pool1 : Array CpInfo := pool [(2, .class_ 4), (0, .nameAndType 5 6), (0, u "java/lang/Object"), (0, u "<init>"), (0, u "()V"), (2, .integer 2147483627), (0, .methodref 11 12), (0, .class_ 13), (0, .nameAndType 14 15), (0, u "java/lang/Math"), (0, u "min"), (0, u "(II)I"), (0, .class_ 17), (0, u "com/example/fielder/fielder/service/ScoredDocuments"), (0, .methodref 16 3), (0, .methodref 16 20), (0, .nameAndType 21 22), (0, u "add"), (0, u "(ID)V"), (0, .methodref 16 24), (0, .nameAndType 25 26), (0, u "addScores"), (0, u "(Lcom/example/fielder/fielder/service/ScoredDocuments;)V"), (0, .methodref 16 28), (0, .nameAndType 29 30), (0, u "size"), (0, u "()I"), (0, .methodref 16 32), (0, .nameAndType 33 34), (0, u "score"), (0, u "(I)D"), (0, .methodref 36 37), (0, .class_ 38), (0, .nameAndType 39 40), (0, u "com/example/fielder/fielder/service/ScoredDocumentsAddScoresPinLaw"), (0, u "expect"), (0, u "(IDIIIIDDD)D"), (3, u "law"), (0, u "(IIIIII)Z")] 2

def k1m0 : Method := { name := "<init>", desc := "()V", sig := { parameters := [], returnType := none }, accessFlags := 1, code := none }
def k1c1 : Code := { maxStack := 4, maxLocals := 13, code := method_2_code, exceptionTable := #[], attributes := #[] }
def k1m1 : Method := { name := "expect", desc := "(IDIIIIDDD)D", sig := { parameters := [.int, .double, .int, .int, .int, .int, .double, .double, .double], returnType := some .double }, accessFlags := 10, code := some k1c1 }
def k1c2 : Code := { maxStack := 15, maxLocals := 27, code := code, exceptionTable := #[], attributes := #[] }
def k1m2 : Method := { name := "law", desc := "(IIIIII)Z", sig := { parameters := [.int, .int, .int, .int, .int, .int], returnType := some .boolean }, accessFlags := 9, code := some k1c2 }
/-- com/example/fielder/fielder/service/ScoredDocumentsAddScoresPinLaw -/
def k1 : Class := { plain "com/example/fielder/fielder/service/ScoredDocumentsAddScoresPinLaw" (some 0) with
  accessFlags := 49
  interfaces := #[]
  cf := some (fileOf pool1 36 #[] #[{ accessFlags := 1, nameIndex := 5, descriptorIndex := 6, attributes := #[] }, { accessFlags := 10, nameIndex := 39, descriptorIndex := 40, attributes := #[] }, { accessFlags := 9, nameIndex := 44, descriptorIndex := 45, attributes := #[] }] 49 2 #[] #[])
  fields := #[]
  methods := #[k1m0, k1m1, k1m2]
  instanceTypes := #[]
  staticTypes := #[]
  resolved := Array.replicate 48 none
  statics := none }

def pool2 : Array CpInfo := pool [(1, .class_ 2), (0, u "java/lang/Math"), (1, .class_ 6), (1, u "java/lang/Object"), (0, u "<init>"), (0, u "()V"), (89, .class_ 100), (1, u "java/lang/Math$RandomNumberGeneratorHolder"), (71, u "negativeZeroFloatBits"), (0, u "J"), (2, u "negativeZeroDoubleBits"), (24, u "min"), (43, u "$assertionsDisabled"), (0, u "Z"), (88, u "(II)I"), (2, u "twoToTheDoubleScaleDown"), (0, u "D"), (4, u "twoToTheDoubleScaleUp"), (9, u "E"), (3, u "PI"), (2, u "TAU"), (2, u "DEGREES_TO_RADIANS"), (0, u "RADIANS_TO_DEGREES")] 94

def k2m0 : Method := { name := "<init>", desc := "()V", sig := { parameters := [], returnType := none }, accessFlags := 2, code := none }
def k2c1 : Code := { maxStack := 2, maxLocals := 2, code := jdk_29_method_69_code, exceptionTable := #[], attributes := #[] }
def k2m1 : Method := { name := "min", desc := "(II)I", sig := { parameters := [.int, .int], returnType := some .int }, accessFlags := 9, code := some k2c1 }
/-- java/lang/Math -/
def k2 : Class := { plain "java/lang/Math" (some 0) with
  accessFlags := 49
  interfaces := #[]
  cf := some (fileOf pool2 1 #[.nestMembers #[98]] #[{ accessFlags := 2, nameIndex := 7, descriptorIndex := 8, attributes := #[] }, { accessFlags := 9, nameIndex := 201, descriptorIndex := 335, attributes := #[] }] 49 4 #[] #[{ accessFlags := 25, nameIndex := 354, descriptorIndex := 339, attributes := #[] }, { accessFlags := 25, nameIndex := 358, descriptorIndex := 339, attributes := #[] }, { accessFlags := 25, nameIndex := 361, descriptorIndex := 339, attributes := #[] }, { accessFlags := 26, nameIndex := 364, descriptorIndex := 339, attributes := #[] }, { accessFlags := 26, nameIndex := 365, descriptorIndex := 339, attributes := #[] }, { accessFlags := 26, nameIndex := 172, descriptorIndex := 173, attributes := #[] }, { accessFlags := 26, nameIndex := 176, descriptorIndex := 173, attributes := #[] }, { accessFlags := 8, nameIndex := 344, descriptorIndex := 339, attributes := #[] }, { accessFlags := 8, nameIndex := 338, descriptorIndex := 339, attributes := #[] }, { accessFlags := 4120, nameIndex := 245, descriptorIndex := 246, attributes := #[] }])
  fields := #[{ name := "E", type := .double, accessFlags := 25, slot := 0, constantValue := 0 }, { name := "PI", type := .double, accessFlags := 25, slot := 1, constantValue := 0 }, { name := "TAU", type := .double, accessFlags := 25, slot := 2, constantValue := 0 }, { name := "DEGREES_TO_RADIANS", type := .double, accessFlags := 26, slot := 3, constantValue := 0 }, { name := "RADIANS_TO_DEGREES", type := .double, accessFlags := 26, slot := 4, constantValue := 0 }, { name := "negativeZeroFloatBits", type := .long, accessFlags := 26, slot := 5, constantValue := 0 }, { name := "negativeZeroDoubleBits", type := .long, accessFlags := 26, slot := 6, constantValue := 0 }, { name := "twoToTheDoubleScaleUp", type := .double, accessFlags := 8, slot := 7, constantValue := 0 }, { name := "twoToTheDoubleScaleDown", type := .double, accessFlags := 8, slot := 8, constantValue := 0 }, { name := "$assertionsDisabled", type := .boolean, accessFlags := 4120, slot := 9, constantValue := 0 }]
  methods := #[k2m0, k2m1]
  instanceTypes := #[]
  staticTypes := #[.double, .double, .double, .double, .double, .long, .long, .double, .double, .boolean]
  resolved := Array.replicate 460 none
  statics := none }

def pool3 : Array CpInfo := pool [(1, .class_ 2), (0, u "com/example/fielder/fielder/model/DocumentList"), (0, .class_ 4), (0, u "java/lang/Object")] 6

/-- com/example/fielder/fielder/model/DocumentList -/
def k3 : Class := { plain "com/example/fielder/fielder/model/DocumentList" (some 0) with
  accessFlags := 1537
  interfaces := #[]
  cf := some (fileOf pool3 1 #[] #[] 1537 3 #[] #[])
  fields := #[]
  methods := #[]
  instanceTypes := #[]
  staticTypes := #[]
  resolved := Array.replicate 11 none
  statics := none }

def pool4 : Array CpInfo := pool [(1, .methodref 2 3), (0, .class_ 4), (0, .nameAndType 5 6), (0, u "java/lang/Object"), (0, u "<init>"), (0, u "()V"), (0, .fieldref 8 9), (0, .class_ 10), (0, .nameAndType 11 12), (0, u "com/example/fielder/fielder/service/ScoredDocuments"), (0, u "documents"), (0, u "[I"), (0, .fieldref 8 14), (0, .nameAndType 15 16), (0, u "scores"), (0, u "[D"), (0, .fieldref 8 18), (0, .nameAndType 19 20), (0, u "size"), (0, u "I"), (10, .class_ 33), (1, u "com/example/fielder/fielder/model/DocumentList"), (0, u "()I"), (6, u "add"), (0, u "(ID)V"), (1, u "score"), (0, u "(I)D"), (4, u "addScores"), (0, u "(Lcom/example/fielder/fielder/service/ScoredDocuments;)V")] 2

def k4c0 : Code := { maxStack := 2, maxLocals := 1, code := prog_38_method_1_code, exceptionTable := #[], attributes := #[] }
def k4m0 : Method := { name := "<init>", desc := "()V", sig := { parameters := [], returnType := none }, accessFlags := 0, code := some k4c0 }
def k4c1 : Code := { maxStack := 4, maxLocals := 4, code := prog_38_method_2_code, exceptionTable := #[], attributes := #[] }
def k4m1 : Method := { name := "add", desc := "(ID)V", sig := { parameters := [.int, .double], returnType := none }, accessFlags := 0, code := some k4c1 }
def k4c2 : Code := { maxStack := 1, maxLocals := 1, code := prog_38_method_3_code, exceptionTable := #[], attributes := #[] }
def k4m2 : Method := { name := "size", desc := "()I", sig := { parameters := [], returnType := some .int }, accessFlags := 1, code := some k4c2 }
def k4c3 : Code := { maxStack := 2, maxLocals := 2, code := prog_38_method_5_code, exceptionTable := #[], attributes := #[] }
def k4m3 : Method := { name := "score", desc := "(I)D", sig := { parameters := [.int], returnType := some .double }, accessFlags := 0, code := some k4c3 }
def k4c4 : Code := { maxStack := 6, maxLocals := 4, code := prog_38_method_8_code, exceptionTable := #[], attributes := #[] }
def k4m4 : Method := { name := "addScores", desc := "(Lcom/example/fielder/fielder/service/ScoredDocuments;)V", sig := { parameters := [(.object "com/example/fielder/fielder/service/ScoredDocuments")], returnType := none }, accessFlags := 0, code := some k4c4 }
/-- com/example/fielder/fielder/service/ScoredDocuments -/
def k4 : Class := { plain "com/example/fielder/fielder/service/ScoredDocuments" (some 0) with
  accessFlags := 48
  interfaces := #[3]
  cf := some (fileOf pool4 8 #[] #[{ accessFlags := 0, nameIndex := 5, descriptorIndex := 6, attributes := #[] }, { accessFlags := 0, nameIndex := 41, descriptorIndex := 42, attributes := #[] }, { accessFlags := 1, nameIndex := 19, descriptorIndex := 34, attributes := #[] }, { accessFlags := 0, nameIndex := 44, descriptorIndex := 45, attributes := #[] }, { accessFlags := 0, nameIndex := 50, descriptorIndex := 51, attributes := #[] }] 48 2 #[31] #[{ accessFlags := 2, nameIndex := 11, descriptorIndex := 12, attributes := #[] }, { accessFlags := 2, nameIndex := 15, descriptorIndex := 16, attributes := #[] }, { accessFlags := 2, nameIndex := 19, descriptorIndex := 20, attributes := #[] }])
  fields := #[{ name := "documents", type := (.array .int), accessFlags := 2, slot := 0, constantValue := 0 }, { name := "scores", type := (.array .double), accessFlags := 2, slot := 1, constantValue := 0 }, { name := "size", type := .int, accessFlags := 2, slot := 2, constantValue := 0 }]
  methods := #[k4m0, k4m1, k4m2, k4m3, k4m4]
  instanceTypes := #[(.array .int), (.array .double), .int]
  staticTypes := #[]
  resolved := Array.replicate 54 none
  statics := none }

def pool5 : Array CpInfo := pool [(1, u "java/lang/Cloneable"), (0, .class_ 1), (0, u "java/lang/Object"), (0, .class_ 3)] 3

/-- java/lang/Cloneable -/
def k5 : Class := { plain "java/lang/Cloneable" (some 0) with
  accessFlags := 1537
  interfaces := #[]
  cf := some (fileOf pool5 2 #[] #[] 1537 4 #[] #[])
  fields := #[]
  methods := #[]
  instanceTypes := #[]
  staticTypes := #[]
  resolved := Array.replicate 8 none
  statics := none }

def pool6 : Array CpInfo := pool [(1, u "java/io/Serializable"), (0, .class_ 1), (0, u "java/lang/Object"), (0, .class_ 3)] 3

/-- java/io/Serializable -/
def k6 : Class := { plain "java/io/Serializable" (some 0) with
  accessFlags := 1537
  interfaces := #[]
  cf := some (fileOf pool6 2 #[] #[] 1537 4 #[] #[])
  fields := #[]
  methods := #[]
  instanceTypes := #[]
  staticTypes := #[]
  resolved := Array.replicate 8 none
  statics := none }

/-- the primitive byte -/
def k7 : Class := { plain "byte" none with kind := .primitive 'B', accessFlags := 0x411 }
/-- [B -/
def k8 : Class := { plain "[B" (some 0) with kind := .array 7 .byte, interfaces := #[5, 6], accessFlags := 1041 }

/-- the primitive double -/
def k9 : Class := { plain "double" none with kind := .primitive 'D', accessFlags := 0x411 }
/-- [D -/
def k10 : Class := { plain "[D" (some 0) with kind := .array 9 .double, interfaces := #[5, 6], accessFlags := 1041 }

/-- the primitive int -/
def k11 : Class := { plain "int" none with kind := .primitive 'I', accessFlags := 0x411 }
/-- [I -/
def k12 : Class := { plain "[I" (some 0) with kind := .array 11 .int, interfaces := #[5, 6], accessFlags := 1041 }

def heap : Heap := #[]
def classes : Array Class := #[k0, k1, k2, k3, k4, k5, k6, k7, k8, k9, k10, k11, k12]
def interned : List (Array UInt16 × Addr) := []
def slotsUsed : Nat := 0
def theMethod : MethodId := ⟨1, 2⟩
def args0 : Array Value := #[.int 5, .int 7, .int 2, .int 5, .int 7, .int 2]
def aboutOver (below : List Frame) : State where
  vm := { classes := classes, interned := interned.toArray }
  heap := heap
  slotsUsed := slotsUsed
  threads := #[{ frames := .invoking theMethod args0 :: below }]
def below0 : List Frame := [.native { method := ⟨0, 0⟩, args := #[] }]
def about1 : State := aboutOver below0
def p0 : Program := .bare "" "" ""
def e0 : Env := launch0.env 0 0 0
theorem w_frames : about1.frames = Frame.invoking theMethod args0 :: below0 := rfl
set_option maxRecDepth 65536 in
theorem w_args : argsFit about1.vm theMethod args0 = true := by decide +kernel
set_option maxRecDepth 65536 in
theorem w_heap : heapFits about1 = true := by decide +kernel
set_option maxRecDepth 65536 in
theorem w_runnable : about1.curStatus? = some .runnable := by decide +kernel
set_option maxRecDepth 65536 in
theorem w_alone : about1.alone = true := by decide +kernel
set_option maxRecDepth 65536 in
theorem w_named : about1.methodNamed? x = some theMethod := by decide +kernel
set_option maxRecDepth 65536 in
theorem w_hears : about1.hears theMethod below0 = true := by decide +kernel
set_option maxRecDepth 65536 in
theorem w_ripe : about1.ripe theMethod args0 below0 = true := by decide +kernel
theorem w_running : about1.status = .running := rfl
set_option maxRecDepth 65536 in
theorem w_room : about1.hasRoom e0.platform room_1 = true :=
  launch0.hasRoom_least _ room_1 (by decide +kernel) (by decide +kernel) (by decide +kernel) (by decide +kernel) (by decide +kernel) (by decide +kernel)
theorem allAtoms_all (ts : List Jvm.Cond) (a : Array Jvm.Value) (st : Jvm.State) : (allAtoms ts).before a st = ts.all (fun c => c.before a st) := by
  induction ts with
  | nil => rfl
  | cons c t ih =>
    show (Jvm.Cond.and c (allAtoms t)).before a st = _
    rw [Jvm.Cond.before_and, ih, List.all_cons]
def words1 : List Jvm.Cond := Jvm.Cond.code x code maxLocals ret :: tables_1
/-- a 'code' word, met by the world's own term for the bytes: nothing is compared byte by byte -/
theorem code_word {y : MethodName} {bytes : ByteArray} {mx : Nat} {rt : Option FieldType} {a : Array Value} {s : State} {m : MethodId} {meth : Method} {c : Code} (h1 : s.methodNamed? y = some m) (h2 : s.vm.method? m = some meth) (h3 : meth.code = some c) (h4 : c.code = bytes)
    (h5 : (c.maxLocals == mx && c.exceptionTable.isEmpty && decide (c.maxStack ≤ mostOperands) && decide (meth.sig.returnType = rt) && !meth.locks && decide (parseMethodDescriptor y.desc = some meth.sig)) = true) : (Jvm.Cond.code y bytes mx rt).before a s = true := by
  simp only [Bool.and_eq_true, beq_iff_eq, Bool.not_eq_true', decide_eq_true_eq] at h5
  obtain ⟨⟨⟨⟨⟨g1, g2⟩, g3⟩, g4⟩, g5⟩, g6⟩ := h5
  simp [Cond.before, Cond.holds, Cond.value, h1, h2, h3, h4, g1, g2, g3, g4, g5, g6]
def isCode : Jvm.Cond → Bool
  | .code _ _ _ _ => true
  | _ => false
theorem all_split {L : List Jvm.Cond} {P : Jvm.Cond → Bool} (h1 : L.all (fun c => isCode c || P c) = true) (h2 : ∀ c ∈ L.filter isCode, P c = true) : L.all P = true := by
  refine List.all_eq_true.mpr fun c hc => ?_
  have h := List.all_eq_true.mp h1 c hc
  rcases Bool.eq_false_or_eq_true (isCode c) with hi | hi
  · exact h2 c (List.mem_filter.mpr ⟨hc, hi⟩)
  · simpa [hi] using h
set_option maxRecDepth 65536 in
theorem w_c0 : (Jvm.Cond.code x code maxLocals ret).before args0 about1 = true := code_word (m := ⟨1, 2⟩) (meth := k1m2) (c := k1c2) (by decide +kernel) rfl rfl rfl (by decide +kernel)
set_option maxRecDepth 65536 in
theorem w_c1 : (Jvm.Cond.code ({ cls := "java/lang/Math", name := "min", desc := "(II)I" } : Jvm.MethodName) jdk_29_method_69_code (2 : Nat) (Option.some Jvm.ClassFile.FieldType.int)).before args0 about1 = true := code_word (m := ⟨2, 1⟩) (meth := k2m1) (c := k2c1) (by decide +kernel) rfl rfl rfl (by decide +kernel)
set_option maxRecDepth 65536 in
theorem w_c2 : (Jvm.Cond.code ({ cls := "com/example/fielder/fielder/service/ScoredDocuments", name := "<init>", desc := "()V" } : Jvm.MethodName) prog_38_method_1_code (1 : Nat) (Option.none : Option Jvm.ClassFile.FieldType)).before args0 about1 = true := code_word (m := ⟨4, 0⟩) (meth := k4m0) (c := k4c0) (by decide +kernel) rfl rfl rfl (by decide +kernel)
set_option maxRecDepth 65536 in
theorem w_c3 : (Jvm.Cond.code ({ cls := "java/lang/Object", name := "<init>", desc := "()V" } : Jvm.MethodName) object_method_1_code (1 : Nat) (Option.none : Option Jvm.ClassFile.FieldType)).before args0 about1 = true := code_word (m := ⟨0, 0⟩) (meth := k0m0) (c := k0c0) (by decide +kernel) rfl rfl rfl (by decide +kernel)
set_option maxRecDepth 65536 in
theorem w_c4 : (Jvm.Cond.code ({ cls := "com/example/fielder/fielder/service/ScoredDocuments", name := "addScores", desc := "(Lcom/example/fielder/fielder/service/ScoredDocuments;)V" } : Jvm.MethodName) prog_38_method_8_code (4 : Nat) (Option.none : Option Jvm.ClassFile.FieldType)).before args0 about1 = true := code_word (m := ⟨4, 4⟩) (meth := k4m4) (c := k4c4) (by decide +kernel) rfl rfl rfl (by decide +kernel)
set_option maxRecDepth 65536 in
theorem w_c5 : (Jvm.Cond.code ({ cls := "com/example/fielder/fielder/service/ScoredDocuments", name := "size", desc := "()I" } : Jvm.MethodName) prog_38_method_3_code (1 : Nat) (Option.some Jvm.ClassFile.FieldType.int)).before args0 about1 = true := code_word (m := ⟨4, 2⟩) (meth := k4m2) (c := k4c2) (by decide +kernel) rfl rfl rfl (by decide +kernel)
set_option maxRecDepth 65536 in
theorem w_c6 : (Jvm.Cond.code ({ cls := "com/example/fielder/fielder/service/ScoredDocuments", name := "add", desc := "(ID)V" } : Jvm.MethodName) prog_38_method_2_code (4 : Nat) (Option.none : Option Jvm.ClassFile.FieldType)).before args0 about1 = true := code_word (m := ⟨4, 1⟩) (meth := k4m1) (c := k4c1) (by decide +kernel) rfl rfl rfl (by decide +kernel)
set_option maxRecDepth 65536 in
theorem w_c7 : (Jvm.Cond.code ({ cls := "com/example/fielder/fielder/service/ScoredDocuments", name := "score", desc := "(I)D" } : Jvm.MethodName) prog_38_method_5_code (2 : Nat) (Option.some Jvm.ClassFile.FieldType.double)).before args0 about1 = true := code_word (m := ⟨4, 3⟩) (meth := k4m3) (c := k4c3) (by decide +kernel) rfl rfl rfl (by decide +kernel)
set_option maxRecDepth 65536 in
theorem w_c8 : (Jvm.Cond.code ({ cls := "com/example/fielder/fielder/service/ScoredDocumentsAddScoresPinLaw", name := "expect", desc := "(IDIIIIDDD)D" } : Jvm.MethodName) method_2_code (13 : Nat) (Option.some Jvm.ClassFile.FieldType.double)).before args0 about1 = true := code_word (m := ⟨1, 1⟩) (meth := k1m1) (c := k1c1) (by decide +kernel) rfl rfl rfl (by decide +kernel)
def codes1 : List Jvm.Cond := [Jvm.Cond.code x code maxLocals ret, Jvm.Cond.code ({ cls := "java/lang/Math", name := "min", desc := "(II)I" } : Jvm.MethodName) jdk_29_method_69_code (2 : Nat) (Option.some Jvm.ClassFile.FieldType.int), Jvm.Cond.code ({ cls := "com/example/fielder/fielder/service/ScoredDocuments", name := "<init>", desc := "()V" } : Jvm.MethodName) prog_38_method_1_code (1 : Nat) (Option.none : Option Jvm.ClassFile.FieldType), Jvm.Cond.code ({ cls := "java/lang/Object", name := "<init>", desc := "()V" } : Jvm.MethodName) object_method_1_code (1 : Nat) (Option.none : Option Jvm.ClassFile.FieldType), Jvm.Cond.code ({ cls := "com/example/fielder/fielder/service/ScoredDocuments", name := "addScores", desc := "(Lcom/example/fielder/fielder/service/ScoredDocuments;)V" } : Jvm.MethodName) prog_38_method_8_code (4 : Nat) (Option.none : Option Jvm.ClassFile.FieldType), Jvm.Cond.code ({ cls := "com/example/fielder/fielder/service/ScoredDocuments", name := "size", desc := "()I" } : Jvm.MethodName) prog_38_method_3_code (1 : Nat) (Option.some Jvm.ClassFile.FieldType.int), Jvm.Cond.code ({ cls := "com/example/fielder/fielder/service/ScoredDocuments", name := "add", desc := "(ID)V" } : Jvm.MethodName) prog_38_method_2_code (4 : Nat) (Option.none : Option Jvm.ClassFile.FieldType), Jvm.Cond.code ({ cls := "com/example/fielder/fielder/service/ScoredDocuments", name := "score", desc := "(I)D" } : Jvm.MethodName) prog_38_method_5_code (2 : Nat) (Option.some Jvm.ClassFile.FieldType.double), Jvm.Cond.code ({ cls := "com/example/fielder/fielder/service/ScoredDocumentsAddScoresPinLaw", name := "expect", desc := "(IDIIIIDDD)D" } : Jvm.MethodName) method_2_code (13 : Nat) (Option.some Jvm.ClassFile.FieldType.double)]
set_option maxRecDepth 65536 in
theorem codes_eq : words1.filter isCode = codes1 := rfl
theorem w_codes : ∀ c ∈ words1.filter isCode, c.before args0 about1 = true := by
  rw [codes_eq]
  intro c hc
  simp only [codes1, List.mem_cons, List.not_mem_nil, or_false] at hc
  rcases hc with rfl | rfl | rfl | rfl | rfl | rfl | rfl | rfl | rfl
  · exact w_c0
  · exact w_c1
  · exact w_c2
  · exact w_c3
  · exact w_c4
  · exact w_c5
  · exact w_c6
  · exact w_c7
  · exact w_c8
set_option maxRecDepth 65536 in
theorem w_t1 : (words1.take 24).all (fun c => isCode c || c.before args0 about1) = true := by decide +kernel
set_option maxRecDepth 65536 in
theorem w_t2 : (words1.drop 24).all (fun c => isCode c || c.before args0 about1) = true := by decide +kernel
theorem w_tables : (allAtoms (Jvm.Cond.code x code maxLocals ret :: tables_1)).before args0 about1 = true := by
  rw [allAtoms_all]
  show words1.all (fun c => c.before args0 about1) = true
  refine all_split ?_ w_codes
  rw [← List.take_append_drop 24 words1, List.all_append, w_t1, w_t2]
  rfl
set_option maxRecDepth 65536 in
theorem w_case : (Jvm.Cond.and given_1 narrow_1).before args0 about1 = true := by decide +kernel
theorem w_applies : (headSpec (Jvm.Cond.code x code maxLocals ret :: tables_1) room_1).applies x e0.platform about1 = true :=
  (Spec.applies_iff w_frames).mpr ⟨w_running, w_runnable, w_alone, w_named, w_hears, w_ripe, w_room, w_tables⟩
theorem atStart : AtStart classFile x code maxLocals ret World_1 tables_1 room_1 Calls_1 rest_1 Pre_1 launch0 p0 e0 about1 theMethod args0 below0 :=
  ⟨lists_1, trivial, launch0.admits_env _ _ _, launch0.least_env, fairChoices_fair.cas, fairChoices_fair.clock, w_frames, w_args, w_heap, w_applies, trivial, trivial, w_case⟩
end start1
theorem witness_1 : WitnessClaimed_1 := ⟨start1.p0, start1.e0, start1.about1, start1.theMethod, start1.args0, start1.below0, start1.atStart⟩
end Jvm.Pilot.@@N@@
