import JvmDerived
import JvmDerived.Pilot.@@N@@Statement
import JvmDerived.Pilot.@@N@@Code
set_option linter.unusedVariables false
set_option linter.unusedSimpArgs false
namespace Jvm.RoadKit
open Sem ClassFile Op Lib Jvm.Stand Jvm.Free Jvm.LawKit
section OwnKit
/-- what stands at a point of the walk: the law's Stand, its written places all new, the heap named; w: may have interned -/
def own_X (w : Bool) (p : Program) (l : Launch) (e : Env) (R : Room) (s : State) (m : MethodId) (args : Array Value) (below : List Frame) (meth : Method) (c : Code) (Z : State) (T : State) (h : Heap) (k n : Nat) : Prop :=
  ∃ (L : List Loc) (vm : Vm), Stand p l e R (s.setVm vm) m args below meth c T L k n ∧ Fr Z.heap.size L ∧ T.heap = h ∧ (w = false → vm = s.vm) ∧ s.Since vm h.size
def own_Cx (p : Program) (s : State) (m : MethodId) (meth : Method) (c : Code) (Z : State) (own nm : String) (bytes : ByteArray) (maxL : Nat) (ret : Option FieldType) : Prop :=
  p.tables.exec = Jvm.exec ∧ c.code = bytes ∧ c.maxLocals = maxL ∧ meth.sig.returnType = ret ∧ meth.locks = false ∧ Z.Warmed39 s.vm ∧ s.vm.findClass own = some m.cls ∧ meth.name = nm
def own_Go (w : Bool) (p : Program) (l : Launch) (e : Env) (R : Room) (s : State) (m : MethodId) (args : Array Value) (below : List Frame) (meth : Method) (c : Code) (Z : State) (Q : Option Value → Heap → Prop) (T : State) (g : JFrame) : Prop :=
  ∃ (T' : State) (v : Option Value) (h' : Heap) (k' n' : Nat), own_X w p l e R s m args below meth c Z T' h' k' n' ∧ k' ≤ R.cells ∧ n' ≤ R.slots ∧ (meth.sig.returnType = none → v = none) ∧ Q v h' ∧
    ∀ fs, (∀ (f : JFrame) (acts : List Action), f.method = m → f.locked = none → f.entered = [] → (doReturn e (T'.setTop f) acts v).1 = T'.setFrames fs) → Steps p.tables e below (T.setTop g) (T'.setFrames fs)
/-- from the frame g, over the heap h, with k cells and n slots made, the walk comes to a return of which Q holds -/
def own_G (w : Bool) (p : Program) (l : Launch) (e : Env) (R : Room) (s : State) (m : MethodId) (args : Array Value) (below : List Frame) (meth : Method) (c : Code) (Z : State) (Q : Option Value → Heap → Prop) (h : Heap) (k n : Nat) (g : JFrame) : Prop :=
  ∀ T, own_X w p l e R s m args below meth c Z T h k n → own_Go w p l e R s m args below meth c Z Q T g
def own_D (bytes : ByteArray) (pc : Nat) (i : Instr) (len pc' : Nat) : Prop := decode bytes pc = .ok (i, len) ∧ pc' = pc + len
def own_B (bytes : ByteArray) (pc : Nat) (i : Instr) (off : Int) (pcF pcT : Nat) : Prop := decode bytes pc = .ok (i, 3) ∧ pcF = pc + 3 ∧ 0 ≤ (pc : Int) + off ∧ ((pc : Int) + off).toNat = pcT
def own_End (w : Bool) (U : State) (o : Outcome) (U' : State) (L : List Loc) (k n : Nat) : Prop := match w with | false => FrameEnd U o U' L k n | true => ReturnedEndW U o U' L k n
def own_Met (w : Bool) (l : Launch) (Z : State) (y : MethodName) (bytes : ByteArray) (maxL : Nat) (ret : Option FieldType) (ws : List Cond) (rm : Room) (as' : Array Value) (h : Heap) (Q : Option Value → Heap → Prop) : Prop :=
  MetFree l y (head1 (Cond.code y bytes maxL ret :: ws) rm) (fun a U => a = as' ∧ Z.Warmed39 U.vm ∧ U.heap = h) (fun _ _ _ _ _ => True)
    (fun _ U o U' => ∃ v L, o = .returned v ∧ (Q v U'.heap ∧ Fr Z.heap.size L ∧ h.size ≤ U'.heap.size) ∧ own_End w U o U' L rm.cells rm.slots)
/-! ## heap -/
abbrev own_O := Addr × String × List (String × String × String × Value)
abbrev own_A := Addr × FieldType × String × List Value
def own_OK (Z : State) (h : Heap) (o : own_O) : Prop := Exa Z h o.1 o.2.1 ∧ (∀ f ∈ o.2.2, Fld Z h o.1 f.1 f.2.1 f.2.2.1 f.2.2.2) ∧ o.2.2.Pairwise (fun f g => slotOf Z f.1 f.2.1 f.2.2.1 ≠ slotOf Z g.1 g.2.1 g.2.2.1)
def own_AK (Z : State) (h : Heap) (a : own_A) : Prop := ∃ cl : Cell, Arr Z h a.1 cl a.2.1 ∧ cl.slots.toList = a.2.2.2 ∧ (∀ v ∈ a.2.2.2, fits a.2.1 v = true) ∧ (a.2.2.1 ≠ "" → Exa Z h a.1 a.2.2.1) ∧ (∀ C, a.2.1 = .object C → a.2.2.1 ≠ "" → Ovr Z cl.cls C)
/-- the heap h: what stood at the law's start Z stands; the objects os and the arrays as, all new, all apart -/
def own_H (Z : State) (h : Heap) (os : List own_O) (as : List own_A) : Prop :=
  Ext Z.heap h ∧ (∀ o ∈ os, Z.heap.size ≤ o.1 ∧ own_OK Z h o) ∧ (∀ a ∈ as, Z.heap.size ≤ a.1 ∧ own_AK Z h a) ∧ (os.map (·.1) ++ as.map (·.1)).Nodup
variable {w : Bool} {p : Program} {l : Launch} {e : Env} {R : Room} {s : State} {m : MethodId} {args : Array Value} {below : List Frame} {meth : Method} {c : Code} {Z : State} {a0 : Array Value} {own nm : String} {bytes : ByteArray} {maxL : Nat} {ret : Option FieldType} {Q : Option Value → Heap → Prop} {h h' : Heap} {k n k' n' : Nat} {pc pc' pcT : Nat} {Ls Ls' : Array Slot} {st rest : List Value} {os os' : List own_O} {as as' : List own_A} {g g' : JFrame} {tyR : FieldType}
theorem own_H.start (Z : State) : own_H Z Z.heap [] [] := ⟨⟨Nat.le_refl _, fun _ _ q => q⟩, fun _ q => (nomatch q), fun _ q => (nomatch q), List.nodup_nil⟩
theorem own_OK.ext {o : own_O} (E : Ext h h') (F : own_OK Z h o) : own_OK Z h' o := ⟨F.1.ext E, fun f hf => (F.2.1 f hf).ext E, F.2.2⟩
theorem own_AK.ext {a : own_A} (E : Ext h h') (F : own_AK Z h a) : own_AK Z h' a := by
  obtain ⟨cl, h1, h2, h3, h4, h5⟩ := F; exact ⟨cl, h1.ext E, h2, h3, fun q => (h4 q).ext E, h5⟩
theorem own_H.ext (H : own_H Z h os as) (E : Ext h h') : own_H Z h' os as :=
  ⟨⟨Nat.le_trans H.1.1 E.1, fun a c q => E.2 a c (H.1.2 a c q)⟩, fun o ho => ⟨(H.2.1 o ho).1, (H.2.1 o ho).2.ext E⟩, fun a ha => ⟨(H.2.2.1 a ha).1, (H.2.2.1 a ha).2.ext E⟩, H.2.2.2⟩
theorem own_H.ltO (H : own_H Z h os as) {o : own_O} (ho : o ∈ os) : o.1 < h.size := (H.2.1 o ho).2.1.lt
theorem own_H.ltA (H : own_H Z h os as) {a : own_A} (ha : a ∈ as) : a.1 < h.size := by obtain ⟨-, cl, h1, -⟩ := H.2.2.1 a ha; exact h1.lt
theorem own_H.fresh (H : own_H Z h os as) : h.size ∉ os.map (·.1) ++ as.map (·.1) := fun q => by
  rcases List.mem_append.mp q with q | q
  · obtain ⟨o, ho, e⟩ := List.mem_map.mp q; exact absurd (H.ltO ho) (by rw [e]; exact Nat.lt_irrefl _)
  · obtain ⟨o, ho, e⟩ := List.mem_map.mp q; exact absurd (H.ltA ho) (by rw [e]; exact Nat.lt_irrefl _)
theorem own_H.addO (H : own_H Z h os as) (E : Ext h h') {C : String} {fs : List (String × String × String × Value)} (F : own_OK Z h' (h.size, C, fs)) : own_H Z h' ((h.size, C, fs) :: os) as := by
  have H' := H.ext E
  refine ⟨H'.1, fun o ho => ?_, H'.2.2.1, ?_⟩
  · rcases List.mem_cons.mp ho with rfl | ho
    · exact ⟨H.1.1, F⟩
    · exact H'.2.1 o ho
  · exact List.nodup_cons.mpr ⟨H.fresh, H.2.2.2⟩
theorem own_H.addA (H : own_H Z h os as) (E : Ext h h') {ty : FieldType} {ad : String} {vs : List Value} (F : own_AK Z h' (h.size, ty, ad, vs)) : own_H Z h' os ((h.size, ty, ad, vs) :: as) := by
  have H' := H.ext E
  refine ⟨H'.1, H'.2.1, fun o ho => ?_, ?_⟩
  · rcases List.mem_cons.mp ho with rfl | ho
    · exact ⟨H.1.1, F⟩
    · exact H'.2.2.1 o ho
  · have q := H.fresh
    rw [List.mem_append] at q
    have q2 := List.nodup_append.mp H.2.2.2
    refine List.nodup_append.mpr ⟨q2.1, List.nodup_cons.mpr ⟨fun z => q (Or.inr z), q2.2.1⟩, fun x hx y hy => ?_⟩
    rcases List.mem_cons.mp hy with rfl | hy
    · intro z; exact q (Or.inl ((show x = h.size from z) ▸ hx))
    · exact q2.2.2 x hx y hy
theorem own_mem {α : Type} {L : List α} {i : Nat} {x : α} (hx : L[i]? = some x) : x ∈ L := List.mem_of_getElem? hx
theorem own_H.atO (H : own_H Z h os as) {i : Nat} {a : Addr} {C : String} {fs : List (String × String × String × Value)} (ho : os[i]? = some (a, C, fs)) : Exa Z h a C := (H.2.1 _ (own_mem ho)).2.1
theorem own_H.newO (H : own_H Z h os as) {i : Nat} {a : Addr} {C : String} {fs : List (String × String × String × Value)} (ho : os[i]? = some (a, C, fs)) : Z.heap.size ≤ a := (H.2.1 _ (own_mem ho)).1
theorem own_H.fld (H : own_H Z h os as) {i q : Nat} {a : Addr} {C O f d : String} {v : Value} {fs : List (String × String × String × Value)} (ho : os[i]? = some (a, C, fs)) (hf : fs[q]? = some (O, f, d, v)) : Fld Z h a O f d v := (H.2.1 _ (own_mem ho)).2.2.1 _ (own_mem hf)
theorem own_H.neOO (H : own_H Z h os as) {i j : Nat} {x y : own_O} (hx : os[i]? = some x) (hy : os[j]? = some y) (ij : i ≠ j) : x.1 ≠ y.1 := fun e => by
  have q := (List.nodup_append.mp H.2.2.2).1
  have h1 : (os.map (·.1))[i]? = some x.1 := by rw [List.getElem?_map, hx]; rfl
  have h2 : (os.map (·.1))[j]? = some y.1 := by rw [List.getElem?_map, hy]; rfl
  rw [← e] at h2
  have hi := (List.getElem?_eq_some_iff.mp h1).1
  exact ij ((List.getElem?_inj hi q).mp (h1.trans h2.symm))
theorem own_H.neAA (H : own_H Z h os as) {i j : Nat} {x y : own_A} (hx : as[i]? = some x) (hy : as[j]? = some y) (ij : i ≠ j) : x.1 ≠ y.1 := fun e => by
  have q := (List.nodup_append.mp H.2.2.2).2.1
  have h1 : (as.map (·.1))[i]? = some x.1 := by rw [List.getElem?_map, hx]; rfl
  have h2 : (as.map (·.1))[j]? = some y.1 := by rw [List.getElem?_map, hy]; rfl
  rw [← e] at h2
  have hi := (List.getElem?_eq_some_iff.mp h1).1
  exact ij ((List.getElem?_inj hi q).mp (h1.trans h2.symm))
theorem own_H.neOA (H : own_H Z h os as) {x : own_O} {y : own_A} (hx : x ∈ os) (hy : y ∈ as) : x.1 ≠ y.1 :=
  (List.nodup_append.mp H.2.2.2).2.2 _ (List.mem_map.mpr ⟨x, hx, rfl⟩) _ (List.mem_map.mpr ⟨y, hy, rfl⟩)
theorem own_set_map {α β : Type} {L : List α} {f : α → β} {i : Nat} {x x' : α} (hx : L[i]? = some x) (e : f x' = f x) : (L.set i x').map f = L.map f := by
  apply List.ext_getElem?
  intro j
  rw [List.getElem?_map, List.getElem?_map, List.getElem?_set]
  by_cases ij : i = j
  · subst ij; rw [hx]; have := (List.getElem?_eq_some_iff.mp hx).1; simp [this, e]
  · simp [ij]
theorem own_H.wrO (H : own_H Z h os as) {i q : Nat} {a : Addr} {C O f d : String} {v v0 : Value} {fs : List (String × String × String × Value)} (ho : os[i]? = some (a, C, fs)) (hf : fs[q]? = some (O, f, d, v0)) (W : Wr h h' a (slotOf Z O f d) v) :
    own_H Z h' (os.set i (a, C, fs.set q (O, f, d, v))) as := by
  have na := H.newO ho
  have hlen := (List.getElem?_eq_some_iff.mp ho).1
  have hql := (List.getElem?_eq_some_iff.mp hf).1
  refine ⟨?_, fun x hx => ?_, fun y hy => ?_, ?_⟩
  · refine ⟨by rw [Wr.size W]; exact H.1.1, fun b cb hb => ?_⟩
    obtain ⟨cb', e1, -, -, -, e5, -⟩ := wr_at W (H.1.2 b cb hb)
    have : b ≠ a := Nat.ne_of_lt (Nat.lt_of_lt_of_le (Array.getElem?_eq_some_iff.mp hb).1 na)
    rw [← e5 this]; exact e1
  · obtain ⟨j, hj⟩ := List.mem_iff_getElem?.mp hx
    rw [List.getElem?_set] at hj
    by_cases ij : i = j
    · subst ij
      rw [if_pos rfl, if_pos hlen] at hj
      obtain rfl := Option.some.inj hj
      obtain ⟨n1, E, F, Pw⟩ := H.2.1 _ (own_mem ho)
      refine ⟨n1, E.wr W, fun z hz => ?_, ?_⟩
      · obtain ⟨r, hr⟩ := List.mem_iff_getElem?.mp hz
        rw [List.getElem?_set] at hr
        by_cases qr : q = r
        · subst qr
          rw [if_pos rfl, if_pos hql] at hr
          obtain rfl := Option.some.inj hr
          exact Fld.same (w := v0) W (F _ (own_mem (show (a, C, fs).2.2[q]? = some (O, f, d, v0) from hf)))
        · rw [if_neg qr] at hr
          refine Fld.other W (F _ (own_mem hr)) (Or.inr fun e => ?_)
          have P2 : ∀ i j : Nat, i < j → ∀ x y, fs[i]? = some x → fs[j]? = some y → slotOf Z x.1 x.2.1 x.2.2.1 ≠ slotOf Z y.1 y.2.1 y.2.2.1 := fun i j ij x y hx hy => by
            obtain ⟨h1, rfl⟩ := List.getElem?_eq_some_iff.mp hx
            obtain ⟨h2, rfl⟩ := List.getElem?_eq_some_iff.mp hy
            exact List.pairwise_iff_getElem.mp Pw i j h1 h2 ij
          rcases Nat.lt_or_gt_of_ne qr with lt | lt
          · exact P2 q r lt _ _ hf hr e.symm
          · exact P2 r q lt _ _ hr hf e
      · have hm : (fs.set q (O, f, d, v)).map (fun f => slotOf Z f.1 f.2.1 f.2.2.1) = fs.map (fun f => slotOf Z f.1 f.2.1 f.2.2.1) := own_set_map hf rfl
        have t := List.pairwise_map.mpr Pw
        rw [← hm] at t
        exact List.pairwise_map.mp t
    · rw [if_neg ij] at hj
      obtain ⟨n1, E, F, Pw⟩ := H.2.1 _ (own_mem hj)
      exact ⟨n1, E.wr W, fun z hz => Fld.other W (F z hz) (Or.inl (H.neOO hj ho (Ne.symm ij))), Pw⟩
  · obtain ⟨n1, cl, h1, h2, h3, h4, h5⟩ := H.2.2.1 y hy
    exact ⟨n1, cl, h1.other W (Ne.symm (H.neOA (own_mem ho) hy)), h2, h3, fun q => (h4 q).wr W, h5⟩
  · rw [own_set_map (f := fun z => z.1) (x' := (a, C, fs.set q (O, f, d, v))) ho rfl]; exact H.2.2.2
theorem own_H.wrA (H : own_H Z h os as) {i q : Nat} {a : Addr} {ty : FieldType} {ad : String} {v : Value} {vs : List Value} (ha : as[i]? = some (a, ty, ad, vs)) (hq : q < vs.length) (hv : fits ty v = true) (W : Wr h h' a q v) :
    own_H Z h' os (as.set i (a, ty, ad, vs.set q v)) := by
  have na := (H.2.2.1 _ (own_mem ha)).1
  have hlen := (List.getElem?_eq_some_iff.mp ha).1
  refine ⟨?_, fun x hx => ?_, fun y hy => ?_, ?_⟩
  · refine ⟨by rw [Wr.size W]; exact H.1.1, fun b cb hb => ?_⟩
    obtain ⟨cb', e1, -, -, -, e5, -⟩ := wr_at W (H.1.2 b cb hb)
    have : b ≠ a := Nat.ne_of_lt (Nat.lt_of_lt_of_le (Array.getElem?_eq_some_iff.mp hb).1 na)
    rw [← e5 this]; exact e1
  · obtain ⟨n1, E, F, Pw⟩ := H.2.1 _ hx
    exact ⟨n1, E.wr W, fun z hz => Fld.other W (F z hz) (Or.inl (H.neOA hx (own_mem ha))), Pw⟩
  · obtain ⟨j, hj⟩ := List.mem_iff_getElem?.mp hy
    rw [List.getElem?_set] at hj
    by_cases ij : i = j
    · subst ij
      rw [if_pos rfl, if_pos hlen] at hj
      obtain rfl := Option.some.inj hj
      obtain ⟨n1, cl, h1, h2, h3, h4, h5⟩ := H.2.2.1 _ (own_mem ha)
      refine ⟨n1, _, h1.same W, ?_, fun z hz => ?_, fun q => (h4 q).wr W, h5⟩
      · show (cl.setSlot q v).slots.toList = vs.set q v
        rw [show (cl.setSlot q v).slots = cl.slots.setIfInBounds q v from rfl, Array.toList_setIfInBounds, show cl.slots.toList = vs from h2]
      · rcases List.mem_or_eq_of_mem_set hz with hz | rfl
        · exact h3 z hz
        · exact hv
    · rw [if_neg ij] at hj
      obtain ⟨n1, cl, h1, h2, h3, h4, h5⟩ := H.2.2.1 _ (own_mem hj)
      exact ⟨n1, cl, h1.other W (H.neAA hj ha (Ne.symm ij)), h2, h3, fun q => (h4 q).wr W, h5⟩
  · rw [own_set_map (f := fun z => z.1) (x' := (a, ty, ad, vs.set q v)) ha rfl]; exact H.2.2.2
theorem own_le {a b : Nat} (h : Nat.ble a b = true) : a ≤ b := Nat.le_of_ble_eq_true h
theorem own_idx {j : Int32} {q : Nat} (hj : j.toInt = (q : Int)) : j.toNatClampNeg = q := by simp only [Int32.toNatClampNeg, hj]; rfl
theorem own_in {j : Int32} {q N : Nat} (hj : j.toInt = (q : Int)) (hq : q < N) : ¬ (j < 0 ∨ N ≤ j.toNatClampNeg) := by
  rw [own_idx hj, Int32.lt_iff_toInt_lt, hj, show (0 : Int32).toInt = 0 from rfl]; omega
theorem own_len {N : Int32} {q : Nat} (hN : N.toInt = (q : Int)) : q.toInt32 = N := by
  have := Int32.toInt_lt N
  exact Int32.toInt_inj.mp ((len_toInt (by omega)).trans hN.symm)
/-! ## steps -/
theorem own_zw {vm : Vm} (hZ : Z.Warmed39 s.vm) {q : Nat} (hS : s.Since vm q) : Z.Warmed39 (s.setVm vm).vm := State.Warmed39.trans (t := s) hZ hS.1
theorem own_pure (K : own_Cx p s m meth c Z own nm bytes maxL ret)
    (f : ∀ {T : State} {L : List Loc} {vm : Vm}, Stand p l e R (s.setVm vm) m args below meth c T L k n → Z.Warmed39 (s.setVm vm).vm → (s.setVm vm).vm.findClass own = some m.cls → T.heap = h → ∀ target, Steps p.tables e below (T.setTop g') target → Steps p.tables e below (T.setTop g) target)
    (hr : own_G w p l e R s m args below meth c Z Q h k n g') : own_G w p l e R s m args below meth c Z Q h k n g := by
  intro T hX
  obtain ⟨T', v, h', k', n', hX', r1, r2, r3, r4, r5⟩ := hr T hX
  obtain ⟨L, vm, X, -, eT, -, hS⟩ := hX
  exact ⟨T', v, h', k', n', hX', r1, r2, r3, r4, fun fs q => f X (own_zw K.2.2.2.2.2.1 hS) (by rw [show (s.setVm vm).vm = vm from rfl, hS.1.alike.findClass]; exact K.2.2.2.2.2.2.1) eT _ (r5 fs q)⟩
theorem own_since {vm : Vm} {q q' : Nat} (hS : s.Since vm q) (hq : q ≤ q') : s.Since vm q' := ⟨hS.1, hS.2.mono hq⟩
theorem own_step {P : Heap → Prop} (K : own_Cx p s m meth c Z own nm bytes maxL ret)
    (f : ∀ {T : State} {L : List Loc} {vm : Vm}, Stand p l e R (s.setVm vm) m args below meth c T L k n → Z.Warmed39 (s.setVm vm).vm → (s.setVm vm).vm.findClass own = some m.cls → T.heap = h → Fr Z.heap.size L →
      ∃ (T' : State) (h' : Heap) (L' : List Loc), Stand p l e R (s.setVm vm) m args below meth c T' L' k' n' ∧ Fr Z.heap.size L' ∧ T'.heap = h' ∧ h.size ≤ h'.size ∧ P h' ∧ ∀ target, Steps p.tables e below (T'.setTop g') target → Steps p.tables e below (T.setTop g) target)
    (hr : ∀ h', P h' → own_G w p l e R s m args below meth c Z Q h' k' n' g') : own_G w p l e R s m args below meth c Z Q h k n g := by
  intro T hX
  obtain ⟨L, vm, X, N, eT, hw, hS⟩ := hX
  obtain ⟨T1, h1, L1, X1, N1, e1, z1, P1, st⟩ := f X (own_zw K.2.2.2.2.2.1 hS) (by rw [show (s.setVm vm).vm = vm from rfl, hS.1.alike.findClass]; exact K.2.2.2.2.2.2.1) eT N
  obtain ⟨T', v, h', k', n', hX', r1, r2, r3, r4, r5⟩ := hr h1 P1 T1 ⟨L1, vm, X1, N1, e1, hw, own_since hS z1⟩
  exact ⟨T', v, h', k', n', hX', r1, r2, r3, r4, fun fs q => st _ (r5 fs q)⟩
theorem own_iload (K : own_Cx p s m meth c Z own nm bytes maxL ret) {kk : Nat} {v : Int32} (hd : own_D bytes pc (.iload kk) 2 pc') (hl : Ls[kk]? = some (.val (.int v))) (hr : own_G w p l e R s m args below meth c Z Q h k n (mkF m pc' Ls (.int v :: st))) : own_G w p l e R s m args below meth c Z Q h k n (mkF m pc Ls (st)) := by
  obtain ⟨hd, rfl⟩ := hd
  exact own_pure K (fun X _ _ _ _ q => XS.iload X.here K.1 rfl (hb K.2.1 hd) hl q) hr
theorem own_iloadN (K : own_Cx p s m meth c Z own nm bytes maxL ret) {kk : Fin 4} {v : Int32} (hd : own_D bytes pc (.iload_n kk) 1 pc') (hl : Ls[kk.val]? = some (.val (.int v))) (hr : own_G w p l e R s m args below meth c Z Q h k n (mkF m pc' Ls (.int v :: st))) : own_G w p l e R s m args below meth c Z Q h k n (mkF m pc Ls (st)) := by
  obtain ⟨hd, rfl⟩ := hd
  exact own_pure K (fun X _ _ _ _ q => XS.iloadN X.here K.1 rfl (hb K.2.1 hd) hl q) hr
theorem own_istore (K : own_Cx p s m meth c Z own nm bytes maxL ret) {kk : Nat} {v : Int32} (hd : own_D bytes pc (.istore kk) 2 pc') (hl : storeLocals Ls kk (.int v) = some Ls') (hr : own_G w p l e R s m args below meth c Z Q h k n (mkF m pc' Ls' (st))) : own_G w p l e R s m args below meth c Z Q h k n (mkF m pc Ls (.int v :: st)) := by
  obtain ⟨hd, rfl⟩ := hd
  exact own_pure K (fun X _ _ _ _ q => XS.istore X.here K.1 rfl (hb K.2.1 hd) rfl hl q) hr
theorem own_istoreN (K : own_Cx p s m meth c Z own nm bytes maxL ret) {kk : Fin 4} {v : Int32} (hd : own_D bytes pc (.istore_n kk) 1 pc') (hl : storeLocals Ls kk.val (.int v) = some Ls') (hr : own_G w p l e R s m args below meth c Z Q h k n (mkF m pc' Ls' (st))) : own_G w p l e R s m args below meth c Z Q h k n (mkF m pc Ls (.int v :: st)) := by
  obtain ⟨hd, rfl⟩ := hd
  exact own_pure K (fun X _ _ _ _ q => XS.istoreN X.here K.1 rfl (hb K.2.1 hd) rfl hl q) hr
theorem own_lload (K : own_Cx p s m meth c Z own nm bytes maxL ret) {kk : Nat} {v : Int64} (hd : own_D bytes pc (.lload kk) 2 pc') (hl : Ls[kk]? = some (.val (.long v))) (hr : own_G w p l e R s m args below meth c Z Q h k n (mkF m pc' Ls (.long v :: st))) : own_G w p l e R s m args below meth c Z Q h k n (mkF m pc Ls (st)) := by
  obtain ⟨hd, rfl⟩ := hd
  exact own_pure K (fun X _ _ _ _ q => XT.lload X.here K.1 rfl (hb K.2.1 hd) hl q) hr
theorem own_lloadN (K : own_Cx p s m meth c Z own nm bytes maxL ret) {kk : Fin 4} {v : Int64} (hd : own_D bytes pc (.lload_n kk) 1 pc') (hl : Ls[kk.val]? = some (.val (.long v))) (hr : own_G w p l e R s m args below meth c Z Q h k n (mkF m pc' Ls (.long v :: st))) : own_G w p l e R s m args below meth c Z Q h k n (mkF m pc Ls (st)) := by
  obtain ⟨hd, rfl⟩ := hd
  exact own_pure K (fun X _ _ _ _ q => XT.lloadN X.here K.1 rfl (hb K.2.1 hd) hl q) hr
theorem own_lstore (K : own_Cx p s m meth c Z own nm bytes maxL ret) {kk : Nat} {v : Int64} (hd : own_D bytes pc (.lstore kk) 2 pc') (hl : storeLocals Ls kk (.long v) = some Ls') (hr : own_G w p l e R s m args below meth c Z Q h k n (mkF m pc' Ls' (st))) : own_G w p l e R s m args below meth c Z Q h k n (mkF m pc Ls (.long v :: st)) := by
  obtain ⟨hd, rfl⟩ := hd
  exact own_pure K (fun X _ _ _ _ q => XT.lstore X.here K.1 rfl (hb K.2.1 hd) rfl hl q) hr
theorem own_lstoreN (K : own_Cx p s m meth c Z own nm bytes maxL ret) {kk : Fin 4} {v : Int64} (hd : own_D bytes pc (.lstore_n kk) 1 pc') (hl : storeLocals Ls kk.val (.long v) = some Ls') (hr : own_G w p l e R s m args below meth c Z Q h k n (mkF m pc' Ls' (st))) : own_G w p l e R s m args below meth c Z Q h k n (mkF m pc Ls (.long v :: st)) := by
  obtain ⟨hd, rfl⟩ := hd
  exact own_pure K (fun X _ _ _ _ q => XT.lstoreN X.here K.1 rfl (hb K.2.1 hd) rfl hl q) hr
theorem own_dload (K : own_Cx p s m meth c Z own nm bytes maxL ret) {kk : Nat} {v : UInt64} (hd : own_D bytes pc (.dload kk) 2 pc') (hl : Ls[kk]? = some (.val (.double v))) (hr : own_G w p l e R s m args below meth c Z Q h k n (mkF m pc' Ls (.double v :: st))) : own_G w p l e R s m args below meth c Z Q h k n (mkF m pc Ls (st)) := by
  obtain ⟨hd, rfl⟩ := hd
  exact own_pure K (fun X _ _ _ _ q => XS.dload X.here K.1 rfl (hb K.2.1 hd) hl q) hr
theorem own_dloadN (K : own_Cx p s m meth c Z own nm bytes maxL ret) {kk : Fin 4} {v : UInt64} (hd : own_D bytes pc (.dload_n kk) 1 pc') (hl : Ls[kk.val]? = some (.val (.double v))) (hr : own_G w p l e R s m args below meth c Z Q h k n (mkF m pc' Ls (.double v :: st))) : own_G w p l e R s m args below meth c Z Q h k n (mkF m pc Ls (st)) := by
  obtain ⟨hd, rfl⟩ := hd
  exact own_pure K (fun X _ _ _ _ q => XS.dloadN X.here K.1 rfl (hb K.2.1 hd) hl q) hr
theorem own_dstore (K : own_Cx p s m meth c Z own nm bytes maxL ret) {kk : Nat} {v : UInt64} (hd : own_D bytes pc (.dstore kk) 2 pc') (hl : storeLocals Ls kk (.double v) = some Ls') (hr : own_G w p l e R s m args below meth c Z Q h k n (mkF m pc' Ls' (st))) : own_G w p l e R s m args below meth c Z Q h k n (mkF m pc Ls (.double v :: st)) := by
  obtain ⟨hd, rfl⟩ := hd
  exact own_pure K (fun X _ _ _ _ q => XS.dstore X.here K.1 rfl (hb K.2.1 hd) rfl hl q) hr
theorem own_dstoreN (K : own_Cx p s m meth c Z own nm bytes maxL ret) {kk : Fin 4} {v : UInt64} (hd : own_D bytes pc (.dstore_n kk) 1 pc') (hl : storeLocals Ls kk.val (.double v) = some Ls') (hr : own_G w p l e R s m args below meth c Z Q h k n (mkF m pc' Ls' (st))) : own_G w p l e R s m args below meth c Z Q h k n (mkF m pc Ls (.double v :: st)) := by
  obtain ⟨hd, rfl⟩ := hd
  exact own_pure K (fun X _ _ _ _ q => XS.dstoreN X.here K.1 rfl (hb K.2.1 hd) rfl hl q) hr
theorem own_aload (K : own_Cx p s m meth c Z own nm bytes maxL ret) {kk : Nat} {v : Value} (hd : own_D bytes pc (.aload kk) 2 pc') (hl : Ls[kk]? = some (.val v)) (hv : v.isRef = true) (hr : own_G w p l e R s m args below meth c Z Q h k n (mkF m pc' Ls (v :: st))) : own_G w p l e R s m args below meth c Z Q h k n (mkF m pc Ls (st)) := by
  obtain ⟨hd, rfl⟩ := hd
  exact own_pure K (fun X _ _ _ _ q => XS.aload X.here K.1 rfl (hb K.2.1 hd) hl hv q) hr
theorem own_aloadN (K : own_Cx p s m meth c Z own nm bytes maxL ret) {kk : Fin 4} {v : Value} (hd : own_D bytes pc (.aload_n kk) 1 pc') (hl : Ls[kk.val]? = some (.val v)) (hv : v.isRef = true) (hr : own_G w p l e R s m args below meth c Z Q h k n (mkF m pc' Ls (v :: st))) : own_G w p l e R s m args below meth c Z Q h k n (mkF m pc Ls (st)) := by
  obtain ⟨hd, rfl⟩ := hd
  exact own_pure K (fun X _ _ _ _ q => XS.aloadN X.here K.1 rfl (hb K.2.1 hd) hl hv q) hr
theorem own_astore (K : own_Cx p s m meth c Z own nm bytes maxL ret) {kk : Nat} {v : Value} (hd : own_D bytes pc (.astore kk) 2 pc') (hv : v.isRef = true) (hl : storeLocals Ls kk v = some Ls') (hr : own_G w p l e R s m args below meth c Z Q h k n (mkF m pc' Ls' (st))) : own_G w p l e R s m args below meth c Z Q h k n (mkF m pc Ls (v :: st)) := by
  obtain ⟨hd, rfl⟩ := hd
  exact own_pure K (fun X _ _ _ _ q => XS.astore X.here K.1 rfl (hb K.2.1 hd) rfl hv hl q) hr
theorem own_astoreN (K : own_Cx p s m meth c Z own nm bytes maxL ret) {kk : Fin 4} {v : Value} (hd : own_D bytes pc (.astore_n kk) 1 pc') (hv : v.isRef = true) (hl : storeLocals Ls kk.val v = some Ls') (hr : own_G w p l e R s m args below meth c Z Q h k n (mkF m pc' Ls' (st))) : own_G w p l e R s m args below meth c Z Q h k n (mkF m pc Ls (v :: st)) := by
  obtain ⟨hd, rfl⟩ := hd
  exact own_pure K (fun X _ _ _ _ q => XS.astoreN X.here K.1 rfl (hb K.2.1 hd) rfl hv hl q) hr
theorem own_iconst (K : own_Cx p s m meth c Z own nm bytes maxL ret) {i : Int} {v : Int32} (hd : own_D bytes pc (.iconst i) 1 pc') (hv : Int32.ofInt i = v) (hr : own_G w p l e R s m args below meth c Z Q h k n (mkF m pc' Ls (.int v :: st))) : own_G w p l e R s m args below meth c Z Q h k n (mkF m pc Ls st) := by
  obtain ⟨hd, rfl⟩ := hd
  subst hv
  exact own_pure K (fun X _ _ _ _ q => XS.iconst X.here K.1 rfl (hb K.2.1 hd) q) hr
theorem own_bipush (K : own_Cx p s m meth c Z own nm bytes maxL ret) {i : Int} {v : Int32} (hd : own_D bytes pc (.bipush i) 2 pc') (hv : (Int8.ofInt i).toInt32 = v) (hr : own_G w p l e R s m args below meth c Z Q h k n (mkF m pc' Ls (.int v :: st))) : own_G w p l e R s m args below meth c Z Q h k n (mkF m pc Ls st) := by
  obtain ⟨hd, rfl⟩ := hd
  subst hv
  exact own_pure K (fun X _ _ _ _ q => XS.bipush X.here K.1 rfl (hb K.2.1 hd) q) hr
theorem own_sipush (K : own_Cx p s m meth c Z own nm bytes maxL ret) {i : Int} {v : Int32} (hd : own_D bytes pc (.sipush i) 3 pc') (hv : (Int16.ofInt i).toInt32 = v) (hr : own_G w p l e R s m args below meth c Z Q h k n (mkF m pc' Ls (.int v :: st))) : own_G w p l e R s m args below meth c Z Q h k n (mkF m pc Ls st) := by
  obtain ⟨hd, rfl⟩ := hd
  subst hv
  exact own_pure K (fun X _ _ _ _ q => XS.sipush X.here K.1 rfl (hb K.2.1 hd) q) hr
theorem own_lconst (K : own_Cx p s m meth c Z own nm bytes maxL ret) {i : Fin 2} {v : Int64} (hd : own_D bytes pc (.lconst i) 1 pc') (hv : Int64.ofNat i = v) (hr : own_G w p l e R s m args below meth c Z Q h k n (mkF m pc' Ls (.long v :: st))) : own_G w p l e R s m args below meth c Z Q h k n (mkF m pc Ls st) := by
  obtain ⟨hd, rfl⟩ := hd
  subst hv
  exact own_pure K (fun X _ _ _ _ q => XT.lconst X.here K.1 rfl (hb K.2.1 hd) q) hr
theorem own_dconst0 (K : own_Cx p s m meth c Z own nm bytes maxL ret) {v : UInt64} (hd : own_D bytes pc (.dconst 0) 1 pc') (hv : FP.dconst0 = v) (hr : own_G w p l e R s m args below meth c Z Q h k n (mkF m pc' Ls (.double v :: st))) : own_G w p l e R s m args below meth c Z Q h k n (mkF m pc Ls st) := by
  obtain ⟨hd, rfl⟩ := hd
  exact own_pure K (fun X _ _ _ _ q => XS.dconst0 X.here K.1 rfl (hb K.2.1 hd) hv q) hr
theorem own_dconst1 (K : own_Cx p s m meth c Z own nm bytes maxL ret) {v : UInt64} (hd : own_D bytes pc (.dconst 1) 1 pc') (hv : FP.dconst1 = v) (hr : own_G w p l e R s m args below meth c Z Q h k n (mkF m pc' Ls (.double v :: st))) : own_G w p l e R s m args below meth c Z Q h k n (mkF m pc Ls st) := by
  obtain ⟨hd, rfl⟩ := hd
  exact own_pure K (fun X _ _ _ _ q => XS.dconst1 X.here K.1 rfl (hb K.2.1 hd) hv q) hr
theorem own_aconstNull (K : own_Cx p s m meth c Z own nm bytes maxL ret)  (hd : own_D bytes pc (.aconst_null) 1 pc') (hr : own_G w p l e R s m args below meth c Z Q h k n (mkF m pc' Ls (.null :: st))) : own_G w p l e R s m args below meth c Z Q h k n (mkF m pc Ls (st)) := by
  obtain ⟨hd, rfl⟩ := hd
  exact own_pure K (fun X _ _ _ _ q => XS.aconstNull X.here K.1 rfl (hb K.2.1 hd)  q) hr
theorem own_iadd (K : own_Cx p s m meth c Z own nm bytes maxL ret) {x y : Int32} (hd : own_D bytes pc (.iadd) 1 pc') (hr : own_G w p l e R s m args below meth c Z Q h k n (mkF m pc' Ls (.int (x + y) :: st))) : own_G w p l e R s m args below meth c Z Q h k n (mkF m pc Ls (.int y :: .int x :: st)) := by
  obtain ⟨hd, rfl⟩ := hd
  exact own_pure K (fun X _ _ _ _ q => XS.iadd X.here K.1 rfl (hb K.2.1 hd) rfl q) hr
theorem own_isub (K : own_Cx p s m meth c Z own nm bytes maxL ret) {x y : Int32} (hd : own_D bytes pc (.isub) 1 pc') (hr : own_G w p l e R s m args below meth c Z Q h k n (mkF m pc' Ls (.int (x - y) :: st))) : own_G w p l e R s m args below meth c Z Q h k n (mkF m pc Ls (.int y :: .int x :: st)) := by
  obtain ⟨hd, rfl⟩ := hd
  exact own_pure K (fun X _ _ _ _ q => XS.isub X.here K.1 rfl (hb K.2.1 hd) rfl q) hr
theorem own_iand (K : own_Cx p s m meth c Z own nm bytes maxL ret) {x y : Int32} (hd : own_D bytes pc (.iand) 1 pc') (hr : own_G w p l e R s m args below meth c Z Q h k n (mkF m pc' Ls (.int (x &&& y) :: st))) : own_G w p l e R s m args below meth c Z Q h k n (mkF m pc Ls (.int y :: .int x :: st)) := by
  obtain ⟨hd, rfl⟩ := hd
  exact own_pure K (fun X _ _ _ _ q => XS.iand X.here K.1 rfl (hb K.2.1 hd) rfl q) hr
theorem own_imul (K : own_Cx p s m meth c Z own nm bytes maxL ret) {x y : Int32} (hd : own_D bytes pc (.imul) 1 pc') (hr : own_G w p l e R s m args below meth c Z Q h k n (mkF m pc' Ls (.int (x * y) :: st))) : own_G w p l e R s m args below meth c Z Q h k n (mkF m pc Ls (.int y :: .int x :: st)) := by
  obtain ⟨hd, rfl⟩ := hd
  exact own_pure K (fun X _ _ _ _ q => XS.imul X.here K.1 rfl (hb K.2.1 hd) rfl q) hr
theorem own_ixor (K : own_Cx p s m meth c Z own nm bytes maxL ret) {x y : Int32} (hd : own_D bytes pc (.ixor) 1 pc') (hr : own_G w p l e R s m args below meth c Z Q h k n (mkF m pc' Ls (.int (x ^^^ y) :: st))) : own_G w p l e R s m args below meth c Z Q h k n (mkF m pc Ls (.int y :: .int x :: st)) := by
  obtain ⟨hd, rfl⟩ := hd
  exact own_pure K (fun X _ _ _ _ q => XT.ixor X.here K.1 rfl (hb K.2.1 hd) rfl q) hr
theorem own_ior (K : own_Cx p s m meth c Z own nm bytes maxL ret) {x y : Int32} (hd : own_D bytes pc (.ior) 1 pc') (hr : own_G w p l e R s m args below meth c Z Q h k n (mkF m pc' Ls (.int (x ||| y) :: st))) : own_G w p l e R s m args below meth c Z Q h k n (mkF m pc Ls (.int y :: .int x :: st)) := by
  obtain ⟨hd, rfl⟩ := hd
  exact own_pure K (fun X _ _ _ _ q => XT.ior X.here K.1 rfl (hb K.2.1 hd) rfl q) hr
theorem own_ishl (K : own_Cx p s m meth c Z own nm bytes maxL ret) {x y : Int32} (hd : own_D bytes pc (.ishl) 1 pc') (hr : own_G w p l e R s m args below meth c Z Q h k n (mkF m pc' Ls (.int (x <<< (y &&& 31)) :: st))) : own_G w p l e R s m args below meth c Z Q h k n (mkF m pc Ls (.int y :: .int x :: st)) := by
  obtain ⟨hd, rfl⟩ := hd
  exact own_pure K (fun X _ _ _ _ q => XT.ishl X.here K.1 rfl (hb K.2.1 hd) rfl q) hr
theorem own_ishr (K : own_Cx p s m meth c Z own nm bytes maxL ret) {x y : Int32} (hd : own_D bytes pc (.ishr) 1 pc') (hr : own_G w p l e R s m args below meth c Z Q h k n (mkF m pc' Ls (.int (x >>> (y &&& 31)) :: st))) : own_G w p l e R s m args below meth c Z Q h k n (mkF m pc Ls (.int y :: .int x :: st)) := by
  obtain ⟨hd, rfl⟩ := hd
  exact own_pure K (fun X _ _ _ _ q => XT.ishr X.here K.1 rfl (hb K.2.1 hd) rfl q) hr
theorem own_iushr (K : own_Cx p s m meth c Z own nm bytes maxL ret) {x y : Int32} (hd : own_D bytes pc (.iushr) 1 pc') (hr : own_G w p l e R s m args below meth c Z Q h k n (mkF m pc' Ls (.int (XT.ushr x y) :: st))) : own_G w p l e R s m args below meth c Z Q h k n (mkF m pc Ls (.int y :: .int x :: st)) := by
  obtain ⟨hd, rfl⟩ := hd
  exact own_pure K (fun X _ _ _ _ q => XT.iushr X.here K.1 rfl (hb K.2.1 hd) rfl q) hr
theorem own_ladd (K : own_Cx p s m meth c Z own nm bytes maxL ret) {x y : Int64} (hd : own_D bytes pc (.ladd) 1 pc') (hr : own_G w p l e R s m args below meth c Z Q h k n (mkF m pc' Ls (.long (x + y) :: st))) : own_G w p l e R s m args below meth c Z Q h k n (mkF m pc Ls (.long y :: .long x :: st)) := by
  obtain ⟨hd, rfl⟩ := hd
  exact own_pure K (fun X _ _ _ _ q => XT.ladd X.here K.1 rfl (hb K.2.1 hd) rfl q) hr
theorem own_lsub (K : own_Cx p s m meth c Z own nm bytes maxL ret) {x y : Int64} (hd : own_D bytes pc (.lsub) 1 pc') (hr : own_G w p l e R s m args below meth c Z Q h k n (mkF m pc' Ls (.long (x - y) :: st))) : own_G w p l e R s m args below meth c Z Q h k n (mkF m pc Ls (.long y :: .long x :: st)) := by
  obtain ⟨hd, rfl⟩ := hd
  exact own_pure K (fun X _ _ _ _ q => XT.lsub X.here K.1 rfl (hb K.2.1 hd) rfl q) hr
theorem own_lmul (K : own_Cx p s m meth c Z own nm bytes maxL ret) {x y : Int64} (hd : own_D bytes pc (.lmul) 1 pc') (hr : own_G w p l e R s m args below meth c Z Q h k n (mkF m pc' Ls (.long (x * y) :: st))) : own_G w p l e R s m args below meth c Z Q h k n (mkF m pc Ls (.long y :: .long x :: st)) := by
  obtain ⟨hd, rfl⟩ := hd
  exact own_pure K (fun X _ _ _ _ q => XT.lmul X.here K.1 rfl (hb K.2.1 hd) rfl q) hr
theorem own_land (K : own_Cx p s m meth c Z own nm bytes maxL ret) {x y : Int64} (hd : own_D bytes pc (.land) 1 pc') (hr : own_G w p l e R s m args below meth c Z Q h k n (mkF m pc' Ls (.long (x &&& y) :: st))) : own_G w p l e R s m args below meth c Z Q h k n (mkF m pc Ls (.long y :: .long x :: st)) := by
  obtain ⟨hd, rfl⟩ := hd
  exact own_pure K (fun X _ _ _ _ q => XT.land X.here K.1 rfl (hb K.2.1 hd) rfl q) hr
theorem own_lor (K : own_Cx p s m meth c Z own nm bytes maxL ret) {x y : Int64} (hd : own_D bytes pc (.lor) 1 pc') (hr : own_G w p l e R s m args below meth c Z Q h k n (mkF m pc' Ls (.long (x ||| y) :: st))) : own_G w p l e R s m args below meth c Z Q h k n (mkF m pc Ls (.long y :: .long x :: st)) := by
  obtain ⟨hd, rfl⟩ := hd
  exact own_pure K (fun X _ _ _ _ q => XT.lor X.here K.1 rfl (hb K.2.1 hd) rfl q) hr
theorem own_lxor (K : own_Cx p s m meth c Z own nm bytes maxL ret) {x y : Int64} (hd : own_D bytes pc (.lxor) 1 pc') (hr : own_G w p l e R s m args below meth c Z Q h k n (mkF m pc' Ls (.long (x ^^^ y) :: st))) : own_G w p l e R s m args below meth c Z Q h k n (mkF m pc Ls (.long y :: .long x :: st)) := by
  obtain ⟨hd, rfl⟩ := hd
  exact own_pure K (fun X _ _ _ _ q => XT.lxor X.here K.1 rfl (hb K.2.1 hd) rfl q) hr
theorem own_lshl (K : own_Cx p s m meth c Z own nm bytes maxL ret) {x : Int64} {y : Int32} (hd : own_D bytes pc (.lshl) 1 pc') (hr : own_G w p l e R s m args below meth c Z Q h k n (mkF m pc' Ls (.long (x <<< (y.toInt64 &&& 63)) :: st))) : own_G w p l e R s m args below meth c Z Q h k n (mkF m pc Ls (.int y :: .long x :: st)) := by
  obtain ⟨hd, rfl⟩ := hd
  exact own_pure K (fun X _ _ _ _ q => XT.lshl X.here K.1 rfl (hb K.2.1 hd) rfl q) hr
theorem own_lshr (K : own_Cx p s m meth c Z own nm bytes maxL ret) {x : Int64} {y : Int32} (hd : own_D bytes pc (.lshr) 1 pc') (hr : own_G w p l e R s m args below meth c Z Q h k n (mkF m pc' Ls (.long (x >>> (y.toInt64 &&& 63)) :: st))) : own_G w p l e R s m args below meth c Z Q h k n (mkF m pc Ls (.int y :: .long x :: st)) := by
  obtain ⟨hd, rfl⟩ := hd
  exact own_pure K (fun X _ _ _ _ q => XT.lshr X.here K.1 rfl (hb K.2.1 hd) rfl q) hr
theorem own_lushr (K : own_Cx p s m meth c Z own nm bytes maxL ret) {x : Int64} {y : Int32} (hd : own_D bytes pc (.lushr) 1 pc') (hr : own_G w p l e R s m args below meth c Z Q h k n (mkF m pc' Ls (.long (XT.ushrL x y) :: st))) : own_G w p l e R s m args below meth c Z Q h k n (mkF m pc Ls (.int y :: .long x :: st)) := by
  obtain ⟨hd, rfl⟩ := hd
  exact own_pure K (fun X _ _ _ _ q => XT.lushr X.here K.1 rfl (hb K.2.1 hd) rfl q) hr
theorem own_lcmp (K : own_Cx p s m meth c Z own nm bytes maxL ret) {x y : Int64} (hd : own_D bytes pc (.lcmp) 1 pc') (hr : own_G w p l e R s m args below meth c Z Q h k n (mkF m pc' Ls (.int (XT.cmpL x y) :: st))) : own_G w p l e R s m args below meth c Z Q h k n (mkF m pc Ls (.long y :: .long x :: st)) := by
  obtain ⟨hd, rfl⟩ := hd
  exact own_pure K (fun X _ _ _ _ q => XT.lcmp X.here K.1 rfl (hb K.2.1 hd) rfl q) hr
theorem own_idiv (K : own_Cx p s m meth c Z own nm bytes maxL ret) {x y : Int32} (hd : own_D bytes pc (.idiv) 1 pc') (hy : y ≠ 0) (hr : own_G w p l e R s m args below meth c Z Q h k n (mkF m pc' Ls (.int (x / y) :: st))) : own_G w p l e R s m args below meth c Z Q h k n (mkF m pc Ls (.int y :: .int x :: st)) := by
  obtain ⟨hd, rfl⟩ := hd
  exact own_pure K (fun X _ _ _ _ q => XS.idiv X.here K.1 rfl (hb K.2.1 hd) rfl hy q) hr
theorem own_ldiv (K : own_Cx p s m meth c Z own nm bytes maxL ret) {x y : Int64} (hd : own_D bytes pc (.ldiv) 1 pc') (hy : y ≠ 0) (hr : own_G w p l e R s m args below meth c Z Q h k n (mkF m pc' Ls (.long (x / y) :: st))) : own_G w p l e R s m args below meth c Z Q h k n (mkF m pc Ls (.long y :: .long x :: st)) := by
  obtain ⟨hd, rfl⟩ := hd
  exact own_pure K (fun X _ _ _ _ q => XT.ldiv X.here K.1 rfl (hb K.2.1 hd) rfl hy q) hr
theorem own_irem (K : own_Cx p s m meth c Z own nm bytes maxL ret) {x y : Int32} (hd : own_D bytes pc .irem 1 pc') (hy : y ≠ 0) (hr : own_G w p l e R s m args below meth c Z Q h k n (mkF m pc' Ls (.int (x % y) :: st))) : own_G w p l e R s m args below meth c Z Q h k n (mkF m pc Ls (.int y :: .int x :: st)) := by
  obtain ⟨hd, rfl⟩ := hd
  exact own_pure K (fun X _ _ _ _ q => iremM X K.1 rfl (hb K.2.1 hd) rfl hy q) hr
theorem own_ineg (K : own_Cx p s m meth c Z own nm bytes maxL ret) {x : Int32} (hd : own_D bytes pc (.ineg) 1 pc') (hr : own_G w p l e R s m args below meth c Z Q h k n (mkF m pc' Ls (.int (-x) :: st))) : own_G w p l e R s m args below meth c Z Q h k n (mkF m pc Ls (.int x :: st)) := by
  obtain ⟨hd, rfl⟩ := hd
  exact own_pure K (fun X _ _ _ _ q => XS.ineg X.here K.1 rfl (hb K.2.1 hd) rfl q) hr
theorem own_lneg (K : own_Cx p s m meth c Z own nm bytes maxL ret) {x : Int64} (hd : own_D bytes pc (.lneg) 1 pc') (hr : own_G w p l e R s m args below meth c Z Q h k n (mkF m pc' Ls (.long (-x) :: st))) : own_G w p l e R s m args below meth c Z Q h k n (mkF m pc Ls (.long x :: st)) := by
  obtain ⟨hd, rfl⟩ := hd
  exact own_pure K (fun X _ _ _ _ q => XT.lneg X.here K.1 rfl (hb K.2.1 hd) rfl q) hr
theorem own_i2l (K : own_Cx p s m meth c Z own nm bytes maxL ret) {x : Int32} (hd : own_D bytes pc (.i2l) 1 pc') (hr : own_G w p l e R s m args below meth c Z Q h k n (mkF m pc' Ls (.long (x.toInt64) :: st))) : own_G w p l e R s m args below meth c Z Q h k n (mkF m pc Ls (.int x :: st)) := by
  obtain ⟨hd, rfl⟩ := hd
  exact own_pure K (fun X _ _ _ _ q => XT.i2l X.here K.1 rfl (hb K.2.1 hd) rfl q) hr
theorem own_l2i (K : own_Cx p s m meth c Z own nm bytes maxL ret) {x : Int64} (hd : own_D bytes pc (.l2i) 1 pc') (hr : own_G w p l e R s m args below meth c Z Q h k n (mkF m pc' Ls (.int (x.toInt32) :: st))) : own_G w p l e R s m args below meth c Z Q h k n (mkF m pc Ls (.long x :: st)) := by
  obtain ⟨hd, rfl⟩ := hd
  exact own_pure K (fun X _ _ _ _ q => XT.l2i X.here K.1 rfl (hb K.2.1 hd) rfl q) hr
theorem own_i2b (K : own_Cx p s m meth c Z own nm bytes maxL ret) {x : Int32} (hd : own_D bytes pc (.i2b) 1 pc') (hr : own_G w p l e R s m args below meth c Z Q h k n (mkF m pc' Ls (.int (x.toInt8.toInt32) :: st))) : own_G w p l e R s m args below meth c Z Q h k n (mkF m pc Ls (.int x :: st)) := by
  obtain ⟨hd, rfl⟩ := hd
  exact own_pure K (fun X _ _ _ _ q => XT.i2b X.here K.1 rfl (hb K.2.1 hd) rfl q) hr
theorem own_i2c (K : own_Cx p s m meth c Z own nm bytes maxL ret) {x : Int32} (hd : own_D bytes pc (.i2c) 1 pc') (hr : own_G w p l e R s m args below meth c Z Q h k n (mkF m pc' Ls (.int (x.toUInt32.toUInt16.toUInt32.toInt32) :: st))) : own_G w p l e R s m args below meth c Z Q h k n (mkF m pc Ls (.int x :: st)) := by
  obtain ⟨hd, rfl⟩ := hd
  exact own_pure K (fun X _ _ _ _ q => XT.i2c X.here K.1 rfl (hb K.2.1 hd) rfl q) hr
theorem own_i2s (K : own_Cx p s m meth c Z own nm bytes maxL ret) {x : Int32} (hd : own_D bytes pc (.i2s) 1 pc') (hr : own_G w p l e R s m args below meth c Z Q h k n (mkF m pc' Ls (.int (x.toInt16.toInt32) :: st))) : own_G w p l e R s m args below meth c Z Q h k n (mkF m pc Ls (.int x :: st)) := by
  obtain ⟨hd, rfl⟩ := hd
  exact own_pure K (fun X _ _ _ _ q => XT.i2s X.here K.1 rfl (hb K.2.1 hd) rfl q) hr
theorem own_i2d (K : own_Cx p s m meth c Z own nm bytes maxL ret) {x : Int32} (hd : own_D bytes pc (.i2d) 1 pc') (hr : own_G w p l e R s m args below meth c Z Q h k n (mkF m pc' Ls (.double (FP.i2d x) :: st))) : own_G w p l e R s m args below meth c Z Q h k n (mkF m pc Ls (.int x :: st)) := by
  obtain ⟨hd, rfl⟩ := hd
  exact own_pure K (fun X _ _ _ _ q => XS.i2dS X.here K.1 rfl (hb K.2.1 hd) rfl rfl q) hr
theorem own_l2d (K : own_Cx p s m meth c Z own nm bytes maxL ret) {x : Int64} (hd : own_D bytes pc (.l2d) 1 pc') (hr : own_G w p l e R s m args below meth c Z Q h k n (mkF m pc' Ls (.double (FP.l2d x) :: st))) : own_G w p l e R s m args below meth c Z Q h k n (mkF m pc Ls (.long x :: st)) := by
  obtain ⟨hd, rfl⟩ := hd
  exact own_pure K (fun X _ _ _ _ q => XS.l2dS X.here K.1 rfl (hb K.2.1 hd) rfl rfl q) hr
theorem own_dneg (K : own_Cx p s m meth c Z own nm bytes maxL ret) {x : UInt64} (hd : own_D bytes pc (.dneg) 1 pc') (hr : own_G w p l e R s m args below meth c Z Q h k n (mkF m pc' Ls (.double (FP.dneg x) :: st))) : own_G w p l e R s m args below meth c Z Q h k n (mkF m pc Ls (.double x :: st)) := by
  obtain ⟨hd, rfl⟩ := hd
  exact own_pure K (fun X _ _ _ _ q => XS.dnegS X.here K.1 rfl (hb K.2.1 hd) rfl rfl q) hr
theorem own_dcmp (K : own_Cx p s m meth c Z own nm bytes maxL ret) {oo : CmpOp} {x y : UInt64} (hd : own_D bytes pc (.dcmp oo) 1 pc') (hr : own_G w p l e R s m args below meth c Z Q h k n (mkF m pc' Ls (.int (cmpValue (FP.dcmp x y) oo) :: st))) : own_G w p l e R s m args below meth c Z Q h k n (mkF m pc Ls (.double y :: .double x :: st)) := by
  obtain ⟨hd, rfl⟩ := hd
  exact own_pure K (fun X _ _ _ _ q => XS.dcmpS X.here K.1 rfl (hb K.2.1 hd) rfl rfl q) hr
theorem own_dadd (K : own_Cx p s m meth c Z own nm bytes maxL ret) {x y : UInt64} (hd : own_D bytes pc (.dadd) 1 pc') (hn : Jvm.Free.Fl.NoNaN64 (FP.dadd x y)) (hr : own_G w p l e R s m args below meth c Z Q h k n (mkF m pc' Ls (.double (FP.dadd x y) :: st))) : own_G w p l e R s m args below meth c Z Q h k n (mkF m pc Ls (.double y :: .double x :: st)) := by
  obtain ⟨hd, rfl⟩ := hd
  exact own_pure K (fun X _ _ _ _ q => XS.daddS X.here K.1 rfl (hb K.2.1 hd) rfl hn rfl q) hr
theorem own_dsub (K : own_Cx p s m meth c Z own nm bytes maxL ret) {x y : UInt64} (hd : own_D bytes pc (.dsub) 1 pc') (hn : Jvm.Free.Fl.NoNaN64 (FP.dsub x y)) (hr : own_G w p l e R s m args below meth c Z Q h k n (mkF m pc' Ls (.double (FP.dsub x y) :: st))) : own_G w p l e R s m args below meth c Z Q h k n (mkF m pc Ls (.double y :: .double x :: st)) := by
  obtain ⟨hd, rfl⟩ := hd
  exact own_pure K (fun X _ _ _ _ q => XS.dsubS X.here K.1 rfl (hb K.2.1 hd) rfl hn rfl q) hr
theorem own_dmul (K : own_Cx p s m meth c Z own nm bytes maxL ret) {x y : UInt64} (hd : own_D bytes pc (.dmul) 1 pc') (hn : Jvm.Free.Fl.NoNaN64 (FP.dmul x y)) (hr : own_G w p l e R s m args below meth c Z Q h k n (mkF m pc' Ls (.double (FP.dmul x y) :: st))) : own_G w p l e R s m args below meth c Z Q h k n (mkF m pc Ls (.double y :: .double x :: st)) := by
  obtain ⟨hd, rfl⟩ := hd
  exact own_pure K (fun X _ _ _ _ q => XS.dmulS X.here K.1 rfl (hb K.2.1 hd) rfl hn rfl q) hr
theorem own_ddiv (K : own_Cx p s m meth c Z own nm bytes maxL ret) {x y : UInt64} (hd : own_D bytes pc (.ddiv) 1 pc') (hn : Jvm.Free.Fl.NoNaN64 (FP.ddiv x y)) (hr : own_G w p l e R s m args below meth c Z Q h k n (mkF m pc' Ls (.double (FP.ddiv x y) :: st))) : own_G w p l e R s m args below meth c Z Q h k n (mkF m pc Ls (.double y :: .double x :: st)) := by
  obtain ⟨hd, rfl⟩ := hd
  exact own_pure K (fun X _ _ _ _ q => XS.ddivS X.here K.1 rfl (hb K.2.1 hd) rfl hn rfl q) hr
theorem own_dup (K : own_Cx p s m meth c Z own nm bytes maxL ret) {x : Value} (hd : own_D bytes pc (.dup) 1 pc') (hc : x.category = 1) (hr : own_G w p l e R s m args below meth c Z Q h k n (mkF m pc' Ls (x :: x :: st))) : own_G w p l e R s m args below meth c Z Q h k n (mkF m pc Ls (x :: st)) := by
  obtain ⟨hd, rfl⟩ := hd
  exact own_pure K (fun X _ _ _ _ q => XS.dup X.here K.1 rfl (hb K.2.1 hd) rfl hc q) hr
theorem own_pop (K : own_Cx p s m meth c Z own nm bytes maxL ret) {x : Value} (hd : own_D bytes pc (.pop) 1 pc') (hc : x.category = 1) (hr : own_G w p l e R s m args below meth c Z Q h k n (mkF m pc' Ls (st))) : own_G w p l e R s m args below meth c Z Q h k n (mkF m pc Ls (x :: st)) := by
  obtain ⟨hd, rfl⟩ := hd
  exact own_pure K (fun X _ _ _ _ q => XT.pop X.here K.1 rfl (hb K.2.1 hd) rfl hc q) hr
theorem own_dupX1 (K : own_Cx p s m meth c Z own nm bytes maxL ret) {x y : Value} (hd : own_D bytes pc (.dup_x1) 1 pc') (hc : x.category = 1) (hc' : y.category = 1) (hr : own_G w p l e R s m args below meth c Z Q h k n (mkF m pc' Ls (x :: y :: x :: st))) : own_G w p l e R s m args below meth c Z Q h k n (mkF m pc Ls (x :: y :: st)) := by
  obtain ⟨hd, rfl⟩ := hd
  exact own_pure K (fun X _ _ _ _ q => XT.dupX1 X.here K.1 rfl (hb K.2.1 hd) rfl hc hc' q) hr
theorem own_dup2 (K : own_Cx p s m meth c Z own nm bytes maxL ret) {x y : Value} (hd : own_D bytes pc (.dup2) 1 pc') (hc : x.category = 1) (hc' : y.category = 1) (hr : own_G w p l e R s m args below meth c Z Q h k n (mkF m pc' Ls (x :: y :: x :: y :: st))) : own_G w p l e R s m args below meth c Z Q h k n (mkF m pc Ls (x :: y :: st)) := by
  obtain ⟨hd, rfl⟩ := hd
  exact own_pure K (fun X _ _ _ _ q => XT.dup2 X.here K.1 rfl (hb K.2.1 hd) rfl hc hc' q) hr
theorem own_iinc (K : own_Cx p s m meth c Z own nm bytes maxL ret) {kk : Nat} {cst : Int} {x y : Int32} (hd : own_D bytes pc (.iinc kk cst) 3 pc') (hl : Ls[kk]? = some (.val (.int x))) (hy : x + Int32.ofInt cst = y) (hl' : storeLocals Ls kk (.int y) = some Ls') (hr : own_G w p l e R s m args below meth c Z Q h k n (mkF m pc' Ls' st)) : own_G w p l e R s m args below meth c Z Q h k n (mkF m pc Ls st) := by
  obtain ⟨hd, rfl⟩ := hd
  subst hy
  exact own_pure K (fun X _ _ _ _ q => XS.iinc X.here K.1 rfl (hb K.2.1 hd) hl hl' q) hr
theorem own_goto (K : own_Cx p s m meth c Z own nm bytes maxL ret) {off : Int} {pcF : Nat} (hd : own_B bytes pc (.goto off) off pcF pcT) (hr : own_G w p l e R s m args below meth c Z Q h k n (mkF m pcT Ls st)) : own_G w p l e R s m args below meth c Z Q h k n (mkF m pc Ls st) := by
  obtain ⟨hd, -, h1, h2⟩ := hd
  exact own_pure K (fun X _ _ _ _ q => XS.goto X.here K.1 rfl rfl (hb K.2.1 hd) h1 h2 q) hr
theorem own_ldcI (K : own_Cx p s m meth c Z own nm bytes maxL ret) {i : Nat} {v : Int32} (hd : own_D bytes pc (.ldc i) 2 pc') (wc : (Cond.constant own i v).before a0 Z = true) (hr : own_G w p l e R s m args below meth c Z Q h k n (mkF m pc' Ls (.int v :: st))) : own_G w p l e R s m args below meth c Z Q h k n (mkF m pc Ls st) := by
  obtain ⟨hd, rfl⟩ := hd
  exact own_pure K (fun X hZ ho _ _ q => X.ldcI K.1 ho (mvT hZ wc) rfl (hb K.2.1 hd) q) hr
theorem own_ldc2J (K : own_Cx p s m meth c Z own nm bytes maxL ret) {i : Nat} {v : Int64} (hd : own_D bytes pc (.ldc2_w i) 3 pc') (wc : (Cond.constantLong own i v).before a0 Z = true) (hr : own_G w p l e R s m args below meth c Z Q h k n (mkF m pc' Ls (.long v :: st))) : own_G w p l e R s m args below meth c Z Q h k n (mkF m pc Ls st) := by
  obtain ⟨hd, rfl⟩ := hd
  exact own_pure K (fun X hZ ho _ _ q => X.ldc2J K.1 ho (mvT hZ wc) rfl (hb K.2.1 hd) q) hr
theorem own_ldc2D (K : own_Cx p s m meth c Z own nm bytes maxL ret) {i : Nat} {v : UInt64} (hd : own_D bytes pc (.ldc2_w i) 3 pc') (wc : (Cond.constantDouble own i v).before a0 Z = true) (hr : own_G w p l e R s m args below meth c Z Q h k n (mkF m pc' Ls (.double v :: st))) : own_G w p l e R s m args below meth c Z Q h k n (mkF m pc Ls st) := by
  obtain ⟨hd, rfl⟩ := hd
  exact own_pure K (fun X hZ ho _ _ q => X.ldc2DoubleC K.1 ho (mvT hZ wc) (g := mkF m pc Ls st) rfl (hb K.2.1 hd) _ q) hr
theorem own_i0_eq (x : Int32) : (ifCond.holds .eq x = true) = (x = 0) := by simp [ifCond.holds, Int32.lt_iff_toInt_lt, Int32.le_iff_toInt_le]
theorem own_ii_eq (x y : Int32) : (if_icmp.holds .eq x y = true) = (x = y) := by simp [if_icmp.holds, Int32.lt_iff_toInt_lt, Int32.le_iff_toInt_le]
theorem own_ifeq (K : own_Cx p s m meth c Z own nm bytes maxL ret) {off : Int} {pcF : Nat} {x : Int32} (hd : own_B bytes pc (.ifCond .eq off) off pcF pcT) (hT : (x = 0) → own_G w p l e R s m args below meth c Z Q h k n (mkF m pcT Ls st)) (hF : ¬ (x = 0) → own_G w p l e R s m args below meth c Z Q h k n (mkF m pcF Ls st)) : own_G w p l e R s m args below meth c Z Q h k n (mkF m pc Ls (.int x :: st)) := by
  obtain ⟨hd, rfl, h1, h2⟩ := hd
  by_cases q : ifCond.holds .eq x = true
  · exact own_pure K (fun X _ _ _ _ r => XS.ifYes X.here K.1 rfl rfl (hb K.2.1 hd) rfl q h1 h2 r) (hT ((own_i0_eq x).mp q))
  · exact own_pure K (fun X _ _ _ _ r => XS.ifNo X.here K.1 rfl (hb K.2.1 hd) rfl (Bool.eq_false_iff.mpr q) r) (hF fun z => q ((own_i0_eq x).mpr z))
theorem own_icmpeq (K : own_Cx p s m meth c Z own nm bytes maxL ret) {off : Int} {pcF : Nat} {x y : Int32} (hd : own_B bytes pc (.if_icmp .eq off) off pcF pcT) (hT : (x = y) → own_G w p l e R s m args below meth c Z Q h k n (mkF m pcT Ls st)) (hF : ¬ (x = y) → own_G w p l e R s m args below meth c Z Q h k n (mkF m pcF Ls st)) : own_G w p l e R s m args below meth c Z Q h k n (mkF m pc Ls (.int y :: .int x :: st)) := by
  obtain ⟨hd, rfl, h1, h2⟩ := hd
  by_cases q : if_icmp.holds .eq x y = true
  · exact own_pure K (fun X _ _ _ _ r => XS.icmpYes X.here K.1 rfl rfl (hb K.2.1 hd) rfl q h1 h2 r) (hT ((own_ii_eq x y).mp q))
  · exact own_pure K (fun X _ _ _ _ r => XS.icmpNo X.here K.1 rfl (hb K.2.1 hd) rfl (Bool.eq_false_iff.mpr q) r) (hF fun z => q ((own_ii_eq x y).mpr z))
theorem own_i0_ne (x : Int32) : (ifCond.holds .ne x = true) = (x ≠ 0) := by simp [ifCond.holds, Int32.lt_iff_toInt_lt, Int32.le_iff_toInt_le]
theorem own_ii_ne (x y : Int32) : (if_icmp.holds .ne x y = true) = (x ≠ y) := by simp [if_icmp.holds, Int32.lt_iff_toInt_lt, Int32.le_iff_toInt_le]
theorem own_ifne (K : own_Cx p s m meth c Z own nm bytes maxL ret) {off : Int} {pcF : Nat} {x : Int32} (hd : own_B bytes pc (.ifCond .ne off) off pcF pcT) (hT : (x ≠ 0) → own_G w p l e R s m args below meth c Z Q h k n (mkF m pcT Ls st)) (hF : ¬ (x ≠ 0) → own_G w p l e R s m args below meth c Z Q h k n (mkF m pcF Ls st)) : own_G w p l e R s m args below meth c Z Q h k n (mkF m pc Ls (.int x :: st)) := by
  obtain ⟨hd, rfl, h1, h2⟩ := hd
  by_cases q : ifCond.holds .ne x = true
  · exact own_pure K (fun X _ _ _ _ r => XS.ifYes X.here K.1 rfl rfl (hb K.2.1 hd) rfl q h1 h2 r) (hT ((own_i0_ne x).mp q))
  · exact own_pure K (fun X _ _ _ _ r => XS.ifNo X.here K.1 rfl (hb K.2.1 hd) rfl (Bool.eq_false_iff.mpr q) r) (hF fun z => q ((own_i0_ne x).mpr z))
theorem own_icmpne (K : own_Cx p s m meth c Z own nm bytes maxL ret) {off : Int} {pcF : Nat} {x y : Int32} (hd : own_B bytes pc (.if_icmp .ne off) off pcF pcT) (hT : (x ≠ y) → own_G w p l e R s m args below meth c Z Q h k n (mkF m pcT Ls st)) (hF : ¬ (x ≠ y) → own_G w p l e R s m args below meth c Z Q h k n (mkF m pcF Ls st)) : own_G w p l e R s m args below meth c Z Q h k n (mkF m pc Ls (.int y :: .int x :: st)) := by
  obtain ⟨hd, rfl, h1, h2⟩ := hd
  by_cases q : if_icmp.holds .ne x y = true
  · exact own_pure K (fun X _ _ _ _ r => XS.icmpYes X.here K.1 rfl rfl (hb K.2.1 hd) rfl q h1 h2 r) (hT ((own_ii_ne x y).mp q))
  · exact own_pure K (fun X _ _ _ _ r => XS.icmpNo X.here K.1 rfl (hb K.2.1 hd) rfl (Bool.eq_false_iff.mpr q) r) (hF fun z => q ((own_ii_ne x y).mpr z))
theorem own_i0_lt (x : Int32) : (ifCond.holds .lt x = true) = (x.toInt < 0) := by simp [ifCond.holds, Int32.lt_iff_toInt_lt, Int32.le_iff_toInt_le]
theorem own_ii_lt (x y : Int32) : (if_icmp.holds .lt x y = true) = (x.toInt < y.toInt) := by simp [if_icmp.holds, Int32.lt_iff_toInt_lt, Int32.le_iff_toInt_le]
theorem own_iflt (K : own_Cx p s m meth c Z own nm bytes maxL ret) {off : Int} {pcF : Nat} {x : Int32} (hd : own_B bytes pc (.ifCond .lt off) off pcF pcT) (hT : (x.toInt < 0) → own_G w p l e R s m args below meth c Z Q h k n (mkF m pcT Ls st)) (hF : ¬ (x.toInt < 0) → own_G w p l e R s m args below meth c Z Q h k n (mkF m pcF Ls st)) : own_G w p l e R s m args below meth c Z Q h k n (mkF m pc Ls (.int x :: st)) := by
  obtain ⟨hd, rfl, h1, h2⟩ := hd
  by_cases q : ifCond.holds .lt x = true
  · exact own_pure K (fun X _ _ _ _ r => XS.ifYes X.here K.1 rfl rfl (hb K.2.1 hd) rfl q h1 h2 r) (hT ((own_i0_lt x).mp q))
  · exact own_pure K (fun X _ _ _ _ r => XS.ifNo X.here K.1 rfl (hb K.2.1 hd) rfl (Bool.eq_false_iff.mpr q) r) (hF fun z => q ((own_i0_lt x).mpr z))
theorem own_icmplt (K : own_Cx p s m meth c Z own nm bytes maxL ret) {off : Int} {pcF : Nat} {x y : Int32} (hd : own_B bytes pc (.if_icmp .lt off) off pcF pcT) (hT : (x.toInt < y.toInt) → own_G w p l e R s m args below meth c Z Q h k n (mkF m pcT Ls st)) (hF : ¬ (x.toInt < y.toInt) → own_G w p l e R s m args below meth c Z Q h k n (mkF m pcF Ls st)) : own_G w p l e R s m args below meth c Z Q h k n (mkF m pc Ls (.int y :: .int x :: st)) := by
  obtain ⟨hd, rfl, h1, h2⟩ := hd
  by_cases q : if_icmp.holds .lt x y = true
  · exact own_pure K (fun X _ _ _ _ r => XS.icmpYes X.here K.1 rfl rfl (hb K.2.1 hd) rfl q h1 h2 r) (hT ((own_ii_lt x y).mp q))
  · exact own_pure K (fun X _ _ _ _ r => XS.icmpNo X.here K.1 rfl (hb K.2.1 hd) rfl (Bool.eq_false_iff.mpr q) r) (hF fun z => q ((own_ii_lt x y).mpr z))
theorem own_i0_ge (x : Int32) : (ifCond.holds .ge x = true) = (0 ≤ x.toInt) := by simp [ifCond.holds, Int32.lt_iff_toInt_lt, Int32.le_iff_toInt_le]
theorem own_ii_ge (x y : Int32) : (if_icmp.holds .ge x y = true) = (y.toInt ≤ x.toInt) := by simp [if_icmp.holds, Int32.lt_iff_toInt_lt, Int32.le_iff_toInt_le]
theorem own_ifge (K : own_Cx p s m meth c Z own nm bytes maxL ret) {off : Int} {pcF : Nat} {x : Int32} (hd : own_B bytes pc (.ifCond .ge off) off pcF pcT) (hT : (0 ≤ x.toInt) → own_G w p l e R s m args below meth c Z Q h k n (mkF m pcT Ls st)) (hF : ¬ (0 ≤ x.toInt) → own_G w p l e R s m args below meth c Z Q h k n (mkF m pcF Ls st)) : own_G w p l e R s m args below meth c Z Q h k n (mkF m pc Ls (.int x :: st)) := by
  obtain ⟨hd, rfl, h1, h2⟩ := hd
  by_cases q : ifCond.holds .ge x = true
  · exact own_pure K (fun X _ _ _ _ r => XS.ifYes X.here K.1 rfl rfl (hb K.2.1 hd) rfl q h1 h2 r) (hT ((own_i0_ge x).mp q))
  · exact own_pure K (fun X _ _ _ _ r => XS.ifNo X.here K.1 rfl (hb K.2.1 hd) rfl (Bool.eq_false_iff.mpr q) r) (hF fun z => q ((own_i0_ge x).mpr z))
theorem own_icmpge (K : own_Cx p s m meth c Z own nm bytes maxL ret) {off : Int} {pcF : Nat} {x y : Int32} (hd : own_B bytes pc (.if_icmp .ge off) off pcF pcT) (hT : (y.toInt ≤ x.toInt) → own_G w p l e R s m args below meth c Z Q h k n (mkF m pcT Ls st)) (hF : ¬ (y.toInt ≤ x.toInt) → own_G w p l e R s m args below meth c Z Q h k n (mkF m pcF Ls st)) : own_G w p l e R s m args below meth c Z Q h k n (mkF m pc Ls (.int y :: .int x :: st)) := by
  obtain ⟨hd, rfl, h1, h2⟩ := hd
  by_cases q : if_icmp.holds .ge x y = true
  · exact own_pure K (fun X _ _ _ _ r => XS.icmpYes X.here K.1 rfl rfl (hb K.2.1 hd) rfl q h1 h2 r) (hT ((own_ii_ge x y).mp q))
  · exact own_pure K (fun X _ _ _ _ r => XS.icmpNo X.here K.1 rfl (hb K.2.1 hd) rfl (Bool.eq_false_iff.mpr q) r) (hF fun z => q ((own_ii_ge x y).mpr z))
theorem own_i0_gt (x : Int32) : (ifCond.holds .gt x = true) = (0 < x.toInt) := by simp [ifCond.holds, Int32.lt_iff_toInt_lt, Int32.le_iff_toInt_le]
theorem own_ii_gt (x y : Int32) : (if_icmp.holds .gt x y = true) = (y.toInt < x.toInt) := by simp [if_icmp.holds, Int32.lt_iff_toInt_lt, Int32.le_iff_toInt_le]
theorem own_ifgt (K : own_Cx p s m meth c Z own nm bytes maxL ret) {off : Int} {pcF : Nat} {x : Int32} (hd : own_B bytes pc (.ifCond .gt off) off pcF pcT) (hT : (0 < x.toInt) → own_G w p l e R s m args below meth c Z Q h k n (mkF m pcT Ls st)) (hF : ¬ (0 < x.toInt) → own_G w p l e R s m args below meth c Z Q h k n (mkF m pcF Ls st)) : own_G w p l e R s m args below meth c Z Q h k n (mkF m pc Ls (.int x :: st)) := by
  obtain ⟨hd, rfl, h1, h2⟩ := hd
  by_cases q : ifCond.holds .gt x = true
  · exact own_pure K (fun X _ _ _ _ r => XS.ifYes X.here K.1 rfl rfl (hb K.2.1 hd) rfl q h1 h2 r) (hT ((own_i0_gt x).mp q))
  · exact own_pure K (fun X _ _ _ _ r => XS.ifNo X.here K.1 rfl (hb K.2.1 hd) rfl (Bool.eq_false_iff.mpr q) r) (hF fun z => q ((own_i0_gt x).mpr z))
theorem own_icmpgt (K : own_Cx p s m meth c Z own nm bytes maxL ret) {off : Int} {pcF : Nat} {x y : Int32} (hd : own_B bytes pc (.if_icmp .gt off) off pcF pcT) (hT : (y.toInt < x.toInt) → own_G w p l e R s m args below meth c Z Q h k n (mkF m pcT Ls st)) (hF : ¬ (y.toInt < x.toInt) → own_G w p l e R s m args below meth c Z Q h k n (mkF m pcF Ls st)) : own_G w p l e R s m args below meth c Z Q h k n (mkF m pc Ls (.int y :: .int x :: st)) := by
  obtain ⟨hd, rfl, h1, h2⟩ := hd
  by_cases q : if_icmp.holds .gt x y = true
  · exact own_pure K (fun X _ _ _ _ r => XS.icmpYes X.here K.1 rfl rfl (hb K.2.1 hd) rfl q h1 h2 r) (hT ((own_ii_gt x y).mp q))
  · exact own_pure K (fun X _ _ _ _ r => XS.icmpNo X.here K.1 rfl (hb K.2.1 hd) rfl (Bool.eq_false_iff.mpr q) r) (hF fun z => q ((own_ii_gt x y).mpr z))
theorem own_i0_le (x : Int32) : (ifCond.holds .le x = true) = (x.toInt ≤ 0) := by simp [ifCond.holds, Int32.lt_iff_toInt_lt, Int32.le_iff_toInt_le]
theorem own_ii_le (x y : Int32) : (if_icmp.holds .le x y = true) = (x.toInt ≤ y.toInt) := by simp [if_icmp.holds, Int32.lt_iff_toInt_lt, Int32.le_iff_toInt_le]
theorem own_ifle (K : own_Cx p s m meth c Z own nm bytes maxL ret) {off : Int} {pcF : Nat} {x : Int32} (hd : own_B bytes pc (.ifCond .le off) off pcF pcT) (hT : (x.toInt ≤ 0) → own_G w p l e R s m args below meth c Z Q h k n (mkF m pcT Ls st)) (hF : ¬ (x.toInt ≤ 0) → own_G w p l e R s m args below meth c Z Q h k n (mkF m pcF Ls st)) : own_G w p l e R s m args below meth c Z Q h k n (mkF m pc Ls (.int x :: st)) := by
  obtain ⟨hd, rfl, h1, h2⟩ := hd
  by_cases q : ifCond.holds .le x = true
  · exact own_pure K (fun X _ _ _ _ r => XS.ifYes X.here K.1 rfl rfl (hb K.2.1 hd) rfl q h1 h2 r) (hT ((own_i0_le x).mp q))
  · exact own_pure K (fun X _ _ _ _ r => XS.ifNo X.here K.1 rfl (hb K.2.1 hd) rfl (Bool.eq_false_iff.mpr q) r) (hF fun z => q ((own_i0_le x).mpr z))
theorem own_icmple (K : own_Cx p s m meth c Z own nm bytes maxL ret) {off : Int} {pcF : Nat} {x y : Int32} (hd : own_B bytes pc (.if_icmp .le off) off pcF pcT) (hT : (x.toInt ≤ y.toInt) → own_G w p l e R s m args below meth c Z Q h k n (mkF m pcT Ls st)) (hF : ¬ (x.toInt ≤ y.toInt) → own_G w p l e R s m args below meth c Z Q h k n (mkF m pcF Ls st)) : own_G w p l e R s m args below meth c Z Q h k n (mkF m pc Ls (.int y :: .int x :: st)) := by
  obtain ⟨hd, rfl, h1, h2⟩ := hd
  by_cases q : if_icmp.holds .le x y = true
  · exact own_pure K (fun X _ _ _ _ r => XS.icmpYes X.here K.1 rfl rfl (hb K.2.1 hd) rfl q h1 h2 r) (hT ((own_ii_le x y).mp q))
  · exact own_pure K (fun X _ _ _ _ r => XS.icmpNo X.here K.1 rfl (hb K.2.1 hd) rfl (Bool.eq_false_iff.mpr q) r) (hF fun z => q ((own_ii_le x y).mpr z))
theorem own_ifnullN (K : own_Cx p s m meth c Z own nm bytes maxL ret) {off : Int} {pcF : Nat} (hd : own_B bytes pc (.ifnull off) off pcF pcT) (hr : own_G w p l e R s m args below meth c Z Q h k n (mkF m pcT Ls st)) : own_G w p l e R s m args below meth c Z Q h k n (mkF m pc Ls (.null :: st)) := by
  obtain ⟨hd, rfl, h1, h2⟩ := hd
  exact own_pure K (fun X _ _ _ _ r => XS.ifnullYes X.here K.1 rfl rfl (hb K.2.1 hd) rfl h1 h2 r) hr
theorem own_ifnullR (K : own_Cx p s m meth c Z own nm bytes maxL ret) {off : Int} {pcF : Nat} {b : Addr} (hd : own_B bytes pc (.ifnull off) off pcF pcT) (hr : own_G w p l e R s m args below meth c Z Q h k n (mkF m pcF Ls st)) : own_G w p l e R s m args below meth c Z Q h k n (mkF m pc Ls (.ref b :: st)) := by
  obtain ⟨hd, rfl, h1, h2⟩ := hd
  exact own_pure K (fun X _ _ _ _ r => XS.ifnullNo X.here K.1 rfl (hb K.2.1 hd) rfl r) hr
theorem own_ifnonnullN (K : own_Cx p s m meth c Z own nm bytes maxL ret) {off : Int} {pcF : Nat} (hd : own_B bytes pc (.ifnonnull off) off pcF pcT) (hr : own_G w p l e R s m args below meth c Z Q h k n (mkF m pcF Ls st)) : own_G w p l e R s m args below meth c Z Q h k n (mkF m pc Ls (.null :: st)) := by
  obtain ⟨hd, rfl, h1, h2⟩ := hd
  exact own_pure K (fun X _ _ _ _ r => XT.ifnonnullNo X.here K.1 rfl (hb K.2.1 hd) rfl r) hr
theorem own_ifnonnullR (K : own_Cx p s m meth c Z own nm bytes maxL ret) {off : Int} {pcF : Nat} {b : Addr} (hd : own_B bytes pc (.ifnonnull off) off pcF pcT) (hr : own_G w p l e R s m args below meth c Z Q h k n (mkF m pcT Ls st)) : own_G w p l e R s m args below meth c Z Q h k n (mkF m pc Ls (.ref b :: st)) := by
  obtain ⟨hd, rfl, h1, h2⟩ := hd
  exact own_pure K (fun X _ _ _ _ r => XT.ifnonnullYes X.here K.1 rfl rfl (hb K.2.1 hd) rfl h1 h2 r) hr
theorem own_acmpeq (K : own_Cx p s m meth c Z own nm bytes maxL ret) {off : Int} {pcF : Nat} {x y : Value} (hd : own_B bytes pc (.if_acmp .eq off) off pcF pcT) (h1' : x.isRef = true) (h2' : y.isRef = true) (hT : (x = y) → own_G w p l e R s m args below meth c Z Q h k n (mkF m pcT Ls st)) (hF : ¬ (x = y) → own_G w p l e R s m args below meth c Z Q h k n (mkF m pcF Ls st)) : own_G w p l e R s m args below meth c Z Q h k n (mkF m pc Ls (y :: x :: st)) := by
  obtain ⟨hd, rfl, h1, h2⟩ := hd
  by_cases q : x = y
  · exact own_pure K (fun X _ _ _ _ r => XT.acmpYes X.here K.1 rfl rfl (hb K.2.1 hd) rfl h1' h2' (decide_eq_true q) h1 h2 r) (hT q)
  · exact own_pure K (fun X _ _ _ _ r => XT.acmpNo X.here K.1 rfl (hb K.2.1 hd) rfl h1' h2' (decide_eq_false q) r) (hF q)
theorem own_acmpne (K : own_Cx p s m meth c Z own nm bytes maxL ret) {off : Int} {pcF : Nat} {x y : Value} (hd : own_B bytes pc (.if_acmp .ne off) off pcF pcT) (h1' : x.isRef = true) (h2' : y.isRef = true) (hT : (x ≠ y) → own_G w p l e R s m args below meth c Z Q h k n (mkF m pcT Ls st)) (hF : ¬ (x ≠ y) → own_G w p l e R s m args below meth c Z Q h k n (mkF m pcF Ls st)) : own_G w p l e R s m args below meth c Z Q h k n (mkF m pc Ls (y :: x :: st)) := by
  obtain ⟨hd, rfl, h1, h2⟩ := hd
  by_cases q : x ≠ y
  · exact own_pure K (fun X _ _ _ _ r => XT.acmpYes X.here K.1 rfl rfl (hb K.2.1 hd) rfl h1' h2' (decide_eq_true q) h1 h2 r) (hT q)
  · exact own_pure K (fun X _ _ _ _ r => XT.acmpNo X.here K.1 rfl (hb K.2.1 hd) rfl h1' h2' (decide_eq_false q) r) (hF q)
theorem own_getfield (K : own_Cx p s m meth c Z own nm bytes maxL ret) {i j q : Nat} {R0 O f d host C : String} {v : Value} {a : Addr} {fs : List (String × String × String × Value)} (hd : own_D bytes pc (.getfield i) 3 pc') (wl : (Cond.fieldLink own i R0 f d).before a0 Z = true ∨ (Cond.fieldLinkNest own i R0 f d host).before a0 Z = true) (via : Via Z R0 O f d) (H : own_H Z h os as) (ho : os[j]? = some (a, C, fs)) (hf : fs[q]? = some (O, f, d, v)) (hr : own_G w p l e R s m args below meth c Z Q h k n (mkF m pc' Ls (v :: st))) : own_G w p l e R s m args below meth c Z Q h k n (mkF m pc Ls (.ref a :: st)) := by
  obtain ⟨hd, rfl⟩ := hd
  refine own_step K (P := fun h' => h' = h) (fun X hZ hw eT N => ?_) (fun h' e => by subst e; exact hr)
  obtain ⟨T', X', e', st⟩ := getF X K.1 hZ hw wl via eT (H.fld ho hf) (g := mkF m pc Ls (.ref a :: st)) rfl rfl (hb K.2.1 hd)
  exact ⟨T', _, _, X', N, e', Nat.le_refl _, rfl, st⟩
theorem own_putfield (K : own_Cx p s m meth c Z own nm bytes maxL ret) {i j q kk : Nat} {R0 O f d host C : String} {v v0 : Value} {a : Addr} {fs : List (String × String × String × Value)} {ty : FieldType} (hd : own_D bytes pc (.putfield i) 3 pc') (wl : (Cond.fieldLink own i R0 f d).before a0 Z = true ∨ (Cond.fieldLinkNest own i R0 f d host).before a0 Z = true) (via : Via Z R0 O f d) (H : own_H Z h os as) (ho : os[j]? = some (a, C, fs)) (hf : fs[q]? = some (O, f, d, v0))
    (L : (Cond.lays C O f d).before a0 Z = true ∨ ((Cond.laysFinal C O f d).before a0 Z = true ∧ own = O ∧ nm = "<init>")) (wi : (Cond.instantiable C kk).before a0 Z = true) (hty : parseFieldDescriptor d = some ty) (hn : narrow ty v = v) (hfit : fits ty v = true) (hr : ∀ h', own_H Z h' (os.set j (a, C, fs.set q (O, f, d, v))) as → own_G w p l e R s m args below meth c Z Q h' k n (mkF m pc' Ls st)) : own_G w p l e R s m args below meth c Z Q h k n (mkF m pc Ls (v :: .ref a :: st)) := by
  obtain ⟨hd, rfl⟩ := hd
  refine own_step K (P := fun h' => own_H Z h' (os.set j (a, C, fs.set q (O, f, d, v))) as) (fun X hZ hw eT N => ?_) hr
  obtain ⟨T', h', X', e', W, st⟩ := putF X K.1 hZ hw wl via eT (H.fld ho hf) (H.atO ho) (L.imp id (fun z => ⟨z.1, z.2.1, K.2.2.2.2.2.2.2.trans z.2.2⟩)) wi hty hn hfit (g := mkF m pc Ls (v :: .ref a :: st)) rfl rfl (hb K.2.1 hd)
  exact ⟨T', h', _, X', Fr.snoc X' N (H.newO ho), e', Nat.le_of_eq (Wr.size W).symm, H.wrO ho hf W, st⟩
theorem own_new (K : own_Cx p s m meth c Z own nm bytes maxL ret) {i kk : Nat} {C : String} {fs : List (String × String × String × Value)} (hd : own_D bytes pc (.new i) 3 pc') (w1 : (Cond.classLink own i C).before a0 Z = true) (w2 : (Cond.instantiable C kk).before a0 Z = true) (w3 : (Cond.initialized C).before a0 Z = true) (H : own_H Z h os as)
    (hF : ∀ f ∈ fs, Laid Z a0 C f.1 f.2.1 f.2.2.1 ∧ ∃ ty, parseFieldDescriptor f.2.2.1 = some ty ∧ f.2.2.2 = defaultValue ty) (hP : fs.Pairwise (fun f g => slotOf Z f.1 f.2.1 f.2.2.1 ≠ slotOf Z g.1 g.2.1 g.2.2.1)) (hc : k + 1 ≤ R.cells) (hl : n + kk ≤ R.slots)
    (hr : ∀ h' a, own_H Z h' ((a, C, fs) :: os) as → own_G w p l e R s m args below meth c Z Q h' (k + 1) (n + kk) (mkF m pc' Ls (.ref a :: st))) : own_G w p l e R s m args below meth c Z Q h k n (mkF m pc Ls st) := by
  obtain ⟨hd, rfl⟩ := hd
  refine own_step K (P := fun h' => own_H Z h' ((h.size, C, fs) :: os) as) (fun X hZ hw eT N => ?_) (fun h' H' => hr h' _ H')
  obtain ⟨T', h', X', e', E, A, D, -, st⟩ := newO X K.1 hZ hw w1 w2 w3 eT (g := mkF m pc Ls st) rfl (hb K.2.1 hd) hc hl
  exact ⟨T', h', _, X', N, e', E.1, H.addO E ⟨A, fun f hf => by obtain ⟨hL, ty, t1, t2⟩ := hF f hf; show Fld Z h' h.size f.1 f.2.1 f.2.2.1 f.2.2.2; rw [t2]; exact D hL t1, hP⟩, st⟩
theorem own_newarray (K : own_Cx p s m meth c Z own nm bytes maxL ret) {aty : ArrayType} {ty : FieldType} {N : Int32} {q : Nat} {ad : String} {vs : List Value} (hd : own_D bytes pc (.newarray aty) 2 pc') (hty : newarray.typeOf aty = ty) (w1 : (Cond.arrayClass ty).before a0 Z = true) (H : own_H Z h os as) (hN : N.toInt = (q : Int)) (had : "[" ++ ty.toString = ad) (hvs : vs = List.replicate q (defaultValue ty)) (hq : q * 8 ≤ 536870912) (hc : k + 1 ≤ R.cells) (hl : n + q ≤ R.slots)
    (hr : ∀ h' a, own_H Z h' os ((a, ty, ad, vs) :: as) → own_G w p l e R s m args below meth c Z Q h' (k + 1) (n + q) (mkF m pc' Ls (.ref a :: st))) : own_G w p l e R s m args below meth c Z Q h k n (mkF m pc Ls (.int N :: st)) := by
  obtain ⟨hd, rfl⟩ := hd
  subst hty
  refine own_step K (P := fun h' => own_H Z h' os ((h.size, newarray.typeOf aty, ad, vs) :: as)) (fun X hZ hw eT N => ?_) (fun h' H' => hr h' _ H')
  have hNq := own_idx hN
  obtain ⟨T', h', cA, X', e', E, A, Ex, st⟩ := newPE X K.1 hZ w1 eT (g := mkF m pc Ls (.int _ :: st)) rfl (hb K.2.1 hd) rfl (by rw [Int32.lt_iff_toInt_lt, hN, show (0 : Int32).toInt = 0 from rfl]; omega) (cap := q) (Nat.le_of_eq hNq) hq hc hl had
  refine ⟨T', h', _, X', N, e', E.1, H.addA E ⟨_, A, ?_, ?_, fun _ => Ex, fun C hC => ?_⟩, st⟩
  · show (newA cA (newarray.typeOf aty) _).slots.toList = vs
    simp [newA, hNq, hvs]
  · intro v hv
    rw [show v = defaultValue (newarray.typeOf aty) from List.eq_of_mem_replicate (hvs ▸ hv)]
    cases aty <;> rfl
  · cases aty <;> cases hC
theorem own_iaload (K : own_Cx p s m meth c Z own nm bytes maxL ret) {i q : Nat} {a : Addr} {ad : String} {vs : List Value} {v : Value} {j : Int32} (hd : own_D bytes pc .iaload 1 pc') (H : own_H Z h os as) (ha : as[i]? = some (a, .int, ad, vs)) (hj : j.toInt = (q : Int)) (hv : vs[q]? = some v) (hr : own_G w p l e R s m args below meth c Z Q h k n (mkF m pc' Ls (v :: st))) : own_G w p l e R s m args below meth c Z Q h k n (mkF m pc Ls (.int j :: .ref a :: st)) := by
  obtain ⟨hd, rfl⟩ := hd
  obtain ⟨-, cl, A, e1, -⟩ := H.2.2.1 _ (own_mem ha)
  have hq := (List.getElem?_eq_some_iff.mp hv).1
  have hsz : cl.slots.size = vs.length := by rw [← Array.length_toList]; exact congrArg List.length e1
  exact own_pure K (fun X hZ _ eT _ r => X.iaload K.1 (by rw [eT]; exact A.1) (State.isArrayOf_alike hZ.alike A.2.1) A.2.2 (by rw [hsz]; exact own_in hj hq) (by rw [own_idx hj, ← Array.getElem?_toList]; exact (show cl.slots.toList = vs from e1) ▸ hv) (g := mkF m pc Ls (.int j :: .ref a :: st)) rfl rfl (hb K.2.1 hd) _ r) hr
theorem own_laload (K : own_Cx p s m meth c Z own nm bytes maxL ret) {i q : Nat} {a : Addr} {ad : String} {vs : List Value} {v : Value} {j : Int32} (hd : own_D bytes pc .laload 1 pc') (H : own_H Z h os as) (ha : as[i]? = some (a, .long, ad, vs)) (hj : j.toInt = (q : Int)) (hv : vs[q]? = some v) (hr : own_G w p l e R s m args below meth c Z Q h k n (mkF m pc' Ls (v :: st))) : own_G w p l e R s m args below meth c Z Q h k n (mkF m pc Ls (.int j :: .ref a :: st)) := by
  obtain ⟨hd, rfl⟩ := hd
  obtain ⟨-, cl, A, e1, -⟩ := H.2.2.1 _ (own_mem ha)
  have hq := (List.getElem?_eq_some_iff.mp hv).1
  have hsz : cl.slots.size = vs.length := by rw [← Array.length_toList]; exact congrArg List.length e1
  exact own_pure K (fun X hZ _ eT _ r => X.laload K.1 (by rw [eT]; exact A.1) (State.isArrayOf_alike hZ.alike A.2.1) A.2.2 (by rw [hsz]; exact own_in hj hq) (by rw [own_idx hj, ← Array.getElem?_toList]; exact (show cl.slots.toList = vs from e1) ▸ hv) (g := mkF m pc Ls (.int j :: .ref a :: st)) rfl rfl (hb K.2.1 hd) _ r) hr
theorem own_daload (K : own_Cx p s m meth c Z own nm bytes maxL ret) {i q : Nat} {a : Addr} {ad : String} {vs : List Value} {v : Value} {j : Int32} (hd : own_D bytes pc .daload 1 pc') (H : own_H Z h os as) (ha : as[i]? = some (a, .double, ad, vs)) (hj : j.toInt = (q : Int)) (hv : vs[q]? = some v) (hr : own_G w p l e R s m args below meth c Z Q h k n (mkF m pc' Ls (v :: st))) : own_G w p l e R s m args below meth c Z Q h k n (mkF m pc Ls (.int j :: .ref a :: st)) := by
  obtain ⟨hd, rfl⟩ := hd
  obtain ⟨-, cl, A, e1, -⟩ := H.2.2.1 _ (own_mem ha)
  have hq := (List.getElem?_eq_some_iff.mp hv).1
  have hsz : cl.slots.size = vs.length := by rw [← Array.length_toList]; exact congrArg List.length e1
  exact own_pure K (fun X hZ _ eT _ r => X.daload K.1 (by rw [eT]; exact A.1) (State.isArrayOf_alike hZ.alike A.2.1) A.2.2 (by rw [hsz]; exact own_in hj hq) (by rw [own_idx hj, ← Array.getElem?_toList]; exact (show cl.slots.toList = vs from e1) ▸ hv) (g := mkF m pc Ls (.int j :: .ref a :: st)) rfl rfl (hb K.2.1 hd) _ r) hr
theorem own_caload (K : own_Cx p s m meth c Z own nm bytes maxL ret) {i q : Nat} {a : Addr} {ad : String} {vs : List Value} {v : Value} {j : Int32} (hd : own_D bytes pc .caload 1 pc') (H : own_H Z h os as) (ha : as[i]? = some (a, .char, ad, vs)) (hj : j.toInt = (q : Int)) (hv : vs[q]? = some v) (hr : own_G w p l e R s m args below meth c Z Q h k n (mkF m pc' Ls (v :: st))) : own_G w p l e R s m args below meth c Z Q h k n (mkF m pc Ls (.int j :: .ref a :: st)) := by
  obtain ⟨hd, rfl⟩ := hd
  obtain ⟨-, cl, A, e1, -⟩ := H.2.2.1 _ (own_mem ha)
  have hq := (List.getElem?_eq_some_iff.mp hv).1
  have hsz : cl.slots.size = vs.length := by rw [← Array.length_toList]; exact congrArg List.length e1
  exact own_pure K (fun X hZ _ eT _ r => X.caload K.1 (by rw [eT]; exact A.1) (State.isArrayOf_alike hZ.alike A.2.1) A.2.2 (by rw [hsz]; exact own_in hj hq) (by rw [own_idx hj, ← Array.getElem?_toList]; exact (show cl.slots.toList = vs from e1) ▸ hv) (g := mkF m pc Ls (.int j :: .ref a :: st)) rfl rfl (hb K.2.1 hd) _ r) hr
theorem own_baload (K : own_Cx p s m meth c Z own nm bytes maxL ret) {i q : Nat} {a : Addr} {ad : String} {vs : List Value} {v : Value} {j : Int32} (hd : own_D bytes pc .baload 1 pc') (H : own_H Z h os as) (ha : as[i]? = some (a, .byte, ad, vs)) (hj : j.toInt = (q : Int)) (hv : vs[q]? = some v) (hr : own_G w p l e R s m args below meth c Z Q h k n (mkF m pc' Ls (v :: st))) : own_G w p l e R s m args below meth c Z Q h k n (mkF m pc Ls (.int j :: .ref a :: st)) := by
  obtain ⟨hd, rfl⟩ := hd
  obtain ⟨-, cl, A, e1, -⟩ := H.2.2.1 _ (own_mem ha)
  have hq := (List.getElem?_eq_some_iff.mp hv).1
  have hsz : cl.slots.size = vs.length := by rw [← Array.length_toList]; exact congrArg List.length e1
  exact own_pure K (fun X hZ _ eT _ r => X.baloadBytes K.1 (by rw [eT]; exact A.1) (State.isArrayOf_alike hZ.alike A.2.1) A.2.2 (by rw [hsz]; exact own_in hj hq) (by rw [own_idx hj, ← Array.getElem?_toList]; exact (show cl.slots.toList = vs from e1) ▸ hv) (g := mkF m pc Ls (.int j :: .ref a :: st)) rfl rfl (hb K.2.1 hd) _ r) hr
theorem own_aaload (K : own_Cx p s m meth c Z own nm bytes maxL ret) {i q : Nat} {a : Addr} {ad : String} {ty : FieldType} {vs : List Value} {v : Value} {j : Int32} (hd : own_D bytes pc .aaload 1 pc') (H : own_H Z h os as) (ha : as[i]? = some (a, ty, ad, vs)) (hty : ty.isReference = true) (hj : j.toInt = (q : Int)) (hv : vs[q]? = some v) (hr : own_G w p l e R s m args below meth c Z Q h k n (mkF m pc' Ls (v :: st))) : own_G w p l e R s m args below meth c Z Q h k n (mkF m pc Ls (.int j :: .ref a :: st)) := by
  obtain ⟨hd, rfl⟩ := hd
  obtain ⟨-, cl, A, e1, -⟩ := H.2.2.1 _ (own_mem ha)
  have hq := (List.getElem?_eq_some_iff.mp hv).1
  have hsz : cl.slots.size = vs.length := by rw [← Array.length_toList]; exact congrArg List.length e1
  exact own_pure K (fun X hZ _ eT _ r => X.aaload K.1 (by rw [eT]; exact A.1) (State.isArrayOf_alike hZ.alike A.2.1) hty A.2.2 (by rw [hsz]; exact own_in hj hq) (by rw [own_idx hj, ← Array.getElem?_toList]; exact (show cl.slots.toList = vs from e1) ▸ hv) (g := mkF m pc Ls (.int j :: .ref a :: st)) rfl rfl (hb K.2.1 hd) _ r) hr
theorem own_iastore (K : own_Cx p s m meth c Z own nm bytes maxL ret) {i q : Nat} {a : Addr} {ad : String} {vs : List Value} {j : Int32} {x : Int32} (hd : own_D bytes pc .iastore 1 pc') (H : own_H Z h os as) (ha : as[i]? = some (a, .int, ad, vs)) (hj : j.toInt = (q : Int)) (hq : q < vs.length) (hr : ∀ h', own_H Z h' os (as.set i (a, .int, ad, vs.set q (.int x))) → own_G w p l e R s m args below meth c Z Q h' k n (mkF m pc' Ls st)) : own_G w p l e R s m args below meth c Z Q h k n (mkF m pc Ls (.int x :: .int j :: .ref a :: st)) := by
  obtain ⟨hd, rfl⟩ := hd
  obtain ⟨na, cl, A, e1, -⟩ := H.2.2.1 _ (own_mem ha)
  have hsz : cl.slots.size = vs.length := by rw [← Array.length_toList]; exact congrArg List.length e1
  refine own_step K (P := fun h' => own_H Z h' os (as.set i (a, .int, ad, vs.set q (.int x)))) (fun X hZ _ eT N => ?_) hr
  obtain ⟨T', h', X', e', W, st⟩ := stI X K.1 hZ eT A (by rw [hsz]; exact own_in hj hq) (g := mkF m pc Ls (.int x :: .int j :: .ref a :: st)) rfl rfl (hb K.2.1 hd)
  exact ⟨T', h', _, X', Fr.snoc X' N na, e', Nat.le_of_eq (Wr.size W).symm, H.wrA ha hq (rfl) (by rw [own_idx hj] at W; exact W), st⟩
theorem own_lastore (K : own_Cx p s m meth c Z own nm bytes maxL ret) {i q : Nat} {a : Addr} {ad : String} {vs : List Value} {j : Int32} {x : Int64} (hd : own_D bytes pc .lastore 1 pc') (H : own_H Z h os as) (ha : as[i]? = some (a, .long, ad, vs)) (hj : j.toInt = (q : Int)) (hq : q < vs.length) (hr : ∀ h', own_H Z h' os (as.set i (a, .long, ad, vs.set q (.long x))) → own_G w p l e R s m args below meth c Z Q h' k n (mkF m pc' Ls st)) : own_G w p l e R s m args below meth c Z Q h k n (mkF m pc Ls (.long x :: .int j :: .ref a :: st)) := by
  obtain ⟨hd, rfl⟩ := hd
  obtain ⟨na, cl, A, e1, -⟩ := H.2.2.1 _ (own_mem ha)
  have hsz : cl.slots.size = vs.length := by rw [← Array.length_toList]; exact congrArg List.length e1
  refine own_step K (P := fun h' => own_H Z h' os (as.set i (a, .long, ad, vs.set q (.long x)))) (fun X hZ _ eT N => ?_) hr
  obtain ⟨T', h', X', e', W, st⟩ := stJ X K.1 hZ eT A (by rw [hsz]; exact own_in hj hq) (g := mkF m pc Ls (.long x :: .int j :: .ref a :: st)) rfl rfl (hb K.2.1 hd)
  exact ⟨T', h', _, X', Fr.snoc X' N na, e', Nat.le_of_eq (Wr.size W).symm, H.wrA ha hq (rfl) (by rw [own_idx hj] at W; exact W), st⟩
theorem own_dastore (K : own_Cx p s m meth c Z own nm bytes maxL ret) {i q : Nat} {a : Addr} {ad : String} {vs : List Value} {j : Int32} {x : UInt64} (hd : own_D bytes pc .dastore 1 pc') (H : own_H Z h os as) (ha : as[i]? = some (a, .double, ad, vs)) (hj : j.toInt = (q : Int)) (hq : q < vs.length) (hr : ∀ h', own_H Z h' os (as.set i (a, .double, ad, vs.set q (.double x))) → own_G w p l e R s m args below meth c Z Q h' k n (mkF m pc' Ls st)) : own_G w p l e R s m args below meth c Z Q h k n (mkF m pc Ls (.double x :: .int j :: .ref a :: st)) := by
  obtain ⟨hd, rfl⟩ := hd
  obtain ⟨na, cl, A, e1, -⟩ := H.2.2.1 _ (own_mem ha)
  have hsz : cl.slots.size = vs.length := by rw [← Array.length_toList]; exact congrArg List.length e1
  refine own_step K (P := fun h' => own_H Z h' os (as.set i (a, .double, ad, vs.set q (.double x)))) (fun X hZ _ eT N => ?_) hr
  obtain ⟨T', h', X', e', W, st⟩ := stD X K.1 hZ eT A (by rw [hsz]; exact own_in hj hq) (g := mkF m pc Ls (.double x :: .int j :: .ref a :: st)) rfl rfl (hb K.2.1 hd)
  exact ⟨T', h', _, X', Fr.snoc X' N na, e', Nat.le_of_eq (Wr.size W).symm, H.wrA ha hq (rfl) (by rw [own_idx hj] at W; exact W), st⟩
theorem own_castore (K : own_Cx p s m meth c Z own nm bytes maxL ret) {i q : Nat} {a : Addr} {ad : String} {vs : List Value} {j : Int32} {x : Int32} (hd : own_D bytes pc .castore 1 pc') (H : own_H Z h os as) (ha : as[i]? = some (a, .char, ad, vs)) (hj : j.toInt = (q : Int)) (hq : q < vs.length) (hr : ∀ h', own_H Z h' os (as.set i (a, .char, ad, vs.set q (.int (nar .char x)))) → own_G w p l e R s m args below meth c Z Q h' k n (mkF m pc' Ls st)) : own_G w p l e R s m args below meth c Z Q h k n (mkF m pc Ls (.int x :: .int j :: .ref a :: st)) := by
  obtain ⟨hd, rfl⟩ := hd
  obtain ⟨na, cl, A, e1, -⟩ := H.2.2.1 _ (own_mem ha)
  have hsz : cl.slots.size = vs.length := by rw [← Array.length_toList]; exact congrArg List.length e1
  refine own_step K (P := fun h' => own_H Z h' os (as.set i (a, .char, ad, vs.set q (.int (nar .char x))))) (fun X hZ _ eT N => ?_) hr
  obtain ⟨T', h', X', e', W, st⟩ := stC X K.1 hZ eT A (by rw [hsz]; exact own_in hj hq) (g := mkF m pc Ls (.int x :: .int j :: .ref a :: st)) rfl rfl (hb K.2.1 hd)
  exact ⟨T', h', _, X', Fr.snoc X' N na, e', Nat.le_of_eq (Wr.size W).symm, H.wrA ha hq (by first | exact fits_nar_char _ | exact fits_nar_char | (simp [fits_nar_char]; done)) (by rw [own_idx hj] at W; exact W), st⟩
theorem own_bastore (K : own_Cx p s m meth c Z own nm bytes maxL ret) {i q : Nat} {a : Addr} {ad : String} {vs : List Value} {j : Int32} {x : Int32} (hd : own_D bytes pc .bastore 1 pc') (H : own_H Z h os as) (ha : as[i]? = some (a, .byte, ad, vs)) (hj : j.toInt = (q : Int)) (hq : q < vs.length) (hr : ∀ h', own_H Z h' os (as.set i (a, .byte, ad, vs.set q (.int (nar .byte x)))) → own_G w p l e R s m args below meth c Z Q h' k n (mkF m pc' Ls st)) : own_G w p l e R s m args below meth c Z Q h k n (mkF m pc Ls (.int x :: .int j :: .ref a :: st)) := by
  obtain ⟨hd, rfl⟩ := hd
  obtain ⟨na, cl, A, e1, -⟩ := H.2.2.1 _ (own_mem ha)
  have hsz : cl.slots.size = vs.length := by rw [← Array.length_toList]; exact congrArg List.length e1
  refine own_step K (P := fun h' => own_H Z h' os (as.set i (a, .byte, ad, vs.set q (.int (nar .byte x))))) (fun X hZ _ eT N => ?_) hr
  obtain ⟨T', h', X', e', W, st⟩ := stB X K.1 hZ eT A (by rw [hsz]; exact own_in hj hq) (g := mkF m pc Ls (.int x :: .int j :: .ref a :: st)) rfl rfl (hb K.2.1 hd)
  exact ⟨T', h', _, X', Fr.snoc X' N na, e', Nat.le_of_eq (Wr.size W).symm, H.wrA ha hq (by first | exact fits_nar_byte _ | exact fits_nar_byte | (simp [fits_nar_byte]; done)) (by rw [own_idx hj] at W; exact W), st⟩
theorem own_arraylength (K : own_Cx p s m meth c Z own nm bytes maxL ret) {i : Nat} {a : Addr} {ad : String} {ty : FieldType} {vs : List Value} {N : Int32} (hd : own_D bytes pc .arraylength 1 pc') (H : own_H Z h os as) (ha : as[i]? = some (a, ty, ad, vs)) (hN : N.toInt = (vs.length : Int)) (hr : own_G w p l e R s m args below meth c Z Q h k n (mkF m pc' Ls (.int N :: st))) : own_G w p l e R s m args below meth c Z Q h k n (mkF m pc Ls (.ref a :: st)) := by
  obtain ⟨hd, rfl⟩ := hd
  obtain ⟨-, cl, A, e1, -⟩ := H.2.2.1 _ (own_mem ha)
  have hsz : cl.slots.size = vs.length := by rw [← Array.length_toList]; exact congrArg List.length e1
  have e2 : cl.slots.size.toInt32 = N := by rw [hsz]; exact own_len hN
  exact own_pure K (fun X hZ _ eT _ r => X.arraylength K.1 (by rw [eT]; exact A.1) (State.isArrayOf_alike hZ.alike A.2.1) (g := mkF m pc Ls (.ref a :: st)) rfl rfl (hb K.2.1 hd) _ (by rw [e2]; exact r)) hr
theorem own_checkcast (K : own_Cx p s m meth c Z own nm bytes maxL ret) {i : Nat} {a : Addr} {Kn : String} (hd : own_D bytes pc (.checkcast i) 3 pc') (w1 : (Cond.classLink own i Kn).before a0 Z = true) (I : Ins Z h a Kn true) (hr : own_G w p l e R s m args below meth c Z Q h k n (mkF m pc' Ls (.ref a :: st))) : own_G w p l e R s m args below meth c Z Q h k n (mkF m pc Ls (.ref a :: st)) := by
  obtain ⟨hd, rfl⟩ := hd
  refine own_step K (P := fun h' => h' = h) (fun X hZ hw eT N => ?_) (fun h' e => by subst e; exact hr)
  obtain ⟨T', X', e', st⟩ := castY X K.1 hZ hw w1 eT I (g := mkF m pc Ls (.ref a :: st)) rfl rfl (hb K.2.1 hd)
  exact ⟨T', _, _, X', N, e', Nat.le_refl _, rfl, st⟩
theorem own_H.exaA (H : own_H Z h os as) {i : Nat} {a : Addr} {ty : FieldType} {ad : String} {vs : List Value} (ha : as[i]? = some (a, ty, ad, vs)) (hn : ad ≠ "") : Exa Z h a ad := by
  obtain ⟨-, cl, -, -, -, h4, -⟩ := H.2.2.1 _ (own_mem ha); exact h4 hn
theorem own_clone (K : own_Cx p s m meth c Z own nm bytes maxL ret) {i j : Nat} {a : Addr} {ty : FieldType} {ad : String} {vs : List Value} (hd : own_D bytes pc (.invokevirtual i) 3 pc') (w1 : (Cond.methodLink own i ⟨ad, "clone", "()Ljava/lang/Object;"⟩).before a0 Z = true) (w2 : (Cond.sameMethod ad "java/lang/Object" "clone" "()Ljava/lang/Object;").before a0 Z = true) (w3 : (Cond.native ⟨"java/lang/Object", "clone", "()Ljava/lang/Object;"⟩).before a0 Z = true)
    (w4 : (Cond.instanceMethod ⟨"java/lang/Object", "clone", "()Ljava/lang/Object;"⟩).before a0 Z = true) (w5 : (Cond.selects ad ⟨ad, "clone", "()Ljava/lang/Object;"⟩ ⟨"java/lang/Object", "clone", "()Ljava/lang/Object;"⟩).before a0 Z = true) (w6 : (Cond.castable ad "java/lang/Cloneable").before a0 Z = true)
    (H : own_H Z h os as) (ha : as[j]? = some (a, ty, ad, vs)) (hn : ad ≠ "") (hsz : Ls.size = maxL) (hf : 1 ≤ R.frames) {W : Nat} (hW : (st.map fun v => v.category).sum ≤ W) (hl : W + 14 ≤ R.locals) (hc : k + 1 ≤ R.cells) (hsl : n + vs.length ≤ R.slots)
    (hr : ∀ h' b, own_H Z h' os ((b, ty, ad, vs) :: as) → own_G w p l e R s m args below meth c Z Q h' (k + 1) (n + vs.length) (mkF m pc' Ls (.ref b :: st))) : own_G w p l e R s m args below meth c Z Q h k n (mkF m pc Ls (.ref a :: st)) := by
  obtain ⟨hd, rfl⟩ := hd
  obtain ⟨-, cl, A, e1, e3, e4, e5⟩ := H.2.2.1 _ (own_mem ha)
  have hsz' : cl.slots.size = vs.length := by rw [← Array.length_toList]; exact congrArg List.length e1
  have F : FitC Z cl := fun i v hv => by
    obtain ⟨hs, k, hk, comp, hkind⟩ := A.2.1
    have hm : v ∈ vs := by
      have : cl.slots.toList[i]? = some v := by rw [Array.getElem?_toList]; exact hv
      exact (show cl.slots.toList = vs from e1) ▸ own_mem this
    simp [State.fitsSlot, State.slotType?, hk, hkind, show fits ty v = true from e3 v hm]
  refine own_step K (P := fun h' => own_H Z h' os ((h.size, ty, ad, vs) :: as)) (fun X hZ hw eT N => ?_) (fun h' H' => hr h' _ H')
  obtain ⟨T', h', X', e', E, A', Ex, st⟩ := cloneA X K.1 hZ hw w1 w2 w3 w4 w5 w6 eT A (e4 hn) F (g := mkF m pc Ls (.ref a :: st)) rfl (hsz.trans K.2.2.1.symm) rfl (hb K.2.1 hd) hf (W := W) (by show 2 * 0 + _ ≤ W; simpa using hW) hl (cap := vs.length) (Nat.le_of_eq hsz') hc hsl
  exact ⟨T', h', _, X', N, e', E.1, H.addA E ⟨_, A', e1, e3, fun _ => Ex, e5⟩, st⟩
theorem own_initO (K : own_Cx p s m meth c Z own nm bytes maxL ret) {i : Nat} {a : Addr} (hd : own_D bytes pc (.invokespecial i) 3 pc') (w1 : (Cond.methodLink own i Lib.objectInit).before a0 Z = true) (w2 : (Cond.instanceMethod Lib.objectInit).before a0 Z = true) (w3 : (Cond.code Lib.objectInit ⟨#[0xb1]⟩ 1 none).before a0 Z = true) (hsz : Ls.size = maxL) (hf : 1 ≤ R.frames) {W : Nat} (hW : (st.map fun v => v.category).sum ≤ W) (hl : W + 12 ≤ R.locals) (hr : own_G w p l e R s m args below meth c Z Q h k n (mkF m pc' Ls st)) : own_G w p l e R s m args below meth c Z Q h k n (mkF m pc Ls (.ref a :: st)) := by
  obtain ⟨hd, rfl⟩ := hd
  refine own_step K (P := fun h' => h' = h) (fun X hZ hw eT N => ?_) (fun h' e => by subst e; exact hr)
  obtain ⟨T', X', e', st⟩ := initO X K.1 hZ hw w1 w2 w3 eT (g := mkF m pc Ls (.ref a :: st)) rfl (hsz.trans K.2.2.1.symm) rfl (hb K.2.1 hd) hf (W := W) (by show 2 * 0 + _ ≤ W; simpa using hW) hl
  exact ⟨T', _, _, X', N, e', Nat.le_refl _, rfl, st⟩
theorem own_static (K : own_Cx p s m meth c Z own nm bytes maxL ret) {i ml W : Nat} {y : MethodName} {b : ByteArray} {rt : Option FieldType} {rm : Room} {argsL : List Value} {Qc : Option Value → Heap → Prop} {ps : List FieldType} {r : Option FieldType} (hd : own_D bytes pc (.invokestatic i) 3 pc') (w1 : (Cond.methodLink own i y).before a0 Z = true) (w2 : (Cond.static y).before a0 Z = true) (w3 : (Cond.initialized y.cls).before a0 Z = true) (w4 : (Cond.code y b ml rt).before a0 Z = true)
    (hM : own_Met false l Z y b ml rt [] rm argsL.toArray h Qc) (hp : parseMethodDescriptor y.desc = some ⟨ps, r⟩) (hlen : argsL.length = ps.length) (hst : st = argsL.reverse ++ rest) (hsz : Ls.size = maxL) (hy : y.cls ≠ "java/lang/invoke/MethodHandle" ∧ y.cls ≠ "java/lang/invoke/VarHandle") (hW : (rest.map fun v => v.category).sum ≤ W) (hf : rm.frames + 1 ≤ R.frames) (hl : W + (ml + 11) + rm.locals ≤ R.locals) (hc : k + rm.cells ≤ R.cells) (hs : n + rm.slots ≤ R.slots)
    (hr : ∀ v h', Qc v h' → own_G w p l e R s m args below meth c Z Q h' (k + rm.cells) (n + rm.slots) (mkF m (pc') Ls (v.toList ++ rest))) : own_G w p l e R s m args below meth c Z Q h k n (mkF m pc Ls st) := by
  obtain ⟨hd, rfl⟩ := hd
  intro T hX
  obtain ⟨L, vm, X, N, eT, hw, hS⟩ := hX
  have hZ := own_zw K.2.2.2.2.2.1 hS
  have hown : (s.setVm vm).vm.findClass own = some m.cls := by rw [show (s.setVm vm).vm = vm from rfl, hS.1.alike.findClass]; exact K.2.2.2.2.2.2.1
  obtain ⟨v, vm1, ⟨T1, L1, k1, n1⟩, -, X1, ⟨Lc, ⟨hQ, N1, z1⟩, l1, y1, x1⟩, st1⟩ := Jvm.LawKit.callS X K.1 (y := y) hown (mvT hZ w1) (mvT hZ w2) (mvT hZ w3) (mvT hZ w4) hy (backOf (W := W) (Q := fun v h'' L => Qc v h'' ∧ Fr Z.heap.size L ∧ h.size ≤ h''.size) (show MetFree _ _ _ _ _ _ from hM) hZ w4 w3 hf hl) (g := mkF m pc Ls st) rfl (hsz.trans K.2.2.1.symm) (argsL := argsL) (rest := rest) (lenOf hp hlen) hst (by show 2 * 0 + _ ≤ W; simpa using hW) (hb K.2.1 hd) (fun _ _ => ⟨rfl, eT, hc, hs⟩)
  dsimp only [Pt.U, Pt.locs, Pt.cells, Pt.slots] at X1 l1 y1 x1 st1 hQ z1
  subst l1 y1 x1
  obtain ⟨T', v', h', k', n', hX', r1, r2, r3, r4, r5⟩ := hr v T1.heap hQ T1 ⟨_, vm, X1, N.app N1, rfl, hw, own_since hS z1⟩
  exact ⟨T', v', h', k', n', hX', r1, r2, r3, r4, fun fs q => st1 _ (r5 fs q)⟩
theorem own_special (K : own_Cx p s m meth c Z own nm bytes maxL ret) {i ml W : Nat} {y : MethodName} {b : ByteArray} {rm : Room} {a : Addr} {argsL : List Value} {Qc : Option Value → Heap → Prop} {ps : List FieldType} {r : Option FieldType} (hd : own_D bytes pc (.invokespecial i) 3 pc') (hy1 : y.name = "<init>") (w1 : (Cond.methodLink own i y).before a0 Z = true) (w2 : (Cond.instanceMethod y).before a0 Z = true) (w3 : (Cond.initialized y.cls).before a0 Z = true) (w4 : (Cond.code y b ml none).before a0 Z = true)
    (hM : own_Met false l Z y b ml none [] rm (.ref a :: argsL).toArray h Qc) (hp : parseMethodDescriptor y.desc = some ⟨ps, r⟩) (hlen : argsL.length = ps.length) (hst : st = argsL.reverse ++ .ref a :: rest) (hsz : Ls.size = maxL) (hy : y.cls ≠ "java/lang/invoke/MethodHandle" ∧ y.cls ≠ "java/lang/invoke/VarHandle") (hW : (rest.map fun v => v.category).sum ≤ W) (hf : rm.frames + 1 ≤ R.frames) (hl : W + (ml + 11) + rm.locals ≤ R.locals) (hc : k + rm.cells ≤ R.cells) (hs : n + rm.slots ≤ R.slots)
    (hr : ∀ v h', Qc v h' → own_G w p l e R s m args below meth c Z Q h' (k + rm.cells) (n + rm.slots) (mkF m (pc') Ls (v.toList ++ rest))) : own_G w p l e R s m args below meth c Z Q h k n (mkF m pc Ls st) := by
  obtain ⟨hd, rfl⟩ := hd
  intro T hX
  obtain ⟨L, vm, X, N, eT, hw, hS⟩ := hX
  have hZ := own_zw K.2.2.2.2.2.1 hS
  have hown : (s.setVm vm).vm.findClass own = some m.cls := by rw [show (s.setVm vm).vm = vm from rfl, hS.1.alike.findClass]; exact K.2.2.2.2.2.2.1
  obtain ⟨v, vm1, ⟨T1, L1, k1, n1⟩, -, X1, ⟨Lc, ⟨hQ, N1, z1⟩, l1, y1, x1⟩, st1⟩ := X.specialBack K.1 (y := y) hy1 hown (mvT hZ w1) (mvT hZ w2) (mvT hZ w4) hy (backOf (W := W) (Q := fun v h'' L => Qc v h'' ∧ Fr Z.heap.size L ∧ h.size ≤ h''.size) (show MetFree _ _ _ _ _ _ from hM) hZ w4 w3 hf hl) (g := mkF m pc Ls st) rfl (hsz.trans K.2.2.1.symm) (Steps.refl _) (a := a) (argsL := argsL) (rest := rest) (lenOf hp hlen) hst (by show 2 * 0 + _ ≤ W; simpa using hW) (hb K.2.1 hd) (fun _ _ => ⟨rfl, eT, hc, hs⟩)
  dsimp only [Pt.U, Pt.locs, Pt.cells, Pt.slots] at X1 l1 y1 x1 st1 hQ z1
  subst l1 y1 x1
  obtain ⟨T', v', h', k', n', hX', r1, r2, r3, r4, r5⟩ := hr v T1.heap hQ T1 ⟨_, vm, X1, N.app N1, rfl, hw, own_since hS z1⟩
  exact ⟨T', v', h', k', n', hX', r1, r2, r3, r4, fun fs q => st1.trans (r5 fs q)⟩
theorem own_virtual (K : own_Cx p s m meth c Z own nm bytes maxL ret) {i ml W : Nat} {y : MethodName} {C : String} {b : ByteArray} {rt : Option FieldType} {rm : Room} {a : Addr} {argsL : List Value} {Qc : Option Value → Heap → Prop} {ps : List FieldType} {r : Option FieldType} (hd : own_D bytes pc (.invokevirtual i) 3 pc') (w1 : (Cond.methodLink own i y).before a0 Z = true) (w2 : (Cond.declares y).before a0 Z = true) (w5 : (Cond.selects C y y).before a0 Z = true) (w6 : (Cond.instanceMethod y).before a0 Z = true) (w3 : (Cond.initialized y.cls).before a0 Z = true) (w4 : (Cond.code y b ml rt).before a0 Z = true)
    (E : Exa Z h a C) (hM : own_Met false l Z y b ml rt [] rm (.ref a :: argsL).toArray h Qc) (hp : parseMethodDescriptor y.desc = some ⟨ps, r⟩) (hlen : argsL.length = ps.length) (hst : st = argsL.reverse ++ .ref a :: rest) (hsz : Ls.size = maxL) (hy : y.cls ≠ "java/lang/invoke/MethodHandle" ∧ y.cls ≠ "java/lang/invoke/VarHandle") (hW : (rest.map fun v => v.category).sum ≤ W) (hf : rm.frames + 1 ≤ R.frames) (hl : W + (ml + 11) + rm.locals ≤ R.locals) (hc : k + rm.cells ≤ R.cells) (hs : n + rm.slots ≤ R.slots)
    (hr : ∀ v h', Qc v h' → own_G w p l e R s m args below meth c Z Q h' (k + rm.cells) (n + rm.slots) (mkF m (pc') Ls (v.toList ++ rest))) : own_G w p l e R s m args below meth c Z Q h k n (mkF m pc Ls st) := by
  obtain ⟨hd, rfl⟩ := hd
  intro T hX
  obtain ⟨L, vm, X, N, eT, hw, hS⟩ := hX
  have hZ := own_zw K.2.2.2.2.2.1 hS
  have hown : (s.setVm vm).vm.findClass own = some m.cls := by rw [show (s.setVm vm).vm = vm from rfl, hS.1.alike.findClass]; exact K.2.2.2.2.2.2.1
  obtain ⟨cq, kq, qa, qb, qc⟩ := isOf (s := s.setVm vm) hZ eT E
  obtain ⟨v, vm1, ⟨T1, L1, k1, n1⟩, -, X1, ⟨Lc, ⟨hQ, N1, z1⟩, l1, y1, x1⟩, st1⟩ := X.virtualBack K.1 (y := y) (z := y) hown (mvT hZ w1) (mvT hZ w2) (notFace_of_selects (C := C) (args := #[]) (mvT hZ w5)) (mvT hZ w5) (mvT hZ w6) hy (backOf (W := W) (Q := fun v h'' L => Qc v h'' ∧ Fr Z.heap.size L ∧ h.size ≤ h''.size) (show MetFree _ _ _ _ _ _ from hM) hZ w4 w3 hf hl) qa qc (g := mkF m pc Ls st) rfl (hsz.trans K.2.2.1.symm) (Steps.refl _) (argsL := argsL) (rest := rest) (lenOf hp hlen) hst (by show 2 * 0 + _ ≤ W; simpa using hW) (hb K.2.1 hd) (fun _ _ => ⟨rfl, eT, hc, hs⟩)
  dsimp only [Pt.U, Pt.locs, Pt.cells, Pt.slots] at X1 l1 y1 x1 st1 hQ z1
  subst l1 y1 x1
  obtain ⟨T', v', h', k', n', hX', r1, r2, r3, r4, r5⟩ := hr v T1.heap hQ T1 ⟨_, vm, X1, N.app N1, rfl, hw, own_since hS z1⟩
  exact ⟨T', v', h', k', n', hX', r1, r2, r3, r4, fun fs q => st1.trans (r5 fs q)⟩
theorem own_virtualZ (K : own_Cx p s m meth c Z own nm bytes maxL ret) {i ml W : Nat} {y z : MethodName} {C : String} {b : ByteArray} {rt : Option FieldType} {rm : Room} {a : Addr} {argsL : List Value} {Qc : Option Value → Heap → Prop} {ps : List FieldType} {r : Option FieldType} (hd : own_D bytes pc (.invokevirtual i) 3 pc') (w1 : (Cond.methodLink own i y).before a0 Z = true) (w2 : (Cond.declares y).before a0 Z = true) (w5 : (Cond.selects C y z).before a0 Z = true) (w6 : (Cond.instanceMethod z).before a0 Z = true) (w3 : (Cond.initialized z.cls).before a0 Z = true) (w4 : (Cond.code z b ml rt).before a0 Z = true)
    (E : Exa Z h a C) (hnf : ∀ vm, s.Warmed39 vm → NotFace (s.setVm vm) y) (hM : own_Met false l Z z b ml rt [] rm (.ref a :: argsL).toArray h Qc) (hp : parseMethodDescriptor y.desc = some ⟨ps, r⟩) (hlen : argsL.length = ps.length) (hst : st = argsL.reverse ++ .ref a :: rest) (hsz : Ls.size = maxL) (hy : y.cls ≠ "java/lang/invoke/MethodHandle" ∧ y.cls ≠ "java/lang/invoke/VarHandle") (hW : (rest.map fun v => v.category).sum ≤ W) (hf : rm.frames + 1 ≤ R.frames) (hl : W + (ml + 11) + rm.locals ≤ R.locals) (hc : k + rm.cells ≤ R.cells) (hs : n + rm.slots ≤ R.slots)
    (hr : ∀ v h', Qc v h' → own_G w p l e R s m args below meth c Z Q h' (k + rm.cells) (n + rm.slots) (mkF m (pc') Ls (v.toList ++ rest))) : own_G w p l e R s m args below meth c Z Q h k n (mkF m pc Ls st) := by
  obtain ⟨hd, rfl⟩ := hd
  intro T hX
  obtain ⟨L, vm, X, N, eT, hw, hS⟩ := hX
  have hZ := own_zw K.2.2.2.2.2.1 hS
  have hown : (s.setVm vm).vm.findClass own = some m.cls := by rw [show (s.setVm vm).vm = vm from rfl, hS.1.alike.findClass]; exact K.2.2.2.2.2.2.1
  obtain ⟨cq, kq, qa, qb, qc⟩ := isOf (s := s.setVm vm) hZ eT E
  obtain ⟨v, vm1, ⟨T1, L1, k1, n1⟩, -, X1, ⟨Lc, ⟨hQ, N1, z1⟩, l1, y1, x1⟩, st1⟩ := X.virtualBack K.1 (y := y) (z := z) hown (mvT hZ w1) (mvT hZ w2) (hnf vm hS.1) (mvT hZ w5) (mvT hZ w6) hy (backOf (W := W) (Q := fun v h'' L => Qc v h'' ∧ Fr Z.heap.size L ∧ h.size ≤ h''.size) (show MetFree _ _ _ _ _ _ from hM) hZ w4 w3 hf hl) qa qc (g := mkF m pc Ls st) rfl (hsz.trans K.2.2.1.symm) (Steps.refl _) (argsL := argsL) (rest := rest) (lenOf hp hlen) hst (by show 2 * 0 + _ ≤ W; simpa using hW) (hb K.2.1 hd) (fun _ _ => ⟨rfl, eT, hc, hs⟩)
  dsimp only [Pt.U, Pt.locs, Pt.cells, Pt.slots] at X1 l1 y1 x1 st1 hQ z1
  subst l1 y1 x1
  obtain ⟨T', v', h', k', n', hX', r1, r2, r3, r4, r5⟩ := hr v T1.heap hQ T1 ⟨_, vm, X1, N.app N1, rfl, hw, own_since hS z1⟩
  exact ⟨T', v', h', k', n', hX', r1, r2, r3, r4, fun fs q => st1.trans (r5 fs q)⟩
theorem own_retI (K : own_Cx p s m meth c Z own nm bytes maxL (some .int)) {z : Int32} (hd : own_D bytes pc .ireturn 1 pc') (hk : k ≤ R.cells) (hn : n ≤ R.slots) (hQ : Q (some (.int z)) h) : own_G w p l e R s m args below meth c Z Q h k n (mkF m pc Ls (.int z :: st)) := by
  obtain ⟨hd, -⟩ := hd
  intro T hX
  obtain ⟨L, vm, X, N, eT, hw, hS⟩ := hX
  exact ⟨T, some (.int z), h, k, n, ⟨L, vm, X, N, eT, hw, hS⟩, hk, hn, (fun q => by rw [K.2.2.2.1] at q; cases q), hQ, fun fs q => retOut X K.1 K.2.2.2.1 (rfl) (Or.inl ⟨rfl, Or.inl rfl, z, rfl⟩) (hb K.2.1 hd) q⟩
theorem own_retZ (K : own_Cx p s m meth c Z own nm bytes maxL (some .boolean)) {z : Int32} (hz : z = 0 ∨ z = 1) (hd : own_D bytes pc .ireturn 1 pc') (hk : k ≤ R.cells) (hn : n ≤ R.slots) (hQ : Q (some (.int z)) h) : own_G w p l e R s m args below meth c Z Q h k n (mkF m pc Ls (.int z :: st)) := by
  obtain ⟨hd, -⟩ := hd
  intro T hX
  obtain ⟨L, vm, X, N, eT, hw, hS⟩ := hX
  exact ⟨T, some (.int z), h, k, n, ⟨L, vm, X, N, eT, hw, hS⟩, hk, hn, (fun q => by rw [K.2.2.2.1] at q; cases q), hQ, fun fs q => retOut X K.1 K.2.2.2.1 (by rcases hz with rfl | rfl <;> decide) (Or.inl ⟨rfl, Or.inr (Or.inl rfl), z, rfl⟩) (hb K.2.1 hd) q⟩
theorem own_retC (K : own_Cx p s m meth c Z own nm bytes maxL (some .char)) {z : Int32} (hz : narrow .char (.int z) = .int z) (hd : own_D bytes pc .ireturn 1 pc') (hk : k ≤ R.cells) (hn : n ≤ R.slots) (hQ : Q (some (.int z)) h) : own_G w p l e R s m args below meth c Z Q h k n (mkF m pc Ls (.int z :: st)) := by
  obtain ⟨hd, -⟩ := hd
  intro T hX
  obtain ⟨L, vm, X, N, eT, hw, hS⟩ := hX
  exact ⟨T, some (.int z), h, k, n, ⟨L, vm, X, N, eT, hw, hS⟩, hk, hn, (fun q => by rw [K.2.2.2.1] at q; cases q), hQ, fun fs q => retOut X K.1 K.2.2.2.1 (hz) (Or.inl ⟨rfl, Or.inr (Or.inr (Or.inr (Or.inl rfl))), z, rfl⟩) (hb K.2.1 hd) q⟩
theorem own_retBy (K : own_Cx p s m meth c Z own nm bytes maxL (some .byte)) {z : Int32} (hz : narrow .byte (.int z) = .int z) (hd : own_D bytes pc .ireturn 1 pc') (hk : k ≤ R.cells) (hn : n ≤ R.slots) (hQ : Q (some (.int z)) h) : own_G w p l e R s m args below meth c Z Q h k n (mkF m pc Ls (.int z :: st)) := by
  obtain ⟨hd, -⟩ := hd
  intro T hX
  obtain ⟨L, vm, X, N, eT, hw, hS⟩ := hX
  exact ⟨T, some (.int z), h, k, n, ⟨L, vm, X, N, eT, hw, hS⟩, hk, hn, (fun q => by rw [K.2.2.2.1] at q; cases q), hQ, fun fs q => retOut X K.1 K.2.2.2.1 (hz) (Or.inl ⟨rfl, Or.inr (Or.inr (Or.inl rfl)), z, rfl⟩) (hb K.2.1 hd) q⟩
theorem own_retL (K : own_Cx p s m meth c Z own nm bytes maxL (some .long)) {z : Int64} (hd : own_D bytes pc .lreturn 1 pc') (hk : k ≤ R.cells) (hn : n ≤ R.slots) (hQ : Q (some (.long z)) h) : own_G w p l e R s m args below meth c Z Q h k n (mkF m pc Ls (.long z :: st)) := by
  obtain ⟨hd, -⟩ := hd
  intro T hX
  obtain ⟨L, vm, X, N, eT, hw, hS⟩ := hX
  exact ⟨T, some (.long z), h, k, n, ⟨L, vm, X, N, eT, hw, hS⟩, hk, hn, (fun q => by rw [K.2.2.2.1] at q; cases q), hQ, fun fs q => retOut X K.1 K.2.2.2.1 (rfl) (Or.inr (Or.inl ⟨rfl, rfl, z, rfl⟩)) (hb K.2.1 hd) q⟩
theorem own_retD (K : own_Cx p s m meth c Z own nm bytes maxL (some .double)) {z : UInt64} (hd : own_D bytes pc .dreturn 1 pc') (hk : k ≤ R.cells) (hn : n ≤ R.slots) (hQ : Q (some (.double z)) h) : own_G w p l e R s m args below meth c Z Q h k n (mkF m pc Ls (.double z :: st)) := by
  obtain ⟨hd, -⟩ := hd
  intro T hX
  obtain ⟨L, vm, X, N, eT, hw, hS⟩ := hX
  exact ⟨T, some (.double z), h, k, n, ⟨L, vm, X, N, eT, hw, hS⟩, hk, hn, (fun q => by rw [K.2.2.2.1] at q; cases q), hQ, fun fs q => retOut X K.1 K.2.2.2.1 (rfl) (Or.inr (Or.inr (Or.inl ⟨rfl, rfl, z, rfl⟩))) (hb K.2.1 hd) q⟩
theorem own_retA (K : own_Cx p s m meth c Z own nm bytes maxL (some tyR)) {v : Value} (hty : tyR.isReference = true) (hv : v.isRef = true) (hd : own_D bytes pc .areturn 1 pc') (hk : k ≤ R.cells) (hn : n ≤ R.slots) (hQ : Q (some (v)) h) : own_G w p l e R s m args below meth c Z Q h k n (mkF m pc Ls (v :: st)) := by
  obtain ⟨hd, -⟩ := hd
  intro T hX
  obtain ⟨L, vm, X, N, eT, hw, hS⟩ := hX
  exact ⟨T, some (v), h, k, n, ⟨L, vm, X, N, eT, hw, hS⟩, hk, hn, (fun q => by rw [K.2.2.2.1] at q; cases q), hQ, fun fs q => retOut X K.1 K.2.2.2.1 (by rcases ref_cases hv with rfl | ⟨a, rfl⟩ <;> cases tyR <;> first | rfl | cases hty) (Or.inr (Or.inr (Or.inr (Or.inr ⟨rfl, hty, hv⟩)))) (hb K.2.1 hd) q⟩
theorem own_retV (K : own_Cx p s m meth c Z own nm bytes maxL none) (hd : own_D bytes pc .return_ 1 pc') (hk : k ≤ R.cells) (hn : n ≤ R.slots) (hQ : Q none h) : own_G w p l e R s m args below meth c Z Q h k n (mkF m pc Ls []) := by
  obtain ⟨hd, -⟩ := hd
  intro T hX
  obtain ⟨L, vm, X, N, eT, hw, hS⟩ := hX
  exact ⟨T, none, h, k, n, ⟨L, vm, X, N, eT, hw, hS⟩, hk, hn, (fun _ => rfl), hQ, fun fs q => X.returnOut K.1 K.2.2.2.1 (hb K.2.1 hd) q⟩
theorem own_met {y : MethodName} {ws : List Cond} {rm : Room} {as' : Array Value} (hpn : plainFor y = true)
    (body : ∀ (p : Program) (e : Env) (s : State) (m : MethodId) (below : List Frame) (meth : Method) (c : Code), own_Cx p s m meth c Z y.cls y.name bytes maxL ret → own_G w p l e rm s m as' below meth c Z Q h 0 0 (entryFrame m as' maxL)) :
    own_Met w l Z y bytes maxL ret ws rm as' h Q := by
  refine MetFree.of_bodySF hpn hisR ?_
  intro p e s m args below meth c s₁ Bd hml0 hP hK
  obtain ⟨rfl, hZ, hh⟩ := hP
  have X0 : Stand p l e rm s m args below meth c s₁ [] 0 0 := Stand.of_body Bd
  have e0 : s₁.heap = h := by rw [← hh, Bd.state]; rfl
  have hlk : meth.locks = false := BodyLoose.notSynchronized Bd
  obtain ⟨T', v, h', k', n', ⟨L, vm, X, N, eT, hw, hS⟩, r1, r2, r3, r4, r5⟩ := body p e s m below meth c ⟨Bd.exec, Bd.bytes, hml0, Bd.returns, hlk, hZ, findClass_of_methodNamed Bd.named, (name_of_methodNamed Bd.named Bd.method).1⟩ s₁
    ⟨[], s.vm, X0, Fr.nil _, e0, fun _ => rfl, (State.WarmedH.refl s).since _⟩
  have hgr : h.size ≤ h'.size := by rw [← eT, ← hh]; exact X.same.2.1
  cases w with
  | false =>
    obtain rfl := hw rfl
    obtain ⟨fs, hr, hrun, hended, hW, hsame⟩ := Stand.leave (s := s) X r3
    exact ⟨_, _, r5 fs hr, hrun, hended, v, L, rfl, ⟨by show Q v T'.heap; rw [eT]; exact r4, N, by show h.size ≤ T'.heap.size; rw [eT]; exact hgr⟩, ⟨_, rfl⟩, hW, hsame.mono r1 r2⟩
  | true =>
    obtain ⟨fs, hr, hrun, hended, q1, q2, q3, q4⟩ := Stand.leaveW X hS (Nat.le_of_eq (congrArg Array.size eT.symm)) r3
    exact ⟨_, _, r5 fs hr, hrun, hended, v, L, rfl, ⟨by show Q v T'.heap; rw [eT]; exact r4, N, by show h.size ≤ T'.heap.size; rw [eT]; exact hgr⟩, q1, q2, q3, q4.mono r1 r2⟩
theorem own_list_getD {vs : List Value} {cl : Cell} (e : cl.slots.toList = vs) (d : Value) {i : Nat} (hi : i < cl.slots.size) : cl.slots[i]? = some (vs.getD i d) := by
  subst e
  rw [List.getD_eq_getElem?_getD, Array.getElem?_toList, Array.getElem?_eq_getElem hi]; rfl
theorem own_arv {a : Addr} {ty : FieldType} {ad : String} {vs : List Value} (F : own_AK Z h (a, ty, ad, vs)) (hl : vs.length < 2147483648) : ∃ (kc : ClassId) (z : Int32), z.toNatClampNeg = vs.length ∧ ¬ z < 0 ∧ Arv Z h a kc ty z vs .null := by
  obtain ⟨cl, A, e1, e3, -, -⟩ := F
  have e1' : cl.slots.toList = vs := e1
  have hsz : cl.slots.size = vs.length := by rw [← Array.length_toList, e1']
  have q := len_toInt (n := vs.length) (by omega)
  have z0 : ¬ vs.length.toInt32 < 0 := by rw [Int32.lt_iff_toInt_lt, q, show (0 : Int32).toInt = 0 from rfl]; omega
  have zc : vs.length.toInt32.toNatClampNeg = vs.length := by simp only [Int32.toNatClampNeg, q]; rfl
  refine ⟨cl.cls, vs.length.toInt32, zc, z0, cl, A, rfl, by rw [zc]; exact hsz, z0, fun i hi => own_list_getD e1' _ hi, fun i hi => ?_⟩
  have hi' : i < vs.length := by omega
  rw [List.getD_eq_getElem?_getD, List.getElem?_eq_getElem hi']
  exact e3 _ (List.getElem_mem hi')
theorem own_of_arv {a : Addr} {ty : FieldType} {vs : List Value} {kc : ClassId} {z : Int32} {d : Value} (F : Arv Z h a kc ty z vs d) (hz : z.toNatClampNeg = vs.length) : ∃ cl : Cell, Arr Z h a cl ty ∧ cl.cls = kc ∧ cl.slots.toList = vs ∧ ∀ v ∈ vs, fits ty v = true := by
  obtain ⟨cl, A, e1, e2, -, H, G⟩ := F
  have hsz : cl.slots.size = vs.length := e2.trans hz
  refine ⟨cl, A, e1, ?_, fun v hv => ?_⟩
  · apply List.ext_getElem?
    intro i
    rw [Array.getElem?_toList]
    by_cases hi : i < cl.slots.size
    · rw [H i hi, List.getD_eq_getElem?_getD, List.getElem?_eq_getElem (by omega)]; rfl
    · rw [Array.getElem?_eq_none (by omega), List.getElem?_eq_none (by omega)]
  · obtain ⟨i, hi, rfl⟩ := List.getElem_of_mem hv
    have := G i (by omega)
    rw [List.getD_eq_getElem?_getD, List.getElem?_eq_getElem hi] at this
    exact this
theorem own_H.keepA (H : own_H Z h os as) {b : Addr} {ty : FieldType} {ad : String} {vd vd' : List Value} {i : Nat} (hb : as[i]? = some (b, ty, ad, vd)) (Kp : Keep h h' [b]) (F : ∃ cl : Cell, Arr Z h' b cl ty ∧ cl.slots.toList = vd' ∧ ∀ v ∈ vd', fits ty v = true) (hty : ∀ C, ty ≠ .object C) : own_H Z h' os (as.set i (b, ty, ad, vd')) := by
  have nb := (H.2.2.1 _ (own_mem hb)).1
  have hlen := (List.getElem?_eq_some_iff.mp hb).1
  refine ⟨⟨Nat.le_trans H.1.1 Kp.1, fun x cx hx => Kp.2.1 x cx (H.1.2 x cx hx) fun q => ?_⟩, fun o ho => ?_, fun y hy => ?_, ?_⟩
  · cases List.mem_singleton.mp q; exact absurd (Array.getElem?_eq_some_iff.mp hx).1 (Nat.not_lt.mpr nb)
  · obtain ⟨n1, E, F', Pw⟩ := H.2.1 o ho
    exact ⟨n1, E.keep Kp, fun f hf => (F' f hf).keep Kp fun q => H.neOA ho (own_mem hb) (List.mem_singleton.mp q), Pw⟩
  · obtain ⟨j, hj⟩ := List.mem_iff_getElem?.mp hy
    rw [List.getElem?_set] at hj
    by_cases ij : i = j
    · subst ij
      rw [if_pos rfl, if_pos hlen] at hj
      obtain rfl := Option.some.inj hj
      obtain ⟨cl, A, e1, e2⟩ := F
      obtain ⟨-, cl0, -, -, -, e4, -⟩ := H.2.2.1 _ (own_mem hb)
      exact ⟨nb, cl, A, e1, e2, fun q => (e4 q).keep Kp, fun C hC => absurd hC (hty C)⟩
    · rw [if_neg ij] at hj
      obtain ⟨n1, cl, h1, h2, h3, h4, h5⟩ := H.2.2.1 _ (own_mem hj)
      exact ⟨n1, cl, ⟨Kp.2.1 _ _ h1.1 fun q => H.neAA hj hb (Ne.symm ij) (List.mem_singleton.mp q), h1.2⟩, h2, h3, fun q => (h4 q).keep Kp, h5⟩
  · rw [own_set_map (f := fun z => z.1) (x' := (b, ty, ad, vd')) hb rfl]; exact H.2.2.2
theorem own_range_take {vs : List Value} {sq nq : Nat} {d : Value} (hq : sq + nq ≤ vs.length) : (vs.drop sq).take nq = (List.range nq).map fun i => vs.getD (sq + i) d := by
  apply List.ext_getElem?
  intro i
  by_cases hi : i < nq
  · rw [List.getElem?_take_of_lt hi, List.getElem?_drop, List.getElem?_map, List.getElem?_range hi, Option.map_some, List.getD_eq_getElem?_getD, List.getElem?_eq_getElem (by omega)]; rfl
  · rw [List.getElem?_eq_none (by simp; omega), List.getElem?_eq_none (by simp; omega)]
theorem own_arraycopy (K : own_Cx p s m meth c Z own nm bytes maxL ret) {i ia ib : Nat} {a b : Addr} {ty : FieldType} {ada adb : String} {vs vd : List Value} {sp dp nn : Int32} {sq dq nq : Nat} (hd : own_D bytes pc (.invokestatic i) 3 pc') (w1 : (Cond.methodLink own i Jvm.Stand.acN).before a0 Z = true) (w2 : (Cond.native Jvm.Stand.acN).before a0 Z = true) (w3 : (Cond.static Jvm.Stand.acN).before a0 Z = true) (w4 : (Cond.initialized "java/lang/System").before a0 Z = true) (H : own_H Z h os as)
    (ha : as[ia]? = some (a, ty, ada, vs)) (hb' : as[ib]? = some (b, ty, adb, vd)) (hty : refKind ty = false) (hto : ∀ C, ty ≠ .object C) (hsp : sp.toInt = (sq : Int)) (hdp : dp.toInt = (dq : Int)) (hnn : nn.toInt = (nq : Int)) (h4 : sq + nq ≤ vs.length) (h5 : dq + nq ≤ vd.length) (hvl : vs.length < 2147483648) (hvd : vd.length < 2147483648) (hsz : Ls.size = maxL) (hf : 1 ≤ R.frames) {W : Nat} (hW : (st.map fun v => v.category).sum ≤ W) (hlo : W + (nativeFrameWords "java/lang/System" "arraycopy" 5 + 11) ≤ R.locals)
    (hr : ∀ h', own_H Z h' os (as.set ib (b, ty, adb, vd.take dq ++ (vs.drop sq).take nq ++ vd.drop (dq + nq))) → own_G w p l e R s m args below meth c Z Q h' k n (mkF m pc' Ls st)) : own_G w p l e R s m args below meth c Z Q h k n (mkF m pc Ls (.int nn :: .int dp :: .ref b :: .int sp :: .ref a :: st)) := by
  obtain ⟨hd, rfl⟩ := hd
  refine own_step K (P := fun h' => own_H Z h' os (as.set ib (b, ty, adb, vd.take dq ++ (vs.drop sq).take nq ++ vd.drop (dq + nq)))) (fun X hZ hw eT N => ?_) hr
  obtain ⟨ka, za, qa1, qa2, A⟩ := own_arv (H.2.2.1 _ (own_mem ha)).2 hvl
  obtain ⟨kb, zb, qb1, qb2, B⟩ := own_arv (H.2.2.1 _ (own_mem hb')).2 hvd
  have i1 := own_idx hsp
  have i2 := own_idx hdp
  have i3 := own_idx hnn
  have neg : ∀ {x : Int32} {q : Nat}, x.toInt = (q : Int) → ¬ x < 0 := fun {x q} e => by rw [Int32.lt_iff_toInt_lt, e, show (0 : Int32).toInt = 0 from rfl]; omega
  obtain ⟨T', h', L, X', e', N', Kp, A', st⟩ := cpA X K.1 hZ hw w1 w2 w3 w4 eT A B (Or.inl ⟨rfl, hty⟩) (neg hsp) (neg hdp) (neg hnn) (by rw [i1, i3, qa1]; exact h4) (by rw [i2, i3, qb1]; exact h5) (by rw [i1, i3]) (by rw [i2, i3]; exact h5) N (H.2.2.1 _ (own_mem hb')).1 (g := mkF m pc Ls (.int nn :: .int dp :: .ref b :: .int sp :: .ref a :: st)) rfl (hsz.trans K.2.2.1.symm) rfl (hb K.2.1 hd) hf (W := W) (by show 2 * 0 + _ ≤ W; simpa using hW) hlo
  rw [i2, i3, ← own_range_take h4] at A'
  obtain ⟨cl, c1, -, c3, c4⟩ := own_of_arv A' (by rw [qb1]; simp; omega)
  exact ⟨T', h', L, X', N', e', Kp.1, H.keepA hb' Kp ⟨cl, c1, c3, c4⟩ hto, st⟩
theorem own_cast {g g' : JFrame} (q : g = g') (hr : own_G w p l e R s m args below meth c Z Q h k n g') : own_G w p l e R s m args below meth c Z Q h k n g := q ▸ hr
theorem own_topI {x x' : Int32} (q : x = x') (hr : own_G w p l e R s m args below meth c Z Q h k n (mkF m pc Ls (.int x' :: st))) : own_G w p l e R s m args below meth c Z Q h k n (mkF m pc Ls (.int x :: st)) := q ▸ hr
theorem own_topL {x x' : Int64} (q : x = x') (hr : own_G w p l e R s m args below meth c Z Q h k n (mkF m pc Ls (.long x' :: st))) : own_G w p l e R s m args below meth c Z Q h k n (mkF m pc Ls (.long x :: st)) := q ▸ hr
theorem own_topD {x x' : UInt64} (q : x = x') (hr : own_G w p l e R s m args below meth c Z Q h k n (mkF m pc Ls (.double x' :: st))) : own_G w p l e R s m args below meth c Z Q h k n (mkF m pc Ls (.double x :: st)) := q ▸ hr
theorem own_H.perm (H : own_H Z h os as) (po : os.Perm os') (pa : as.Perm as') : own_H Z h os' as' :=
  ⟨H.1, fun o ho => H.2.1 o (po.mem_iff.mpr ho), fun a ha => H.2.2.1 a (pa.mem_iff.mpr ha), ((po.map _).append (pa.map _)).nodup_iff.mp H.2.2.2⟩
theorem own_front {α : Type} {L : List α} {x : α} : ∀ {i : Nat}, L[i]? = some x → L.Perm (x :: L.eraseIdx i) := by
  induction L with
  | nil => intro i hx; cases hx
  | cons y L ih =>
    intro i hx
    cases i with
    | zero => cases hx; exact List.Perm.refl _
    | succ i =>
      have q := ih (i := i) (by simpa using hx)
      exact ((q.cons y).trans (List.Perm.swap x y _))
theorem own_H.frontO (H : own_H Z h os as) (i : Nat) {x : own_O} (hx : os[i]? = some x) : own_H Z h (x :: os.eraseIdx i) as := H.perm (own_front hx) (List.Perm.refl _)
theorem own_H.frontA (H : own_H Z h os as) (i : Nat) {x : own_A} (hx : as[i]? = some x) : own_H Z h os (x :: as.eraseIdx i) := H.perm (List.Perm.refl _) (own_front hx)
end OwnKit
end Jvm.RoadKit
namespace Jvm.RoadKit
open Sem ClassFile Op Lib Jvm.Stand Jvm.Free Jvm.LawKit
section OwnWide
variable {p : Program} {l : Launch} {e : Env} {R : Room} {s : State} {m : MethodId} {args : Array Value} {below : List Frame} {meth : Method} {c : Code} {Z : State} {a0 : Array Value} {own nm : String} {bytes : ByteArray} {maxL : Nat} {ret : Option FieldType} {Q : Option Value → Heap → Prop} {h h' : Heap} {k n k' n' : Nat} {pc pc' pcT : Nat} {Ls Ls' : Array Slot} {st rest : List Value} {os os' : List own_O} {as as' : List own_A}
theorem own_ldcS (K : own_Cx p s m meth c Z own nm bytes maxL ret) {i nn : Nat} {text : String} (hd : own_D bytes pc (.ldc i) 2 pc') (ws : (Cond.stringLink own i text).before a0 Z = true) (wS : ∀ a ∈ Bundle.stringAtoms, a.before a0 Z = true) (H : own_H Z h os as) (hn : 4 * text.toList.length ≤ nn) (hbig : nn ≤ 536870912) (hc : k + 2 ≤ R.cells) (hl : n + (nn + 4) ≤ R.slots)
    (hr : ∀ h' a, own_H Z h' os as → own_G true p l e R s m args below meth c Z Q h' (k + 2) (n + (nn + 4)) (mkF m pc' Ls (.ref a :: st))) : own_G true p l e R s m args below meth c Z Q h k n (mkF m pc Ls st) := by
  obtain ⟨hd, rfl⟩ := hd
  intro T hX
  obtain ⟨L, vm, X, N, eT, hw, hS⟩ := hX
  have hZ := own_zw K.2.2.2.2.2.1 hS
  have hown : vm.findClass own = some m.cls := by rw [hS.1.alike.findClass]; exact K.2.2.2.2.2.2.1
  obtain ⟨a, T1, h1, k1, X1, e1, E1, hS1, hk1, -, -, st1⟩ := ldcS X K.1 hZ hown ws wS eT hS (Nat.le_refl _) (g := mkF m pc Ls st) rfl (hb K.2.1 hd) hn hbig hc hl
  obtain ⟨T', v', h', k', n', hX', r1, r2, r3, r4, r5⟩ := hr h1 a (H.ext E1) T1 ⟨_, T1.vm, X1, N, e1, (fun q => by cases q), own_since hS1 hk1⟩
  exact ⟨T', v', h', k', n', hX', r1, r2, r3, r4, fun fs q => st1 _ (r5 fs q)⟩
theorem own_staticW (K : own_Cx p s m meth c Z own nm bytes maxL ret) {i ml W : Nat} {y : MethodName} {b : ByteArray} {rt : Option FieldType} {rm : Room} {argsL : List Value} {Qc : Option Value → Heap → Prop} {ps : List FieldType} {r : Option FieldType} (hd : own_D bytes pc (.invokestatic i) 3 pc') (w1 : (Cond.methodLink own i y).before a0 Z = true) (w2 : (Cond.static y).before a0 Z = true) (w3 : (Cond.initialized y.cls).before a0 Z = true) (w4 : (Cond.code y b ml rt).before a0 Z = true)
    (hM : own_Met true l Z y b ml rt [] rm argsL.toArray h Qc) (hp : parseMethodDescriptor y.desc = some ⟨ps, r⟩) (hlen : argsL.length = ps.length) (hst : st = argsL.reverse ++ rest) (hsz : Ls.size = maxL) (hy : y.cls ≠ "java/lang/invoke/MethodHandle" ∧ y.cls ≠ "java/lang/invoke/VarHandle") (hW : (rest.map fun v => v.category).sum ≤ W) (hf : rm.frames + 1 ≤ R.frames) (hl : W + (ml + 11) + rm.locals ≤ R.locals) (hc : k + rm.cells ≤ R.cells) (hs : n + rm.slots ≤ R.slots)
    (hr : ∀ v h', Qc v h' → own_G true p l e R s m args below meth c Z Q h' (k + rm.cells) (n + rm.slots) (mkF m (pc') Ls (v.toList ++ rest))) : own_G true p l e R s m args below meth c Z Q h k n (mkF m pc Ls st) := by
  obtain ⟨hd, rfl⟩ := hd
  intro T hX
  obtain ⟨L, vm, X, N, eT, hw, hS⟩ := hX
  have hZ := own_zw K.2.2.2.2.2.1 hS
  have hown : (s.setVm vm).vm.findClass own = some m.cls := by rw [show (s.setVm vm).vm = vm from rfl, hS.1.alike.findClass]; exact K.2.2.2.2.2.2.1
  obtain ⟨v, vm1, ⟨T1, L1, k1, n1⟩, -, X1, hS1, hg1, ⟨Lc, ⟨hQ, N1, z1⟩, l1, y1, x1⟩, st1⟩ := callSS X K.1 (y := y) hown (mvT hZ w1) (mvT hZ w2) (mvT hZ w3) (mvT hZ w4) hy (backOfS (W := W) (Q := fun v h'' L => Qc v h'' ∧ Fr Z.heap.size L ∧ h.size ≤ h''.size) (show MetFree _ _ _ _ _ _ from hM) hZ w4 w3 hf hl) (g := mkF m pc Ls st) rfl (hsz.trans K.2.2.1.symm) (argsL := argsL) (rest := rest) (lenOf hp hlen) hst (by show 2 * 0 + _ ≤ W; simpa using hW) (hb K.2.1 hd) (fun _ _ => ⟨rfl, eT, hc, hs⟩)
  dsimp only [Pt.U, Pt.locs, Pt.cells, Pt.slots] at X1 l1 y1 x1 st1 hQ z1 hS1 hg1
  subst l1 y1 x1
  have hS2 : s.Since T1.vm T1.heap.size := hS.trans hS1 (by rw [← eT]; exact hg1)
  obtain ⟨T', v', h', k', n', hX', r1, r2, r3, r4, r5⟩ := hr v T1.heap hQ T1 ⟨_, T1.vm, X1, N.app N1, rfl, (fun q => by cases q), hS2⟩
  exact ⟨T', v', h', k', n', hX', r1, r2, r3, r4, fun fs q => st1.trans (r5 fs q)⟩
theorem own_specialW (K : own_Cx p s m meth c Z own nm bytes maxL ret) {i ml W : Nat} {y : MethodName} {b : ByteArray} {rm : Room} {a : Addr} {argsL : List Value} {Qc : Option Value → Heap → Prop} {ps : List FieldType} {r : Option FieldType} (hd : own_D bytes pc (.invokespecial i) 3 pc') (hy1 : y.name = "<init>") (w1 : (Cond.methodLink own i y).before a0 Z = true) (w2 : (Cond.instanceMethod y).before a0 Z = true) (w3 : (Cond.initialized y.cls).before a0 Z = true) (w4 : (Cond.code y b ml none).before a0 Z = true)
    (hM : own_Met true l Z y b ml none [] rm (.ref a :: argsL).toArray h Qc) (hp : parseMethodDescriptor y.desc = some ⟨ps, r⟩) (hlen : argsL.length = ps.length) (hst : st = argsL.reverse ++ .ref a :: rest) (hsz : Ls.size = maxL) (hy : y.cls ≠ "java/lang/invoke/MethodHandle" ∧ y.cls ≠ "java/lang/invoke/VarHandle") (hW : (rest.map fun v => v.category).sum ≤ W) (hf : rm.frames + 1 ≤ R.frames) (hl : W + (ml + 11) + rm.locals ≤ R.locals) (hc : k + rm.cells ≤ R.cells) (hs : n + rm.slots ≤ R.slots)
    (hr : ∀ v h', Qc v h' → own_G true p l e R s m args below meth c Z Q h' (k + rm.cells) (n + rm.slots) (mkF m (pc') Ls (v.toList ++ rest))) : own_G true p l e R s m args below meth c Z Q h k n (mkF m pc Ls st) := by
  obtain ⟨hd, rfl⟩ := hd
  intro T hX
  obtain ⟨L, vm, X, N, eT, hw, hS⟩ := hX
  have hZ := own_zw K.2.2.2.2.2.1 hS
  have hown : (s.setVm vm).vm.findClass own = some m.cls := by rw [show (s.setVm vm).vm = vm from rfl, hS.1.alike.findClass]; exact K.2.2.2.2.2.2.1
  obtain ⟨v, vm1, ⟨T1, L1, k1, n1⟩, -, X1, hS1, hg1, ⟨Lc, ⟨hQ, N1, z1⟩, l1, y1, x1⟩, st1⟩ := X.specialBackS K.1 (y := y) hy1 hown (mvT hZ w1) (mvT hZ w2) (mvT hZ w4) hy (backOfS (W := W) (Q := fun v h'' L => Qc v h'' ∧ Fr Z.heap.size L ∧ h.size ≤ h''.size) (show MetFree _ _ _ _ _ _ from hM) hZ w4 w3 hf hl) (g := mkF m pc Ls st) rfl (hsz.trans K.2.2.1.symm) (Steps.refl _) (a := a) (argsL := argsL) (rest := rest) (lenOf hp hlen) hst (by show 2 * 0 + _ ≤ W; simpa using hW) (hb K.2.1 hd) (fun _ _ => ⟨rfl, eT, hc, hs⟩)
  dsimp only [Pt.U, Pt.locs, Pt.cells, Pt.slots] at X1 l1 y1 x1 st1 hQ z1 hS1 hg1
  subst l1 y1 x1
  have hS2 : s.Since T1.vm T1.heap.size := hS.trans hS1 (by rw [← eT]; exact hg1)
  obtain ⟨T', v', h', k', n', hX', r1, r2, r3, r4, r5⟩ := hr v T1.heap hQ T1 ⟨_, T1.vm, X1, N.app N1, rfl, (fun q => by cases q), hS2⟩
  exact ⟨T', v', h', k', n', hX', r1, r2, r3, r4, fun fs q => st1.trans (r5 fs q)⟩
theorem own_virtualW (K : own_Cx p s m meth c Z own nm bytes maxL ret) {i ml W : Nat} {y : MethodName} {C : String} {b : ByteArray} {rt : Option FieldType} {rm : Room} {a : Addr} {argsL : List Value} {Qc : Option Value → Heap → Prop} {ps : List FieldType} {r : Option FieldType} (hd : own_D bytes pc (.invokevirtual i) 3 pc') (w1 : (Cond.methodLink own i y).before a0 Z = true) (w2 : (Cond.declares y).before a0 Z = true) (w5 : (Cond.selects C y y).before a0 Z = true) (w6 : (Cond.instanceMethod y).before a0 Z = true) (w3 : (Cond.initialized y.cls).before a0 Z = true) (w4 : (Cond.code y b ml rt).before a0 Z = true)
    (E : Exa Z h a C) (hM : own_Met true l Z y b ml rt [] rm (.ref a :: argsL).toArray h Qc) (hp : parseMethodDescriptor y.desc = some ⟨ps, r⟩) (hlen : argsL.length = ps.length) (hst : st = argsL.reverse ++ .ref a :: rest) (hsz : Ls.size = maxL) (hy : y.cls ≠ "java/lang/invoke/MethodHandle" ∧ y.cls ≠ "java/lang/invoke/VarHandle") (hW : (rest.map fun v => v.category).sum ≤ W) (hf : rm.frames + 1 ≤ R.frames) (hl : W + (ml + 11) + rm.locals ≤ R.locals) (hc : k + rm.cells ≤ R.cells) (hs : n + rm.slots ≤ R.slots)
    (hr : ∀ v h', Qc v h' → own_G true p l e R s m args below meth c Z Q h' (k + rm.cells) (n + rm.slots) (mkF m (pc') Ls (v.toList ++ rest))) : own_G true p l e R s m args below meth c Z Q h k n (mkF m pc Ls st) := by
  obtain ⟨hd, rfl⟩ := hd
  intro T hX
  obtain ⟨L, vm, X, N, eT, hw, hS⟩ := hX
  have hZ := own_zw K.2.2.2.2.2.1 hS
  have hown : (s.setVm vm).vm.findClass own = some m.cls := by rw [show (s.setVm vm).vm = vm from rfl, hS.1.alike.findClass]; exact K.2.2.2.2.2.2.1
  obtain ⟨cq, kq, qa, qb, qc⟩ := isOf (s := s.setVm vm) hZ eT E
  obtain ⟨v, vm1, ⟨T1, L1, k1, n1⟩, -, X1, hS1, hg1, ⟨Lc, ⟨hQ, N1, z1⟩, l1, y1, x1⟩, st1⟩ := X.virtualBackS K.1 (y := y) (z := y) hown (mvT hZ w1) (mvT hZ w2) (notFace_of_selects (C := C) (args := #[]) (mvT hZ w5)) (mvT hZ w5) (mvT hZ w6) hy (backOfS (W := W) (Q := fun v h'' L => Qc v h'' ∧ Fr Z.heap.size L ∧ h.size ≤ h''.size) (show MetFree _ _ _ _ _ _ from hM) hZ w4 w3 hf hl) qa qc (g := mkF m pc Ls st) rfl (hsz.trans K.2.2.1.symm) (Steps.refl _) (argsL := argsL) (rest := rest) (lenOf hp hlen) hst (by show 2 * 0 + _ ≤ W; simpa using hW) (hb K.2.1 hd) (fun _ _ => ⟨rfl, eT, hc, hs⟩)
  dsimp only [Pt.U, Pt.locs, Pt.cells, Pt.slots] at X1 l1 y1 x1 st1 hQ z1 hS1 hg1
  subst l1 y1 x1
  have hS2 : s.Since T1.vm T1.heap.size := hS.trans hS1 (by rw [← eT]; exact hg1)
  obtain ⟨T', v', h', k', n', hX', r1, r2, r3, r4, r5⟩ := hr v T1.heap hQ T1 ⟨_, T1.vm, X1, N.app N1, rfl, (fun q => by cases q), hS2⟩
  exact ⟨T', v', h', k', n', hX', r1, r2, r3, r4, fun fs q => st1.trans (r5 fs q)⟩
end OwnWide
end Jvm.RoadKit
namespace Jvm.Pilot.@@N@@
open Jvm Jvm.ClassFile Sem Op Lib Jvm.Free Jvm.Stand Jvm.LawKit Jvm.RoadKit Bundle Jvm.Pilot.@@N@@.Jvm.D
def own_Z (Z : State) (a0 : Array Value) : Prop := ∀ d ∈ tables_1, d.before a0 Z = true
theorem own_w0 {Z : State} {a0 : Array Value} (hw : own_Z Z a0) : (Jvm.Cond.constant "com/example/vestline/vestline/actuarial/LifeYearsToEndPinLaw" (9 : Nat) (2147483647 : Int32)).before a0 Z = true := hw _ (List.mem_of_getElem? (i := 0) rfl)
theorem own_w1 {Z : State} {a0 : Array Value} (hw : own_Z Z a0) : (Jvm.Cond.constant "com/example/vestline/vestline/actuarial/LifeYearsToEndPinLaw" (12 : Nat) (2147483644 : Int32)).before a0 Z = true := hw _ (List.mem_of_getElem? (i := 1) rfl)
theorem own_w2 {Z : State} {a0 : Array Value} (hw : own_Z Z a0) : (Jvm.Cond.classLink "com/example/vestline/vestline/actuarial/LifeYearsToEndPinLaw" (13 : Nat) "com/example/vestline/vestline/actuarial/MortalityTable").before a0 Z = true := hw _ (List.mem_of_getElem? (i := 2) rfl)
theorem own_w3 {Z : State} {a0 : Array Value} (hw : own_Z Z a0) : (Jvm.Cond.instantiable "com/example/vestline/vestline/actuarial/MortalityTable" (2 : Nat)).before a0 Z = true := hw _ (List.mem_of_getElem? (i := 3) rfl)
theorem own_w4 {Z : State} {a0 : Array Value} (hw : own_Z Z a0) : (Jvm.Cond.initialized "com/example/vestline/vestline/actuarial/MortalityTable").before a0 Z = true := hw _ (List.mem_of_getElem? (i := 4) rfl)
theorem own_w5 {Z : State} {a0 : Array Value} (hw : own_Z Z a0) : (Jvm.Cond.methodLink "com/example/vestline/vestline/actuarial/LifeYearsToEndPinLaw" (15 : Nat) ({ cls := "com/example/vestline/vestline/actuarial/LifeYearsToEndPinLaw", name := "rates", desc := "(ID)[D" } : Jvm.MethodName)).before a0 Z = true := hw _ (List.mem_of_getElem? (i := 5) rfl)
theorem own_w6 {Z : State} {a0 : Array Value} (hw : own_Z Z a0) : (Jvm.Cond.static ({ cls := "com/example/vestline/vestline/actuarial/LifeYearsToEndPinLaw", name := "rates", desc := "(ID)[D" } : Jvm.MethodName)).before a0 Z = true := hw _ (List.mem_of_getElem? (i := 6) rfl)
theorem own_w7 {Z : State} {a0 : Array Value} (hw : own_Z Z a0) : (Jvm.Cond.initialized "com/example/vestline/vestline/actuarial/LifeYearsToEndPinLaw").before a0 Z = true := hw _ (List.mem_of_getElem? (i := 7) rfl)
theorem own_w8 {Z : State} {a0 : Array Value} (hw : own_Z Z a0) : (Jvm.Cond.code ({ cls := "com/example/vestline/vestline/actuarial/LifeYearsToEndPinLaw", name := "rates", desc := "(ID)[D" } : Jvm.MethodName) method_2_code (3 : Nat) (Option.some (Jvm.ClassFile.FieldType.array Jvm.ClassFile.FieldType.double))).before a0 Z = true := hw _ (List.mem_of_getElem? (i := 8) rfl)
theorem own_w9 {Z : State} {a0 : Array Value} (hw : own_Z Z a0) : (Jvm.Cond.arrayClass Jvm.ClassFile.FieldType.double).before a0 Z = true := hw _ (List.mem_of_getElem? (i := 9) rfl)
theorem own_w10 {Z : State} {a0 : Array Value} (hw : own_Z Z a0) : (Jvm.Cond.constantDouble "com/example/vestline/vestline/actuarial/LifeYearsToEndPinLaw" (7 : Nat) (4602678819172646912 : UInt64)).before a0 Z = true := hw _ (List.mem_of_getElem? (i := 10) rfl)
theorem own_w11 {Z : State} {a0 : Array Value} (hw : own_Z Z a0) : (Jvm.Cond.methodLink "com/example/vestline/vestline/actuarial/LifeYearsToEndPinLaw" (21 : Nat) ({ cls := "com/example/vestline/vestline/actuarial/MortalityTable", name := "<init>", desc := "(I[D)V" } : Jvm.MethodName)).before a0 Z = true := hw _ (List.mem_of_getElem? (i := 11) rfl)
theorem own_w12 {Z : State} {a0 : Array Value} (hw : own_Z Z a0) : (Jvm.Cond.instanceMethod ({ cls := "com/example/vestline/vestline/actuarial/MortalityTable", name := "<init>", desc := "(I[D)V" } : Jvm.MethodName)).before a0 Z = true := hw _ (List.mem_of_getElem? (i := 12) rfl)
theorem own_w13 {Z : State} {a0 : Array Value} (hw : own_Z Z a0) : (Jvm.Cond.code ({ cls := "com/example/vestline/vestline/actuarial/MortalityTable", name := "<init>", desc := "(I[D)V" } : Jvm.MethodName) prog_3_method_1_code (6 : Nat) (Option.none : Option Jvm.ClassFile.FieldType)).before a0 Z = true := hw _ (List.mem_of_getElem? (i := 13) rfl)
theorem own_w14 {Z : State} {a0 : Array Value} (hw : own_Z Z a0) : (Jvm.Cond.methodLink "com/example/vestline/vestline/actuarial/MortalityTable" (1 : Nat) ({ cls := "java/lang/Object", name := "<init>", desc := "()V" } : Jvm.MethodName)).before a0 Z = true := hw _ (List.mem_of_getElem? (i := 14) rfl)
theorem own_w15 {Z : State} {a0 : Array Value} (hw : own_Z Z a0) : (Jvm.Cond.instanceMethod ({ cls := "java/lang/Object", name := "<init>", desc := "()V" } : Jvm.MethodName)).before a0 Z = true := hw _ (List.mem_of_getElem? (i := 15) rfl)
theorem own_w16 {Z : State} {a0 : Array Value} (hw : own_Z Z a0) : (Jvm.Cond.code ({ cls := "java/lang/Object", name := "<init>", desc := "()V" } : Jvm.MethodName) object_method_1_code (1 : Nat) (Option.none : Option Jvm.ClassFile.FieldType)).before a0 Z = true := hw _ (List.mem_of_getElem? (i := 16) rfl)
theorem own_w17 {Z : State} {a0 : Array Value} (hw : own_Z Z a0) : (Jvm.Cond.fieldLink "com/example/vestline/vestline/actuarial/MortalityTable" (21 : Nat) "com/example/vestline/vestline/actuarial/MortalityTable" "firstAge" "I").before a0 Z = true := hw _ (List.mem_of_getElem? (i := 17) rfl)
theorem own_w18 {Z : State} {a0 : Array Value} (hw : own_Z Z a0) : (Jvm.Cond.laysFinal "com/example/vestline/vestline/actuarial/MortalityTable" "com/example/vestline/vestline/actuarial/MortalityTable" "firstAge" "I").before a0 Z = true := hw _ (List.mem_of_getElem? (i := 18) rfl)
theorem own_w19 {Z : State} {a0 : Array Value} (hw : own_Z Z a0) : (Jvm.Cond.methodLink "com/example/vestline/vestline/actuarial/MortalityTable" (27 : Nat) ({ cls := "[D", name := "clone", desc := "()Ljava/lang/Object;" } : Jvm.MethodName)).before a0 Z = true := hw _ (List.mem_of_getElem? (i := 19) rfl)
theorem own_w20 {Z : State} {a0 : Array Value} (hw : own_Z Z a0) : (Jvm.Cond.sameMethod "[D" "java/lang/Object" "clone" "()Ljava/lang/Object;").before a0 Z = true := hw _ (List.mem_of_getElem? (i := 20) rfl)
theorem own_w22 {Z : State} {a0 : Array Value} (hw : own_Z Z a0) : (Jvm.Cond.instanceMethod ({ cls := "java/lang/Object", name := "clone", desc := "()Ljava/lang/Object;" } : Jvm.MethodName)).before a0 Z = true := hw _ (List.mem_of_getElem? (i := 22) rfl)
theorem own_w23 {Z : State} {a0 : Array Value} (hw : own_Z Z a0) : (Jvm.Cond.selects "[D" ({ cls := "[D", name := "clone", desc := "()Ljava/lang/Object;" } : Jvm.MethodName) ({ cls := "java/lang/Object", name := "clone", desc := "()Ljava/lang/Object;" } : Jvm.MethodName)).before a0 Z = true := hw _ (List.mem_of_getElem? (i := 23) rfl)
theorem own_w24 {Z : State} {a0 : Array Value} (hw : own_Z Z a0) : (Jvm.Cond.native ({ cls := "java/lang/Object", name := "clone", desc := "()Ljava/lang/Object;" } : Jvm.MethodName)).before a0 Z = true := hw _ (List.mem_of_getElem? (i := 24) rfl)
theorem own_w25 {Z : State} {a0 : Array Value} (hw : own_Z Z a0) : (Jvm.Cond.castable "[D" "java/lang/Cloneable").before a0 Z = true := hw _ (List.mem_of_getElem? (i := 25) rfl)
theorem own_w26 {Z : State} {a0 : Array Value} (hw : own_Z Z a0) : (Jvm.Cond.classLink "com/example/vestline/vestline/actuarial/MortalityTable" (28 : Nat) "[D").before a0 Z = true := hw _ (List.mem_of_getElem? (i := 26) rfl)
theorem own_w28 {Z : State} {a0 : Array Value} (hw : own_Z Z a0) : (Jvm.Cond.fieldLink "com/example/vestline/vestline/actuarial/MortalityTable" (33 : Nat) "com/example/vestline/vestline/actuarial/MortalityTable" "deathRates" "[D").before a0 Z = true := hw _ (List.mem_of_getElem? (i := 28) rfl)
theorem own_w29 {Z : State} {a0 : Array Value} (hw : own_Z Z a0) : (Jvm.Cond.laysFinal "com/example/vestline/vestline/actuarial/MortalityTable" "com/example/vestline/vestline/actuarial/MortalityTable" "deathRates" "[D").before a0 Z = true := hw _ (List.mem_of_getElem? (i := 29) rfl)
theorem own_w30 {Z : State} {a0 : Array Value} (hw : own_Z Z a0) : (Jvm.Cond.classLink "com/example/vestline/vestline/actuarial/LifeYearsToEndPinLaw" (24 : Nat) "com/example/vestline/vestline/actuarial/Life").before a0 Z = true := hw _ (List.mem_of_getElem? (i := 30) rfl)
theorem own_w31 {Z : State} {a0 : Array Value} (hw : own_Z Z a0) : (Jvm.Cond.instantiable "com/example/vestline/vestline/actuarial/Life" (2 : Nat)).before a0 Z = true := hw _ (List.mem_of_getElem? (i := 31) rfl)
theorem own_w32 {Z : State} {a0 : Array Value} (hw : own_Z Z a0) : (Jvm.Cond.initialized "com/example/vestline/vestline/actuarial/Life").before a0 Z = true := hw _ (List.mem_of_getElem? (i := 32) rfl)
theorem own_w33 {Z : State} {a0 : Array Value} (hw : own_Z Z a0) : (Jvm.Cond.methodLink "com/example/vestline/vestline/actuarial/LifeYearsToEndPinLaw" (26 : Nat) ({ cls := "com/example/vestline/vestline/actuarial/Life", name := "<init>", desc := "(Lcom/example/vestline/vestline/actuarial/MortalityTable;I)V" } : Jvm.MethodName)).before a0 Z = true := hw _ (List.mem_of_getElem? (i := 33) rfl)
theorem own_w34 {Z : State} {a0 : Array Value} (hw : own_Z Z a0) : (Jvm.Cond.instanceMethod ({ cls := "com/example/vestline/vestline/actuarial/Life", name := "<init>", desc := "(Lcom/example/vestline/vestline/actuarial/MortalityTable;I)V" } : Jvm.MethodName)).before a0 Z = true := hw _ (List.mem_of_getElem? (i := 34) rfl)
theorem own_w35 {Z : State} {a0 : Array Value} (hw : own_Z Z a0) : (Jvm.Cond.code ({ cls := "com/example/vestline/vestline/actuarial/Life", name := "<init>", desc := "(Lcom/example/vestline/vestline/actuarial/MortalityTable;I)V" } : Jvm.MethodName) prog_1_method_1_code (3 : Nat) (Option.none : Option Jvm.ClassFile.FieldType)).before a0 Z = true := hw _ (List.mem_of_getElem? (i := 35) rfl)
theorem own_w36 {Z : State} {a0 : Array Value} (hw : own_Z Z a0) : (Jvm.Cond.methodLink "com/example/vestline/vestline/actuarial/Life" (1 : Nat) ({ cls := "java/lang/Record", name := "<init>", desc := "()V" } : Jvm.MethodName)).before a0 Z = true := hw _ (List.mem_of_getElem? (i := 36) rfl)
theorem own_w37 {Z : State} {a0 : Array Value} (hw : own_Z Z a0) : (Jvm.Cond.instanceMethod ({ cls := "java/lang/Record", name := "<init>", desc := "()V" } : Jvm.MethodName)).before a0 Z = true := hw _ (List.mem_of_getElem? (i := 37) rfl)
theorem own_w39 {Z : State} {a0 : Array Value} (hw : own_Z Z a0) : (Jvm.Cond.initialized "java/lang/Record").before a0 Z = true := hw _ (List.mem_of_getElem? (i := 39) rfl)
theorem own_w40 {Z : State} {a0 : Array Value} (hw : own_Z Z a0) : (Jvm.Cond.code ({ cls := "java/lang/Record", name := "<init>", desc := "()V" } : Jvm.MethodName) jdk_30_method_1_code (1 : Nat) (Option.none : Option Jvm.ClassFile.FieldType)).before a0 Z = true := hw _ (List.mem_of_getElem? (i := 40) rfl)
theorem own_w41 {Z : State} {a0 : Array Value} (hw : own_Z Z a0) : (Jvm.Cond.methodLink "java/lang/Record" (1 : Nat) ({ cls := "java/lang/Object", name := "<init>", desc := "()V" } : Jvm.MethodName)).before a0 Z = true := hw _ (List.mem_of_getElem? (i := 41) rfl)
theorem own_w42 {Z : State} {a0 : Array Value} (hw : own_Z Z a0) : (Jvm.Cond.stringLink "com/example/vestline/vestline/actuarial/Life" (7 : Nat) "table").before a0 Z = true := hw _ (List.mem_of_getElem? (i := 42) rfl)
theorem own_w43 {Z : State} {a0 : Array Value} (hw : own_Z Z a0) : (Jvm.Cond.initialized "java/lang/String").before a0 Z = true := hw _ (List.mem_of_getElem? (i := 43) rfl)
theorem own_w44 {Z : State} {a0 : Array Value} (hw : own_Z Z a0) : (Jvm.Cond.instantiable "java/lang/String" (4 : Nat)).before a0 Z = true := hw _ (List.mem_of_getElem? (i := 44) rfl)
theorem own_w45 {Z : State} {a0 : Array Value} (hw : own_Z Z a0) : (Jvm.Cond.arrayClass Jvm.ClassFile.FieldType.byte).before a0 Z = true := hw _ (List.mem_of_getElem? (i := 45) rfl)
theorem own_w46 {Z : State} {a0 : Array Value} (hw : own_Z Z a0) : (Jvm.Cond.laysFinal "java/lang/String" "java/lang/String" "value" "[B").before a0 Z = true := hw _ (List.mem_of_getElem? (i := 46) rfl)
theorem own_w47 {Z : State} {a0 : Array Value} (hw : own_Z Z a0) : (Jvm.Cond.laysFinal "java/lang/String" "java/lang/String" "coder" "B").before a0 Z = true := hw _ (List.mem_of_getElem? (i := 47) rfl)
theorem own_w48 {Z : State} {a0 : Array Value} (hw : own_Z Z a0) : (Jvm.Cond.soleField "java/lang/String" "value").before a0 Z = true := hw _ (List.mem_of_getElem? (i := 48) rfl)
theorem own_w49 {Z : State} {a0 : Array Value} (hw : own_Z Z a0) : (Jvm.Cond.soleField "java/lang/String" "coder").before a0 Z = true := hw _ (List.mem_of_getElem? (i := 49) rfl)
theorem own_w50 {Z : State} {a0 : Array Value} (hw : own_Z Z a0) : (Jvm.Cond.methodLink "com/example/vestline/vestline/actuarial/Life" (9 : Nat) ({ cls := "java/util/Objects", name := "requireNonNull", desc := "(Ljava/lang/Object;Ljava/lang/String;)Ljava/lang/Object;" } : Jvm.MethodName)).before a0 Z = true := hw _ (List.mem_of_getElem? (i := 50) rfl)
theorem own_w51 {Z : State} {a0 : Array Value} (hw : own_Z Z a0) : (Jvm.Cond.static ({ cls := "java/util/Objects", name := "requireNonNull", desc := "(Ljava/lang/Object;Ljava/lang/String;)Ljava/lang/Object;" } : Jvm.MethodName)).before a0 Z = true := hw _ (List.mem_of_getElem? (i := 51) rfl)
theorem own_w52 {Z : State} {a0 : Array Value} (hw : own_Z Z a0) : (Jvm.Cond.initialized "java/util/Objects").before a0 Z = true := hw _ (List.mem_of_getElem? (i := 52) rfl)
theorem own_w53 {Z : State} {a0 : Array Value} (hw : own_Z Z a0) : (Jvm.Cond.code ({ cls := "java/util/Objects", name := "requireNonNull", desc := "(Ljava/lang/Object;Ljava/lang/String;)Ljava/lang/Object;" } : Jvm.MethodName) jdk_31_method_11_code (2 : Nat) (Option.some (Jvm.ClassFile.FieldType.object "java/lang/Object"))).before a0 Z = true := hw _ (List.mem_of_getElem? (i := 53) rfl)
theorem own_w54 {Z : State} {a0 : Array Value} (hw : own_Z Z a0) : (Jvm.Cond.methodLink "com/example/vestline/vestline/actuarial/Life" (15 : Nat) ({ cls := "com/example/vestline/vestline/actuarial/MortalityTable", name := "requireAge", desc := "(I)V" } : Jvm.MethodName)).before a0 Z = true := hw _ (List.mem_of_getElem? (i := 54) rfl)
theorem own_w55 {Z : State} {a0 : Array Value} (hw : own_Z Z a0) : (Jvm.Cond.declares ({ cls := "com/example/vestline/vestline/actuarial/MortalityTable", name := "requireAge", desc := "(I)V" } : Jvm.MethodName)).before a0 Z = true := hw _ (List.mem_of_getElem? (i := 55) rfl)
theorem own_w56 {Z : State} {a0 : Array Value} (hw : own_Z Z a0) : (Jvm.Cond.instanceMethod ({ cls := "com/example/vestline/vestline/actuarial/MortalityTable", name := "requireAge", desc := "(I)V" } : Jvm.MethodName)).before a0 Z = true := hw _ (List.mem_of_getElem? (i := 56) rfl)
theorem own_w57 {Z : State} {a0 : Array Value} (hw : own_Z Z a0) : (Jvm.Cond.selects "com/example/vestline/vestline/actuarial/MortalityTable" ({ cls := "com/example/vestline/vestline/actuarial/MortalityTable", name := "requireAge", desc := "(I)V" } : Jvm.MethodName) ({ cls := "com/example/vestline/vestline/actuarial/MortalityTable", name := "requireAge", desc := "(I)V" } : Jvm.MethodName)).before a0 Z = true := hw _ (List.mem_of_getElem? (i := 57) rfl)
theorem own_w58 {Z : State} {a0 : Array Value} (hw : own_Z Z a0) : (Jvm.Cond.code ({ cls := "com/example/vestline/vestline/actuarial/MortalityTable", name := "requireAge", desc := "(I)V" } : Jvm.MethodName) prog_3_method_7_code (2 : Nat) (Option.none : Option Jvm.ClassFile.FieldType)).before a0 Z = true := hw _ (List.mem_of_getElem? (i := 58) rfl)
theorem own_w59 {Z : State} {a0 : Array Value} (hw : own_Z Z a0) : (Jvm.Cond.methodLink "com/example/vestline/vestline/actuarial/MortalityTable" (49 : Nat) ({ cls := "com/example/vestline/vestline/actuarial/MortalityTable", name := "lastAge", desc := "()I" } : Jvm.MethodName)).before a0 Z = true := hw _ (List.mem_of_getElem? (i := 59) rfl)
theorem own_w60 {Z : State} {a0 : Array Value} (hw : own_Z Z a0) : (Jvm.Cond.declares ({ cls := "com/example/vestline/vestline/actuarial/MortalityTable", name := "lastAge", desc := "()I" } : Jvm.MethodName)).before a0 Z = true := hw _ (List.mem_of_getElem? (i := 60) rfl)
theorem own_w61 {Z : State} {a0 : Array Value} (hw : own_Z Z a0) : (Jvm.Cond.instanceMethod ({ cls := "com/example/vestline/vestline/actuarial/MortalityTable", name := "lastAge", desc := "()I" } : Jvm.MethodName)).before a0 Z = true := hw _ (List.mem_of_getElem? (i := 61) rfl)
theorem own_w62 {Z : State} {a0 : Array Value} (hw : own_Z Z a0) : (Jvm.Cond.selects "com/example/vestline/vestline/actuarial/MortalityTable" ({ cls := "com/example/vestline/vestline/actuarial/MortalityTable", name := "lastAge", desc := "()I" } : Jvm.MethodName) ({ cls := "com/example/vestline/vestline/actuarial/MortalityTable", name := "lastAge", desc := "()I" } : Jvm.MethodName)).before a0 Z = true := hw _ (List.mem_of_getElem? (i := 62) rfl)
theorem own_w63 {Z : State} {a0 : Array Value} (hw : own_Z Z a0) : (Jvm.Cond.code ({ cls := "com/example/vestline/vestline/actuarial/MortalityTable", name := "lastAge", desc := "()I" } : Jvm.MethodName) prog_3_method_4_code (1 : Nat) (Option.some Jvm.ClassFile.FieldType.int)).before a0 Z = true := hw _ (List.mem_of_getElem? (i := 63) rfl)
theorem own_w64 {Z : State} {a0 : Array Value} (hw : own_Z Z a0) : (Jvm.Cond.fieldLink "com/example/vestline/vestline/actuarial/Life" (21 : Nat) "com/example/vestline/vestline/actuarial/Life" "table" "Lcom/example/vestline/vestline/actuarial/MortalityTable;").before a0 Z = true := hw _ (List.mem_of_getElem? (i := 64) rfl)
theorem own_w65 {Z : State} {a0 : Array Value} (hw : own_Z Z a0) : (Jvm.Cond.laysFinal "com/example/vestline/vestline/actuarial/Life" "com/example/vestline/vestline/actuarial/Life" "table" "Lcom/example/vestline/vestline/actuarial/MortalityTable;").before a0 Z = true := hw _ (List.mem_of_getElem? (i := 65) rfl)
theorem own_w66 {Z : State} {a0 : Array Value} (hw : own_Z Z a0) : (Jvm.Cond.fieldLink "com/example/vestline/vestline/actuarial/Life" (26 : Nat) "com/example/vestline/vestline/actuarial/Life" "age" "I").before a0 Z = true := hw _ (List.mem_of_getElem? (i := 66) rfl)
theorem own_w67 {Z : State} {a0 : Array Value} (hw : own_Z Z a0) : (Jvm.Cond.laysFinal "com/example/vestline/vestline/actuarial/Life" "com/example/vestline/vestline/actuarial/Life" "age" "I").before a0 Z = true := hw _ (List.mem_of_getElem? (i := 67) rfl)
theorem own_w68 {Z : State} {a0 : Array Value} (hw : own_Z Z a0) : (Jvm.Cond.methodLink "com/example/vestline/vestline/actuarial/LifeYearsToEndPinLaw" (29 : Nat) ({ cls := "com/example/vestline/vestline/actuarial/Life", name := "yearsToEnd", desc := "()I" } : Jvm.MethodName)).before a0 Z = true := hw _ (List.mem_of_getElem? (i := 68) rfl)
theorem own_w69 {Z : State} {a0 : Array Value} (hw : own_Z Z a0) : (Jvm.Cond.declares ({ cls := "com/example/vestline/vestline/actuarial/Life", name := "yearsToEnd", desc := "()I" } : Jvm.MethodName)).before a0 Z = true := hw _ (List.mem_of_getElem? (i := 69) rfl)
theorem own_w70 {Z : State} {a0 : Array Value} (hw : own_Z Z a0) : (Jvm.Cond.instanceMethod ({ cls := "com/example/vestline/vestline/actuarial/Life", name := "yearsToEnd", desc := "()I" } : Jvm.MethodName)).before a0 Z = true := hw _ (List.mem_of_getElem? (i := 70) rfl)
theorem own_w71 {Z : State} {a0 : Array Value} (hw : own_Z Z a0) : (Jvm.Cond.selects "com/example/vestline/vestline/actuarial/Life" ({ cls := "com/example/vestline/vestline/actuarial/Life", name := "yearsToEnd", desc := "()I" } : Jvm.MethodName) ({ cls := "com/example/vestline/vestline/actuarial/Life", name := "yearsToEnd", desc := "()I" } : Jvm.MethodName)).before a0 Z = true := hw _ (List.mem_of_getElem? (i := 71) rfl)
theorem own_w72 {Z : State} {a0 : Array Value} (hw : own_Z Z a0) : (Jvm.Cond.code ({ cls := "com/example/vestline/vestline/actuarial/Life", name := "yearsToEnd", desc := "()I" } : Jvm.MethodName) prog_1_method_3_code (1 : Nat) (Option.some Jvm.ClassFile.FieldType.int)).before a0 Z = true := hw _ (List.mem_of_getElem? (i := 72) rfl)
theorem own_w73 {Z : State} {a0 : Array Value} (hw : own_Z Z a0) : (Jvm.Cond.methodLink "com/example/vestline/vestline/actuarial/Life" (34 : Nat) ({ cls := "com/example/vestline/vestline/actuarial/MortalityTable", name := "lastAge", desc := "()I" } : Jvm.MethodName)).before a0 Z = true := hw _ (List.mem_of_getElem? (i := 73) rfl)
theorem own_d0_0 : own_D method_2_code 0 (.iload_n 0) 1 1 := ⟨by decide +kernel, rfl⟩
theorem own_d0_1 : own_D method_2_code 1 (.iconst 1) 1 2 := ⟨by decide +kernel, rfl⟩
theorem own_d0_2 : own_B method_2_code 2 (.if_icmp .ne 11) 11 5 13 := ⟨by decide +kernel, rfl, by decide, by decide⟩
theorem own_d0_5 : own_D method_2_code 5 (.iconst 1) 1 6 := ⟨by decide +kernel, rfl⟩
theorem own_d0_6 : own_D method_2_code 6 (.newarray .double) 2 8 := ⟨by decide +kernel, rfl⟩
theorem own_d0_8 : own_D method_2_code 8 (.dup) 1 9 := ⟨by decide +kernel, rfl⟩
theorem own_d0_9 : own_D method_2_code 9 (.iconst 0) 1 10 := ⟨by decide +kernel, rfl⟩
theorem own_d0_10 : own_D method_2_code 10 (.dload_n 1) 1 11 := ⟨by decide +kernel, rfl⟩
theorem own_d0_11 : own_D method_2_code 11 (.dastore) 1 12 := ⟨by decide +kernel, rfl⟩
theorem own_d0_12 : own_D method_2_code 12 (.areturn) 1 13 := ⟨by decide +kernel, rfl⟩
theorem own_d1_0 : own_D prog_3_method_1_code 0 (.aload_n 0) 1 1 := ⟨by decide +kernel, rfl⟩
theorem own_d1_1 : own_D prog_3_method_1_code 1 (.invokespecial 1) 3 4 := ⟨by decide +kernel, rfl⟩
theorem own_d1_4 : own_D prog_3_method_1_code 4 (.iload_n 1) 1 5 := ⟨by decide +kernel, rfl⟩
theorem own_d1_5 : own_B prog_3_method_1_code 5 (.ifCond .ge 17) 17 8 22 := ⟨by decide +kernel, rfl, by decide, by decide⟩
theorem own_d1_22 : own_D prog_3_method_1_code 22 (.aload_n 2) 1 23 := ⟨by decide +kernel, rfl⟩
theorem own_d1_23 : own_D prog_3_method_1_code 23 (.arraylength) 1 24 := ⟨by decide +kernel, rfl⟩
theorem own_d1_24 : own_B prog_3_method_1_code 24 (.ifCond .ne 13) 13 27 37 := ⟨by decide +kernel, rfl, by decide, by decide⟩
theorem own_d1_37 : own_D prog_3_method_1_code 37 (.iconst 0) 1 38 := ⟨by decide +kernel, rfl⟩
theorem own_d1_38 : own_D prog_3_method_1_code 38 (.istore_n 3) 1 39 := ⟨by decide +kernel, rfl⟩
theorem own_d1_39 : own_D prog_3_method_1_code 39 (.iload_n 3) 1 40 := ⟨by decide +kernel, rfl⟩
theorem own_d1_40 : own_D prog_3_method_1_code 40 (.aload_n 2) 1 41 := ⟨by decide +kernel, rfl⟩
theorem own_d1_41 : own_D prog_3_method_1_code 41 (.arraylength) 1 42 := ⟨by decide +kernel, rfl⟩
theorem own_d1_42 : own_B prog_3_method_1_code 42 (.if_icmp .ge 46) 46 45 88 := ⟨by decide +kernel, rfl, by decide, by decide⟩
theorem own_d1_45 : own_D prog_3_method_1_code 45 (.aload_n 2) 1 46 := ⟨by decide +kernel, rfl⟩
theorem own_d1_46 : own_D prog_3_method_1_code 46 (.iload_n 3) 1 47 := ⟨by decide +kernel, rfl⟩
theorem own_d1_47 : own_D prog_3_method_1_code 47 (.daload) 1 48 := ⟨by decide +kernel, rfl⟩
theorem own_d1_48 : own_D prog_3_method_1_code 48 (.dstore 4) 2 50 := ⟨by decide +kernel, rfl⟩
theorem own_d1_50 : own_D prog_3_method_1_code 50 (.dload 4) 2 52 := ⟨by decide +kernel, rfl⟩
theorem own_d1_52 : own_D prog_3_method_1_code 52 (.dconst 0) 1 53 := ⟨by decide +kernel, rfl⟩
theorem own_d1_53 : own_D prog_3_method_1_code 53 (.dcmp .l) 1 54 := ⟨by decide +kernel, rfl⟩
theorem own_d1_54 : own_B prog_3_method_1_code 54 (.ifCond .lt 10) 10 57 64 := ⟨by decide +kernel, rfl, by decide, by decide⟩
theorem own_d1_57 : own_D prog_3_method_1_code 57 (.dload 4) 2 59 := ⟨by decide +kernel, rfl⟩
theorem own_d1_59 : own_D prog_3_method_1_code 59 (.dconst 1) 1 60 := ⟨by decide +kernel, rfl⟩
theorem own_d1_60 : own_D prog_3_method_1_code 60 (.dcmp .g) 1 61 := ⟨by decide +kernel, rfl⟩
theorem own_d1_61 : own_B prog_3_method_1_code 61 (.ifCond .le 21) 21 64 82 := ⟨by decide +kernel, rfl, by decide, by decide⟩
theorem own_d1_82 : own_D prog_3_method_1_code 82 (.iinc 3 1) 3 85 := ⟨by decide +kernel, rfl⟩
theorem own_d1_85 : own_B prog_3_method_1_code 85 (.goto (-46)) (-46) 88 39 := ⟨by decide +kernel, rfl, by decide, by decide⟩
theorem own_d1_88 : own_D prog_3_method_1_code 88 (.aload_n 0) 1 89 := ⟨by decide +kernel, rfl⟩
theorem own_d1_89 : own_D prog_3_method_1_code 89 (.iload_n 1) 1 90 := ⟨by decide +kernel, rfl⟩
theorem own_d1_90 : own_D prog_3_method_1_code 90 (.putfield 21) 3 93 := ⟨by decide +kernel, rfl⟩
theorem own_d1_93 : own_D prog_3_method_1_code 93 (.aload_n 0) 1 94 := ⟨by decide +kernel, rfl⟩
theorem own_d1_94 : own_D prog_3_method_1_code 94 (.aload_n 2) 1 95 := ⟨by decide +kernel, rfl⟩
theorem own_d1_95 : own_D prog_3_method_1_code 95 (.invokevirtual 27) 3 98 := ⟨by decide +kernel, rfl⟩
theorem own_d1_98 : own_D prog_3_method_1_code 98 (.checkcast 28) 3 101 := ⟨by decide +kernel, rfl⟩
theorem own_d1_101 : own_D prog_3_method_1_code 101 (.putfield 33) 3 104 := ⟨by decide +kernel, rfl⟩
theorem own_d1_104 : own_D prog_3_method_1_code 104 (.return_) 1 105 := ⟨by decide +kernel, rfl⟩
theorem own_d0_13 : own_D method_2_code 13 (.iload_n 0) 1 14 := ⟨by decide +kernel, rfl⟩
theorem own_d0_14 : own_D method_2_code 14 (.iconst 2) 1 15 := ⟨by decide +kernel, rfl⟩
theorem own_d0_15 : own_B method_2_code 15 (.if_icmp .ne 17) 17 18 32 := ⟨by decide +kernel, rfl, by decide, by decide⟩
theorem own_d0_18 : own_D method_2_code 18 (.iconst 2) 1 19 := ⟨by decide +kernel, rfl⟩
theorem own_d0_19 : own_D method_2_code 19 (.newarray .double) 2 21 := ⟨by decide +kernel, rfl⟩
theorem own_d0_21 : own_D method_2_code 21 (.dup) 1 22 := ⟨by decide +kernel, rfl⟩
theorem own_d0_22 : own_D method_2_code 22 (.iconst 0) 1 23 := ⟨by decide +kernel, rfl⟩
theorem own_d0_23 : own_D method_2_code 23 (.dload_n 1) 1 24 := ⟨by decide +kernel, rfl⟩
theorem own_d0_24 : own_D method_2_code 24 (.dastore) 1 25 := ⟨by decide +kernel, rfl⟩
theorem own_d0_25 : own_D method_2_code 25 (.dup) 1 26 := ⟨by decide +kernel, rfl⟩
theorem own_d0_26 : own_D method_2_code 26 (.iconst 1) 1 27 := ⟨by decide +kernel, rfl⟩
theorem own_d0_27 : own_D method_2_code 27 (.ldc2_w 7) 3 30 := ⟨by decide +kernel, rfl⟩
theorem own_d0_30 : own_D method_2_code 30 (.dastore) 1 31 := ⟨by decide +kernel, rfl⟩
theorem own_d0_31 : own_D method_2_code 31 (.areturn) 1 32 := ⟨by decide +kernel, rfl⟩
theorem own_d0_32 : own_D method_2_code 32 (.iload_n 0) 1 33 := ⟨by decide +kernel, rfl⟩
theorem own_d0_33 : own_D method_2_code 33 (.iconst 3) 1 34 := ⟨by decide +kernel, rfl⟩
theorem own_d0_34 : own_B method_2_code 34 (.if_icmp .ne 21) 21 37 55 := ⟨by decide +kernel, rfl, by decide, by decide⟩
theorem own_d0_37 : own_D method_2_code 37 (.iconst 3) 1 38 := ⟨by decide +kernel, rfl⟩
theorem own_d0_38 : own_D method_2_code 38 (.newarray .double) 2 40 := ⟨by decide +kernel, rfl⟩
theorem own_d0_40 : own_D method_2_code 40 (.dup) 1 41 := ⟨by decide +kernel, rfl⟩
theorem own_d0_41 : own_D method_2_code 41 (.iconst 0) 1 42 := ⟨by decide +kernel, rfl⟩
theorem own_d0_42 : own_D method_2_code 42 (.ldc2_w 7) 3 45 := ⟨by decide +kernel, rfl⟩
theorem own_d0_45 : own_D method_2_code 45 (.dastore) 1 46 := ⟨by decide +kernel, rfl⟩
theorem own_d0_46 : own_D method_2_code 46 (.dup) 1 47 := ⟨by decide +kernel, rfl⟩
theorem own_d0_47 : own_D method_2_code 47 (.iconst 1) 1 48 := ⟨by decide +kernel, rfl⟩
theorem own_d0_48 : own_D method_2_code 48 (.dload_n 1) 1 49 := ⟨by decide +kernel, rfl⟩
theorem own_d0_49 : own_D method_2_code 49 (.dastore) 1 50 := ⟨by decide +kernel, rfl⟩
theorem own_d0_50 : own_D method_2_code 50 (.dup) 1 51 := ⟨by decide +kernel, rfl⟩
theorem own_d0_51 : own_D method_2_code 51 (.iconst 2) 1 52 := ⟨by decide +kernel, rfl⟩
theorem own_d0_52 : own_D method_2_code 52 (.dconst 1) 1 53 := ⟨by decide +kernel, rfl⟩
theorem own_d0_53 : own_D method_2_code 53 (.dastore) 1 54 := ⟨by decide +kernel, rfl⟩
theorem own_d0_54 : own_D method_2_code 54 (.areturn) 1 55 := ⟨by decide +kernel, rfl⟩
theorem own_d0_55 : own_D method_2_code 55 (.iconst 4) 1 56 := ⟨by decide +kernel, rfl⟩
theorem own_d0_56 : own_D method_2_code 56 (.newarray .double) 2 58 := ⟨by decide +kernel, rfl⟩
theorem own_d0_58 : own_D method_2_code 58 (.dup) 1 59 := ⟨by decide +kernel, rfl⟩
theorem own_d0_59 : own_D method_2_code 59 (.iconst 0) 1 60 := ⟨by decide +kernel, rfl⟩
theorem own_d0_60 : own_D method_2_code 60 (.dconst 0) 1 61 := ⟨by decide +kernel, rfl⟩
theorem own_d0_61 : own_D method_2_code 61 (.dastore) 1 62 := ⟨by decide +kernel, rfl⟩
theorem own_d0_62 : own_D method_2_code 62 (.dup) 1 63 := ⟨by decide +kernel, rfl⟩
theorem own_d0_63 : own_D method_2_code 63 (.iconst 1) 1 64 := ⟨by decide +kernel, rfl⟩
theorem own_d0_64 : own_D method_2_code 64 (.ldc2_w 7) 3 67 := ⟨by decide +kernel, rfl⟩
theorem own_d0_67 : own_D method_2_code 67 (.dastore) 1 68 := ⟨by decide +kernel, rfl⟩
theorem own_d0_68 : own_D method_2_code 68 (.dup) 1 69 := ⟨by decide +kernel, rfl⟩
theorem own_d0_69 : own_D method_2_code 69 (.iconst 2) 1 70 := ⟨by decide +kernel, rfl⟩
theorem own_d0_70 : own_D method_2_code 70 (.dload_n 1) 1 71 := ⟨by decide +kernel, rfl⟩
theorem own_d0_71 : own_D method_2_code 71 (.dastore) 1 72 := ⟨by decide +kernel, rfl⟩
theorem own_d0_72 : own_D method_2_code 72 (.dup) 1 73 := ⟨by decide +kernel, rfl⟩
theorem own_d0_73 : own_D method_2_code 73 (.iconst 3) 1 74 := ⟨by decide +kernel, rfl⟩
theorem own_d0_74 : own_D method_2_code 74 (.dconst 1) 1 75 := ⟨by decide +kernel, rfl⟩
theorem own_d0_75 : own_D method_2_code 75 (.dastore) 1 76 := ⟨by decide +kernel, rfl⟩
theorem own_d0_76 : own_D method_2_code 76 (.areturn) 1 77 := ⟨by decide +kernel, rfl⟩
theorem own_d2_0 : own_D prog_3_method_4_code 0 (.aload_n 0) 1 1 := ⟨by decide +kernel, rfl⟩
theorem own_d2_1 : own_D prog_3_method_4_code 1 (.getfield 21) 3 4 := ⟨by decide +kernel, rfl⟩
theorem own_d2_4 : own_D prog_3_method_4_code 4 (.aload_n 0) 1 5 := ⟨by decide +kernel, rfl⟩
theorem own_d2_5 : own_D prog_3_method_4_code 5 (.getfield 33) 3 8 := ⟨by decide +kernel, rfl⟩
theorem own_d2_8 : own_D prog_3_method_4_code 8 (.arraylength) 1 9 := ⟨by decide +kernel, rfl⟩
theorem own_d2_9 : own_D prog_3_method_4_code 9 (.iadd) 1 10 := ⟨by decide +kernel, rfl⟩
theorem own_d2_10 : own_D prog_3_method_4_code 10 (.iconst 1) 1 11 := ⟨by decide +kernel, rfl⟩
theorem own_d2_11 : own_D prog_3_method_4_code 11 (.isub) 1 12 := ⟨by decide +kernel, rfl⟩
theorem own_d2_12 : own_D prog_3_method_4_code 12 (.ireturn) 1 13 := ⟨by decide +kernel, rfl⟩
theorem own_d3_0 : own_D prog_3_method_7_code 0 (.iload_n 1) 1 1 := ⟨by decide +kernel, rfl⟩
theorem own_d3_1 : own_D prog_3_method_7_code 1 (.aload_n 0) 1 2 := ⟨by decide +kernel, rfl⟩
theorem own_d3_2 : own_D prog_3_method_7_code 2 (.getfield 21) 3 5 := ⟨by decide +kernel, rfl⟩
theorem own_d3_5 : own_B prog_3_method_7_code 5 (.if_icmp .lt 11) 11 8 16 := ⟨by decide +kernel, rfl, by decide, by decide⟩
theorem own_d3_8 : own_D prog_3_method_7_code 8 (.iload_n 1) 1 9 := ⟨by decide +kernel, rfl⟩
theorem own_d3_9 : own_D prog_3_method_7_code 9 (.aload_n 0) 1 10 := ⟨by decide +kernel, rfl⟩
theorem own_d3_10 : own_D prog_3_method_7_code 10 (.invokevirtual 49) 3 13 := ⟨by decide +kernel, rfl⟩
theorem own_d3_13 : own_B prog_3_method_7_code 13 (.if_icmp .le 25) 25 16 38 := ⟨by decide +kernel, rfl, by decide, by decide⟩
theorem own_d3_38 : own_D prog_3_method_7_code 38 (.return_) 1 39 := ⟨by decide +kernel, rfl⟩
theorem own_d4_0 : own_D jdk_30_method_1_code 0 (.aload_n 0) 1 1 := ⟨by decide +kernel, rfl⟩
theorem own_d4_1 : own_D jdk_30_method_1_code 1 (.invokespecial 1) 3 4 := ⟨by decide +kernel, rfl⟩
theorem own_d4_4 : own_D jdk_30_method_1_code 4 (.return_) 1 5 := ⟨by decide +kernel, rfl⟩
theorem own_d5_0 : own_D jdk_31_method_11_code 0 (.aload_n 0) 1 1 := ⟨by decide +kernel, rfl⟩
theorem own_d5_1 : own_B jdk_31_method_11_code 1 (.ifnonnull 12) 12 4 13 := ⟨by decide +kernel, rfl, by decide, by decide⟩
theorem own_d5_13 : own_D jdk_31_method_11_code 13 (.aload_n 0) 1 14 := ⟨by decide +kernel, rfl⟩
theorem own_d5_14 : own_D jdk_31_method_11_code 14 (.areturn) 1 15 := ⟨by decide +kernel, rfl⟩
theorem own_d6_0 : own_D prog_1_method_1_code 0 (.aload_n 0) 1 1 := ⟨by decide +kernel, rfl⟩
theorem own_d6_1 : own_D prog_1_method_1_code 1 (.invokespecial 1) 3 4 := ⟨by decide +kernel, rfl⟩
theorem own_d6_4 : own_D prog_1_method_1_code 4 (.aload_n 1) 1 5 := ⟨by decide +kernel, rfl⟩
theorem own_d6_5 : own_D prog_1_method_1_code 5 (.ldc 7) 2 7 := ⟨by decide +kernel, rfl⟩
theorem own_d6_7 : own_D prog_1_method_1_code 7 (.invokestatic 9) 3 10 := ⟨by decide +kernel, rfl⟩
theorem own_d6_10 : own_D prog_1_method_1_code 10 (.pop) 1 11 := ⟨by decide +kernel, rfl⟩
theorem own_d6_11 : own_D prog_1_method_1_code 11 (.aload_n 1) 1 12 := ⟨by decide +kernel, rfl⟩
theorem own_d6_12 : own_D prog_1_method_1_code 12 (.iload_n 2) 1 13 := ⟨by decide +kernel, rfl⟩
theorem own_d6_13 : own_D prog_1_method_1_code 13 (.invokevirtual 15) 3 16 := ⟨by decide +kernel, rfl⟩
theorem own_d6_16 : own_D prog_1_method_1_code 16 (.aload_n 0) 1 17 := ⟨by decide +kernel, rfl⟩
theorem own_d6_17 : own_D prog_1_method_1_code 17 (.aload_n 1) 1 18 := ⟨by decide +kernel, rfl⟩
theorem own_d6_18 : own_D prog_1_method_1_code 18 (.putfield 21) 3 21 := ⟨by decide +kernel, rfl⟩
theorem own_d6_21 : own_D prog_1_method_1_code 21 (.aload_n 0) 1 22 := ⟨by decide +kernel, rfl⟩
theorem own_d6_22 : own_D prog_1_method_1_code 22 (.iload_n 2) 1 23 := ⟨by decide +kernel, rfl⟩
theorem own_d6_23 : own_D prog_1_method_1_code 23 (.putfield 26) 3 26 := ⟨by decide +kernel, rfl⟩
theorem own_d6_26 : own_D prog_1_method_1_code 26 (.return_) 1 27 := ⟨by decide +kernel, rfl⟩
theorem own_d7_0 : own_D prog_1_method_3_code 0 (.aload_n 0) 1 1 := ⟨by decide +kernel, rfl⟩
theorem own_d7_1 : own_D prog_1_method_3_code 1 (.getfield 21) 3 4 := ⟨by decide +kernel, rfl⟩
theorem own_d7_4 : own_D prog_1_method_3_code 4 (.invokevirtual 34) 3 7 := ⟨by decide +kernel, rfl⟩
theorem own_d7_7 : own_D prog_1_method_3_code 7 (.aload_n 0) 1 8 := ⟨by decide +kernel, rfl⟩
theorem own_d7_8 : own_D prog_1_method_3_code 8 (.getfield 26) 3 11 := ⟨by decide +kernel, rfl⟩
theorem own_d7_11 : own_D prog_1_method_3_code 11 (.isub) 1 12 := ⟨by decide +kernel, rfl⟩
theorem own_d7_12 : own_D prog_1_method_3_code 12 (.ireturn) 1 13 := ⟨by decide +kernel, rfl⟩
theorem own_d8_0 : own_D code 0 (.iload_n 2) 1 1 := ⟨by decide +kernel, rfl⟩
theorem own_d8_1 : own_D code 1 (.iconst 3) 1 2 := ⟨by decide +kernel, rfl⟩
theorem own_d8_2 : own_D code 2 (.iand) 1 3 := ⟨by decide +kernel, rfl⟩
theorem own_d8_3 : own_D code 3 (.iconst 1) 1 4 := ⟨by decide +kernel, rfl⟩
theorem own_d8_4 : own_D code 4 (.iadd) 1 5 := ⟨by decide +kernel, rfl⟩
theorem own_d8_5 : own_D code 5 (.istore 4) 2 7 := ⟨by decide +kernel, rfl⟩
theorem own_d8_7 : own_D code 7 (.iload_n 0) 1 8 := ⟨by decide +kernel, rfl⟩
theorem own_d8_8 : own_D code 8 (.ldc 9) 2 10 := ⟨by decide +kernel, rfl⟩
theorem own_d8_10 : own_D code 10 (.iand) 1 11 := ⟨by decide +kernel, rfl⟩
theorem own_d8_11 : own_D code 11 (.ldc 12) 2 13 := ⟨by decide +kernel, rfl⟩
theorem own_d8_13 : own_D code 13 (.irem) 1 14 := ⟨by decide +kernel, rfl⟩
theorem own_d8_14 : own_D code 14 (.istore 5) 2 16 := ⟨by decide +kernel, rfl⟩
theorem own_d8_16 : own_D code 16 (.iload_n 1) 1 17 := ⟨by decide +kernel, rfl⟩
theorem own_d8_17 : own_D code 17 (.ldc 9) 2 19 := ⟨by decide +kernel, rfl⟩
theorem own_d8_19 : own_D code 19 (.iand) 1 20 := ⟨by decide +kernel, rfl⟩
theorem own_d8_20 : own_D code 20 (.iload 4) 2 22 := ⟨by decide +kernel, rfl⟩
theorem own_d8_22 : own_D code 22 (.irem) 1 23 := ⟨by decide +kernel, rfl⟩
theorem own_d8_23 : own_D code 23 (.istore 6) 2 25 := ⟨by decide +kernel, rfl⟩
theorem own_d8_25 : own_D code 25 (.iload 5) 2 27 := ⟨by decide +kernel, rfl⟩
theorem own_d8_27 : own_D code 27 (.iload 6) 2 29 := ⟨by decide +kernel, rfl⟩
theorem own_d8_29 : own_D code 29 (.iadd) 1 30 := ⟨by decide +kernel, rfl⟩
theorem own_d8_30 : own_D code 30 (.istore 7) 2 32 := ⟨by decide +kernel, rfl⟩
theorem own_d8_32 : own_D code 32 (.iload_n 3) 1 33 := ⟨by decide +kernel, rfl⟩
theorem own_d8_33 : own_D code 33 (.iconst 1) 1 34 := ⟨by decide +kernel, rfl⟩
theorem own_d8_34 : own_D code 34 (.iand) 1 35 := ⟨by decide +kernel, rfl⟩
theorem own_d8_35 : own_D code 35 (.i2d) 1 36 := ⟨by decide +kernel, rfl⟩
theorem own_d8_36 : own_D code 36 (.dstore 8) 2 38 := ⟨by decide +kernel, rfl⟩
theorem own_d8_38 : own_D code 38 (.new 13) 3 41 := ⟨by decide +kernel, rfl⟩
theorem own_d8_41 : own_D code 41 (.dup) 1 42 := ⟨by decide +kernel, rfl⟩
theorem own_d8_42 : own_D code 42 (.iload 5) 2 44 := ⟨by decide +kernel, rfl⟩
theorem own_d8_44 : own_D code 44 (.iload 4) 2 46 := ⟨by decide +kernel, rfl⟩
theorem own_d8_46 : own_D code 46 (.dload 8) 2 48 := ⟨by decide +kernel, rfl⟩
theorem own_d8_48 : own_D code 48 (.invokestatic 15) 3 51 := ⟨by decide +kernel, rfl⟩
theorem own_d8_51 : own_D code 51 (.invokespecial 21) 3 54 := ⟨by decide +kernel, rfl⟩
theorem own_d8_54 : own_D code 54 (.astore 10) 2 56 := ⟨by decide +kernel, rfl⟩
theorem own_d8_56 : own_D code 56 (.new 24) 3 59 := ⟨by decide +kernel, rfl⟩
theorem own_d8_59 : own_D code 59 (.dup) 1 60 := ⟨by decide +kernel, rfl⟩
theorem own_d8_60 : own_D code 60 (.aload 10) 2 62 := ⟨by decide +kernel, rfl⟩
theorem own_d8_62 : own_D code 62 (.iload 7) 2 64 := ⟨by decide +kernel, rfl⟩
theorem own_d8_64 : own_D code 64 (.invokespecial 26) 3 67 := ⟨by decide +kernel, rfl⟩
theorem own_d8_67 : own_D code 67 (.astore 11) 2 69 := ⟨by decide +kernel, rfl⟩
theorem own_d8_69 : own_D code 69 (.aload 11) 2 71 := ⟨by decide +kernel, rfl⟩
theorem own_d8_71 : own_D code 71 (.invokevirtual 29) 3 74 := ⟨by decide +kernel, rfl⟩
theorem own_d8_74 : own_D code 74 (.istore 12) 2 76 := ⟨by decide +kernel, rfl⟩
theorem own_d8_76 : own_D code 76 (.iload 12) 2 78 := ⟨by decide +kernel, rfl⟩
theorem own_d8_78 : own_D code 78 (.iload 4) 2 80 := ⟨by decide +kernel, rfl⟩
theorem own_d8_80 : own_D code 80 (.iconst 1) 1 81 := ⟨by decide +kernel, rfl⟩
theorem own_d8_81 : own_D code 81 (.isub) 1 82 := ⟨by decide +kernel, rfl⟩
theorem own_d8_82 : own_D code 82 (.iload 6) 2 84 := ⟨by decide +kernel, rfl⟩
theorem own_d8_84 : own_D code 84 (.isub) 1 85 := ⟨by decide +kernel, rfl⟩
theorem own_d8_85 : own_B code 85 (.if_icmp .ne 7) 7 88 92 := ⟨by decide +kernel, rfl, by decide, by decide⟩
theorem own_d8_88 : own_D code 88 (.iconst 1) 1 89 := ⟨by decide +kernel, rfl⟩
theorem own_d8_89 : own_B code 89 (.goto 4) 4 92 93 := ⟨by decide +kernel, rfl, by decide, by decide⟩
theorem own_d8_93 : own_D code 93 (.ireturn) 1 94 := ⟨by decide +kernel, rfl⟩
theorem own_pd0 : parseMethodDescriptor "()I" = some ⟨[], some .int⟩ := by decide +kernel
theorem own_pd1 : parseMethodDescriptor "()V" = some ⟨[], none⟩ := by decide +kernel
theorem own_pd2 : parseMethodDescriptor "(Ljava/lang/Object;Ljava/lang/String;)Ljava/lang/Object;" = some ⟨[(.object "java/lang/Object"), (.object "java/lang/String")], some (.object "java/lang/Object")⟩ := by decide +kernel
theorem own_pd3 : parseMethodDescriptor "(I)V" = some ⟨[.int], none⟩ := by decide +kernel
theorem own_pd4 : parseMethodDescriptor "(ID)[D" = some ⟨[.int, .double], some (.array .double)⟩ := by decide +kernel
theorem own_pd5 : parseMethodDescriptor "(I[D)V" = some ⟨[.int, (.array .double)], none⟩ := by decide +kernel
theorem own_pd6 : parseMethodDescriptor "(Lcom/example/vestline/vestline/actuarial/MortalityTable;I)V" = some ⟨[(.object "com/example/vestline/vestline/actuarial/MortalityTable"), .int], none⟩ := by decide +kernel
abbrev own_MT (a : Addr) (f0 f1 : Value) : own_O := (a, "com/example/vestline/vestline/actuarial/MortalityTable", [("com/example/vestline/vestline/actuarial/MortalityTable", "firstAge", "I", f0), ("com/example/vestline/vestline/actuarial/MortalityTable", "deathRates", "[D", f1)])
theorem own_MT_F {Z : State} {a0 : Array Value} (hw : own_Z Z a0) : ∀ f ∈ ([("com/example/vestline/vestline/actuarial/MortalityTable", "firstAge", "I", (.int (0 : Int32))), ("com/example/vestline/vestline/actuarial/MortalityTable", "deathRates", "[D", .null)] : List (String × String × String × Value)), Laid Z a0 "com/example/vestline/vestline/actuarial/MortalityTable" f.1 f.2.1 f.2.2.1 ∧ ∃ ty, parseFieldDescriptor f.2.2.1 = some ty ∧ f.2.2.2 = defaultValue ty := by
  intro f hf
  simp only [List.mem_cons, List.not_mem_nil, or_false] at hf
  rcases hf with rfl | rfl
  · exact ⟨Or.inr (own_w18 hw), .int, by decide +kernel, rfl⟩
  · exact ⟨Or.inr (own_w29 hw), (.array .double), by decide +kernel, rfl⟩
theorem own_MT_P {Z : State} {a0 : Array Value} (hw : own_Z Z a0) : ([("com/example/vestline/vestline/actuarial/MortalityTable", "firstAge", "I", (.int (0 : Int32))), ("com/example/vestline/vestline/actuarial/MortalityTable", "deathRates", "[D", .null)] : List (String × String × String × Value)).Pairwise (fun f g => Jvm.RoadKit.slotOf Z f.1 f.2.1 f.2.2.1 ≠ Jvm.RoadKit.slotOf Z g.1 g.2.1 g.2.2.1) := by
  simp only [List.pairwise_cons, List.mem_cons, List.not_mem_nil, or_false, forall_eq_or_imp, forall_eq, List.Pairwise.nil, and_true, false_implies, implies_true]
  exact slot_ne (C := "com/example/vestline/vestline/actuarial/MortalityTable") (Or.inr (own_w18 hw)) (Or.inr (own_w29 hw)) (by decide) (t := .int) (by decide +kernel) (t' := (.array .double)) (by decide +kernel)

abbrev own_LF (a : Addr) (f0 f1 : Value) : own_O := (a, "com/example/vestline/vestline/actuarial/Life", [("com/example/vestline/vestline/actuarial/Life", "table", "Lcom/example/vestline/vestline/actuarial/MortalityTable;", f0), ("com/example/vestline/vestline/actuarial/Life", "age", "I", f1)])
theorem own_LF_F {Z : State} {a0 : Array Value} (hw : own_Z Z a0) : ∀ f ∈ ([("com/example/vestline/vestline/actuarial/Life", "table", "Lcom/example/vestline/vestline/actuarial/MortalityTable;", .null), ("com/example/vestline/vestline/actuarial/Life", "age", "I", (.int (0 : Int32)))] : List (String × String × String × Value)), Laid Z a0 "com/example/vestline/vestline/actuarial/Life" f.1 f.2.1 f.2.2.1 ∧ ∃ ty, parseFieldDescriptor f.2.2.1 = some ty ∧ f.2.2.2 = defaultValue ty := by
  intro f hf
  simp only [List.mem_cons, List.not_mem_nil, or_false] at hf
  rcases hf with rfl | rfl
  · exact ⟨Or.inr (own_w65 hw), (.object "com/example/vestline/vestline/actuarial/MortalityTable"), by decide +kernel, rfl⟩
  · exact ⟨Or.inr (own_w67 hw), .int, by decide +kernel, rfl⟩
theorem own_LF_P {Z : State} {a0 : Array Value} (hw : own_Z Z a0) : ([("com/example/vestline/vestline/actuarial/Life", "table", "Lcom/example/vestline/vestline/actuarial/MortalityTable;", .null), ("com/example/vestline/vestline/actuarial/Life", "age", "I", (.int (0 : Int32)))] : List (String × String × String × Value)).Pairwise (fun f g => Jvm.RoadKit.slotOf Z f.1 f.2.1 f.2.2.1 ≠ Jvm.RoadKit.slotOf Z g.1 g.2.1 g.2.2.1) := by
  simp only [List.pairwise_cons, List.mem_cons, List.not_mem_nil, or_false, forall_eq_or_imp, forall_eq, List.Pairwise.nil, and_true, false_implies, implies_true]
  exact slot_ne (C := "com/example/vestline/vestline/actuarial/Life") (Or.inr (own_w65 hw)) (Or.inr (own_w67 hw)) (by decide) (t := (.object "com/example/vestline/vestline/actuarial/MortalityTable")) (by decide +kernel) (t' := .int) (by decide +kernel)

theorem own_and3 (k : Int32) : k &&& 3 = 0 ∨ k &&& 3 = 1 ∨ k &&& 3 = 2 ∨ k &&& 3 = 3 := by
  have h : ∀ b : BitVec 32, b &&& 3#32 = 0#32 ∨ b &&& 3#32 = 1#32 ∨ b &&& 3#32 = 2#32 ∨ b &&& 3#32 = 3#32 := by
    intro b
    have q : (b &&& 3#32).toNat ≤ 3 := by rw [BitVec.toNat_and]; exact Nat.and_le_right
    bv_omega
  rcases h k.toBitVec with q | q | q | q
  · exact Or.inl (Int32.toBitVec_inj.mp q)
  · exact Or.inr (Or.inl (Int32.toBitVec_inj.mp q))
  · exact Or.inr (Or.inr (Or.inl (Int32.toBitVec_inj.mp q)))
  · exact Or.inr (Or.inr (Or.inr (Int32.toBitVec_inj.mp q)))
theorem own_and_bound (a b : Int32) (hb : 0 ≤ b.toInt) : 0 ≤ (a &&& b).toInt ∧ (a &&& b).toInt ≤ b.toInt := by
  have q : (a &&& b).toBitVec.toNat ≤ b.toBitVec.toNat := by
    show (a.toBitVec &&& b.toBitVec).toNat ≤ _
    rw [BitVec.toNat_and]; exact Nat.and_le_right
  have hb' : b.toInt = (b.toBitVec.toNat : Int) := by
    have : b.toInt = b.toBitVec.toInt := rfl
    rw [this] at hb ⊢
    rw [BitVec.toInt_eq_toNat_cond] at hb ⊢
    have := b.toBitVec.isLt
    split at hb <;> split <;> omega
  have hlt : 2 * b.toBitVec.toNat < 2 ^ 32 := by have := Int32.toInt_lt b; omega
  have : (a &&& b).toInt = (a &&& b).toBitVec.toInt := rfl
  rw [this, BitVec.toInt_eq_toNat_cond]
  split <;> omega
theorem own_add32 {a b : Int32} (h1 : -2147483648 ≤ a.toInt + b.toInt) (h2 : a.toInt + b.toInt ≤ 2147483647) : (a + b).toInt = a.toInt + b.toInt := by
  rw [Int32.toInt_add]; exact Int.bmod_eq_of_le (by omega) (by omega)
theorem own_sub32 {a b : Int32} (h1 : -2147483648 ≤ a.toInt - b.toInt) (h2 : a.toInt - b.toInt ≤ 2147483647) : (a - b).toInt = a.toInt - b.toInt := by
  rw [Int32.toInt_sub]; exact Int.bmod_eq_of_le (by omega) (by omega)
theorem own_mul32 {a b : Int32} (h1 : -2147483648 ≤ a.toInt * b.toInt) (h2 : a.toInt * b.toInt ≤ 2147483647) : (a * b).toInt = a.toInt * b.toInt := by
  rw [Int32.toInt_mul]; exact Int.bmod_eq_of_le (by omega) (by omega)
theorem own_rem32 {a b : Int32} (ha : 0 ≤ a.toInt) (hb : 0 < b.toInt) : 0 ≤ (a % b).toInt ∧ (a % b).toInt < b.toInt := by
  rw [Int32.toInt_mod]
  have h1 := Int.tmod_nonneg b.toInt ha
  have h2 := Int.tmod_lt_of_pos a.toInt hb
  omega
theorem own_i64 (a : Int32) : a.toInt64.toInt = a.toInt := by simp

theorem own_sa {Z : State} {a0 : Array Value} (hw : own_Z Z a0) : ∀ a ∈ Bundle.stringAtoms, a.before a0 Z = true := by
  intro a ha
  simp only [Bundle.stringAtoms, List.mem_cons, List.not_mem_nil, or_false] at ha
  rcases ha with rfl | rfl | rfl | rfl | rfl | rfl | rfl
  · exact own_w43 hw
  · exact own_w44 hw
  · exact own_w45 hw
  · exact own_w46 hw
  · exact own_w47 hw
  · exact own_w48 hw
  · exact own_w49 hw
theorem own_mask31 (a : Int32) : 0 ≤ (a &&& 2147483647).toInt := (own_and_bound a 2147483647 (by decide)).1
theorem own_one (k : Int32) : k &&& 1 = 0 ∨ k &&& 1 = 1 := by
  have h := own_and_bound k 1 (by decide)
  have e0 : (0 : Int32).toInt = 0 := rfl
  have e1 : (1 : Int32).toInt = 1 := rfl
  simp only [← Int32.toInt_inj]; omega
theorem own_last {fa N : Int32} (h0 : 0 ≤ fa.toInt) (hN : 1 ≤ N.toInt) (hm : fa.toInt + N.toInt ≤ 2147483648) : (fa + N - 1).toInt = fa.toInt + N.toInt - 1 := by
  have e1 : (1 : Int32).toInt = 1 := rfl
  have := Int32.toInt_lt N
  have q : fa + N - 1 = fa + (N - 1) := by rw [Int32.sub_eq_add_neg, Int32.add_assoc, ← Int32.sub_eq_add_neg]
  rw [q, own_add32] <;> rw [own_sub32 (by omega) (by omega)] <;> omega
theorem own_yr (a b c d : Int32) (h : b - 1 = d) : a + b - 1 - (a + c) = d - c := by
  subst h
  apply Int32.toBitVec_inj.mp
  show a.toBitVec + b.toBitVec - 1#32 - (a.toBitVec + c.toBitVec) = b.toBitVec - 1#32 - c.toBitVec
  bv_omega
set_option maxRecDepth 65536 in
set_option maxHeartbeats 40000000 in
theorem own_rates1_ef (m : MethodId) (x0 : Int32) (x1 : UInt64) : entryFrame m #[(.int x0), (.double x1)] 3 = mkF m 0 #[.val (.int x0), .val (.double x1), .second] [] := by first | (simp [entryFrame, mkF, argsToLocals, Value.category]; done) | rfl
set_option maxRecDepth 65536 in
set_option maxHeartbeats 40000000 in
theorem own_rates1 {l : Launch} {Z : State} {a0 : Array Value} (hw : own_Z Z a0) {h : Heap} {os : List own_O} {as : List own_A} {r : UInt64} (H : own_H Z h os as) : own_Met false l Z (⟨"com/example/vestline/vestline/actuarial/LifeYearsToEndPinLaw", "rates", "(ID)[D"⟩ : MethodName) method_2_code 3 (some (.array .double)) [] ({ frames := 0, cells := 1, slots := 1, locals := 0 } : Room) #[(.int (1 : Int32)), (.double r)] h (fun v h' => ∃ b, v = some (.ref b) ∧ own_H Z h' os ((b, .double, "[D", [(.double r)]) :: as)) := by
  refine own_met (by first | exact plainFor_of_name (by decide +kernel) | decide +kernel) ?_
  intro p e s m below meth c K
  refine own_cast (own_rates1_ef m _ _) ?_
  refine own_iloadN K own_d0_0 rfl ?_
  refine own_iconst K own_d0_1 (v := (1 : Int32)) rfl ?_
  refine own_icmpne K own_d0_2 (fun q => absurd q (by decide)) (fun _ => ?_)
  refine own_iconst K own_d0_5 (v := (1 : Int32)) rfl ?_
  refine own_newarray K own_d0_6 (ty := .double) rfl (own_w9 hw) H (q := 1) (by decide) (ad := "[D") (by decide +kernel) (vs := [(.double (0 : UInt64))]) rfl (by decide) (by decide) (by decide) ?_
  intro h1 a3 H2
  replace H2 : own_H Z h1 (os) ((a3, .double, "[D", [(.double (0 : UInt64))]) :: as) := H2
  refine own_dup K own_d0_8 rfl ?_
  refine own_iconst K own_d0_9 (v := (0 : Int32)) rfl ?_
  refine own_dloadN K own_d0_10 rfl ?_
  refine own_dastore K own_d0_11 H2 (i := 0) rfl (q := 0) (by decide) (own_le rfl) ?_
  intro h4 H5
  replace H5 : own_H Z h4 (os) ((a3, .double, "[D", [(.double r)]) :: as) := H5
  exact own_retA K rfl rfl own_d0_12 (by decide) (by decide) (⟨_, rfl, H5⟩)
set_option maxRecDepth 65536 in
set_option maxHeartbeats 40000000 in
theorem own_init1_0_ef (m : MethodId) (x0 : Addr) (x1 : Int32) (x2 : Addr) : entryFrame m #[(.ref x0), (.int x1), (.ref x2)] 6 = mkF m 0 #[.val (.ref x0), .val (.int x1), .val (.ref x2), .unset, .unset, .unset] [] := by first | (simp [entryFrame, mkF, argsToLocals, Value.category]; done) | rfl
set_option maxRecDepth 65536 in
set_option maxHeartbeats 40000000 in
theorem own_init1_0 {l : Launch} {Z : State} {a0 : Array Value} (hw : own_Z Z a0) {h : Heap} {os : List own_O} {as : List own_A} {a r : Addr} {fa : Int32} (h0 : 0 ≤ fa.toInt) (H : own_H Z h (own_MT a (.int (0 : Int32)) .null :: os) ((r, .double, "[D", [(.double (0 : UInt64))]) :: as)) : own_Met false l Z (⟨"com/example/vestline/vestline/actuarial/MortalityTable", "<init>", "(I[D)V"⟩ : MethodName) prog_3_method_1_code 6 none [] ({ frames := 1, cells := 1, slots := 1, locals := 20 } : Room) #[(.ref a), (.int fa), (.ref r)] h (fun v h' => v = none ∧ ∃ b, own_H Z h' (own_MT a (.int fa) (.ref b) :: os) ((b, .double, "[D", [(.double (0 : UInt64))]) :: (r, .double, "[D", [(.double (0 : UInt64))]) :: as)) := by
  refine own_met (by first | exact plainFor_of_name (by decide +kernel) | decide +kernel) ?_
  intro p e s m below meth c K
  refine own_cast (own_init1_0_ef m _ _ _) ?_
  refine own_aloadN K own_d1_0 rfl rfl ?_
  refine own_initO K own_d1_1 (own_w14 hw) (own_w15 hw) (own_w16 hw) rfl (by decide) (W := 0) (Nat.le_of_eq rfl) (by decide) ?_
  refine own_iloadN K own_d1_4 rfl ?_
  refine own_ifge K own_d1_5 (fun _ => ?_) (fun q => absurd (h0) q)
  refine own_aloadN K own_d1_22 rfl rfl ?_
  refine own_arraylength K own_d1_23 H (i := 0) rfl (N := (1 : Int32)) (rfl) ?_
  refine own_ifne K own_d1_24 (fun _ => ?_) (fun q => absurd (by decide) q)
  refine own_iconst K own_d1_37 (v := (0 : Int32)) rfl ?_
  refine own_istoreN K own_d1_38 (Ls' := #[.val (.ref a), .val (.int fa), .val (.ref r), .val (.int (0 : Int32)), .unset, .unset]) rfl ?_
  refine own_iloadN K own_d1_39 rfl ?_
  refine own_aloadN K own_d1_40 rfl rfl ?_
  refine own_arraylength K own_d1_41 H (i := 0) rfl (N := (1 : Int32)) (rfl) ?_
  refine own_icmpge K own_d1_42 (fun q => absurd q (by decide)) (fun _ => ?_)
  refine own_aloadN K own_d1_45 rfl rfl ?_
  refine own_iloadN K own_d1_46 rfl ?_
  refine own_daload K own_d1_47 H (i := 0) rfl (q := 0) (by decide) (rfl) ?_
  refine own_dstore K own_d1_48 (Ls' := #[.val (.ref a), .val (.int fa), .val (.ref r), .val (.int (0 : Int32)), .val (.double (0 : UInt64)), .second]) rfl ?_
  refine own_dload K own_d1_50 rfl ?_
  refine own_dconst0 K own_d1_52 (v := (0 : UInt64)) rfl ?_
  refine own_dcmp K own_d1_53 ?_
  refine own_topI (x' := (0 : Int32)) (by decide +kernel) ?_
  refine own_iflt K own_d1_54 (fun q => absurd q (by decide)) (fun _ => ?_)
  refine own_dload K own_d1_57 rfl ?_
  refine own_dconst1 K own_d1_59 (v := (4607182418800017408 : UInt64)) rfl ?_
  refine own_dcmp K own_d1_60 ?_
  refine own_topI (x' := (-1 : Int32)) (by decide +kernel) ?_
  refine own_ifle K own_d1_61 (fun _ => ?_) (fun q => absurd (by decide) q)
  refine own_iinc K own_d1_82 rfl (y := (1 : Int32)) (by decide) (Ls' := #[.val (.ref a), .val (.int fa), .val (.ref r), .val (.int (1 : Int32)), .val (.double (0 : UInt64)), .second]) rfl ?_
  refine own_goto K own_d1_85 ?_
  refine own_iloadN K own_d1_39 rfl ?_
  refine own_aloadN K own_d1_40 rfl rfl ?_
  refine own_arraylength K own_d1_41 H (i := 0) rfl (N := (1 : Int32)) (rfl) ?_
  refine own_icmpge K own_d1_42 (fun _ => ?_) (fun q => absurd (by decide) q)
  refine own_aloadN K own_d1_88 rfl rfl ?_
  refine own_iloadN K own_d1_89 rfl ?_
  refine own_putfield K own_d1_90 (host := "") (Or.inl (own_w17 hw)) Via.refl H (j := 0) rfl (q := 0) rfl (Or.inr ⟨(own_w18 hw), rfl, rfl⟩) (own_w3 hw) (ty := .int) (by decide +kernel) (rfl) rfl ?_
  intro h1 H2
  replace H2 : own_H Z h1 (own_MT a (.int fa) .null :: os) ((r, .double, "[D", [(.double (0 : UInt64))]) :: as) := H2
  refine own_aloadN K own_d1_93 rfl rfl ?_
  refine own_aloadN K own_d1_94 rfl rfl ?_
  refine own_clone K own_d1_95 (own_w19 hw) (own_w20 hw) (own_w24 hw) (own_w22 hw) (own_w23 hw) (own_w25 hw) H2 (j := 0) rfl (by decide) rfl (by decide) (W := 1) (Nat.le_of_eq rfl) (by decide) (by decide) (own_le rfl) ?_
  intro h3 a5 H4
  replace H4 : own_H Z h3 (own_MT a (.int fa) .null :: os) ((a5, .double, "[D", [(.double (0 : UInt64))]) :: (r, .double, "[D", [(.double (0 : UInt64))]) :: as) := H4
  refine own_checkcast K own_d1_98 (own_w26 hw) (Ins.self (H4.exaA (i := 0) rfl (by decide))) ?_
  refine own_putfield K own_d1_101 (host := "") (Or.inl (own_w28 hw)) Via.refl H4 (j := 0) rfl (q := 1) rfl (Or.inr ⟨(own_w29 hw), rfl, rfl⟩) (own_w3 hw) (ty := (.array .double)) (by decide +kernel) (rfl) rfl ?_
  intro h6 H7
  replace H7 : own_H Z h6 (own_MT a (.int fa) (.ref a5) :: os) ((a5, .double, "[D", [(.double (0 : UInt64))]) :: (r, .double, "[D", [(.double (0 : UInt64))]) :: as) := H7
  exact own_retV K own_d1_104 (by decide) (by decide) (⟨rfl, _, H7⟩)
set_option maxRecDepth 65536 in
set_option maxHeartbeats 40000000 in
theorem own_init1_1_ef (m : MethodId) (x0 : Addr) (x1 : Int32) (x2 : Addr) : entryFrame m #[(.ref x0), (.int x1), (.ref x2)] 6 = mkF m 0 #[.val (.ref x0), .val (.int x1), .val (.ref x2), .unset, .unset, .unset] [] := by first | (simp [entryFrame, mkF, argsToLocals, Value.category]; done) | rfl
set_option maxRecDepth 65536 in
set_option maxHeartbeats 40000000 in
theorem own_init1_1 {l : Launch} {Z : State} {a0 : Array Value} (hw : own_Z Z a0) {h : Heap} {os : List own_O} {as : List own_A} {a r : Addr} {fa : Int32} (h0 : 0 ≤ fa.toInt) (H : own_H Z h (own_MT a (.int (0 : Int32)) .null :: os) ((r, .double, "[D", [(.double (4607182418800017408 : UInt64))]) :: as)) : own_Met false l Z (⟨"com/example/vestline/vestline/actuarial/MortalityTable", "<init>", "(I[D)V"⟩ : MethodName) prog_3_method_1_code 6 none [] ({ frames := 1, cells := 1, slots := 1, locals := 20 } : Room) #[(.ref a), (.int fa), (.ref r)] h (fun v h' => v = none ∧ ∃ b, own_H Z h' (own_MT a (.int fa) (.ref b) :: os) ((b, .double, "[D", [(.double (4607182418800017408 : UInt64))]) :: (r, .double, "[D", [(.double (4607182418800017408 : UInt64))]) :: as)) := by
  refine own_met (by first | exact plainFor_of_name (by decide +kernel) | decide +kernel) ?_
  intro p e s m below meth c K
  refine own_cast (own_init1_1_ef m _ _ _) ?_
  refine own_aloadN K own_d1_0 rfl rfl ?_
  refine own_initO K own_d1_1 (own_w14 hw) (own_w15 hw) (own_w16 hw) rfl (by decide) (W := 0) (Nat.le_of_eq rfl) (by decide) ?_
  refine own_iloadN K own_d1_4 rfl ?_
  refine own_ifge K own_d1_5 (fun _ => ?_) (fun q => absurd (h0) q)
  refine own_aloadN K own_d1_22 rfl rfl ?_
  refine own_arraylength K own_d1_23 H (i := 0) rfl (N := (1 : Int32)) (rfl) ?_
  refine own_ifne K own_d1_24 (fun _ => ?_) (fun q => absurd (by decide) q)
  refine own_iconst K own_d1_37 (v := (0 : Int32)) rfl ?_
  refine own_istoreN K own_d1_38 (Ls' := #[.val (.ref a), .val (.int fa), .val (.ref r), .val (.int (0 : Int32)), .unset, .unset]) rfl ?_
  refine own_iloadN K own_d1_39 rfl ?_
  refine own_aloadN K own_d1_40 rfl rfl ?_
  refine own_arraylength K own_d1_41 H (i := 0) rfl (N := (1 : Int32)) (rfl) ?_
  refine own_icmpge K own_d1_42 (fun q => absurd q (by decide)) (fun _ => ?_)
  refine own_aloadN K own_d1_45 rfl rfl ?_
  refine own_iloadN K own_d1_46 rfl ?_
  refine own_daload K own_d1_47 H (i := 0) rfl (q := 0) (by decide) (rfl) ?_
  refine own_dstore K own_d1_48 (Ls' := #[.val (.ref a), .val (.int fa), .val (.ref r), .val (.int (0 : Int32)), .val (.double (4607182418800017408 : UInt64)), .second]) rfl ?_
  refine own_dload K own_d1_50 rfl ?_
  refine own_dconst0 K own_d1_52 (v := (0 : UInt64)) rfl ?_
  refine own_dcmp K own_d1_53 ?_
  refine own_topI (x' := (1 : Int32)) (by decide +kernel) ?_
  refine own_iflt K own_d1_54 (fun q => absurd q (by decide)) (fun _ => ?_)
  refine own_dload K own_d1_57 rfl ?_
  refine own_dconst1 K own_d1_59 (v := (4607182418800017408 : UInt64)) rfl ?_
  refine own_dcmp K own_d1_60 ?_
  refine own_topI (x' := (0 : Int32)) (by decide +kernel) ?_
  refine own_ifle K own_d1_61 (fun _ => ?_) (fun q => absurd (by decide) q)
  refine own_iinc K own_d1_82 rfl (y := (1 : Int32)) (by decide) (Ls' := #[.val (.ref a), .val (.int fa), .val (.ref r), .val (.int (1 : Int32)), .val (.double (4607182418800017408 : UInt64)), .second]) rfl ?_
  refine own_goto K own_d1_85 ?_
  refine own_iloadN K own_d1_39 rfl ?_
  refine own_aloadN K own_d1_40 rfl rfl ?_
  refine own_arraylength K own_d1_41 H (i := 0) rfl (N := (1 : Int32)) (rfl) ?_
  refine own_icmpge K own_d1_42 (fun _ => ?_) (fun q => absurd (by decide) q)
  refine own_aloadN K own_d1_88 rfl rfl ?_
  refine own_iloadN K own_d1_89 rfl ?_
  refine own_putfield K own_d1_90 (host := "") (Or.inl (own_w17 hw)) Via.refl H (j := 0) rfl (q := 0) rfl (Or.inr ⟨(own_w18 hw), rfl, rfl⟩) (own_w3 hw) (ty := .int) (by decide +kernel) (rfl) rfl ?_
  intro h1 H2
  replace H2 : own_H Z h1 (own_MT a (.int fa) .null :: os) ((r, .double, "[D", [(.double (4607182418800017408 : UInt64))]) :: as) := H2
  refine own_aloadN K own_d1_93 rfl rfl ?_
  refine own_aloadN K own_d1_94 rfl rfl ?_
  refine own_clone K own_d1_95 (own_w19 hw) (own_w20 hw) (own_w24 hw) (own_w22 hw) (own_w23 hw) (own_w25 hw) H2 (j := 0) rfl (by decide) rfl (by decide) (W := 1) (Nat.le_of_eq rfl) (by decide) (by decide) (own_le rfl) ?_
  intro h3 a5 H4
  replace H4 : own_H Z h3 (own_MT a (.int fa) .null :: os) ((a5, .double, "[D", [(.double (4607182418800017408 : UInt64))]) :: (r, .double, "[D", [(.double (4607182418800017408 : UInt64))]) :: as) := H4
  refine own_checkcast K own_d1_98 (own_w26 hw) (Ins.self (H4.exaA (i := 0) rfl (by decide))) ?_
  refine own_putfield K own_d1_101 (host := "") (Or.inl (own_w28 hw)) Via.refl H4 (j := 0) rfl (q := 1) rfl (Or.inr ⟨(own_w29 hw), rfl, rfl⟩) (own_w3 hw) (ty := (.array .double)) (by decide +kernel) (rfl) rfl ?_
  intro h6 H7
  replace H7 : own_H Z h6 (own_MT a (.int fa) (.ref a5) :: os) ((a5, .double, "[D", [(.double (4607182418800017408 : UInt64))]) :: (r, .double, "[D", [(.double (4607182418800017408 : UInt64))]) :: as) := H7
  exact own_retV K own_d1_104 (by decide) (by decide) (⟨rfl, _, H7⟩)
set_option maxRecDepth 65536 in
set_option maxHeartbeats 40000000 in
theorem own_rates2_ef (m : MethodId) (x0 : Int32) (x1 : UInt64) : entryFrame m #[(.int x0), (.double x1)] 3 = mkF m 0 #[.val (.int x0), .val (.double x1), .second] [] := by first | (simp [entryFrame, mkF, argsToLocals, Value.category]; done) | rfl
set_option maxRecDepth 65536 in
set_option maxHeartbeats 40000000 in
theorem own_rates2 {l : Launch} {Z : State} {a0 : Array Value} (hw : own_Z Z a0) {h : Heap} {os : List own_O} {as : List own_A} {r : UInt64} (H : own_H Z h os as) : own_Met false l Z (⟨"com/example/vestline/vestline/actuarial/LifeYearsToEndPinLaw", "rates", "(ID)[D"⟩ : MethodName) method_2_code 3 (some (.array .double)) [] ({ frames := 0, cells := 1, slots := 2, locals := 0 } : Room) #[(.int (2 : Int32)), (.double r)] h (fun v h' => ∃ b, v = some (.ref b) ∧ own_H Z h' os ((b, .double, "[D", [(.double r), (.double (4602678819172646912 : UInt64))]) :: as)) := by
  refine own_met (by first | exact plainFor_of_name (by decide +kernel) | decide +kernel) ?_
  intro p e s m below meth c K
  refine own_cast (own_rates2_ef m _ _) ?_
  refine own_iloadN K own_d0_0 rfl ?_
  refine own_iconst K own_d0_1 (v := (1 : Int32)) rfl ?_
  refine own_icmpne K own_d0_2 (fun _ => ?_) (fun q => absurd (by decide) q)
  refine own_iloadN K own_d0_13 rfl ?_
  refine own_iconst K own_d0_14 (v := (2 : Int32)) rfl ?_
  refine own_icmpne K own_d0_15 (fun q => absurd q (by decide)) (fun _ => ?_)
  refine own_iconst K own_d0_18 (v := (2 : Int32)) rfl ?_
  refine own_newarray K own_d0_19 (ty := .double) rfl (own_w9 hw) H (q := 2) (by decide) (ad := "[D") (by decide +kernel) (vs := [(.double (0 : UInt64)), (.double (0 : UInt64))]) rfl (by decide) (by decide) (by decide) ?_
  intro h1 a3 H2
  replace H2 : own_H Z h1 (os) ((a3, .double, "[D", [(.double (0 : UInt64)), (.double (0 : UInt64))]) :: as) := H2
  refine own_dup K own_d0_21 rfl ?_
  refine own_iconst K own_d0_22 (v := (0 : Int32)) rfl ?_
  refine own_dloadN K own_d0_23 rfl ?_
  refine own_dastore K own_d0_24 H2 (i := 0) rfl (q := 0) (by decide) (own_le rfl) ?_
  intro h4 H5
  replace H5 : own_H Z h4 (os) ((a3, .double, "[D", [(.double r), (.double (0 : UInt64))]) :: as) := H5
  refine own_dup K own_d0_25 rfl ?_
  refine own_iconst K own_d0_26 (v := (1 : Int32)) rfl ?_
  refine own_ldc2D K own_d0_27 (own_w10 hw) ?_
  refine own_dastore K own_d0_30 H5 (i := 0) rfl (q := 1) (by decide) (own_le rfl) ?_
  intro h6 H7
  replace H7 : own_H Z h6 (os) ((a3, .double, "[D", [(.double r), (.double (4602678819172646912 : UInt64))]) :: as) := H7
  exact own_retA K rfl rfl own_d0_31 (by decide) (by decide) (⟨_, rfl, H7⟩)
set_option maxRecDepth 65536 in
set_option maxHeartbeats 40000000 in
theorem own_init2_0_ef (m : MethodId) (x0 : Addr) (x1 : Int32) (x2 : Addr) : entryFrame m #[(.ref x0), (.int x1), (.ref x2)] 6 = mkF m 0 #[.val (.ref x0), .val (.int x1), .val (.ref x2), .unset, .unset, .unset] [] := by first | (simp [entryFrame, mkF, argsToLocals, Value.category]; done) | rfl
set_option maxRecDepth 65536 in
set_option maxHeartbeats 40000000 in
theorem own_init2_0 {l : Launch} {Z : State} {a0 : Array Value} (hw : own_Z Z a0) {h : Heap} {os : List own_O} {as : List own_A} {a r : Addr} {fa : Int32} (h0 : 0 ≤ fa.toInt) (H : own_H Z h (own_MT a (.int (0 : Int32)) .null :: os) ((r, .double, "[D", [(.double (0 : UInt64)), (.double (4602678819172646912 : UInt64))]) :: as)) : own_Met false l Z (⟨"com/example/vestline/vestline/actuarial/MortalityTable", "<init>", "(I[D)V"⟩ : MethodName) prog_3_method_1_code 6 none [] ({ frames := 1, cells := 1, slots := 2, locals := 20 } : Room) #[(.ref a), (.int fa), (.ref r)] h (fun v h' => v = none ∧ ∃ b, own_H Z h' (own_MT a (.int fa) (.ref b) :: os) ((b, .double, "[D", [(.double (0 : UInt64)), (.double (4602678819172646912 : UInt64))]) :: (r, .double, "[D", [(.double (0 : UInt64)), (.double (4602678819172646912 : UInt64))]) :: as)) := by
  refine own_met (by first | exact plainFor_of_name (by decide +kernel) | decide +kernel) ?_
  intro p e s m below meth c K
  refine own_cast (own_init2_0_ef m _ _ _) ?_
  refine own_aloadN K own_d1_0 rfl rfl ?_
  refine own_initO K own_d1_1 (own_w14 hw) (own_w15 hw) (own_w16 hw) rfl (by decide) (W := 0) (Nat.le_of_eq rfl) (by decide) ?_
  refine own_iloadN K own_d1_4 rfl ?_
  refine own_ifge K own_d1_5 (fun _ => ?_) (fun q => absurd (h0) q)
  refine own_aloadN K own_d1_22 rfl rfl ?_
  refine own_arraylength K own_d1_23 H (i := 0) rfl (N := (2 : Int32)) (rfl) ?_
  refine own_ifne K own_d1_24 (fun _ => ?_) (fun q => absurd (by decide) q)
  refine own_iconst K own_d1_37 (v := (0 : Int32)) rfl ?_
  refine own_istoreN K own_d1_38 (Ls' := #[.val (.ref a), .val (.int fa), .val (.ref r), .val (.int (0 : Int32)), .unset, .unset]) rfl ?_
  refine own_iloadN K own_d1_39 rfl ?_
  refine own_aloadN K own_d1_40 rfl rfl ?_
  refine own_arraylength K own_d1_41 H (i := 0) rfl (N := (2 : Int32)) (rfl) ?_
  refine own_icmpge K own_d1_42 (fun q => absurd q (by decide)) (fun _ => ?_)
  refine own_aloadN K own_d1_45 rfl rfl ?_
  refine own_iloadN K own_d1_46 rfl ?_
  refine own_daload K own_d1_47 H (i := 0) rfl (q := 0) (by decide) (rfl) ?_
  refine own_dstore K own_d1_48 (Ls' := #[.val (.ref a), .val (.int fa), .val (.ref r), .val (.int (0 : Int32)), .val (.double (0 : UInt64)), .second]) rfl ?_
  refine own_dload K own_d1_50 rfl ?_
  refine own_dconst0 K own_d1_52 (v := (0 : UInt64)) rfl ?_
  refine own_dcmp K own_d1_53 ?_
  refine own_topI (x' := (0 : Int32)) (by decide +kernel) ?_
  refine own_iflt K own_d1_54 (fun q => absurd q (by decide)) (fun _ => ?_)
  refine own_dload K own_d1_57 rfl ?_
  refine own_dconst1 K own_d1_59 (v := (4607182418800017408 : UInt64)) rfl ?_
  refine own_dcmp K own_d1_60 ?_
  refine own_topI (x' := (-1 : Int32)) (by decide +kernel) ?_
  refine own_ifle K own_d1_61 (fun _ => ?_) (fun q => absurd (by decide) q)
  refine own_iinc K own_d1_82 rfl (y := (1 : Int32)) (by decide) (Ls' := #[.val (.ref a), .val (.int fa), .val (.ref r), .val (.int (1 : Int32)), .val (.double (0 : UInt64)), .second]) rfl ?_
  refine own_goto K own_d1_85 ?_
  refine own_iloadN K own_d1_39 rfl ?_
  refine own_aloadN K own_d1_40 rfl rfl ?_
  refine own_arraylength K own_d1_41 H (i := 0) rfl (N := (2 : Int32)) (rfl) ?_
  refine own_icmpge K own_d1_42 (fun q => absurd q (by decide)) (fun _ => ?_)
  refine own_aloadN K own_d1_45 rfl rfl ?_
  refine own_iloadN K own_d1_46 rfl ?_
  refine own_daload K own_d1_47 H (i := 0) rfl (q := 1) (by decide) (rfl) ?_
  refine own_dstore K own_d1_48 (Ls' := #[.val (.ref a), .val (.int fa), .val (.ref r), .val (.int (1 : Int32)), .val (.double (4602678819172646912 : UInt64)), .second]) rfl ?_
  refine own_dload K own_d1_50 rfl ?_
  refine own_dconst0 K own_d1_52 (v := (0 : UInt64)) rfl ?_
  refine own_dcmp K own_d1_53 ?_
  refine own_topI (x' := (1 : Int32)) (by decide +kernel) ?_
  refine own_iflt K own_d1_54 (fun q => absurd q (by decide)) (fun _ => ?_)
  refine own_dload K own_d1_57 rfl ?_
  refine own_dconst1 K own_d1_59 (v := (4607182418800017408 : UInt64)) rfl ?_
  refine own_dcmp K own_d1_60 ?_
  refine own_topI (x' := (-1 : Int32)) (by decide +kernel) ?_
  refine own_ifle K own_d1_61 (fun _ => ?_) (fun q => absurd (by decide) q)
  refine own_iinc K own_d1_82 rfl (y := (2 : Int32)) (by decide) (Ls' := #[.val (.ref a), .val (.int fa), .val (.ref r), .val (.int (2 : Int32)), .val (.double (4602678819172646912 : UInt64)), .second]) rfl ?_
  refine own_goto K own_d1_85 ?_
  refine own_iloadN K own_d1_39 rfl ?_
  refine own_aloadN K own_d1_40 rfl rfl ?_
  refine own_arraylength K own_d1_41 H (i := 0) rfl (N := (2 : Int32)) (rfl) ?_
  refine own_icmpge K own_d1_42 (fun _ => ?_) (fun q => absurd (by decide) q)
  refine own_aloadN K own_d1_88 rfl rfl ?_
  refine own_iloadN K own_d1_89 rfl ?_
  refine own_putfield K own_d1_90 (host := "") (Or.inl (own_w17 hw)) Via.refl H (j := 0) rfl (q := 0) rfl (Or.inr ⟨(own_w18 hw), rfl, rfl⟩) (own_w3 hw) (ty := .int) (by decide +kernel) (rfl) rfl ?_
  intro h1 H2
  replace H2 : own_H Z h1 (own_MT a (.int fa) .null :: os) ((r, .double, "[D", [(.double (0 : UInt64)), (.double (4602678819172646912 : UInt64))]) :: as) := H2
  refine own_aloadN K own_d1_93 rfl rfl ?_
  refine own_aloadN K own_d1_94 rfl rfl ?_
  refine own_clone K own_d1_95 (own_w19 hw) (own_w20 hw) (own_w24 hw) (own_w22 hw) (own_w23 hw) (own_w25 hw) H2 (j := 0) rfl (by decide) rfl (by decide) (W := 1) (Nat.le_of_eq rfl) (by decide) (by decide) (own_le rfl) ?_
  intro h3 a5 H4
  replace H4 : own_H Z h3 (own_MT a (.int fa) .null :: os) ((a5, .double, "[D", [(.double (0 : UInt64)), (.double (4602678819172646912 : UInt64))]) :: (r, .double, "[D", [(.double (0 : UInt64)), (.double (4602678819172646912 : UInt64))]) :: as) := H4
  refine own_checkcast K own_d1_98 (own_w26 hw) (Ins.self (H4.exaA (i := 0) rfl (by decide))) ?_
  refine own_putfield K own_d1_101 (host := "") (Or.inl (own_w28 hw)) Via.refl H4 (j := 0) rfl (q := 1) rfl (Or.inr ⟨(own_w29 hw), rfl, rfl⟩) (own_w3 hw) (ty := (.array .double)) (by decide +kernel) (rfl) rfl ?_
  intro h6 H7
  replace H7 : own_H Z h6 (own_MT a (.int fa) (.ref a5) :: os) ((a5, .double, "[D", [(.double (0 : UInt64)), (.double (4602678819172646912 : UInt64))]) :: (r, .double, "[D", [(.double (0 : UInt64)), (.double (4602678819172646912 : UInt64))]) :: as) := H7
  exact own_retV K own_d1_104 (by decide) (by decide) (⟨rfl, _, H7⟩)
set_option maxRecDepth 65536 in
set_option maxHeartbeats 40000000 in
theorem own_init2_1_ef (m : MethodId) (x0 : Addr) (x1 : Int32) (x2 : Addr) : entryFrame m #[(.ref x0), (.int x1), (.ref x2)] 6 = mkF m 0 #[.val (.ref x0), .val (.int x1), .val (.ref x2), .unset, .unset, .unset] [] := by first | (simp [entryFrame, mkF, argsToLocals, Value.category]; done) | rfl
set_option maxRecDepth 65536 in
set_option maxHeartbeats 40000000 in
theorem own_init2_1 {l : Launch} {Z : State} {a0 : Array Value} (hw : own_Z Z a0) {h : Heap} {os : List own_O} {as : List own_A} {a r : Addr} {fa : Int32} (h0 : 0 ≤ fa.toInt) (H : own_H Z h (own_MT a (.int (0 : Int32)) .null :: os) ((r, .double, "[D", [(.double (4607182418800017408 : UInt64)), (.double (4602678819172646912 : UInt64))]) :: as)) : own_Met false l Z (⟨"com/example/vestline/vestline/actuarial/MortalityTable", "<init>", "(I[D)V"⟩ : MethodName) prog_3_method_1_code 6 none [] ({ frames := 1, cells := 1, slots := 2, locals := 20 } : Room) #[(.ref a), (.int fa), (.ref r)] h (fun v h' => v = none ∧ ∃ b, own_H Z h' (own_MT a (.int fa) (.ref b) :: os) ((b, .double, "[D", [(.double (4607182418800017408 : UInt64)), (.double (4602678819172646912 : UInt64))]) :: (r, .double, "[D", [(.double (4607182418800017408 : UInt64)), (.double (4602678819172646912 : UInt64))]) :: as)) := by
  refine own_met (by first | exact plainFor_of_name (by decide +kernel) | decide +kernel) ?_
  intro p e s m below meth c K
  refine own_cast (own_init2_1_ef m _ _ _) ?_
  refine own_aloadN K own_d1_0 rfl rfl ?_
  refine own_initO K own_d1_1 (own_w14 hw) (own_w15 hw) (own_w16 hw) rfl (by decide) (W := 0) (Nat.le_of_eq rfl) (by decide) ?_
  refine own_iloadN K own_d1_4 rfl ?_
  refine own_ifge K own_d1_5 (fun _ => ?_) (fun q => absurd (h0) q)
  refine own_aloadN K own_d1_22 rfl rfl ?_
  refine own_arraylength K own_d1_23 H (i := 0) rfl (N := (2 : Int32)) (rfl) ?_
  refine own_ifne K own_d1_24 (fun _ => ?_) (fun q => absurd (by decide) q)
  refine own_iconst K own_d1_37 (v := (0 : Int32)) rfl ?_
  refine own_istoreN K own_d1_38 (Ls' := #[.val (.ref a), .val (.int fa), .val (.ref r), .val (.int (0 : Int32)), .unset, .unset]) rfl ?_
  refine own_iloadN K own_d1_39 rfl ?_
  refine own_aloadN K own_d1_40 rfl rfl ?_
  refine own_arraylength K own_d1_41 H (i := 0) rfl (N := (2 : Int32)) (rfl) ?_
  refine own_icmpge K own_d1_42 (fun q => absurd q (by decide)) (fun _ => ?_)
  refine own_aloadN K own_d1_45 rfl rfl ?_
  refine own_iloadN K own_d1_46 rfl ?_
  refine own_daload K own_d1_47 H (i := 0) rfl (q := 0) (by decide) (rfl) ?_
  refine own_dstore K own_d1_48 (Ls' := #[.val (.ref a), .val (.int fa), .val (.ref r), .val (.int (0 : Int32)), .val (.double (4607182418800017408 : UInt64)), .second]) rfl ?_
  refine own_dload K own_d1_50 rfl ?_
  refine own_dconst0 K own_d1_52 (v := (0 : UInt64)) rfl ?_
  refine own_dcmp K own_d1_53 ?_
  refine own_topI (x' := (1 : Int32)) (by decide +kernel) ?_
  refine own_iflt K own_d1_54 (fun q => absurd q (by decide)) (fun _ => ?_)
  refine own_dload K own_d1_57 rfl ?_
  refine own_dconst1 K own_d1_59 (v := (4607182418800017408 : UInt64)) rfl ?_
  refine own_dcmp K own_d1_60 ?_
  refine own_topI (x' := (0 : Int32)) (by decide +kernel) ?_
  refine own_ifle K own_d1_61 (fun _ => ?_) (fun q => absurd (by decide) q)
  refine own_iinc K own_d1_82 rfl (y := (1 : Int32)) (by decide) (Ls' := #[.val (.ref a), .val (.int fa), .val (.ref r), .val (.int (1 : Int32)), .val (.double (4607182418800017408 : UInt64)), .second]) rfl ?_
  refine own_goto K own_d1_85 ?_
  refine own_iloadN K own_d1_39 rfl ?_
  refine own_aloadN K own_d1_40 rfl rfl ?_
  refine own_arraylength K own_d1_41 H (i := 0) rfl (N := (2 : Int32)) (rfl) ?_
  refine own_icmpge K own_d1_42 (fun q => absurd q (by decide)) (fun _ => ?_)
  refine own_aloadN K own_d1_45 rfl rfl ?_
  refine own_iloadN K own_d1_46 rfl ?_
  refine own_daload K own_d1_47 H (i := 0) rfl (q := 1) (by decide) (rfl) ?_
  refine own_dstore K own_d1_48 (Ls' := #[.val (.ref a), .val (.int fa), .val (.ref r), .val (.int (1 : Int32)), .val (.double (4602678819172646912 : UInt64)), .second]) rfl ?_
  refine own_dload K own_d1_50 rfl ?_
  refine own_dconst0 K own_d1_52 (v := (0 : UInt64)) rfl ?_
  refine own_dcmp K own_d1_53 ?_
  refine own_topI (x' := (1 : Int32)) (by decide +kernel) ?_
  refine own_iflt K own_d1_54 (fun q => absurd q (by decide)) (fun _ => ?_)
  refine own_dload K own_d1_57 rfl ?_
  refine own_dconst1 K own_d1_59 (v := (4607182418800017408 : UInt64)) rfl ?_
  refine own_dcmp K own_d1_60 ?_
  refine own_topI (x' := (-1 : Int32)) (by decide +kernel) ?_
  refine own_ifle K own_d1_61 (fun _ => ?_) (fun q => absurd (by decide) q)
  refine own_iinc K own_d1_82 rfl (y := (2 : Int32)) (by decide) (Ls' := #[.val (.ref a), .val (.int fa), .val (.ref r), .val (.int (2 : Int32)), .val (.double (4602678819172646912 : UInt64)), .second]) rfl ?_
  refine own_goto K own_d1_85 ?_
  refine own_iloadN K own_d1_39 rfl ?_
  refine own_aloadN K own_d1_40 rfl rfl ?_
  refine own_arraylength K own_d1_41 H (i := 0) rfl (N := (2 : Int32)) (rfl) ?_
  refine own_icmpge K own_d1_42 (fun _ => ?_) (fun q => absurd (by decide) q)
  refine own_aloadN K own_d1_88 rfl rfl ?_
  refine own_iloadN K own_d1_89 rfl ?_
  refine own_putfield K own_d1_90 (host := "") (Or.inl (own_w17 hw)) Via.refl H (j := 0) rfl (q := 0) rfl (Or.inr ⟨(own_w18 hw), rfl, rfl⟩) (own_w3 hw) (ty := .int) (by decide +kernel) (rfl) rfl ?_
  intro h1 H2
  replace H2 : own_H Z h1 (own_MT a (.int fa) .null :: os) ((r, .double, "[D", [(.double (4607182418800017408 : UInt64)), (.double (4602678819172646912 : UInt64))]) :: as) := H2
  refine own_aloadN K own_d1_93 rfl rfl ?_
  refine own_aloadN K own_d1_94 rfl rfl ?_
  refine own_clone K own_d1_95 (own_w19 hw) (own_w20 hw) (own_w24 hw) (own_w22 hw) (own_w23 hw) (own_w25 hw) H2 (j := 0) rfl (by decide) rfl (by decide) (W := 1) (Nat.le_of_eq rfl) (by decide) (by decide) (own_le rfl) ?_
  intro h3 a5 H4
  replace H4 : own_H Z h3 (own_MT a (.int fa) .null :: os) ((a5, .double, "[D", [(.double (4607182418800017408 : UInt64)), (.double (4602678819172646912 : UInt64))]) :: (r, .double, "[D", [(.double (4607182418800017408 : UInt64)), (.double (4602678819172646912 : UInt64))]) :: as) := H4
  refine own_checkcast K own_d1_98 (own_w26 hw) (Ins.self (H4.exaA (i := 0) rfl (by decide))) ?_
  refine own_putfield K own_d1_101 (host := "") (Or.inl (own_w28 hw)) Via.refl H4 (j := 0) rfl (q := 1) rfl (Or.inr ⟨(own_w29 hw), rfl, rfl⟩) (own_w3 hw) (ty := (.array .double)) (by decide +kernel) (rfl) rfl ?_
  intro h6 H7
  replace H7 : own_H Z h6 (own_MT a (.int fa) (.ref a5) :: os) ((a5, .double, "[D", [(.double (4607182418800017408 : UInt64)), (.double (4602678819172646912 : UInt64))]) :: (r, .double, "[D", [(.double (4607182418800017408 : UInt64)), (.double (4602678819172646912 : UInt64))]) :: as) := H7
  exact own_retV K own_d1_104 (by decide) (by decide) (⟨rfl, _, H7⟩)
set_option maxRecDepth 65536 in
set_option maxHeartbeats 40000000 in
theorem own_rates3_ef (m : MethodId) (x0 : Int32) (x1 : UInt64) : entryFrame m #[(.int x0), (.double x1)] 3 = mkF m 0 #[.val (.int x0), .val (.double x1), .second] [] := by first | (simp [entryFrame, mkF, argsToLocals, Value.category]; done) | rfl
set_option maxRecDepth 65536 in
set_option maxHeartbeats 40000000 in
theorem own_rates3 {l : Launch} {Z : State} {a0 : Array Value} (hw : own_Z Z a0) {h : Heap} {os : List own_O} {as : List own_A} {r : UInt64} (H : own_H Z h os as) : own_Met false l Z (⟨"com/example/vestline/vestline/actuarial/LifeYearsToEndPinLaw", "rates", "(ID)[D"⟩ : MethodName) method_2_code 3 (some (.array .double)) [] ({ frames := 0, cells := 1, slots := 3, locals := 0 } : Room) #[(.int (3 : Int32)), (.double r)] h (fun v h' => ∃ b, v = some (.ref b) ∧ own_H Z h' os ((b, .double, "[D", [(.double (4602678819172646912 : UInt64)), (.double r), (.double (4607182418800017408 : UInt64))]) :: as)) := by
  refine own_met (by first | exact plainFor_of_name (by decide +kernel) | decide +kernel) ?_
  intro p e s m below meth c K
  refine own_cast (own_rates3_ef m _ _) ?_
  refine own_iloadN K own_d0_0 rfl ?_
  refine own_iconst K own_d0_1 (v := (1 : Int32)) rfl ?_
  refine own_icmpne K own_d0_2 (fun _ => ?_) (fun q => absurd (by decide) q)
  refine own_iloadN K own_d0_13 rfl ?_
  refine own_iconst K own_d0_14 (v := (2 : Int32)) rfl ?_
  refine own_icmpne K own_d0_15 (fun _ => ?_) (fun q => absurd (by decide) q)
  refine own_iloadN K own_d0_32 rfl ?_
  refine own_iconst K own_d0_33 (v := (3 : Int32)) rfl ?_
  refine own_icmpne K own_d0_34 (fun q => absurd q (by decide)) (fun _ => ?_)
  refine own_iconst K own_d0_37 (v := (3 : Int32)) rfl ?_
  refine own_newarray K own_d0_38 (ty := .double) rfl (own_w9 hw) H (q := 3) (by decide) (ad := "[D") (by decide +kernel) (vs := [(.double (0 : UInt64)), (.double (0 : UInt64)), (.double (0 : UInt64))]) rfl (by decide) (by decide) (by decide) ?_
  intro h1 a3 H2
  replace H2 : own_H Z h1 (os) ((a3, .double, "[D", [(.double (0 : UInt64)), (.double (0 : UInt64)), (.double (0 : UInt64))]) :: as) := H2
  refine own_dup K own_d0_40 rfl ?_
  refine own_iconst K own_d0_41 (v := (0 : Int32)) rfl ?_
  refine own_ldc2D K own_d0_42 (own_w10 hw) ?_
  refine own_dastore K own_d0_45 H2 (i := 0) rfl (q := 0) (by decide) (own_le rfl) ?_
  intro h4 H5
  replace H5 : own_H Z h4 (os) ((a3, .double, "[D", [(.double (4602678819172646912 : UInt64)), (.double (0 : UInt64)), (.double (0 : UInt64))]) :: as) := H5
  refine own_dup K own_d0_46 rfl ?_
  refine own_iconst K own_d0_47 (v := (1 : Int32)) rfl ?_
  refine own_dloadN K own_d0_48 rfl ?_
  refine own_dastore K own_d0_49 H5 (i := 0) rfl (q := 1) (by decide) (own_le rfl) ?_
  intro h6 H7
  replace H7 : own_H Z h6 (os) ((a3, .double, "[D", [(.double (4602678819172646912 : UInt64)), (.double r), (.double (0 : UInt64))]) :: as) := H7
  refine own_dup K own_d0_50 rfl ?_
  refine own_iconst K own_d0_51 (v := (2 : Int32)) rfl ?_
  refine own_dconst1 K own_d0_52 (v := (4607182418800017408 : UInt64)) rfl ?_
  refine own_dastore K own_d0_53 H7 (i := 0) rfl (q := 2) (by decide) (own_le rfl) ?_
  intro h8 H9
  replace H9 : own_H Z h8 (os) ((a3, .double, "[D", [(.double (4602678819172646912 : UInt64)), (.double r), (.double (4607182418800017408 : UInt64))]) :: as) := H9
  exact own_retA K rfl rfl own_d0_54 (by decide) (by decide) (⟨_, rfl, H9⟩)
set_option maxRecDepth 65536 in
set_option maxHeartbeats 40000000 in
theorem own_init3_0_ef (m : MethodId) (x0 : Addr) (x1 : Int32) (x2 : Addr) : entryFrame m #[(.ref x0), (.int x1), (.ref x2)] 6 = mkF m 0 #[.val (.ref x0), .val (.int x1), .val (.ref x2), .unset, .unset, .unset] [] := by first | (simp [entryFrame, mkF, argsToLocals, Value.category]; done) | rfl
set_option maxRecDepth 65536 in
set_option maxHeartbeats 40000000 in
theorem own_init3_0 {l : Launch} {Z : State} {a0 : Array Value} (hw : own_Z Z a0) {h : Heap} {os : List own_O} {as : List own_A} {a r : Addr} {fa : Int32} (h0 : 0 ≤ fa.toInt) (H : own_H Z h (own_MT a (.int (0 : Int32)) .null :: os) ((r, .double, "[D", [(.double (4602678819172646912 : UInt64)), (.double (0 : UInt64)), (.double (4607182418800017408 : UInt64))]) :: as)) : own_Met false l Z (⟨"com/example/vestline/vestline/actuarial/MortalityTable", "<init>", "(I[D)V"⟩ : MethodName) prog_3_method_1_code 6 none [] ({ frames := 1, cells := 1, slots := 3, locals := 20 } : Room) #[(.ref a), (.int fa), (.ref r)] h (fun v h' => v = none ∧ ∃ b, own_H Z h' (own_MT a (.int fa) (.ref b) :: os) ((b, .double, "[D", [(.double (4602678819172646912 : UInt64)), (.double (0 : UInt64)), (.double (4607182418800017408 : UInt64))]) :: (r, .double, "[D", [(.double (4602678819172646912 : UInt64)), (.double (0 : UInt64)), (.double (4607182418800017408 : UInt64))]) :: as)) := by
  refine own_met (by first | exact plainFor_of_name (by decide +kernel) | decide +kernel) ?_
  intro p e s m below meth c K
  refine own_cast (own_init3_0_ef m _ _ _) ?_
  refine own_aloadN K own_d1_0 rfl rfl ?_
  refine own_initO K own_d1_1 (own_w14 hw) (own_w15 hw) (own_w16 hw) rfl (by decide) (W := 0) (Nat.le_of_eq rfl) (by decide) ?_
  refine own_iloadN K own_d1_4 rfl ?_
  refine own_ifge K own_d1_5 (fun _ => ?_) (fun q => absurd (h0) q)
  refine own_aloadN K own_d1_22 rfl rfl ?_
  refine own_arraylength K own_d1_23 H (i := 0) rfl (N := (3 : Int32)) (rfl) ?_
  refine own_ifne K own_d1_24 (fun _ => ?_) (fun q => absurd (by decide) q)
  refine own_iconst K own_d1_37 (v := (0 : Int32)) rfl ?_
  refine own_istoreN K own_d1_38 (Ls' := #[.val (.ref a), .val (.int fa), .val (.ref r), .val (.int (0 : Int32)), .unset, .unset]) rfl ?_
  refine own_iloadN K own_d1_39 rfl ?_
  refine own_aloadN K own_d1_40 rfl rfl ?_
  refine own_arraylength K own_d1_41 H (i := 0) rfl (N := (3 : Int32)) (rfl) ?_
  refine own_icmpge K own_d1_42 (fun q => absurd q (by decide)) (fun _ => ?_)
  refine own_aloadN K own_d1_45 rfl rfl ?_
  refine own_iloadN K own_d1_46 rfl ?_
  refine own_daload K own_d1_47 H (i := 0) rfl (q := 0) (by decide) (rfl) ?_
  refine own_dstore K own_d1_48 (Ls' := #[.val (.ref a), .val (.int fa), .val (.ref r), .val (.int (0 : Int32)), .val (.double (4602678819172646912 : UInt64)), .second]) rfl ?_
  refine own_dload K own_d1_50 rfl ?_
  refine own_dconst0 K own_d1_52 (v := (0 : UInt64)) rfl ?_
  refine own_dcmp K own_d1_53 ?_
  refine own_topI (x' := (1 : Int32)) (by decide +kernel) ?_
  refine own_iflt K own_d1_54 (fun q => absurd q (by decide)) (fun _ => ?_)
  refine own_dload K own_d1_57 rfl ?_
  refine own_dconst1 K own_d1_59 (v := (4607182418800017408 : UInt64)) rfl ?_
  refine own_dcmp K own_d1_60 ?_
  refine own_topI (x' := (-1 : Int32)) (by decide +kernel) ?_
  refine own_ifle K own_d1_61 (fun _ => ?_) (fun q => absurd (by decide) q)
  refine own_iinc K own_d1_82 rfl (y := (1 : Int32)) (by decide) (Ls' := #[.val (.ref a), .val (.int fa), .val (.ref r), .val (.int (1 : Int32)), .val (.double (4602678819172646912 : UInt64)), .second]) rfl ?_
  refine own_goto K own_d1_85 ?_
  refine own_iloadN K own_d1_39 rfl ?_
  refine own_aloadN K own_d1_40 rfl rfl ?_
  refine own_arraylength K own_d1_41 H (i := 0) rfl (N := (3 : Int32)) (rfl) ?_
  refine own_icmpge K own_d1_42 (fun q => absurd q (by decide)) (fun _ => ?_)
  refine own_aloadN K own_d1_45 rfl rfl ?_
  refine own_iloadN K own_d1_46 rfl ?_
  refine own_daload K own_d1_47 H (i := 0) rfl (q := 1) (by decide) (rfl) ?_
  refine own_dstore K own_d1_48 (Ls' := #[.val (.ref a), .val (.int fa), .val (.ref r), .val (.int (1 : Int32)), .val (.double (0 : UInt64)), .second]) rfl ?_
  refine own_dload K own_d1_50 rfl ?_
  refine own_dconst0 K own_d1_52 (v := (0 : UInt64)) rfl ?_
  refine own_dcmp K own_d1_53 ?_
  refine own_topI (x' := (0 : Int32)) (by decide +kernel) ?_
  refine own_iflt K own_d1_54 (fun q => absurd q (by decide)) (fun _ => ?_)
  refine own_dload K own_d1_57 rfl ?_
  refine own_dconst1 K own_d1_59 (v := (4607182418800017408 : UInt64)) rfl ?_
  refine own_dcmp K own_d1_60 ?_
  refine own_topI (x' := (-1 : Int32)) (by decide +kernel) ?_
  refine own_ifle K own_d1_61 (fun _ => ?_) (fun q => absurd (by decide) q)
  refine own_iinc K own_d1_82 rfl (y := (2 : Int32)) (by decide) (Ls' := #[.val (.ref a), .val (.int fa), .val (.ref r), .val (.int (2 : Int32)), .val (.double (0 : UInt64)), .second]) rfl ?_
  refine own_goto K own_d1_85 ?_
  refine own_iloadN K own_d1_39 rfl ?_
  refine own_aloadN K own_d1_40 rfl rfl ?_
  refine own_arraylength K own_d1_41 H (i := 0) rfl (N := (3 : Int32)) (rfl) ?_
  refine own_icmpge K own_d1_42 (fun q => absurd q (by decide)) (fun _ => ?_)
  refine own_aloadN K own_d1_45 rfl rfl ?_
  refine own_iloadN K own_d1_46 rfl ?_
  refine own_daload K own_d1_47 H (i := 0) rfl (q := 2) (by decide) (rfl) ?_
  refine own_dstore K own_d1_48 (Ls' := #[.val (.ref a), .val (.int fa), .val (.ref r), .val (.int (2 : Int32)), .val (.double (4607182418800017408 : UInt64)), .second]) rfl ?_
  refine own_dload K own_d1_50 rfl ?_
  refine own_dconst0 K own_d1_52 (v := (0 : UInt64)) rfl ?_
  refine own_dcmp K own_d1_53 ?_
  refine own_topI (x' := (1 : Int32)) (by decide +kernel) ?_
  refine own_iflt K own_d1_54 (fun q => absurd q (by decide)) (fun _ => ?_)
  refine own_dload K own_d1_57 rfl ?_
  refine own_dconst1 K own_d1_59 (v := (4607182418800017408 : UInt64)) rfl ?_
  refine own_dcmp K own_d1_60 ?_
  refine own_topI (x' := (0 : Int32)) (by decide +kernel) ?_
  refine own_ifle K own_d1_61 (fun _ => ?_) (fun q => absurd (by decide) q)
  refine own_iinc K own_d1_82 rfl (y := (3 : Int32)) (by decide) (Ls' := #[.val (.ref a), .val (.int fa), .val (.ref r), .val (.int (3 : Int32)), .val (.double (4607182418800017408 : UInt64)), .second]) rfl ?_
  refine own_goto K own_d1_85 ?_
  refine own_iloadN K own_d1_39 rfl ?_
  refine own_aloadN K own_d1_40 rfl rfl ?_
  refine own_arraylength K own_d1_41 H (i := 0) rfl (N := (3 : Int32)) (rfl) ?_
  refine own_icmpge K own_d1_42 (fun _ => ?_) (fun q => absurd (by decide) q)
  refine own_aloadN K own_d1_88 rfl rfl ?_
  refine own_iloadN K own_d1_89 rfl ?_
  refine own_putfield K own_d1_90 (host := "") (Or.inl (own_w17 hw)) Via.refl H (j := 0) rfl (q := 0) rfl (Or.inr ⟨(own_w18 hw), rfl, rfl⟩) (own_w3 hw) (ty := .int) (by decide +kernel) (rfl) rfl ?_
  intro h1 H2
  replace H2 : own_H Z h1 (own_MT a (.int fa) .null :: os) ((r, .double, "[D", [(.double (4602678819172646912 : UInt64)), (.double (0 : UInt64)), (.double (4607182418800017408 : UInt64))]) :: as) := H2
  refine own_aloadN K own_d1_93 rfl rfl ?_
  refine own_aloadN K own_d1_94 rfl rfl ?_
  refine own_clone K own_d1_95 (own_w19 hw) (own_w20 hw) (own_w24 hw) (own_w22 hw) (own_w23 hw) (own_w25 hw) H2 (j := 0) rfl (by decide) rfl (by decide) (W := 1) (Nat.le_of_eq rfl) (by decide) (by decide) (own_le rfl) ?_
  intro h3 a5 H4
  replace H4 : own_H Z h3 (own_MT a (.int fa) .null :: os) ((a5, .double, "[D", [(.double (4602678819172646912 : UInt64)), (.double (0 : UInt64)), (.double (4607182418800017408 : UInt64))]) :: (r, .double, "[D", [(.double (4602678819172646912 : UInt64)), (.double (0 : UInt64)), (.double (4607182418800017408 : UInt64))]) :: as) := H4
  refine own_checkcast K own_d1_98 (own_w26 hw) (Ins.self (H4.exaA (i := 0) rfl (by decide))) ?_
  refine own_putfield K own_d1_101 (host := "") (Or.inl (own_w28 hw)) Via.refl H4 (j := 0) rfl (q := 1) rfl (Or.inr ⟨(own_w29 hw), rfl, rfl⟩) (own_w3 hw) (ty := (.array .double)) (by decide +kernel) (rfl) rfl ?_
  intro h6 H7
  replace H7 : own_H Z h6 (own_MT a (.int fa) (.ref a5) :: os) ((a5, .double, "[D", [(.double (4602678819172646912 : UInt64)), (.double (0 : UInt64)), (.double (4607182418800017408 : UInt64))]) :: (r, .double, "[D", [(.double (4602678819172646912 : UInt64)), (.double (0 : UInt64)), (.double (4607182418800017408 : UInt64))]) :: as) := H7
  exact own_retV K own_d1_104 (by decide) (by decide) (⟨rfl, _, H7⟩)
set_option maxRecDepth 65536 in
set_option maxHeartbeats 40000000 in
theorem own_init3_1_ef (m : MethodId) (x0 : Addr) (x1 : Int32) (x2 : Addr) : entryFrame m #[(.ref x0), (.int x1), (.ref x2)] 6 = mkF m 0 #[.val (.ref x0), .val (.int x1), .val (.ref x2), .unset, .unset, .unset] [] := by first | (simp [entryFrame, mkF, argsToLocals, Value.category]; done) | rfl
set_option maxRecDepth 65536 in
set_option maxHeartbeats 40000000 in
theorem own_init3_1 {l : Launch} {Z : State} {a0 : Array Value} (hw : own_Z Z a0) {h : Heap} {os : List own_O} {as : List own_A} {a r : Addr} {fa : Int32} (h0 : 0 ≤ fa.toInt) (H : own_H Z h (own_MT a (.int (0 : Int32)) .null :: os) ((r, .double, "[D", [(.double (4602678819172646912 : UInt64)), (.double (4607182418800017408 : UInt64)), (.double (4607182418800017408 : UInt64))]) :: as)) : own_Met false l Z (⟨"com/example/vestline/vestline/actuarial/MortalityTable", "<init>", "(I[D)V"⟩ : MethodName) prog_3_method_1_code 6 none [] ({ frames := 1, cells := 1, slots := 3, locals := 20 } : Room) #[(.ref a), (.int fa), (.ref r)] h (fun v h' => v = none ∧ ∃ b, own_H Z h' (own_MT a (.int fa) (.ref b) :: os) ((b, .double, "[D", [(.double (4602678819172646912 : UInt64)), (.double (4607182418800017408 : UInt64)), (.double (4607182418800017408 : UInt64))]) :: (r, .double, "[D", [(.double (4602678819172646912 : UInt64)), (.double (4607182418800017408 : UInt64)), (.double (4607182418800017408 : UInt64))]) :: as)) := by
  refine own_met (by first | exact plainFor_of_name (by decide +kernel) | decide +kernel) ?_
  intro p e s m below meth c K
  refine own_cast (own_init3_1_ef m _ _ _) ?_
  refine own_aloadN K own_d1_0 rfl rfl ?_
  refine own_initO K own_d1_1 (own_w14 hw) (own_w15 hw) (own_w16 hw) rfl (by decide) (W := 0) (Nat.le_of_eq rfl) (by decide) ?_
  refine own_iloadN K own_d1_4 rfl ?_
  refine own_ifge K own_d1_5 (fun _ => ?_) (fun q => absurd (h0) q)
  refine own_aloadN K own_d1_22 rfl rfl ?_
  refine own_arraylength K own_d1_23 H (i := 0) rfl (N := (3 : Int32)) (rfl) ?_
  refine own_ifne K own_d1_24 (fun _ => ?_) (fun q => absurd (by decide) q)
  refine own_iconst K own_d1_37 (v := (0 : Int32)) rfl ?_
  refine own_istoreN K own_d1_38 (Ls' := #[.val (.ref a), .val (.int fa), .val (.ref r), .val (.int (0 : Int32)), .unset, .unset]) rfl ?_
  refine own_iloadN K own_d1_39 rfl ?_
  refine own_aloadN K own_d1_40 rfl rfl ?_
  refine own_arraylength K own_d1_41 H (i := 0) rfl (N := (3 : Int32)) (rfl) ?_
  refine own_icmpge K own_d1_42 (fun q => absurd q (by decide)) (fun _ => ?_)
  refine own_aloadN K own_d1_45 rfl rfl ?_
  refine own_iloadN K own_d1_46 rfl ?_
  refine own_daload K own_d1_47 H (i := 0) rfl (q := 0) (by decide) (rfl) ?_
  refine own_dstore K own_d1_48 (Ls' := #[.val (.ref a), .val (.int fa), .val (.ref r), .val (.int (0 : Int32)), .val (.double (4602678819172646912 : UInt64)), .second]) rfl ?_
  refine own_dload K own_d1_50 rfl ?_
  refine own_dconst0 K own_d1_52 (v := (0 : UInt64)) rfl ?_
  refine own_dcmp K own_d1_53 ?_
  refine own_topI (x' := (1 : Int32)) (by decide +kernel) ?_
  refine own_iflt K own_d1_54 (fun q => absurd q (by decide)) (fun _ => ?_)
  refine own_dload K own_d1_57 rfl ?_
  refine own_dconst1 K own_d1_59 (v := (4607182418800017408 : UInt64)) rfl ?_
  refine own_dcmp K own_d1_60 ?_
  refine own_topI (x' := (-1 : Int32)) (by decide +kernel) ?_
  refine own_ifle K own_d1_61 (fun _ => ?_) (fun q => absurd (by decide) q)
  refine own_iinc K own_d1_82 rfl (y := (1 : Int32)) (by decide) (Ls' := #[.val (.ref a), .val (.int fa), .val (.ref r), .val (.int (1 : Int32)), .val (.double (4602678819172646912 : UInt64)), .second]) rfl ?_
  refine own_goto K own_d1_85 ?_
  refine own_iloadN K own_d1_39 rfl ?_
  refine own_aloadN K own_d1_40 rfl rfl ?_
  refine own_arraylength K own_d1_41 H (i := 0) rfl (N := (3 : Int32)) (rfl) ?_
  refine own_icmpge K own_d1_42 (fun q => absurd q (by decide)) (fun _ => ?_)
  refine own_aloadN K own_d1_45 rfl rfl ?_
  refine own_iloadN K own_d1_46 rfl ?_
  refine own_daload K own_d1_47 H (i := 0) rfl (q := 1) (by decide) (rfl) ?_
  refine own_dstore K own_d1_48 (Ls' := #[.val (.ref a), .val (.int fa), .val (.ref r), .val (.int (1 : Int32)), .val (.double (4607182418800017408 : UInt64)), .second]) rfl ?_
  refine own_dload K own_d1_50 rfl ?_
  refine own_dconst0 K own_d1_52 (v := (0 : UInt64)) rfl ?_
  refine own_dcmp K own_d1_53 ?_
  refine own_topI (x' := (1 : Int32)) (by decide +kernel) ?_
  refine own_iflt K own_d1_54 (fun q => absurd q (by decide)) (fun _ => ?_)
  refine own_dload K own_d1_57 rfl ?_
  refine own_dconst1 K own_d1_59 (v := (4607182418800017408 : UInt64)) rfl ?_
  refine own_dcmp K own_d1_60 ?_
  refine own_topI (x' := (0 : Int32)) (by decide +kernel) ?_
  refine own_ifle K own_d1_61 (fun _ => ?_) (fun q => absurd (by decide) q)
  refine own_iinc K own_d1_82 rfl (y := (2 : Int32)) (by decide) (Ls' := #[.val (.ref a), .val (.int fa), .val (.ref r), .val (.int (2 : Int32)), .val (.double (4607182418800017408 : UInt64)), .second]) rfl ?_
  refine own_goto K own_d1_85 ?_
  refine own_iloadN K own_d1_39 rfl ?_
  refine own_aloadN K own_d1_40 rfl rfl ?_
  refine own_arraylength K own_d1_41 H (i := 0) rfl (N := (3 : Int32)) (rfl) ?_
  refine own_icmpge K own_d1_42 (fun q => absurd q (by decide)) (fun _ => ?_)
  refine own_aloadN K own_d1_45 rfl rfl ?_
  refine own_iloadN K own_d1_46 rfl ?_
  refine own_daload K own_d1_47 H (i := 0) rfl (q := 2) (by decide) (rfl) ?_
  refine own_dstore K own_d1_48 (Ls' := #[.val (.ref a), .val (.int fa), .val (.ref r), .val (.int (2 : Int32)), .val (.double (4607182418800017408 : UInt64)), .second]) rfl ?_
  refine own_dload K own_d1_50 rfl ?_
  refine own_dconst0 K own_d1_52 (v := (0 : UInt64)) rfl ?_
  refine own_dcmp K own_d1_53 ?_
  refine own_topI (x' := (1 : Int32)) (by decide +kernel) ?_
  refine own_iflt K own_d1_54 (fun q => absurd q (by decide)) (fun _ => ?_)
  refine own_dload K own_d1_57 rfl ?_
  refine own_dconst1 K own_d1_59 (v := (4607182418800017408 : UInt64)) rfl ?_
  refine own_dcmp K own_d1_60 ?_
  refine own_topI (x' := (0 : Int32)) (by decide +kernel) ?_
  refine own_ifle K own_d1_61 (fun _ => ?_) (fun q => absurd (by decide) q)
  refine own_iinc K own_d1_82 rfl (y := (3 : Int32)) (by decide) (Ls' := #[.val (.ref a), .val (.int fa), .val (.ref r), .val (.int (3 : Int32)), .val (.double (4607182418800017408 : UInt64)), .second]) rfl ?_
  refine own_goto K own_d1_85 ?_
  refine own_iloadN K own_d1_39 rfl ?_
  refine own_aloadN K own_d1_40 rfl rfl ?_
  refine own_arraylength K own_d1_41 H (i := 0) rfl (N := (3 : Int32)) (rfl) ?_
  refine own_icmpge K own_d1_42 (fun _ => ?_) (fun q => absurd (by decide) q)
  refine own_aloadN K own_d1_88 rfl rfl ?_
  refine own_iloadN K own_d1_89 rfl ?_
  refine own_putfield K own_d1_90 (host := "") (Or.inl (own_w17 hw)) Via.refl H (j := 0) rfl (q := 0) rfl (Or.inr ⟨(own_w18 hw), rfl, rfl⟩) (own_w3 hw) (ty := .int) (by decide +kernel) (rfl) rfl ?_
  intro h1 H2
  replace H2 : own_H Z h1 (own_MT a (.int fa) .null :: os) ((r, .double, "[D", [(.double (4602678819172646912 : UInt64)), (.double (4607182418800017408 : UInt64)), (.double (4607182418800017408 : UInt64))]) :: as) := H2
  refine own_aloadN K own_d1_93 rfl rfl ?_
  refine own_aloadN K own_d1_94 rfl rfl ?_
  refine own_clone K own_d1_95 (own_w19 hw) (own_w20 hw) (own_w24 hw) (own_w22 hw) (own_w23 hw) (own_w25 hw) H2 (j := 0) rfl (by decide) rfl (by decide) (W := 1) (Nat.le_of_eq rfl) (by decide) (by decide) (own_le rfl) ?_
  intro h3 a5 H4
  replace H4 : own_H Z h3 (own_MT a (.int fa) .null :: os) ((a5, .double, "[D", [(.double (4602678819172646912 : UInt64)), (.double (4607182418800017408 : UInt64)), (.double (4607182418800017408 : UInt64))]) :: (r, .double, "[D", [(.double (4602678819172646912 : UInt64)), (.double (4607182418800017408 : UInt64)), (.double (4607182418800017408 : UInt64))]) :: as) := H4
  refine own_checkcast K own_d1_98 (own_w26 hw) (Ins.self (H4.exaA (i := 0) rfl (by decide))) ?_
  refine own_putfield K own_d1_101 (host := "") (Or.inl (own_w28 hw)) Via.refl H4 (j := 0) rfl (q := 1) rfl (Or.inr ⟨(own_w29 hw), rfl, rfl⟩) (own_w3 hw) (ty := (.array .double)) (by decide +kernel) (rfl) rfl ?_
  intro h6 H7
  replace H7 : own_H Z h6 (own_MT a (.int fa) (.ref a5) :: os) ((a5, .double, "[D", [(.double (4602678819172646912 : UInt64)), (.double (4607182418800017408 : UInt64)), (.double (4607182418800017408 : UInt64))]) :: (r, .double, "[D", [(.double (4602678819172646912 : UInt64)), (.double (4607182418800017408 : UInt64)), (.double (4607182418800017408 : UInt64))]) :: as) := H7
  exact own_retV K own_d1_104 (by decide) (by decide) (⟨rfl, _, H7⟩)
set_option maxRecDepth 65536 in
set_option maxHeartbeats 40000000 in
theorem own_rates4_ef (m : MethodId) (x0 : Int32) (x1 : UInt64) : entryFrame m #[(.int x0), (.double x1)] 3 = mkF m 0 #[.val (.int x0), .val (.double x1), .second] [] := by first | (simp [entryFrame, mkF, argsToLocals, Value.category]; done) | rfl
set_option maxRecDepth 65536 in
set_option maxHeartbeats 40000000 in
theorem own_rates4 {l : Launch} {Z : State} {a0 : Array Value} (hw : own_Z Z a0) {h : Heap} {os : List own_O} {as : List own_A} {r : UInt64} (H : own_H Z h os as) : own_Met false l Z (⟨"com/example/vestline/vestline/actuarial/LifeYearsToEndPinLaw", "rates", "(ID)[D"⟩ : MethodName) method_2_code 3 (some (.array .double)) [] ({ frames := 0, cells := 1, slots := 4, locals := 0 } : Room) #[(.int (4 : Int32)), (.double r)] h (fun v h' => ∃ b, v = some (.ref b) ∧ own_H Z h' os ((b, .double, "[D", [(.double (0 : UInt64)), (.double (4602678819172646912 : UInt64)), (.double r), (.double (4607182418800017408 : UInt64))]) :: as)) := by
  refine own_met (by first | exact plainFor_of_name (by decide +kernel) | decide +kernel) ?_
  intro p e s m below meth c K
  refine own_cast (own_rates4_ef m _ _) ?_
  refine own_iloadN K own_d0_0 rfl ?_
  refine own_iconst K own_d0_1 (v := (1 : Int32)) rfl ?_
  refine own_icmpne K own_d0_2 (fun _ => ?_) (fun q => absurd (by decide) q)
  refine own_iloadN K own_d0_13 rfl ?_
  refine own_iconst K own_d0_14 (v := (2 : Int32)) rfl ?_
  refine own_icmpne K own_d0_15 (fun _ => ?_) (fun q => absurd (by decide) q)
  refine own_iloadN K own_d0_32 rfl ?_
  refine own_iconst K own_d0_33 (v := (3 : Int32)) rfl ?_
  refine own_icmpne K own_d0_34 (fun _ => ?_) (fun q => absurd (by decide) q)
  refine own_iconst K own_d0_55 (v := (4 : Int32)) rfl ?_
  refine own_newarray K own_d0_56 (ty := .double) rfl (own_w9 hw) H (q := 4) (by decide) (ad := "[D") (by decide +kernel) (vs := [(.double (0 : UInt64)), (.double (0 : UInt64)), (.double (0 : UInt64)), (.double (0 : UInt64))]) rfl (by decide) (by decide) (by decide) ?_
  intro h1 a3 H2
  replace H2 : own_H Z h1 (os) ((a3, .double, "[D", [(.double (0 : UInt64)), (.double (0 : UInt64)), (.double (0 : UInt64)), (.double (0 : UInt64))]) :: as) := H2
  refine own_dup K own_d0_58 rfl ?_
  refine own_iconst K own_d0_59 (v := (0 : Int32)) rfl ?_
  refine own_dconst0 K own_d0_60 (v := (0 : UInt64)) rfl ?_
  refine own_dastore K own_d0_61 H2 (i := 0) rfl (q := 0) (by decide) (own_le rfl) ?_
  intro h4 H5
  replace H5 : own_H Z h4 (os) ((a3, .double, "[D", [(.double (0 : UInt64)), (.double (0 : UInt64)), (.double (0 : UInt64)), (.double (0 : UInt64))]) :: as) := H5
  refine own_dup K own_d0_62 rfl ?_
  refine own_iconst K own_d0_63 (v := (1 : Int32)) rfl ?_
  refine own_ldc2D K own_d0_64 (own_w10 hw) ?_
  refine own_dastore K own_d0_67 H5 (i := 0) rfl (q := 1) (by decide) (own_le rfl) ?_
  intro h6 H7
  replace H7 : own_H Z h6 (os) ((a3, .double, "[D", [(.double (0 : UInt64)), (.double (4602678819172646912 : UInt64)), (.double (0 : UInt64)), (.double (0 : UInt64))]) :: as) := H7
  refine own_dup K own_d0_68 rfl ?_
  refine own_iconst K own_d0_69 (v := (2 : Int32)) rfl ?_
  refine own_dloadN K own_d0_70 rfl ?_
  refine own_dastore K own_d0_71 H7 (i := 0) rfl (q := 2) (by decide) (own_le rfl) ?_
  intro h8 H9
  replace H9 : own_H Z h8 (os) ((a3, .double, "[D", [(.double (0 : UInt64)), (.double (4602678819172646912 : UInt64)), (.double r), (.double (0 : UInt64))]) :: as) := H9
  refine own_dup K own_d0_72 rfl ?_
  refine own_iconst K own_d0_73 (v := (3 : Int32)) rfl ?_
  refine own_dconst1 K own_d0_74 (v := (4607182418800017408 : UInt64)) rfl ?_
  refine own_dastore K own_d0_75 H9 (i := 0) rfl (q := 3) (by decide) (own_le rfl) ?_
  intro h10 H11
  replace H11 : own_H Z h10 (os) ((a3, .double, "[D", [(.double (0 : UInt64)), (.double (4602678819172646912 : UInt64)), (.double r), (.double (4607182418800017408 : UInt64))]) :: as) := H11
  exact own_retA K rfl rfl own_d0_76 (by decide) (by decide) (⟨_, rfl, H11⟩)
set_option maxRecDepth 65536 in
set_option maxHeartbeats 40000000 in
theorem own_init4_0_ef (m : MethodId) (x0 : Addr) (x1 : Int32) (x2 : Addr) : entryFrame m #[(.ref x0), (.int x1), (.ref x2)] 6 = mkF m 0 #[.val (.ref x0), .val (.int x1), .val (.ref x2), .unset, .unset, .unset] [] := by first | (simp [entryFrame, mkF, argsToLocals, Value.category]; done) | rfl
set_option maxRecDepth 65536 in
set_option maxHeartbeats 40000000 in
theorem own_init4_0 {l : Launch} {Z : State} {a0 : Array Value} (hw : own_Z Z a0) {h : Heap} {os : List own_O} {as : List own_A} {a r : Addr} {fa : Int32} (h0 : 0 ≤ fa.toInt) (H : own_H Z h (own_MT a (.int (0 : Int32)) .null :: os) ((r, .double, "[D", [(.double (0 : UInt64)), (.double (4602678819172646912 : UInt64)), (.double (0 : UInt64)), (.double (4607182418800017408 : UInt64))]) :: as)) : own_Met false l Z (⟨"com/example/vestline/vestline/actuarial/MortalityTable", "<init>", "(I[D)V"⟩ : MethodName) prog_3_method_1_code 6 none [] ({ frames := 1, cells := 1, slots := 4, locals := 20 } : Room) #[(.ref a), (.int fa), (.ref r)] h (fun v h' => v = none ∧ ∃ b, own_H Z h' (own_MT a (.int fa) (.ref b) :: os) ((b, .double, "[D", [(.double (0 : UInt64)), (.double (4602678819172646912 : UInt64)), (.double (0 : UInt64)), (.double (4607182418800017408 : UInt64))]) :: (r, .double, "[D", [(.double (0 : UInt64)), (.double (4602678819172646912 : UInt64)), (.double (0 : UInt64)), (.double (4607182418800017408 : UInt64))]) :: as)) := by
  refine own_met (by first | exact plainFor_of_name (by decide +kernel) | decide +kernel) ?_
  intro p e s m below meth c K
  refine own_cast (own_init4_0_ef m _ _ _) ?_
  refine own_aloadN K own_d1_0 rfl rfl ?_
  refine own_initO K own_d1_1 (own_w14 hw) (own_w15 hw) (own_w16 hw) rfl (by decide) (W := 0) (Nat.le_of_eq rfl) (by decide) ?_
  refine own_iloadN K own_d1_4 rfl ?_
  refine own_ifge K own_d1_5 (fun _ => ?_) (fun q => absurd (h0) q)
  refine own_aloadN K own_d1_22 rfl rfl ?_
  refine own_arraylength K own_d1_23 H (i := 0) rfl (N := (4 : Int32)) (rfl) ?_
  refine own_ifne K own_d1_24 (fun _ => ?_) (fun q => absurd (by decide) q)
  refine own_iconst K own_d1_37 (v := (0 : Int32)) rfl ?_
  refine own_istoreN K own_d1_38 (Ls' := #[.val (.ref a), .val (.int fa), .val (.ref r), .val (.int (0 : Int32)), .unset, .unset]) rfl ?_
  refine own_iloadN K own_d1_39 rfl ?_
  refine own_aloadN K own_d1_40 rfl rfl ?_
  refine own_arraylength K own_d1_41 H (i := 0) rfl (N := (4 : Int32)) (rfl) ?_
  refine own_icmpge K own_d1_42 (fun q => absurd q (by decide)) (fun _ => ?_)
  refine own_aloadN K own_d1_45 rfl rfl ?_
  refine own_iloadN K own_d1_46 rfl ?_
  refine own_daload K own_d1_47 H (i := 0) rfl (q := 0) (by decide) (rfl) ?_
  refine own_dstore K own_d1_48 (Ls' := #[.val (.ref a), .val (.int fa), .val (.ref r), .val (.int (0 : Int32)), .val (.double (0 : UInt64)), .second]) rfl ?_
  refine own_dload K own_d1_50 rfl ?_
  refine own_dconst0 K own_d1_52 (v := (0 : UInt64)) rfl ?_
  refine own_dcmp K own_d1_53 ?_
  refine own_topI (x' := (0 : Int32)) (by decide +kernel) ?_
  refine own_iflt K own_d1_54 (fun q => absurd q (by decide)) (fun _ => ?_)
  refine own_dload K own_d1_57 rfl ?_
  refine own_dconst1 K own_d1_59 (v := (4607182418800017408 : UInt64)) rfl ?_
  refine own_dcmp K own_d1_60 ?_
  refine own_topI (x' := (-1 : Int32)) (by decide +kernel) ?_
  refine own_ifle K own_d1_61 (fun _ => ?_) (fun q => absurd (by decide) q)
  refine own_iinc K own_d1_82 rfl (y := (1 : Int32)) (by decide) (Ls' := #[.val (.ref a), .val (.int fa), .val (.ref r), .val (.int (1 : Int32)), .val (.double (0 : UInt64)), .second]) rfl ?_
  refine own_goto K own_d1_85 ?_
  refine own_iloadN K own_d1_39 rfl ?_
  refine own_aloadN K own_d1_40 rfl rfl ?_
  refine own_arraylength K own_d1_41 H (i := 0) rfl (N := (4 : Int32)) (rfl) ?_
  refine own_icmpge K own_d1_42 (fun q => absurd q (by decide)) (fun _ => ?_)
  refine own_aloadN K own_d1_45 rfl rfl ?_
  refine own_iloadN K own_d1_46 rfl ?_
  refine own_daload K own_d1_47 H (i := 0) rfl (q := 1) (by decide) (rfl) ?_
  refine own_dstore K own_d1_48 (Ls' := #[.val (.ref a), .val (.int fa), .val (.ref r), .val (.int (1 : Int32)), .val (.double (4602678819172646912 : UInt64)), .second]) rfl ?_
  refine own_dload K own_d1_50 rfl ?_
  refine own_dconst0 K own_d1_52 (v := (0 : UInt64)) rfl ?_
  refine own_dcmp K own_d1_53 ?_
  refine own_topI (x' := (1 : Int32)) (by decide +kernel) ?_
  refine own_iflt K own_d1_54 (fun q => absurd q (by decide)) (fun _ => ?_)
  refine own_dload K own_d1_57 rfl ?_
  refine own_dconst1 K own_d1_59 (v := (4607182418800017408 : UInt64)) rfl ?_
  refine own_dcmp K own_d1_60 ?_
  refine own_topI (x' := (-1 : Int32)) (by decide +kernel) ?_
  refine own_ifle K own_d1_61 (fun _ => ?_) (fun q => absurd (by decide) q)
  refine own_iinc K own_d1_82 rfl (y := (2 : Int32)) (by decide) (Ls' := #[.val (.ref a), .val (.int fa), .val (.ref r), .val (.int (2 : Int32)), .val (.double (4602678819172646912 : UInt64)), .second]) rfl ?_
  refine own_goto K own_d1_85 ?_
  refine own_iloadN K own_d1_39 rfl ?_
  refine own_aloadN K own_d1_40 rfl rfl ?_
  refine own_arraylength K own_d1_41 H (i := 0) rfl (N := (4 : Int32)) (rfl) ?_
  refine own_icmpge K own_d1_42 (fun q => absurd q (by decide)) (fun _ => ?_)
  refine own_aloadN K own_d1_45 rfl rfl ?_
  refine own_iloadN K own_d1_46 rfl ?_
  refine own_daload K own_d1_47 H (i := 0) rfl (q := 2) (by decide) (rfl) ?_
  refine own_dstore K own_d1_48 (Ls' := #[.val (.ref a), .val (.int fa), .val (.ref r), .val (.int (2 : Int32)), .val (.double (0 : UInt64)), .second]) rfl ?_
  refine own_dload K own_d1_50 rfl ?_
  refine own_dconst0 K own_d1_52 (v := (0 : UInt64)) rfl ?_
  refine own_dcmp K own_d1_53 ?_
  refine own_topI (x' := (0 : Int32)) (by decide +kernel) ?_
  refine own_iflt K own_d1_54 (fun q => absurd q (by decide)) (fun _ => ?_)
  refine own_dload K own_d1_57 rfl ?_
  refine own_dconst1 K own_d1_59 (v := (4607182418800017408 : UInt64)) rfl ?_
  refine own_dcmp K own_d1_60 ?_
  refine own_topI (x' := (-1 : Int32)) (by decide +kernel) ?_
  refine own_ifle K own_d1_61 (fun _ => ?_) (fun q => absurd (by decide) q)
  refine own_iinc K own_d1_82 rfl (y := (3 : Int32)) (by decide) (Ls' := #[.val (.ref a), .val (.int fa), .val (.ref r), .val (.int (3 : Int32)), .val (.double (0 : UInt64)), .second]) rfl ?_
  refine own_goto K own_d1_85 ?_
  refine own_iloadN K own_d1_39 rfl ?_
  refine own_aloadN K own_d1_40 rfl rfl ?_
  refine own_arraylength K own_d1_41 H (i := 0) rfl (N := (4 : Int32)) (rfl) ?_
  refine own_icmpge K own_d1_42 (fun q => absurd q (by decide)) (fun _ => ?_)
  refine own_aloadN K own_d1_45 rfl rfl ?_
  refine own_iloadN K own_d1_46 rfl ?_
  refine own_daload K own_d1_47 H (i := 0) rfl (q := 3) (by decide) (rfl) ?_
  refine own_dstore K own_d1_48 (Ls' := #[.val (.ref a), .val (.int fa), .val (.ref r), .val (.int (3 : Int32)), .val (.double (4607182418800017408 : UInt64)), .second]) rfl ?_
  refine own_dload K own_d1_50 rfl ?_
  refine own_dconst0 K own_d1_52 (v := (0 : UInt64)) rfl ?_
  refine own_dcmp K own_d1_53 ?_
  refine own_topI (x' := (1 : Int32)) (by decide +kernel) ?_
  refine own_iflt K own_d1_54 (fun q => absurd q (by decide)) (fun _ => ?_)
  refine own_dload K own_d1_57 rfl ?_
  refine own_dconst1 K own_d1_59 (v := (4607182418800017408 : UInt64)) rfl ?_
  refine own_dcmp K own_d1_60 ?_
  refine own_topI (x' := (0 : Int32)) (by decide +kernel) ?_
  refine own_ifle K own_d1_61 (fun _ => ?_) (fun q => absurd (by decide) q)
  refine own_iinc K own_d1_82 rfl (y := (4 : Int32)) (by decide) (Ls' := #[.val (.ref a), .val (.int fa), .val (.ref r), .val (.int (4 : Int32)), .val (.double (4607182418800017408 : UInt64)), .second]) rfl ?_
  refine own_goto K own_d1_85 ?_
  refine own_iloadN K own_d1_39 rfl ?_
  refine own_aloadN K own_d1_40 rfl rfl ?_
  refine own_arraylength K own_d1_41 H (i := 0) rfl (N := (4 : Int32)) (rfl) ?_
  refine own_icmpge K own_d1_42 (fun _ => ?_) (fun q => absurd (by decide) q)
  refine own_aloadN K own_d1_88 rfl rfl ?_
  refine own_iloadN K own_d1_89 rfl ?_
  refine own_putfield K own_d1_90 (host := "") (Or.inl (own_w17 hw)) Via.refl H (j := 0) rfl (q := 0) rfl (Or.inr ⟨(own_w18 hw), rfl, rfl⟩) (own_w3 hw) (ty := .int) (by decide +kernel) (rfl) rfl ?_
  intro h1 H2
  replace H2 : own_H Z h1 (own_MT a (.int fa) .null :: os) ((r, .double, "[D", [(.double (0 : UInt64)), (.double (4602678819172646912 : UInt64)), (.double (0 : UInt64)), (.double (4607182418800017408 : UInt64))]) :: as) := H2
  refine own_aloadN K own_d1_93 rfl rfl ?_
  refine own_aloadN K own_d1_94 rfl rfl ?_
  refine own_clone K own_d1_95 (own_w19 hw) (own_w20 hw) (own_w24 hw) (own_w22 hw) (own_w23 hw) (own_w25 hw) H2 (j := 0) rfl (by decide) rfl (by decide) (W := 1) (Nat.le_of_eq rfl) (by decide) (by decide) (own_le rfl) ?_
  intro h3 a5 H4
  replace H4 : own_H Z h3 (own_MT a (.int fa) .null :: os) ((a5, .double, "[D", [(.double (0 : UInt64)), (.double (4602678819172646912 : UInt64)), (.double (0 : UInt64)), (.double (4607182418800017408 : UInt64))]) :: (r, .double, "[D", [(.double (0 : UInt64)), (.double (4602678819172646912 : UInt64)), (.double (0 : UInt64)), (.double (4607182418800017408 : UInt64))]) :: as) := H4
  refine own_checkcast K own_d1_98 (own_w26 hw) (Ins.self (H4.exaA (i := 0) rfl (by decide))) ?_
  refine own_putfield K own_d1_101 (host := "") (Or.inl (own_w28 hw)) Via.refl H4 (j := 0) rfl (q := 1) rfl (Or.inr ⟨(own_w29 hw), rfl, rfl⟩) (own_w3 hw) (ty := (.array .double)) (by decide +kernel) (rfl) rfl ?_
  intro h6 H7
  replace H7 : own_H Z h6 (own_MT a (.int fa) (.ref a5) :: os) ((a5, .double, "[D", [(.double (0 : UInt64)), (.double (4602678819172646912 : UInt64)), (.double (0 : UInt64)), (.double (4607182418800017408 : UInt64))]) :: (r, .double, "[D", [(.double (0 : UInt64)), (.double (4602678819172646912 : UInt64)), (.double (0 : UInt64)), (.double (4607182418800017408 : UInt64))]) :: as) := H7
  exact own_retV K own_d1_104 (by decide) (by decide) (⟨rfl, _, H7⟩)
set_option maxRecDepth 65536 in
set_option maxHeartbeats 40000000 in
theorem own_init4_1_ef (m : MethodId) (x0 : Addr) (x1 : Int32) (x2 : Addr) : entryFrame m #[(.ref x0), (.int x1), (.ref x2)] 6 = mkF m 0 #[.val (.ref x0), .val (.int x1), .val (.ref x2), .unset, .unset, .unset] [] := by first | (simp [entryFrame, mkF, argsToLocals, Value.category]; done) | rfl
set_option maxRecDepth 65536 in
set_option maxHeartbeats 40000000 in
theorem own_init4_1 {l : Launch} {Z : State} {a0 : Array Value} (hw : own_Z Z a0) {h : Heap} {os : List own_O} {as : List own_A} {a r : Addr} {fa : Int32} (h0 : 0 ≤ fa.toInt) (H : own_H Z h (own_MT a (.int (0 : Int32)) .null :: os) ((r, .double, "[D", [(.double (0 : UInt64)), (.double (4602678819172646912 : UInt64)), (.double (4607182418800017408 : UInt64)), (.double (4607182418800017408 : UInt64))]) :: as)) : own_Met false l Z (⟨"com/example/vestline/vestline/actuarial/MortalityTable", "<init>", "(I[D)V"⟩ : MethodName) prog_3_method_1_code 6 none [] ({ frames := 1, cells := 1, slots := 4, locals := 20 } : Room) #[(.ref a), (.int fa), (.ref r)] h (fun v h' => v = none ∧ ∃ b, own_H Z h' (own_MT a (.int fa) (.ref b) :: os) ((b, .double, "[D", [(.double (0 : UInt64)), (.double (4602678819172646912 : UInt64)), (.double (4607182418800017408 : UInt64)), (.double (4607182418800017408 : UInt64))]) :: (r, .double, "[D", [(.double (0 : UInt64)), (.double (4602678819172646912 : UInt64)), (.double (4607182418800017408 : UInt64)), (.double (4607182418800017408 : UInt64))]) :: as)) := by
  refine own_met (by first | exact plainFor_of_name (by decide +kernel) | decide +kernel) ?_
  intro p e s m below meth c K
  refine own_cast (own_init4_1_ef m _ _ _) ?_
  refine own_aloadN K own_d1_0 rfl rfl ?_
  refine own_initO K own_d1_1 (own_w14 hw) (own_w15 hw) (own_w16 hw) rfl (by decide) (W := 0) (Nat.le_of_eq rfl) (by decide) ?_
  refine own_iloadN K own_d1_4 rfl ?_
  refine own_ifge K own_d1_5 (fun _ => ?_) (fun q => absurd (h0) q)
  refine own_aloadN K own_d1_22 rfl rfl ?_
  refine own_arraylength K own_d1_23 H (i := 0) rfl (N := (4 : Int32)) (rfl) ?_
  refine own_ifne K own_d1_24 (fun _ => ?_) (fun q => absurd (by decide) q)
  refine own_iconst K own_d1_37 (v := (0 : Int32)) rfl ?_
  refine own_istoreN K own_d1_38 (Ls' := #[.val (.ref a), .val (.int fa), .val (.ref r), .val (.int (0 : Int32)), .unset, .unset]) rfl ?_
  refine own_iloadN K own_d1_39 rfl ?_
  refine own_aloadN K own_d1_40 rfl rfl ?_
  refine own_arraylength K own_d1_41 H (i := 0) rfl (N := (4 : Int32)) (rfl) ?_
  refine own_icmpge K own_d1_42 (fun q => absurd q (by decide)) (fun _ => ?_)
  refine own_aloadN K own_d1_45 rfl rfl ?_
  refine own_iloadN K own_d1_46 rfl ?_
  refine own_daload K own_d1_47 H (i := 0) rfl (q := 0) (by decide) (rfl) ?_
  refine own_dstore K own_d1_48 (Ls' := #[.val (.ref a), .val (.int fa), .val (.ref r), .val (.int (0 : Int32)), .val (.double (0 : UInt64)), .second]) rfl ?_
  refine own_dload K own_d1_50 rfl ?_
  refine own_dconst0 K own_d1_52 (v := (0 : UInt64)) rfl ?_
  refine own_dcmp K own_d1_53 ?_
  refine own_topI (x' := (0 : Int32)) (by decide +kernel) ?_
  refine own_iflt K own_d1_54 (fun q => absurd q (by decide)) (fun _ => ?_)
  refine own_dload K own_d1_57 rfl ?_
  refine own_dconst1 K own_d1_59 (v := (4607182418800017408 : UInt64)) rfl ?_
  refine own_dcmp K own_d1_60 ?_
  refine own_topI (x' := (-1 : Int32)) (by decide +kernel) ?_
  refine own_ifle K own_d1_61 (fun _ => ?_) (fun q => absurd (by decide) q)
  refine own_iinc K own_d1_82 rfl (y := (1 : Int32)) (by decide) (Ls' := #[.val (.ref a), .val (.int fa), .val (.ref r), .val (.int (1 : Int32)), .val (.double (0 : UInt64)), .second]) rfl ?_
  refine own_goto K own_d1_85 ?_
  refine own_iloadN K own_d1_39 rfl ?_
  refine own_aloadN K own_d1_40 rfl rfl ?_
  refine own_arraylength K own_d1_41 H (i := 0) rfl (N := (4 : Int32)) (rfl) ?_
  refine own_icmpge K own_d1_42 (fun q => absurd q (by decide)) (fun _ => ?_)
  refine own_aloadN K own_d1_45 rfl rfl ?_
  refine own_iloadN K own_d1_46 rfl ?_
  refine own_daload K own_d1_47 H (i := 0) rfl (q := 1) (by decide) (rfl) ?_
  refine own_dstore K own_d1_48 (Ls' := #[.val (.ref a), .val (.int fa), .val (.ref r), .val (.int (1 : Int32)), .val (.double (4602678819172646912 : UInt64)), .second]) rfl ?_
  refine own_dload K own_d1_50 rfl ?_
  refine own_dconst0 K own_d1_52 (v := (0 : UInt64)) rfl ?_
  refine own_dcmp K own_d1_53 ?_
  refine own_topI (x' := (1 : Int32)) (by decide +kernel) ?_
  refine own_iflt K own_d1_54 (fun q => absurd q (by decide)) (fun _ => ?_)
  refine own_dload K own_d1_57 rfl ?_
  refine own_dconst1 K own_d1_59 (v := (4607182418800017408 : UInt64)) rfl ?_
  refine own_dcmp K own_d1_60 ?_
  refine own_topI (x' := (-1 : Int32)) (by decide +kernel) ?_
  refine own_ifle K own_d1_61 (fun _ => ?_) (fun q => absurd (by decide) q)
  refine own_iinc K own_d1_82 rfl (y := (2 : Int32)) (by decide) (Ls' := #[.val (.ref a), .val (.int fa), .val (.ref r), .val (.int (2 : Int32)), .val (.double (4602678819172646912 : UInt64)), .second]) rfl ?_
  refine own_goto K own_d1_85 ?_
  refine own_iloadN K own_d1_39 rfl ?_
  refine own_aloadN K own_d1_40 rfl rfl ?_
  refine own_arraylength K own_d1_41 H (i := 0) rfl (N := (4 : Int32)) (rfl) ?_
  refine own_icmpge K own_d1_42 (fun q => absurd q (by decide)) (fun _ => ?_)
  refine own_aloadN K own_d1_45 rfl rfl ?_
  refine own_iloadN K own_d1_46 rfl ?_
  refine own_daload K own_d1_47 H (i := 0) rfl (q := 2) (by decide) (rfl) ?_
  refine own_dstore K own_d1_48 (Ls' := #[.val (.ref a), .val (.int fa), .val (.ref r), .val (.int (2 : Int32)), .val (.double (4607182418800017408 : UInt64)), .second]) rfl ?_
  refine own_dload K own_d1_50 rfl ?_
  refine own_dconst0 K own_d1_52 (v := (0 : UInt64)) rfl ?_
  refine own_dcmp K own_d1_53 ?_
  refine own_topI (x' := (1 : Int32)) (by decide +kernel) ?_
  refine own_iflt K own_d1_54 (fun q => absurd q (by decide)) (fun _ => ?_)
  refine own_dload K own_d1_57 rfl ?_
  refine own_dconst1 K own_d1_59 (v := (4607182418800017408 : UInt64)) rfl ?_
  refine own_dcmp K own_d1_60 ?_
  refine own_topI (x' := (0 : Int32)) (by decide +kernel) ?_
  refine own_ifle K own_d1_61 (fun _ => ?_) (fun q => absurd (by decide) q)
  refine own_iinc K own_d1_82 rfl (y := (3 : Int32)) (by decide) (Ls' := #[.val (.ref a), .val (.int fa), .val (.ref r), .val (.int (3 : Int32)), .val (.double (4607182418800017408 : UInt64)), .second]) rfl ?_
  refine own_goto K own_d1_85 ?_
  refine own_iloadN K own_d1_39 rfl ?_
  refine own_aloadN K own_d1_40 rfl rfl ?_
  refine own_arraylength K own_d1_41 H (i := 0) rfl (N := (4 : Int32)) (rfl) ?_
  refine own_icmpge K own_d1_42 (fun q => absurd q (by decide)) (fun _ => ?_)
  refine own_aloadN K own_d1_45 rfl rfl ?_
  refine own_iloadN K own_d1_46 rfl ?_
  refine own_daload K own_d1_47 H (i := 0) rfl (q := 3) (by decide) (rfl) ?_
  refine own_dstore K own_d1_48 (Ls' := #[.val (.ref a), .val (.int fa), .val (.ref r), .val (.int (3 : Int32)), .val (.double (4607182418800017408 : UInt64)), .second]) rfl ?_
  refine own_dload K own_d1_50 rfl ?_
  refine own_dconst0 K own_d1_52 (v := (0 : UInt64)) rfl ?_
  refine own_dcmp K own_d1_53 ?_
  refine own_topI (x' := (1 : Int32)) (by decide +kernel) ?_
  refine own_iflt K own_d1_54 (fun q => absurd q (by decide)) (fun _ => ?_)
  refine own_dload K own_d1_57 rfl ?_
  refine own_dconst1 K own_d1_59 (v := (4607182418800017408 : UInt64)) rfl ?_
  refine own_dcmp K own_d1_60 ?_
  refine own_topI (x' := (0 : Int32)) (by decide +kernel) ?_
  refine own_ifle K own_d1_61 (fun _ => ?_) (fun q => absurd (by decide) q)
  refine own_iinc K own_d1_82 rfl (y := (4 : Int32)) (by decide) (Ls' := #[.val (.ref a), .val (.int fa), .val (.ref r), .val (.int (4 : Int32)), .val (.double (4607182418800017408 : UInt64)), .second]) rfl ?_
  refine own_goto K own_d1_85 ?_
  refine own_iloadN K own_d1_39 rfl ?_
  refine own_aloadN K own_d1_40 rfl rfl ?_
  refine own_arraylength K own_d1_41 H (i := 0) rfl (N := (4 : Int32)) (rfl) ?_
  refine own_icmpge K own_d1_42 (fun _ => ?_) (fun q => absurd (by decide) q)
  refine own_aloadN K own_d1_88 rfl rfl ?_
  refine own_iloadN K own_d1_89 rfl ?_
  refine own_putfield K own_d1_90 (host := "") (Or.inl (own_w17 hw)) Via.refl H (j := 0) rfl (q := 0) rfl (Or.inr ⟨(own_w18 hw), rfl, rfl⟩) (own_w3 hw) (ty := .int) (by decide +kernel) (rfl) rfl ?_
  intro h1 H2
  replace H2 : own_H Z h1 (own_MT a (.int fa) .null :: os) ((r, .double, "[D", [(.double (0 : UInt64)), (.double (4602678819172646912 : UInt64)), (.double (4607182418800017408 : UInt64)), (.double (4607182418800017408 : UInt64))]) :: as) := H2
  refine own_aloadN K own_d1_93 rfl rfl ?_
  refine own_aloadN K own_d1_94 rfl rfl ?_
  refine own_clone K own_d1_95 (own_w19 hw) (own_w20 hw) (own_w24 hw) (own_w22 hw) (own_w23 hw) (own_w25 hw) H2 (j := 0) rfl (by decide) rfl (by decide) (W := 1) (Nat.le_of_eq rfl) (by decide) (by decide) (own_le rfl) ?_
  intro h3 a5 H4
  replace H4 : own_H Z h3 (own_MT a (.int fa) .null :: os) ((a5, .double, "[D", [(.double (0 : UInt64)), (.double (4602678819172646912 : UInt64)), (.double (4607182418800017408 : UInt64)), (.double (4607182418800017408 : UInt64))]) :: (r, .double, "[D", [(.double (0 : UInt64)), (.double (4602678819172646912 : UInt64)), (.double (4607182418800017408 : UInt64)), (.double (4607182418800017408 : UInt64))]) :: as) := H4
  refine own_checkcast K own_d1_98 (own_w26 hw) (Ins.self (H4.exaA (i := 0) rfl (by decide))) ?_
  refine own_putfield K own_d1_101 (host := "") (Or.inl (own_w28 hw)) Via.refl H4 (j := 0) rfl (q := 1) rfl (Or.inr ⟨(own_w29 hw), rfl, rfl⟩) (own_w3 hw) (ty := (.array .double)) (by decide +kernel) (rfl) rfl ?_
  intro h6 H7
  replace H7 : own_H Z h6 (own_MT a (.int fa) (.ref a5) :: os) ((a5, .double, "[D", [(.double (0 : UInt64)), (.double (4602678819172646912 : UInt64)), (.double (4607182418800017408 : UInt64)), (.double (4607182418800017408 : UInt64))]) :: (r, .double, "[D", [(.double (0 : UInt64)), (.double (4602678819172646912 : UInt64)), (.double (4607182418800017408 : UInt64)), (.double (4607182418800017408 : UInt64))]) :: as) := H7
  exact own_retV K own_d1_104 (by decide) (by decide) (⟨rfl, _, H7⟩)
set_option maxRecDepth 65536 in
set_option maxHeartbeats 40000000 in
theorem own_last_m_ef (m : MethodId) (x0 : Addr) : entryFrame m #[(.ref x0)] 1 = mkF m 0 #[.val (.ref x0)] [] := by first | (simp [entryFrame, mkF, argsToLocals, Value.category]; done) | rfl
set_option maxRecDepth 65536 in
set_option maxHeartbeats 40000000 in
theorem own_last_m {l : Launch} {Z : State} {a0 : Array Value} (hw : own_Z Z a0) {h : Heap} {os : List own_O} {as : List own_A} {a b : Addr} {fa N : Int32} {vs : List Value} (H : own_H Z h (own_MT a (.int fa) (.ref b) :: os) ((b, .double, "[D", vs) :: as)) (hN : N.toInt = (vs.length : Int)) : own_Met false l Z (⟨"com/example/vestline/vestline/actuarial/MortalityTable", "lastAge", "()I"⟩ : MethodName) prog_3_method_4_code 1 (some .int) [] ({ frames := 0, cells := 0, slots := 0, locals := 0 } : Room) #[(.ref a)] h (fun v h' => v = some (.int (fa + N - 1)) ∧ h = h') := by
  refine own_met (by first | exact plainFor_of_name (by decide +kernel) | decide +kernel) ?_
  intro p e s m below meth c K
  refine own_cast (own_last_m_ef m _) ?_
  refine own_aloadN K own_d2_0 rfl rfl ?_
  refine own_getfield K own_d2_1 (host := "") (Or.inl (own_w17 hw)) Via.refl H (j := 0) rfl (q := 0) rfl ?_
  refine own_aloadN K own_d2_4 rfl rfl ?_
  refine own_getfield K own_d2_5 (host := "") (Or.inl (own_w28 hw)) Via.refl H (j := 0) rfl (q := 1) rfl ?_
  refine own_arraylength K own_d2_8 H (i := 0) rfl (N := N) (hN) ?_
  refine own_iadd K own_d2_9 ?_
  refine own_iconst K own_d2_10 (v := (1 : Int32)) rfl ?_
  refine own_isub K own_d2_11 ?_
  exact own_retI K own_d2_12 (by decide) (by decide) (⟨rfl, rfl⟩)
set_option maxRecDepth 65536 in
set_option maxHeartbeats 40000000 in
theorem own_rq_m_ef (m : MethodId) (x0 : Addr) (x1 : Int32) : entryFrame m #[(.ref x0), (.int x1)] 2 = mkF m 0 #[.val (.ref x0), .val (.int x1)] [] := by first | (simp [entryFrame, mkF, argsToLocals, Value.category]; done) | rfl
set_option maxRecDepth 65536 in
set_option maxHeartbeats 40000000 in
theorem own_rq_m {l : Launch} {Z : State} {a0 : Array Value} (hw : own_Z Z a0) {h : Heap} {os : List own_O} {as : List own_A} {a b : Addr} {fa N : Int32} {vs : List Value} {x : Int32} (H : own_H Z h (own_MT a (.int fa) (.ref b) :: os) ((b, .double, "[D", vs) :: as)) (hN : N.toInt = (vs.length : Int)) (g1 : fa.toInt ≤ x.toInt) (g2 : x.toInt ≤ (fa + N - 1).toInt) : own_Met false l Z (⟨"com/example/vestline/vestline/actuarial/MortalityTable", "requireAge", "(I)V"⟩ : MethodName) prog_3_method_7_code 2 none [] ({ frames := 1, cells := 0, slots := 0, locals := 13 } : Room) #[(.ref a), (.int x)] h (fun v h' => v = none ∧ h = h') := by
  refine own_met (by first | exact plainFor_of_name (by decide +kernel) | decide +kernel) ?_
  intro p e s m below meth c K
  refine own_cast (own_rq_m_ef m _ _) ?_
  refine own_iloadN K own_d3_0 rfl ?_
  refine own_aloadN K own_d3_1 rfl rfl ?_
  refine own_getfield K own_d3_2 (host := "") (Or.inl (own_w17 hw)) Via.refl H (j := 0) rfl (q := 0) rfl ?_
  refine own_icmplt K own_d3_5 (fun q => absurd q (Int.not_lt.mpr g1)) (fun _ => ?_)
  refine own_iloadN K own_d3_8 rfl ?_
  refine own_aloadN K own_d3_9 rfl rfl ?_
  refine own_virtual K own_d3_10 (own_w59 hw) (own_w60 hw) (own_w62 hw) (own_w61 hw) (own_w4 hw) (own_w63 hw) (H.atO (i := 0) rfl) (a := a) (argsL := []) (rest := [(.int x)]) (own_last_m hw H hN) own_pd0 rfl rfl rfl (by decide) (W := 1) (Nat.le_of_eq rfl) (by decide) (by decide) (by decide) (by decide) ?_
  intro v3 h1 q2
  obtain ⟨rfl, rfl⟩ := q2
  refine own_icmple K own_d3_13 (fun _ => ?_) (fun q => absurd (g2) q)
  exact own_retV K own_d3_38 (by decide) (by decide) (⟨rfl, rfl⟩)
set_option maxRecDepth 65536 in
set_option maxHeartbeats 40000000 in
theorem own_rec_ef (m : MethodId) (x0 : Addr) : entryFrame m #[(.ref x0)] 1 = mkF m 0 #[.val (.ref x0)] [] := by first | (simp [entryFrame, mkF, argsToLocals, Value.category]; done) | rfl
set_option maxRecDepth 65536 in
set_option maxHeartbeats 40000000 in
theorem own_rec {l : Launch} {Z : State} {a0 : Array Value} (hw : own_Z Z a0) {h : Heap} {a : Addr} : own_Met false l Z (⟨"java/lang/Record", "<init>", "()V"⟩ : MethodName) jdk_30_method_1_code 1 none [] ({ frames := 1, cells := 0, slots := 0, locals := 12 } : Room) #[(.ref a)] h (fun v h' => v = none ∧ h = h') := by
  refine own_met (by first | exact plainFor_of_name (by decide +kernel) | decide +kernel) ?_
  intro p e s m below meth c K
  refine own_cast (own_rec_ef m _) ?_
  refine own_aloadN K own_d4_0 rfl rfl ?_
  refine own_initO K own_d4_1 (own_w41 hw) (own_w15 hw) (own_w16 hw) rfl (by decide) (W := 0) (Nat.le_of_eq rfl) (by decide) ?_
  exact own_retV K own_d4_4 (by decide) (by decide) (⟨rfl, rfl⟩)
set_option maxRecDepth 65536 in
set_option maxHeartbeats 40000000 in
theorem own_rnn_ef (m : MethodId) (x0 : Addr) (x1 : Addr) : entryFrame m #[(.ref x0), (.ref x1)] 2 = mkF m 0 #[.val (.ref x0), .val (.ref x1)] [] := by first | (simp [entryFrame, mkF, argsToLocals, Value.category]; done) | rfl
set_option maxRecDepth 65536 in
set_option maxHeartbeats 40000000 in
theorem own_rnn {l : Launch} {Z : State} {a0 : Array Value} (hw : own_Z Z a0) {h : Heap} {a b : Addr} : own_Met false l Z (⟨"java/util/Objects", "requireNonNull", "(Ljava/lang/Object;Ljava/lang/String;)Ljava/lang/Object;"⟩ : MethodName) jdk_31_method_11_code 2 (some (.object "java/lang/Object")) [] ({ frames := 0, cells := 0, slots := 0, locals := 0 } : Room) #[(.ref a), (.ref b)] h (fun v h' => v = some (.ref a) ∧ h = h') := by
  refine own_met (by first | exact plainFor_of_name (by decide +kernel) | decide +kernel) ?_
  intro p e s m below meth c K
  refine own_cast (own_rnn_ef m _ _) ?_
  refine own_aloadN K own_d5_0 rfl rfl ?_
  refine own_ifnonnullR K own_d5_1 ?_
  refine own_aloadN K own_d5_13 rfl rfl ?_
  exact own_retA K rfl rfl own_d5_14 (by decide) (by decide) (⟨rfl, rfl⟩)
set_option maxRecDepth 65536 in
set_option maxHeartbeats 40000000 in
theorem own_life_ef (m : MethodId) (x0 : Addr) (x1 : Addr) (x2 : Int32) : entryFrame m #[(.ref x0), (.ref x1), (.int x2)] 3 = mkF m 0 #[.val (.ref x0), .val (.ref x1), .val (.int x2)] [] := by first | (simp [entryFrame, mkF, argsToLocals, Value.category]; done) | rfl
set_option maxRecDepth 65536 in
set_option maxHeartbeats 40000000 in
theorem own_life {l : Launch} {Z : State} {a0 : Array Value} (hw : own_Z Z a0) {h : Heap} {os : List own_O} {as : List own_A} {a b : Addr} {fa N : Int32} {vs : List Value} {f : Addr} {x : Int32} (H : own_H Z h (own_LF f .null (.int (0 : Int32)) :: own_MT a (.int fa) (.ref b) :: os) ((b, .double, "[D", vs) :: as)) (hN : N.toInt = (vs.length : Int)) (g1 : fa.toInt ≤ x.toInt) (g2 : x.toInt ≤ (fa + N - 1).toInt) : own_Met true l Z (⟨"com/example/vestline/vestline/actuarial/Life", "<init>", "(Lcom/example/vestline/vestline/actuarial/MortalityTable;I)V"⟩ : MethodName) prog_1_method_1_code 3 none [] ({ frames := 2, cells := 2, slots := 24, locals := 30 } : Room) #[(.ref f), (.ref a), (.int x)] h (fun v h' => v = none ∧ own_H Z h' (own_LF f (.ref a) (.int x) :: own_MT a (.int fa) (.ref b) :: os) ((b, .double, "[D", vs) :: as)) := by
  refine own_met (by first | exact plainFor_of_name (by decide +kernel) | decide +kernel) ?_
  intro p e s m below meth c K
  refine own_cast (own_life_ef m _ _ _) ?_
  refine own_aloadN K own_d6_0 rfl rfl ?_
  refine own_special K own_d6_1 rfl (own_w36 hw) (own_w37 hw) (own_w39 hw) (own_w40 hw) (a := f) (argsL := []) (rest := []) (own_rec hw) own_pd1 rfl rfl rfl (by decide) (W := 0) (Nat.le_of_eq rfl) (by decide) (by decide) (by decide) (by decide) ?_
  intro v3 h1 q2
  obtain ⟨rfl, rfl⟩ := q2
  refine own_aloadN K own_d6_4 rfl rfl ?_
  refine own_ldcS K own_d6_5 (own_w42 hw) (own_sa hw) H (nn := 20) (by decide) (by decide) (by decide) (by decide) ?_
  intro h4 a6 H5
  replace H5 : own_H Z h4 (own_LF f .null (.int (0 : Int32)) :: own_MT a (.int fa) (.ref b) :: os) ((b, .double, "[D", vs) :: as) := H5
  refine own_static K own_d6_7 (own_w50 hw) (own_w51 hw) (own_w52 hw) (own_w53 hw) (argsL := [(.ref a), (.ref a6)]) (rest := []) (own_rnn hw) own_pd2 rfl rfl rfl (by decide) (W := 0) (Nat.le_of_eq rfl) (by decide) (by decide) (by decide) (by decide) ?_
  intro v9 h7 q8
  obtain ⟨rfl, rfl⟩ := q8
  refine own_pop K own_d6_10 rfl ?_
  refine own_aloadN K own_d6_11 rfl rfl ?_
  refine own_iloadN K own_d6_12 rfl ?_
  have H10 := H5.frontO 1 rfl
  replace H10 : own_H Z h4 (own_MT a (.int fa) (.ref b) :: own_LF f .null (.int (0 : Int32)) :: os) ((b, .double, "[D", vs) :: as) := H10
  refine own_virtual K own_d6_13 (own_w54 hw) (own_w55 hw) (own_w57 hw) (own_w56 hw) (own_w4 hw) (own_w58 hw) (H10.atO (i := 0) rfl) (a := a) (argsL := [(.int x)]) (rest := []) (own_rq_m hw H10 hN g1 g2) own_pd3 rfl rfl rfl (by decide) (W := 0) (Nat.le_of_eq rfl) (by decide) (by decide) (by decide) (by decide) ?_
  intro v13 h11 q12
  obtain ⟨rfl, rfl⟩ := q12
  refine own_aloadN K own_d6_16 rfl rfl ?_
  refine own_aloadN K own_d6_17 rfl rfl ?_
  refine own_putfield K own_d6_18 (host := "") (Or.inl (own_w64 hw)) Via.refl H10 (j := 1) rfl (q := 0) rfl (Or.inr ⟨(own_w65 hw), rfl, rfl⟩) (own_w31 hw) (ty := (.object "com/example/vestline/vestline/actuarial/MortalityTable")) (by decide +kernel) (rfl) rfl ?_
  intro h14 H15
  replace H15 : own_H Z h14 (own_MT a (.int fa) (.ref b) :: own_LF f (.ref a) (.int (0 : Int32)) :: os) ((b, .double, "[D", vs) :: as) := H15
  refine own_aloadN K own_d6_21 rfl rfl ?_
  refine own_iloadN K own_d6_22 rfl ?_
  refine own_putfield K own_d6_23 (host := "") (Or.inl (own_w66 hw)) Via.refl H15 (j := 1) rfl (q := 1) rfl (Or.inr ⟨(own_w67 hw), rfl, rfl⟩) (own_w31 hw) (ty := .int) (by decide +kernel) (rfl) rfl ?_
  intro h16 H17
  replace H17 : own_H Z h16 (own_MT a (.int fa) (.ref b) :: own_LF f (.ref a) (.int x) :: os) ((b, .double, "[D", vs) :: as) := H17
  have H18 := H17.frontO 1 rfl
  replace H18 : own_H Z h16 (own_LF f (.ref a) (.int x) :: own_MT a (.int fa) (.ref b) :: os) ((b, .double, "[D", vs) :: as) := H18
  exact own_retV K own_d6_26 (by decide) (by decide) (⟨rfl, H18⟩)
set_option maxRecDepth 65536 in
set_option maxHeartbeats 40000000 in
theorem own_years_ef (m : MethodId) (x0 : Addr) : entryFrame m #[(.ref x0)] 1 = mkF m 0 #[.val (.ref x0)] [] := by first | (simp [entryFrame, mkF, argsToLocals, Value.category]; done) | rfl
set_option maxRecDepth 65536 in
set_option maxHeartbeats 40000000 in
theorem own_years {l : Launch} {Z : State} {a0 : Array Value} (hw : own_Z Z a0) {h : Heap} {os : List own_O} {as : List own_A} {a b : Addr} {fa N : Int32} {vs : List Value} {f : Addr} {x : Int32} (H : own_H Z h (own_LF f (.ref a) (.int x) :: own_MT a (.int fa) (.ref b) :: os) ((b, .double, "[D", vs) :: as)) (hN : N.toInt = (vs.length : Int)) : own_Met false l Z (⟨"com/example/vestline/vestline/actuarial/Life", "yearsToEnd", "()I"⟩ : MethodName) prog_1_method_3_code 1 (some .int) [] ({ frames := 1, cells := 0, slots := 0, locals := 12 } : Room) #[(.ref f)] h (fun v h' => v = some (.int (fa + N - 1 - x)) ∧ h = h') := by
  refine own_met (by first | exact plainFor_of_name (by decide +kernel) | decide +kernel) ?_
  intro p e s m below meth c K
  refine own_cast (own_years_ef m _) ?_
  refine own_aloadN K own_d7_0 rfl rfl ?_
  refine own_getfield K own_d7_1 (host := "") (Or.inl (own_w64 hw)) Via.refl H (j := 0) rfl (q := 0) rfl ?_
  have H1 := H.frontO 1 rfl
  replace H1 : own_H Z h (own_MT a (.int fa) (.ref b) :: own_LF f (.ref a) (.int x) :: os) ((b, .double, "[D", vs) :: as) := H1
  refine own_virtual K own_d7_4 (own_w73 hw) (own_w60 hw) (own_w62 hw) (own_w61 hw) (own_w4 hw) (own_w63 hw) (H1.atO (i := 0) rfl) (a := a) (argsL := []) (rest := []) (own_last_m hw H1 hN) own_pd0 rfl rfl rfl (by decide) (W := 0) (Nat.le_of_eq rfl) (by decide) (by decide) (by decide) (by decide) ?_
  intro v4 h2 q3
  obtain ⟨rfl, rfl⟩ := q3
  refine own_aloadN K own_d7_7 rfl rfl ?_
  refine own_getfield K own_d7_8 (host := "") (Or.inl (own_w66 hw)) Via.refl H1 (j := 1) rfl (q := 1) rfl ?_
  refine own_isub K own_d7_11 ?_
  exact own_retI K own_d7_12 (by decide) (by decide) (⟨rfl, rfl⟩)
set_option maxRecDepth 65536 in
set_option maxHeartbeats 40000000 in
theorem own_law_ef (m : MethodId) (x0 : Int32) (x1 : Int32) (x2 : Int32) (x3 : Int32) : entryFrame m #[(.int x0), (.int x1), (.int x2), (.int x3)] 13 = mkF m 0 #[.val (.int x0), .val (.int x1), .val (.int x2), .val (.int x3), .unset, .unset, .unset, .unset, .unset, .unset, .unset, .unset, .unset] [] := by first | (simp [entryFrame, mkF, argsToLocals, Value.category]; done) | rfl
set_option maxRecDepth 65536 in
set_option maxHeartbeats 40000000 in
theorem own_law {l : Launch} {Z : State} {a0 : Array Value} (hw : own_Z Z a0) {i0 i1 i2 i3 : Int32} : own_Met true l Z (⟨"com/example/vestline/vestline/actuarial/LifeYearsToEndPinLaw", "law", "(IIII)Z"⟩ : MethodName) code 13 (some .boolean) tables_1 room_1 #[(.int i0), (.int i1), (.int i2), (.int i3)] Z.heap (fun v h' => v = some (.int 1)) := by
  refine own_met (by first | exact plainFor_of_name (by decide +kernel) | decide +kernel) ?_
  intro p e s m below meth c K
  refine own_cast (own_law_ef m _ _ _ _) ?_
  have H := own_H.start Z
  rcases own_and3 i2 with q | q | q | q <;> rcases own_one i3 with q' | q'
  · refine own_iloadN K own_d8_0 rfl ?_
    refine own_iconst K own_d8_1 (v := (3 : Int32)) rfl ?_
    refine own_iand K own_d8_2 ?_
    refine own_topI (x' := (0 : Int32)) (q) ?_
    refine own_iconst K own_d8_3 (v := (1 : Int32)) rfl ?_
    refine own_iadd K own_d8_4 ?_
    refine own_topI (x' := (1 : Int32)) (by decide) ?_
    refine own_istore K own_d8_5 (Ls' := #[.val (.int i0), .val (.int i1), .val (.int i2), .val (.int i3), .val (.int (1 : Int32)), .unset, .unset, .unset, .unset, .unset, .unset, .unset, .unset]) rfl ?_
    refine own_iloadN K own_d8_7 rfl ?_
    refine own_ldcI K own_d8_8 (v := (2147483647 : Int32)) (own_w0 hw) ?_
    refine own_iand K own_d8_10 ?_
    refine own_ldcI K own_d8_11 (v := (2147483644 : Int32)) (own_w1 hw) ?_
    refine own_irem K own_d8_13 (by decide) ?_
    obtain ⟨fa, e_fa⟩ : ∃ z : Int32, z = ((i0 &&& (2147483647 : Int32)) % (2147483644 : Int32)) := ⟨_, rfl⟩
    have h0 : 0 ≤ fa.toInt ∧ fa.toInt < 2147483644 := by rw [e_fa]; exact own_rem32 (own_mask31 _) (by decide)
    refine own_topI (x' := fa) (e_fa.symm) ?_
    refine own_istore K own_d8_14 (Ls' := #[.val (.int i0), .val (.int i1), .val (.int i2), .val (.int i3), .val (.int (1 : Int32)), .val (.int fa), .unset, .unset, .unset, .unset, .unset, .unset, .unset]) rfl ?_
    refine own_iloadN K own_d8_16 rfl ?_
    refine own_ldcI K own_d8_17 (v := (2147483647 : Int32)) (own_w0 hw) ?_
    refine own_iand K own_d8_19 ?_
    refine own_iload K own_d8_20 rfl ?_
    refine own_irem K own_d8_22 (by decide) ?_
    obtain ⟨kk, e_kk⟩ : ∃ z : Int32, z = ((i1 &&& (2147483647 : Int32)) % (1 : Int32)) := ⟨_, rfl⟩
    have k0 : 0 ≤ kk.toInt ∧ kk.toInt < 1 := by rw [e_kk]; exact own_rem32 (own_mask31 _) (by decide)
    refine own_topI (x' := kk) (e_kk.symm) ?_
    refine own_istore K own_d8_23 (Ls' := #[.val (.int i0), .val (.int i1), .val (.int i2), .val (.int i3), .val (.int (1 : Int32)), .val (.int fa), .val (.int kk), .unset, .unset, .unset, .unset, .unset, .unset]) rfl ?_
    refine own_iload K own_d8_25 rfl ?_
    refine own_iload K own_d8_27 rfl ?_
    refine own_iadd K own_d8_29 ?_
    refine own_istore K own_d8_30 (Ls' := #[.val (.int i0), .val (.int i1), .val (.int i2), .val (.int i3), .val (.int (1 : Int32)), .val (.int fa), .val (.int kk), .val (.int (fa + kk)), .unset, .unset, .unset, .unset, .unset]) rfl ?_
    refine own_iloadN K own_d8_32 rfl ?_
    refine own_iconst K own_d8_33 (v := (1 : Int32)) rfl ?_
    refine own_iand K own_d8_34 ?_
    refine own_topI (x' := (0 : Int32)) (q') ?_
    refine own_i2d K own_d8_35 ?_
    refine own_topD (x' := (0 : UInt64)) (by decide +kernel) ?_
    refine own_dstore K own_d8_36 (Ls' := #[.val (.int i0), .val (.int i1), .val (.int i2), .val (.int i3), .val (.int (1 : Int32)), .val (.int fa), .val (.int kk), .val (.int (fa + kk)), .val (.double (0 : UInt64)), .second, .unset, .unset, .unset]) rfl ?_
    refine own_new K own_d8_38 (own_w2 hw) (own_w3 hw) (own_w4 hw) H (own_MT_F hw) (own_MT_P hw) (by decide) (by decide) ?_
    intro h1 a3 H2
    replace H2 : own_H Z h1 (own_MT a3 (.int (0 : Int32)) .null :: []) ([]) := H2
    refine own_dup K own_d8_41 rfl ?_
    refine own_iload K own_d8_42 rfl ?_
    refine own_iload K own_d8_44 rfl ?_
    refine own_dload K own_d8_46 rfl ?_
    refine own_static K own_d8_48 (own_w5 hw) (own_w6 hw) (own_w7 hw) (own_w8 hw) (argsL := [(.int (1 : Int32)), (.double (0 : UInt64))]) (rest := [(.int fa), (.ref a3), (.ref a3)]) (own_rates1 hw H2) own_pd4 rfl rfl rfl (by decide) (W := 3) (Nat.le_of_eq rfl) (by decide) (by decide) (by decide) (by decide) ?_
    intro v6 h4 q5
    obtain ⟨b7, rfl, H8⟩ := q5
    replace H8 : own_H Z h4 (own_MT a3 (.int (0 : Int32)) .null :: []) ((b7, .double, "[D", [(.double (0 : UInt64))]) :: []) := H8
    refine own_special K own_d8_51 rfl (own_w11 hw) (own_w12 hw) (own_w4 hw) (own_w13 hw) (a := a3) (argsL := [(.int fa), (.ref b7)]) (rest := [(.ref a3)]) (own_init1_0 hw h0.1 H8) own_pd5 rfl rfl rfl (by decide) (W := 1) (Nat.le_of_eq rfl) (by decide) (by decide) (by decide) (by decide) ?_
    intro v11 h9 q10
    obtain ⟨rfl, b12, H13⟩ := q10
    replace H13 : own_H Z h9 (own_MT a3 (.int fa) (.ref b12) :: []) ((b12, .double, "[D", [(.double (0 : UInt64))]) :: (b7, .double, "[D", [(.double (0 : UInt64))]) :: []) := H13
    have eN : ((1 : Int32) : Int32).toInt = 1 := rfl
    have gl := own_last (N := (1 : Int32)) h0.1 (by decide) (by omega)
    have ga : (fa + kk).toInt = fa.toInt + kk.toInt := own_add32 (by omega) (by omega)
    refine own_astore K own_d8_54 rfl (Ls' := #[.val (.int i0), .val (.int i1), .val (.int i2), .val (.int i3), .val (.int (1 : Int32)), .val (.int fa), .val (.int kk), .val (.int (fa + kk)), .val (.double (0 : UInt64)), .second, .val (.ref a3), .unset, .unset]) rfl ?_
    refine own_new K own_d8_56 (own_w30 hw) (own_w31 hw) (own_w32 hw) H13 (own_LF_F hw) (own_LF_P hw) (by decide) (by decide) ?_
    intro h14 a16 H15
    replace H15 : own_H Z h14 (own_LF a16 .null (.int (0 : Int32)) :: own_MT a3 (.int fa) (.ref b12) :: []) ((b12, .double, "[D", [(.double (0 : UInt64))]) :: (b7, .double, "[D", [(.double (0 : UInt64))]) :: []) := H15
    refine own_dup K own_d8_59 rfl ?_
    refine own_aload K own_d8_60 rfl rfl ?_
    refine own_iload K own_d8_62 rfl ?_
    refine own_specialW K own_d8_64 rfl (own_w33 hw) (own_w34 hw) (own_w32 hw) (own_w35 hw) (a := a16) (argsL := [(.ref a3), (.int (fa + kk))]) (rest := [(.ref a16)]) (own_life hw H15 (N := (1 : Int32)) rfl (by omega) (by omega)) own_pd6 rfl rfl rfl (by decide) (W := 1) (Nat.le_of_eq rfl) (by decide) (by decide) (by decide) (by decide) ?_
    intro v19 h17 q18
    obtain ⟨rfl, H20⟩ := q18
    replace H20 : own_H Z h17 (own_LF a16 (.ref a3) (.int (fa + kk)) :: own_MT a3 (.int fa) (.ref b12) :: []) ((b12, .double, "[D", [(.double (0 : UInt64))]) :: (b7, .double, "[D", [(.double (0 : UInt64))]) :: []) := H20
    refine own_astore K own_d8_67 rfl (Ls' := #[.val (.int i0), .val (.int i1), .val (.int i2), .val (.int i3), .val (.int (1 : Int32)), .val (.int fa), .val (.int kk), .val (.int (fa + kk)), .val (.double (0 : UInt64)), .second, .val (.ref a3), .val (.ref a16), .unset]) rfl ?_
    refine own_aload K own_d8_69 rfl rfl ?_
    refine own_virtual K own_d8_71 (own_w68 hw) (own_w69 hw) (own_w71 hw) (own_w70 hw) (own_w32 hw) (own_w72 hw) (H20.atO (i := 0) rfl) (a := a16) (argsL := []) (rest := []) (own_years hw H20 (N := (1 : Int32)) rfl) own_pd0 rfl rfl rfl (by decide) (W := 0) (Nat.le_of_eq rfl) (by decide) (by decide) (by decide) (by decide) ?_
    intro v23 h21 q22
    obtain ⟨rfl, rfl⟩ := q22
    refine own_topI (x' := ((0 : Int32) - kk)) (own_yr _ _ _ _ (by decide)) ?_
    refine own_istore K own_d8_74 (Ls' := #[.val (.int i0), .val (.int i1), .val (.int i2), .val (.int i3), .val (.int (1 : Int32)), .val (.int fa), .val (.int kk), .val (.int (fa + kk)), .val (.double (0 : UInt64)), .second, .val (.ref a3), .val (.ref a16), .val (.int ((0 : Int32) - kk))]) rfl ?_
    refine own_iload K own_d8_76 rfl ?_
    refine own_iload K own_d8_78 rfl ?_
    refine own_iconst K own_d8_80 (v := (1 : Int32)) rfl ?_
    refine own_isub K own_d8_81 ?_
    refine own_topI (x' := (0 : Int32)) (by decide) ?_
    refine own_iload K own_d8_82 rfl ?_
    refine own_isub K own_d8_84 ?_
    refine own_icmpne K own_d8_85 (fun q => absurd q (fun z => z rfl)) (fun _ => ?_)
    refine own_iconst K own_d8_88 (v := (1 : Int32)) rfl ?_
    refine own_goto K own_d8_89 ?_
    exact own_retZ K (by first | exact Or.inl rfl | exact Or.inr rfl | decide) own_d8_93 (by decide) (by decide) (rfl)
  · refine own_iloadN K own_d8_0 rfl ?_
    refine own_iconst K own_d8_1 (v := (3 : Int32)) rfl ?_
    refine own_iand K own_d8_2 ?_
    refine own_topI (x' := (0 : Int32)) (q) ?_
    refine own_iconst K own_d8_3 (v := (1 : Int32)) rfl ?_
    refine own_iadd K own_d8_4 ?_
    refine own_topI (x' := (1 : Int32)) (by decide) ?_
    refine own_istore K own_d8_5 (Ls' := #[.val (.int i0), .val (.int i1), .val (.int i2), .val (.int i3), .val (.int (1 : Int32)), .unset, .unset, .unset, .unset, .unset, .unset, .unset, .unset]) rfl ?_
    refine own_iloadN K own_d8_7 rfl ?_
    refine own_ldcI K own_d8_8 (v := (2147483647 : Int32)) (own_w0 hw) ?_
    refine own_iand K own_d8_10 ?_
    refine own_ldcI K own_d8_11 (v := (2147483644 : Int32)) (own_w1 hw) ?_
    refine own_irem K own_d8_13 (by decide) ?_
    obtain ⟨fa, e_fa⟩ : ∃ z : Int32, z = ((i0 &&& (2147483647 : Int32)) % (2147483644 : Int32)) := ⟨_, rfl⟩
    have h0 : 0 ≤ fa.toInt ∧ fa.toInt < 2147483644 := by rw [e_fa]; exact own_rem32 (own_mask31 _) (by decide)
    refine own_topI (x' := fa) (e_fa.symm) ?_
    refine own_istore K own_d8_14 (Ls' := #[.val (.int i0), .val (.int i1), .val (.int i2), .val (.int i3), .val (.int (1 : Int32)), .val (.int fa), .unset, .unset, .unset, .unset, .unset, .unset, .unset]) rfl ?_
    refine own_iloadN K own_d8_16 rfl ?_
    refine own_ldcI K own_d8_17 (v := (2147483647 : Int32)) (own_w0 hw) ?_
    refine own_iand K own_d8_19 ?_
    refine own_iload K own_d8_20 rfl ?_
    refine own_irem K own_d8_22 (by decide) ?_
    obtain ⟨kk, e_kk⟩ : ∃ z : Int32, z = ((i1 &&& (2147483647 : Int32)) % (1 : Int32)) := ⟨_, rfl⟩
    have k0 : 0 ≤ kk.toInt ∧ kk.toInt < 1 := by rw [e_kk]; exact own_rem32 (own_mask31 _) (by decide)
    refine own_topI (x' := kk) (e_kk.symm) ?_
    refine own_istore K own_d8_23 (Ls' := #[.val (.int i0), .val (.int i1), .val (.int i2), .val (.int i3), .val (.int (1 : Int32)), .val (.int fa), .val (.int kk), .unset, .unset, .unset, .unset, .unset, .unset]) rfl ?_
    refine own_iload K own_d8_25 rfl ?_
    refine own_iload K own_d8_27 rfl ?_
    refine own_iadd K own_d8_29 ?_
    refine own_istore K own_d8_30 (Ls' := #[.val (.int i0), .val (.int i1), .val (.int i2), .val (.int i3), .val (.int (1 : Int32)), .val (.int fa), .val (.int kk), .val (.int (fa + kk)), .unset, .unset, .unset, .unset, .unset]) rfl ?_
    refine own_iloadN K own_d8_32 rfl ?_
    refine own_iconst K own_d8_33 (v := (1 : Int32)) rfl ?_
    refine own_iand K own_d8_34 ?_
    refine own_topI (x' := (1 : Int32)) (q') ?_
    refine own_i2d K own_d8_35 ?_
    refine own_topD (x' := (4607182418800017408 : UInt64)) (by decide +kernel) ?_
    refine own_dstore K own_d8_36 (Ls' := #[.val (.int i0), .val (.int i1), .val (.int i2), .val (.int i3), .val (.int (1 : Int32)), .val (.int fa), .val (.int kk), .val (.int (fa + kk)), .val (.double (4607182418800017408 : UInt64)), .second, .unset, .unset, .unset]) rfl ?_
    refine own_new K own_d8_38 (own_w2 hw) (own_w3 hw) (own_w4 hw) H (own_MT_F hw) (own_MT_P hw) (by decide) (by decide) ?_
    intro h1 a3 H2
    replace H2 : own_H Z h1 (own_MT a3 (.int (0 : Int32)) .null :: []) ([]) := H2
    refine own_dup K own_d8_41 rfl ?_
    refine own_iload K own_d8_42 rfl ?_
    refine own_iload K own_d8_44 rfl ?_
    refine own_dload K own_d8_46 rfl ?_
    refine own_static K own_d8_48 (own_w5 hw) (own_w6 hw) (own_w7 hw) (own_w8 hw) (argsL := [(.int (1 : Int32)), (.double (4607182418800017408 : UInt64))]) (rest := [(.int fa), (.ref a3), (.ref a3)]) (own_rates1 hw H2) own_pd4 rfl rfl rfl (by decide) (W := 3) (Nat.le_of_eq rfl) (by decide) (by decide) (by decide) (by decide) ?_
    intro v6 h4 q5
    obtain ⟨b7, rfl, H8⟩ := q5
    replace H8 : own_H Z h4 (own_MT a3 (.int (0 : Int32)) .null :: []) ((b7, .double, "[D", [(.double (4607182418800017408 : UInt64))]) :: []) := H8
    refine own_special K own_d8_51 rfl (own_w11 hw) (own_w12 hw) (own_w4 hw) (own_w13 hw) (a := a3) (argsL := [(.int fa), (.ref b7)]) (rest := [(.ref a3)]) (own_init1_1 hw h0.1 H8) own_pd5 rfl rfl rfl (by decide) (W := 1) (Nat.le_of_eq rfl) (by decide) (by decide) (by decide) (by decide) ?_
    intro v11 h9 q10
    obtain ⟨rfl, b12, H13⟩ := q10
    replace H13 : own_H Z h9 (own_MT a3 (.int fa) (.ref b12) :: []) ((b12, .double, "[D", [(.double (4607182418800017408 : UInt64))]) :: (b7, .double, "[D", [(.double (4607182418800017408 : UInt64))]) :: []) := H13
    have eN : ((1 : Int32) : Int32).toInt = 1 := rfl
    have gl := own_last (N := (1 : Int32)) h0.1 (by decide) (by omega)
    have ga : (fa + kk).toInt = fa.toInt + kk.toInt := own_add32 (by omega) (by omega)
    refine own_astore K own_d8_54 rfl (Ls' := #[.val (.int i0), .val (.int i1), .val (.int i2), .val (.int i3), .val (.int (1 : Int32)), .val (.int fa), .val (.int kk), .val (.int (fa + kk)), .val (.double (4607182418800017408 : UInt64)), .second, .val (.ref a3), .unset, .unset]) rfl ?_
    refine own_new K own_d8_56 (own_w30 hw) (own_w31 hw) (own_w32 hw) H13 (own_LF_F hw) (own_LF_P hw) (by decide) (by decide) ?_
    intro h14 a16 H15
    replace H15 : own_H Z h14 (own_LF a16 .null (.int (0 : Int32)) :: own_MT a3 (.int fa) (.ref b12) :: []) ((b12, .double, "[D", [(.double (4607182418800017408 : UInt64))]) :: (b7, .double, "[D", [(.double (4607182418800017408 : UInt64))]) :: []) := H15
    refine own_dup K own_d8_59 rfl ?_
    refine own_aload K own_d8_60 rfl rfl ?_
    refine own_iload K own_d8_62 rfl ?_
    refine own_specialW K own_d8_64 rfl (own_w33 hw) (own_w34 hw) (own_w32 hw) (own_w35 hw) (a := a16) (argsL := [(.ref a3), (.int (fa + kk))]) (rest := [(.ref a16)]) (own_life hw H15 (N := (1 : Int32)) rfl (by omega) (by omega)) own_pd6 rfl rfl rfl (by decide) (W := 1) (Nat.le_of_eq rfl) (by decide) (by decide) (by decide) (by decide) ?_
    intro v19 h17 q18
    obtain ⟨rfl, H20⟩ := q18
    replace H20 : own_H Z h17 (own_LF a16 (.ref a3) (.int (fa + kk)) :: own_MT a3 (.int fa) (.ref b12) :: []) ((b12, .double, "[D", [(.double (4607182418800017408 : UInt64))]) :: (b7, .double, "[D", [(.double (4607182418800017408 : UInt64))]) :: []) := H20
    refine own_astore K own_d8_67 rfl (Ls' := #[.val (.int i0), .val (.int i1), .val (.int i2), .val (.int i3), .val (.int (1 : Int32)), .val (.int fa), .val (.int kk), .val (.int (fa + kk)), .val (.double (4607182418800017408 : UInt64)), .second, .val (.ref a3), .val (.ref a16), .unset]) rfl ?_
    refine own_aload K own_d8_69 rfl rfl ?_
    refine own_virtual K own_d8_71 (own_w68 hw) (own_w69 hw) (own_w71 hw) (own_w70 hw) (own_w32 hw) (own_w72 hw) (H20.atO (i := 0) rfl) (a := a16) (argsL := []) (rest := []) (own_years hw H20 (N := (1 : Int32)) rfl) own_pd0 rfl rfl rfl (by decide) (W := 0) (Nat.le_of_eq rfl) (by decide) (by decide) (by decide) (by decide) ?_
    intro v23 h21 q22
    obtain ⟨rfl, rfl⟩ := q22
    refine own_topI (x' := ((0 : Int32) - kk)) (own_yr _ _ _ _ (by decide)) ?_
    refine own_istore K own_d8_74 (Ls' := #[.val (.int i0), .val (.int i1), .val (.int i2), .val (.int i3), .val (.int (1 : Int32)), .val (.int fa), .val (.int kk), .val (.int (fa + kk)), .val (.double (4607182418800017408 : UInt64)), .second, .val (.ref a3), .val (.ref a16), .val (.int ((0 : Int32) - kk))]) rfl ?_
    refine own_iload K own_d8_76 rfl ?_
    refine own_iload K own_d8_78 rfl ?_
    refine own_iconst K own_d8_80 (v := (1 : Int32)) rfl ?_
    refine own_isub K own_d8_81 ?_
    refine own_topI (x' := (0 : Int32)) (by decide) ?_
    refine own_iload K own_d8_82 rfl ?_
    refine own_isub K own_d8_84 ?_
    refine own_icmpne K own_d8_85 (fun q => absurd q (fun z => z rfl)) (fun _ => ?_)
    refine own_iconst K own_d8_88 (v := (1 : Int32)) rfl ?_
    refine own_goto K own_d8_89 ?_
    exact own_retZ K (by first | exact Or.inl rfl | exact Or.inr rfl | decide) own_d8_93 (by decide) (by decide) (rfl)
  · refine own_iloadN K own_d8_0 rfl ?_
    refine own_iconst K own_d8_1 (v := (3 : Int32)) rfl ?_
    refine own_iand K own_d8_2 ?_
    refine own_topI (x' := (1 : Int32)) (q) ?_
    refine own_iconst K own_d8_3 (v := (1 : Int32)) rfl ?_
    refine own_iadd K own_d8_4 ?_
    refine own_topI (x' := (2 : Int32)) (by decide) ?_
    refine own_istore K own_d8_5 (Ls' := #[.val (.int i0), .val (.int i1), .val (.int i2), .val (.int i3), .val (.int (2 : Int32)), .unset, .unset, .unset, .unset, .unset, .unset, .unset, .unset]) rfl ?_
    refine own_iloadN K own_d8_7 rfl ?_
    refine own_ldcI K own_d8_8 (v := (2147483647 : Int32)) (own_w0 hw) ?_
    refine own_iand K own_d8_10 ?_
    refine own_ldcI K own_d8_11 (v := (2147483644 : Int32)) (own_w1 hw) ?_
    refine own_irem K own_d8_13 (by decide) ?_
    obtain ⟨fa, e_fa⟩ : ∃ z : Int32, z = ((i0 &&& (2147483647 : Int32)) % (2147483644 : Int32)) := ⟨_, rfl⟩
    have h0 : 0 ≤ fa.toInt ∧ fa.toInt < 2147483644 := by rw [e_fa]; exact own_rem32 (own_mask31 _) (by decide)
    refine own_topI (x' := fa) (e_fa.symm) ?_
    refine own_istore K own_d8_14 (Ls' := #[.val (.int i0), .val (.int i1), .val (.int i2), .val (.int i3), .val (.int (2 : Int32)), .val (.int fa), .unset, .unset, .unset, .unset, .unset, .unset, .unset]) rfl ?_
    refine own_iloadN K own_d8_16 rfl ?_
    refine own_ldcI K own_d8_17 (v := (2147483647 : Int32)) (own_w0 hw) ?_
    refine own_iand K own_d8_19 ?_
    refine own_iload K own_d8_20 rfl ?_
    refine own_irem K own_d8_22 (by decide) ?_
    obtain ⟨kk, e_kk⟩ : ∃ z : Int32, z = ((i1 &&& (2147483647 : Int32)) % (2 : Int32)) := ⟨_, rfl⟩
    have k0 : 0 ≤ kk.toInt ∧ kk.toInt < 2 := by rw [e_kk]; exact own_rem32 (own_mask31 _) (by decide)
    refine own_topI (x' := kk) (e_kk.symm) ?_
    refine own_istore K own_d8_23 (Ls' := #[.val (.int i0), .val (.int i1), .val (.int i2), .val (.int i3), .val (.int (2 : Int32)), .val (.int fa), .val (.int kk), .unset, .unset, .unset, .unset, .unset, .unset]) rfl ?_
    refine own_iload K own_d8_25 rfl ?_
    refine own_iload K own_d8_27 rfl ?_
    refine own_iadd K own_d8_29 ?_
    refine own_istore K own_d8_30 (Ls' := #[.val (.int i0), .val (.int i1), .val (.int i2), .val (.int i3), .val (.int (2 : Int32)), .val (.int fa), .val (.int kk), .val (.int (fa + kk)), .unset, .unset, .unset, .unset, .unset]) rfl ?_
    refine own_iloadN K own_d8_32 rfl ?_
    refine own_iconst K own_d8_33 (v := (1 : Int32)) rfl ?_
    refine own_iand K own_d8_34 ?_
    refine own_topI (x' := (0 : Int32)) (q') ?_
    refine own_i2d K own_d8_35 ?_
    refine own_topD (x' := (0 : UInt64)) (by decide +kernel) ?_
    refine own_dstore K own_d8_36 (Ls' := #[.val (.int i0), .val (.int i1), .val (.int i2), .val (.int i3), .val (.int (2 : Int32)), .val (.int fa), .val (.int kk), .val (.int (fa + kk)), .val (.double (0 : UInt64)), .second, .unset, .unset, .unset]) rfl ?_
    refine own_new K own_d8_38 (own_w2 hw) (own_w3 hw) (own_w4 hw) H (own_MT_F hw) (own_MT_P hw) (by decide) (by decide) ?_
    intro h1 a3 H2
    replace H2 : own_H Z h1 (own_MT a3 (.int (0 : Int32)) .null :: []) ([]) := H2
    refine own_dup K own_d8_41 rfl ?_
    refine own_iload K own_d8_42 rfl ?_
    refine own_iload K own_d8_44 rfl ?_
    refine own_dload K own_d8_46 rfl ?_
    refine own_static K own_d8_48 (own_w5 hw) (own_w6 hw) (own_w7 hw) (own_w8 hw) (argsL := [(.int (2 : Int32)), (.double (0 : UInt64))]) (rest := [(.int fa), (.ref a3), (.ref a3)]) (own_rates2 hw H2) own_pd4 rfl rfl rfl (by decide) (W := 3) (Nat.le_of_eq rfl) (by decide) (by decide) (by decide) (by decide) ?_
    intro v6 h4 q5
    obtain ⟨b7, rfl, H8⟩ := q5
    replace H8 : own_H Z h4 (own_MT a3 (.int (0 : Int32)) .null :: []) ((b7, .double, "[D", [(.double (0 : UInt64)), (.double (4602678819172646912 : UInt64))]) :: []) := H8
    refine own_special K own_d8_51 rfl (own_w11 hw) (own_w12 hw) (own_w4 hw) (own_w13 hw) (a := a3) (argsL := [(.int fa), (.ref b7)]) (rest := [(.ref a3)]) (own_init2_0 hw h0.1 H8) own_pd5 rfl rfl rfl (by decide) (W := 1) (Nat.le_of_eq rfl) (by decide) (by decide) (by decide) (by decide) ?_
    intro v11 h9 q10
    obtain ⟨rfl, b12, H13⟩ := q10
    replace H13 : own_H Z h9 (own_MT a3 (.int fa) (.ref b12) :: []) ((b12, .double, "[D", [(.double (0 : UInt64)), (.double (4602678819172646912 : UInt64))]) :: (b7, .double, "[D", [(.double (0 : UInt64)), (.double (4602678819172646912 : UInt64))]) :: []) := H13
    have eN : ((2 : Int32) : Int32).toInt = 2 := rfl
    have gl := own_last (N := (2 : Int32)) h0.1 (by decide) (by omega)
    have ga : (fa + kk).toInt = fa.toInt + kk.toInt := own_add32 (by omega) (by omega)
    refine own_astore K own_d8_54 rfl (Ls' := #[.val (.int i0), .val (.int i1), .val (.int i2), .val (.int i3), .val (.int (2 : Int32)), .val (.int fa), .val (.int kk), .val (.int (fa + kk)), .val (.double (0 : UInt64)), .second, .val (.ref a3), .unset, .unset]) rfl ?_
    refine own_new K own_d8_56 (own_w30 hw) (own_w31 hw) (own_w32 hw) H13 (own_LF_F hw) (own_LF_P hw) (by decide) (by decide) ?_
    intro h14 a16 H15
    replace H15 : own_H Z h14 (own_LF a16 .null (.int (0 : Int32)) :: own_MT a3 (.int fa) (.ref b12) :: []) ((b12, .double, "[D", [(.double (0 : UInt64)), (.double (4602678819172646912 : UInt64))]) :: (b7, .double, "[D", [(.double (0 : UInt64)), (.double (4602678819172646912 : UInt64))]) :: []) := H15
    refine own_dup K own_d8_59 rfl ?_
    refine own_aload K own_d8_60 rfl rfl ?_
    refine own_iload K own_d8_62 rfl ?_
    refine own_specialW K own_d8_64 rfl (own_w33 hw) (own_w34 hw) (own_w32 hw) (own_w35 hw) (a := a16) (argsL := [(.ref a3), (.int (fa + kk))]) (rest := [(.ref a16)]) (own_life hw H15 (N := (2 : Int32)) rfl (by omega) (by omega)) own_pd6 rfl rfl rfl (by decide) (W := 1) (Nat.le_of_eq rfl) (by decide) (by decide) (by decide) (by decide) ?_
    intro v19 h17 q18
    obtain ⟨rfl, H20⟩ := q18
    replace H20 : own_H Z h17 (own_LF a16 (.ref a3) (.int (fa + kk)) :: own_MT a3 (.int fa) (.ref b12) :: []) ((b12, .double, "[D", [(.double (0 : UInt64)), (.double (4602678819172646912 : UInt64))]) :: (b7, .double, "[D", [(.double (0 : UInt64)), (.double (4602678819172646912 : UInt64))]) :: []) := H20
    refine own_astore K own_d8_67 rfl (Ls' := #[.val (.int i0), .val (.int i1), .val (.int i2), .val (.int i3), .val (.int (2 : Int32)), .val (.int fa), .val (.int kk), .val (.int (fa + kk)), .val (.double (0 : UInt64)), .second, .val (.ref a3), .val (.ref a16), .unset]) rfl ?_
    refine own_aload K own_d8_69 rfl rfl ?_
    refine own_virtual K own_d8_71 (own_w68 hw) (own_w69 hw) (own_w71 hw) (own_w70 hw) (own_w32 hw) (own_w72 hw) (H20.atO (i := 0) rfl) (a := a16) (argsL := []) (rest := []) (own_years hw H20 (N := (2 : Int32)) rfl) own_pd0 rfl rfl rfl (by decide) (W := 0) (Nat.le_of_eq rfl) (by decide) (by decide) (by decide) (by decide) ?_
    intro v23 h21 q22
    obtain ⟨rfl, rfl⟩ := q22
    refine own_topI (x' := ((1 : Int32) - kk)) (own_yr _ _ _ _ (by decide)) ?_
    refine own_istore K own_d8_74 (Ls' := #[.val (.int i0), .val (.int i1), .val (.int i2), .val (.int i3), .val (.int (2 : Int32)), .val (.int fa), .val (.int kk), .val (.int (fa + kk)), .val (.double (0 : UInt64)), .second, .val (.ref a3), .val (.ref a16), .val (.int ((1 : Int32) - kk))]) rfl ?_
    refine own_iload K own_d8_76 rfl ?_
    refine own_iload K own_d8_78 rfl ?_
    refine own_iconst K own_d8_80 (v := (1 : Int32)) rfl ?_
    refine own_isub K own_d8_81 ?_
    refine own_topI (x' := (1 : Int32)) (by decide) ?_
    refine own_iload K own_d8_82 rfl ?_
    refine own_isub K own_d8_84 ?_
    refine own_icmpne K own_d8_85 (fun q => absurd q (fun z => z rfl)) (fun _ => ?_)
    refine own_iconst K own_d8_88 (v := (1 : Int32)) rfl ?_
    refine own_goto K own_d8_89 ?_
    exact own_retZ K (by first | exact Or.inl rfl | exact Or.inr rfl | decide) own_d8_93 (by decide) (by decide) (rfl)
  · refine own_iloadN K own_d8_0 rfl ?_
    refine own_iconst K own_d8_1 (v := (3 : Int32)) rfl ?_
    refine own_iand K own_d8_2 ?_
    refine own_topI (x' := (1 : Int32)) (q) ?_
    refine own_iconst K own_d8_3 (v := (1 : Int32)) rfl ?_
    refine own_iadd K own_d8_4 ?_
    refine own_topI (x' := (2 : Int32)) (by decide) ?_
    refine own_istore K own_d8_5 (Ls' := #[.val (.int i0), .val (.int i1), .val (.int i2), .val (.int i3), .val (.int (2 : Int32)), .unset, .unset, .unset, .unset, .unset, .unset, .unset, .unset]) rfl ?_
    refine own_iloadN K own_d8_7 rfl ?_
    refine own_ldcI K own_d8_8 (v := (2147483647 : Int32)) (own_w0 hw) ?_
    refine own_iand K own_d8_10 ?_
    refine own_ldcI K own_d8_11 (v := (2147483644 : Int32)) (own_w1 hw) ?_
    refine own_irem K own_d8_13 (by decide) ?_
    obtain ⟨fa, e_fa⟩ : ∃ z : Int32, z = ((i0 &&& (2147483647 : Int32)) % (2147483644 : Int32)) := ⟨_, rfl⟩
    have h0 : 0 ≤ fa.toInt ∧ fa.toInt < 2147483644 := by rw [e_fa]; exact own_rem32 (own_mask31 _) (by decide)
    refine own_topI (x' := fa) (e_fa.symm) ?_
    refine own_istore K own_d8_14 (Ls' := #[.val (.int i0), .val (.int i1), .val (.int i2), .val (.int i3), .val (.int (2 : Int32)), .val (.int fa), .unset, .unset, .unset, .unset, .unset, .unset, .unset]) rfl ?_
    refine own_iloadN K own_d8_16 rfl ?_
    refine own_ldcI K own_d8_17 (v := (2147483647 : Int32)) (own_w0 hw) ?_
    refine own_iand K own_d8_19 ?_
    refine own_iload K own_d8_20 rfl ?_
    refine own_irem K own_d8_22 (by decide) ?_
    obtain ⟨kk, e_kk⟩ : ∃ z : Int32, z = ((i1 &&& (2147483647 : Int32)) % (2 : Int32)) := ⟨_, rfl⟩
    have k0 : 0 ≤ kk.toInt ∧ kk.toInt < 2 := by rw [e_kk]; exact own_rem32 (own_mask31 _) (by decide)
    refine own_topI (x' := kk) (e_kk.symm) ?_
    refine own_istore K own_d8_23 (Ls' := #[.val (.int i0), .val (.int i1), .val (.int i2), .val (.int i3), .val (.int (2 : Int32)), .val (.int fa), .val (.int kk), .unset, .unset, .unset, .unset, .unset, .unset]) rfl ?_
    refine own_iload K own_d8_25 rfl ?_
    refine own_iload K own_d8_27 rfl ?_
    refine own_iadd K own_d8_29 ?_
    refine own_istore K own_d8_30 (Ls' := #[.val (.int i0), .val (.int i1), .val (.int i2), .val (.int i3), .val (.int (2 : Int32)), .val (.int fa), .val (.int kk), .val (.int (fa + kk)), .unset, .unset, .unset, .unset, .unset]) rfl ?_
    refine own_iloadN K own_d8_32 rfl ?_
    refine own_iconst K own_d8_33 (v := (1 : Int32)) rfl ?_
    refine own_iand K own_d8_34 ?_
    refine own_topI (x' := (1 : Int32)) (q') ?_
    refine own_i2d K own_d8_35 ?_
    refine own_topD (x' := (4607182418800017408 : UInt64)) (by decide +kernel) ?_
    refine own_dstore K own_d8_36 (Ls' := #[.val (.int i0), .val (.int i1), .val (.int i2), .val (.int i3), .val (.int (2 : Int32)), .val (.int fa), .val (.int kk), .val (.int (fa + kk)), .val (.double (4607182418800017408 : UInt64)), .second, .unset, .unset, .unset]) rfl ?_
    refine own_new K own_d8_38 (own_w2 hw) (own_w3 hw) (own_w4 hw) H (own_MT_F hw) (own_MT_P hw) (by decide) (by decide) ?_
    intro h1 a3 H2
    replace H2 : own_H Z h1 (own_MT a3 (.int (0 : Int32)) .null :: []) ([]) := H2
    refine own_dup K own_d8_41 rfl ?_
    refine own_iload K own_d8_42 rfl ?_
    refine own_iload K own_d8_44 rfl ?_
    refine own_dload K own_d8_46 rfl ?_
    refine own_static K own_d8_48 (own_w5 hw) (own_w6 hw) (own_w7 hw) (own_w8 hw) (argsL := [(.int (2 : Int32)), (.double (4607182418800017408 : UInt64))]) (rest := [(.int fa), (.ref a3), (.ref a3)]) (own_rates2 hw H2) own_pd4 rfl rfl rfl (by decide) (W := 3) (Nat.le_of_eq rfl) (by decide) (by decide) (by decide) (by decide) ?_
    intro v6 h4 q5
    obtain ⟨b7, rfl, H8⟩ := q5
    replace H8 : own_H Z h4 (own_MT a3 (.int (0 : Int32)) .null :: []) ((b7, .double, "[D", [(.double (4607182418800017408 : UInt64)), (.double (4602678819172646912 : UInt64))]) :: []) := H8
    refine own_special K own_d8_51 rfl (own_w11 hw) (own_w12 hw) (own_w4 hw) (own_w13 hw) (a := a3) (argsL := [(.int fa), (.ref b7)]) (rest := [(.ref a3)]) (own_init2_1 hw h0.1 H8) own_pd5 rfl rfl rfl (by decide) (W := 1) (Nat.le_of_eq rfl) (by decide) (by decide) (by decide) (by decide) ?_
    intro v11 h9 q10
    obtain ⟨rfl, b12, H13⟩ := q10
    replace H13 : own_H Z h9 (own_MT a3 (.int fa) (.ref b12) :: []) ((b12, .double, "[D", [(.double (4607182418800017408 : UInt64)), (.double (4602678819172646912 : UInt64))]) :: (b7, .double, "[D", [(.double (4607182418800017408 : UInt64)), (.double (4602678819172646912 : UInt64))]) :: []) := H13
    have eN : ((2 : Int32) : Int32).toInt = 2 := rfl
    have gl := own_last (N := (2 : Int32)) h0.1 (by decide) (by omega)
    have ga : (fa + kk).toInt = fa.toInt + kk.toInt := own_add32 (by omega) (by omega)
    refine own_astore K own_d8_54 rfl (Ls' := #[.val (.int i0), .val (.int i1), .val (.int i2), .val (.int i3), .val (.int (2 : Int32)), .val (.int fa), .val (.int kk), .val (.int (fa + kk)), .val (.double (4607182418800017408 : UInt64)), .second, .val (.ref a3), .unset, .unset]) rfl ?_
    refine own_new K own_d8_56 (own_w30 hw) (own_w31 hw) (own_w32 hw) H13 (own_LF_F hw) (own_LF_P hw) (by decide) (by decide) ?_
    intro h14 a16 H15
    replace H15 : own_H Z h14 (own_LF a16 .null (.int (0 : Int32)) :: own_MT a3 (.int fa) (.ref b12) :: []) ((b12, .double, "[D", [(.double (4607182418800017408 : UInt64)), (.double (4602678819172646912 : UInt64))]) :: (b7, .double, "[D", [(.double (4607182418800017408 : UInt64)), (.double (4602678819172646912 : UInt64))]) :: []) := H15
    refine own_dup K own_d8_59 rfl ?_
    refine own_aload K own_d8_60 rfl rfl ?_
    refine own_iload K own_d8_62 rfl ?_
    refine own_specialW K own_d8_64 rfl (own_w33 hw) (own_w34 hw) (own_w32 hw) (own_w35 hw) (a := a16) (argsL := [(.ref a3), (.int (fa + kk))]) (rest := [(.ref a16)]) (own_life hw H15 (N := (2 : Int32)) rfl (by omega) (by omega)) own_pd6 rfl rfl rfl (by decide) (W := 1) (Nat.le_of_eq rfl) (by decide) (by decide) (by decide) (by decide) ?_
    intro v19 h17 q18
    obtain ⟨rfl, H20⟩ := q18
    replace H20 : own_H Z h17 (own_LF a16 (.ref a3) (.int (fa + kk)) :: own_MT a3 (.int fa) (.ref b12) :: []) ((b12, .double, "[D", [(.double (4607182418800017408 : UInt64)), (.double (4602678819172646912 : UInt64))]) :: (b7, .double, "[D", [(.double (4607182418800017408 : UInt64)), (.double (4602678819172646912 : UInt64))]) :: []) := H20
    refine own_astore K own_d8_67 rfl (Ls' := #[.val (.int i0), .val (.int i1), .val (.int i2), .val (.int i3), .val (.int (2 : Int32)), .val (.int fa), .val (.int kk), .val (.int (fa + kk)), .val (.double (4607182418800017408 : UInt64)), .second, .val (.ref a3), .val (.ref a16), .unset]) rfl ?_
    refine own_aload K own_d8_69 rfl rfl ?_
    refine own_virtual K own_d8_71 (own_w68 hw) (own_w69 hw) (own_w71 hw) (own_w70 hw) (own_w32 hw) (own_w72 hw) (H20.atO (i := 0) rfl) (a := a16) (argsL := []) (rest := []) (own_years hw H20 (N := (2 : Int32)) rfl) own_pd0 rfl rfl rfl (by decide) (W := 0) (Nat.le_of_eq rfl) (by decide) (by decide) (by decide) (by decide) ?_
    intro v23 h21 q22
    obtain ⟨rfl, rfl⟩ := q22
    refine own_topI (x' := ((1 : Int32) - kk)) (own_yr _ _ _ _ (by decide)) ?_
    refine own_istore K own_d8_74 (Ls' := #[.val (.int i0), .val (.int i1), .val (.int i2), .val (.int i3), .val (.int (2 : Int32)), .val (.int fa), .val (.int kk), .val (.int (fa + kk)), .val (.double (4607182418800017408 : UInt64)), .second, .val (.ref a3), .val (.ref a16), .val (.int ((1 : Int32) - kk))]) rfl ?_
    refine own_iload K own_d8_76 rfl ?_
    refine own_iload K own_d8_78 rfl ?_
    refine own_iconst K own_d8_80 (v := (1 : Int32)) rfl ?_
    refine own_isub K own_d8_81 ?_
    refine own_topI (x' := (1 : Int32)) (by decide) ?_
    refine own_iload K own_d8_82 rfl ?_
    refine own_isub K own_d8_84 ?_
    refine own_icmpne K own_d8_85 (fun q => absurd q (fun z => z rfl)) (fun _ => ?_)
    refine own_iconst K own_d8_88 (v := (1 : Int32)) rfl ?_
    refine own_goto K own_d8_89 ?_
    exact own_retZ K (by first | exact Or.inl rfl | exact Or.inr rfl | decide) own_d8_93 (by decide) (by decide) (rfl)
  · refine own_iloadN K own_d8_0 rfl ?_
    refine own_iconst K own_d8_1 (v := (3 : Int32)) rfl ?_
    refine own_iand K own_d8_2 ?_
    refine own_topI (x' := (2 : Int32)) (q) ?_
    refine own_iconst K own_d8_3 (v := (1 : Int32)) rfl ?_
    refine own_iadd K own_d8_4 ?_
    refine own_topI (x' := (3 : Int32)) (by decide) ?_
    refine own_istore K own_d8_5 (Ls' := #[.val (.int i0), .val (.int i1), .val (.int i2), .val (.int i3), .val (.int (3 : Int32)), .unset, .unset, .unset, .unset, .unset, .unset, .unset, .unset]) rfl ?_
    refine own_iloadN K own_d8_7 rfl ?_
    refine own_ldcI K own_d8_8 (v := (2147483647 : Int32)) (own_w0 hw) ?_
    refine own_iand K own_d8_10 ?_
    refine own_ldcI K own_d8_11 (v := (2147483644 : Int32)) (own_w1 hw) ?_
    refine own_irem K own_d8_13 (by decide) ?_
    obtain ⟨fa, e_fa⟩ : ∃ z : Int32, z = ((i0 &&& (2147483647 : Int32)) % (2147483644 : Int32)) := ⟨_, rfl⟩
    have h0 : 0 ≤ fa.toInt ∧ fa.toInt < 2147483644 := by rw [e_fa]; exact own_rem32 (own_mask31 _) (by decide)
    refine own_topI (x' := fa) (e_fa.symm) ?_
    refine own_istore K own_d8_14 (Ls' := #[.val (.int i0), .val (.int i1), .val (.int i2), .val (.int i3), .val (.int (3 : Int32)), .val (.int fa), .unset, .unset, .unset, .unset, .unset, .unset, .unset]) rfl ?_
    refine own_iloadN K own_d8_16 rfl ?_
    refine own_ldcI K own_d8_17 (v := (2147483647 : Int32)) (own_w0 hw) ?_
    refine own_iand K own_d8_19 ?_
    refine own_iload K own_d8_20 rfl ?_
    refine own_irem K own_d8_22 (by decide) ?_
    obtain ⟨kk, e_kk⟩ : ∃ z : Int32, z = ((i1 &&& (2147483647 : Int32)) % (3 : Int32)) := ⟨_, rfl⟩
    have k0 : 0 ≤ kk.toInt ∧ kk.toInt < 3 := by rw [e_kk]; exact own_rem32 (own_mask31 _) (by decide)
    refine own_topI (x' := kk) (e_kk.symm) ?_
    refine own_istore K own_d8_23 (Ls' := #[.val (.int i0), .val (.int i1), .val (.int i2), .val (.int i3), .val (.int (3 : Int32)), .val (.int fa), .val (.int kk), .unset, .unset, .unset, .unset, .unset, .unset]) rfl ?_
    refine own_iload K own_d8_25 rfl ?_
    refine own_iload K own_d8_27 rfl ?_
    refine own_iadd K own_d8_29 ?_
    refine own_istore K own_d8_30 (Ls' := #[.val (.int i0), .val (.int i1), .val (.int i2), .val (.int i3), .val (.int (3 : Int32)), .val (.int fa), .val (.int kk), .val (.int (fa + kk)), .unset, .unset, .unset, .unset, .unset]) rfl ?_
    refine own_iloadN K own_d8_32 rfl ?_
    refine own_iconst K own_d8_33 (v := (1 : Int32)) rfl ?_
    refine own_iand K own_d8_34 ?_
    refine own_topI (x' := (0 : Int32)) (q') ?_
    refine own_i2d K own_d8_35 ?_
    refine own_topD (x' := (0 : UInt64)) (by decide +kernel) ?_
    refine own_dstore K own_d8_36 (Ls' := #[.val (.int i0), .val (.int i1), .val (.int i2), .val (.int i3), .val (.int (3 : Int32)), .val (.int fa), .val (.int kk), .val (.int (fa + kk)), .val (.double (0 : UInt64)), .second, .unset, .unset, .unset]) rfl ?_
    refine own_new K own_d8_38 (own_w2 hw) (own_w3 hw) (own_w4 hw) H (own_MT_F hw) (own_MT_P hw) (by decide) (by decide) ?_
    intro h1 a3 H2
    replace H2 : own_H Z h1 (own_MT a3 (.int (0 : Int32)) .null :: []) ([]) := H2
    refine own_dup K own_d8_41 rfl ?_
    refine own_iload K own_d8_42 rfl ?_
    refine own_iload K own_d8_44 rfl ?_
    refine own_dload K own_d8_46 rfl ?_
    refine own_static K own_d8_48 (own_w5 hw) (own_w6 hw) (own_w7 hw) (own_w8 hw) (argsL := [(.int (3 : Int32)), (.double (0 : UInt64))]) (rest := [(.int fa), (.ref a3), (.ref a3)]) (own_rates3 hw H2) own_pd4 rfl rfl rfl (by decide) (W := 3) (Nat.le_of_eq rfl) (by decide) (by decide) (by decide) (by decide) ?_
    intro v6 h4 q5
    obtain ⟨b7, rfl, H8⟩ := q5
    replace H8 : own_H Z h4 (own_MT a3 (.int (0 : Int32)) .null :: []) ((b7, .double, "[D", [(.double (4602678819172646912 : UInt64)), (.double (0 : UInt64)), (.double (4607182418800017408 : UInt64))]) :: []) := H8
    refine own_special K own_d8_51 rfl (own_w11 hw) (own_w12 hw) (own_w4 hw) (own_w13 hw) (a := a3) (argsL := [(.int fa), (.ref b7)]) (rest := [(.ref a3)]) (own_init3_0 hw h0.1 H8) own_pd5 rfl rfl rfl (by decide) (W := 1) (Nat.le_of_eq rfl) (by decide) (by decide) (by decide) (by decide) ?_
    intro v11 h9 q10
    obtain ⟨rfl, b12, H13⟩ := q10
    replace H13 : own_H Z h9 (own_MT a3 (.int fa) (.ref b12) :: []) ((b12, .double, "[D", [(.double (4602678819172646912 : UInt64)), (.double (0 : UInt64)), (.double (4607182418800017408 : UInt64))]) :: (b7, .double, "[D", [(.double (4602678819172646912 : UInt64)), (.double (0 : UInt64)), (.double (4607182418800017408 : UInt64))]) :: []) := H13
    have eN : ((3 : Int32) : Int32).toInt = 3 := rfl
    have gl := own_last (N := (3 : Int32)) h0.1 (by decide) (by omega)
    have ga : (fa + kk).toInt = fa.toInt + kk.toInt := own_add32 (by omega) (by omega)
    refine own_astore K own_d8_54 rfl (Ls' := #[.val (.int i0), .val (.int i1), .val (.int i2), .val (.int i3), .val (.int (3 : Int32)), .val (.int fa), .val (.int kk), .val (.int (fa + kk)), .val (.double (0 : UInt64)), .second, .val (.ref a3), .unset, .unset]) rfl ?_
    refine own_new K own_d8_56 (own_w30 hw) (own_w31 hw) (own_w32 hw) H13 (own_LF_F hw) (own_LF_P hw) (by decide) (by decide) ?_
    intro h14 a16 H15
    replace H15 : own_H Z h14 (own_LF a16 .null (.int (0 : Int32)) :: own_MT a3 (.int fa) (.ref b12) :: []) ((b12, .double, "[D", [(.double (4602678819172646912 : UInt64)), (.double (0 : UInt64)), (.double (4607182418800017408 : UInt64))]) :: (b7, .double, "[D", [(.double (4602678819172646912 : UInt64)), (.double (0 : UInt64)), (.double (4607182418800017408 : UInt64))]) :: []) := H15
    refine own_dup K own_d8_59 rfl ?_
    refine own_aload K own_d8_60 rfl rfl ?_
    refine own_iload K own_d8_62 rfl ?_
    refine own_specialW K own_d8_64 rfl (own_w33 hw) (own_w34 hw) (own_w32 hw) (own_w35 hw) (a := a16) (argsL := [(.ref a3), (.int (fa + kk))]) (rest := [(.ref a16)]) (own_life hw H15 (N := (3 : Int32)) rfl (by omega) (by omega)) own_pd6 rfl rfl rfl (by decide) (W := 1) (Nat.le_of_eq rfl) (by decide) (by decide) (by decide) (by decide) ?_
    intro v19 h17 q18
    obtain ⟨rfl, H20⟩ := q18
    replace H20 : own_H Z h17 (own_LF a16 (.ref a3) (.int (fa + kk)) :: own_MT a3 (.int fa) (.ref b12) :: []) ((b12, .double, "[D", [(.double (4602678819172646912 : UInt64)), (.double (0 : UInt64)), (.double (4607182418800017408 : UInt64))]) :: (b7, .double, "[D", [(.double (4602678819172646912 : UInt64)), (.double (0 : UInt64)), (.double (4607182418800017408 : UInt64))]) :: []) := H20
    refine own_astore K own_d8_67 rfl (Ls' := #[.val (.int i0), .val (.int i1), .val (.int i2), .val (.int i3), .val (.int (3 : Int32)), .val (.int fa), .val (.int kk), .val (.int (fa + kk)), .val (.double (0 : UInt64)), .second, .val (.ref a3), .val (.ref a16), .unset]) rfl ?_
    refine own_aload K own_d8_69 rfl rfl ?_
    refine own_virtual K own_d8_71 (own_w68 hw) (own_w69 hw) (own_w71 hw) (own_w70 hw) (own_w32 hw) (own_w72 hw) (H20.atO (i := 0) rfl) (a := a16) (argsL := []) (rest := []) (own_years hw H20 (N := (3 : Int32)) rfl) own_pd0 rfl rfl rfl (by decide) (W := 0) (Nat.le_of_eq rfl) (by decide) (by decide) (by decide) (by decide) ?_
    intro v23 h21 q22
    obtain ⟨rfl, rfl⟩ := q22
    refine own_topI (x' := ((2 : Int32) - kk)) (own_yr _ _ _ _ (by decide)) ?_
    refine own_istore K own_d8_74 (Ls' := #[.val (.int i0), .val (.int i1), .val (.int i2), .val (.int i3), .val (.int (3 : Int32)), .val (.int fa), .val (.int kk), .val (.int (fa + kk)), .val (.double (0 : UInt64)), .second, .val (.ref a3), .val (.ref a16), .val (.int ((2 : Int32) - kk))]) rfl ?_
    refine own_iload K own_d8_76 rfl ?_
    refine own_iload K own_d8_78 rfl ?_
    refine own_iconst K own_d8_80 (v := (1 : Int32)) rfl ?_
    refine own_isub K own_d8_81 ?_
    refine own_topI (x' := (2 : Int32)) (by decide) ?_
    refine own_iload K own_d8_82 rfl ?_
    refine own_isub K own_d8_84 ?_
    refine own_icmpne K own_d8_85 (fun q => absurd q (fun z => z rfl)) (fun _ => ?_)
    refine own_iconst K own_d8_88 (v := (1 : Int32)) rfl ?_
    refine own_goto K own_d8_89 ?_
    exact own_retZ K (by first | exact Or.inl rfl | exact Or.inr rfl | decide) own_d8_93 (by decide) (by decide) (rfl)
  · refine own_iloadN K own_d8_0 rfl ?_
    refine own_iconst K own_d8_1 (v := (3 : Int32)) rfl ?_
    refine own_iand K own_d8_2 ?_
    refine own_topI (x' := (2 : Int32)) (q) ?_
    refine own_iconst K own_d8_3 (v := (1 : Int32)) rfl ?_
    refine own_iadd K own_d8_4 ?_
    refine own_topI (x' := (3 : Int32)) (by decide) ?_
    refine own_istore K own_d8_5 (Ls' := #[.val (.int i0), .val (.int i1), .val (.int i2), .val (.int i3), .val (.int (3 : Int32)), .unset, .unset, .unset, .unset, .unset, .unset, .unset, .unset]) rfl ?_
    refine own_iloadN K own_d8_7 rfl ?_
    refine own_ldcI K own_d8_8 (v := (2147483647 : Int32)) (own_w0 hw) ?_
    refine own_iand K own_d8_10 ?_
    refine own_ldcI K own_d8_11 (v := (2147483644 : Int32)) (own_w1 hw) ?_
    refine own_irem K own_d8_13 (by decide) ?_
    obtain ⟨fa, e_fa⟩ : ∃ z : Int32, z = ((i0 &&& (2147483647 : Int32)) % (2147483644 : Int32)) := ⟨_, rfl⟩
    have h0 : 0 ≤ fa.toInt ∧ fa.toInt < 2147483644 := by rw [e_fa]; exact own_rem32 (own_mask31 _) (by decide)
    refine own_topI (x' := fa) (e_fa.symm) ?_
    refine own_istore K own_d8_14 (Ls' := #[.val (.int i0), .val (.int i1), .val (.int i2), .val (.int i3), .val (.int (3 : Int32)), .val (.int fa), .unset, .unset, .unset, .unset, .unset, .unset, .unset]) rfl ?_
    refine own_iloadN K own_d8_16 rfl ?_
    refine own_ldcI K own_d8_17 (v := (2147483647 : Int32)) (own_w0 hw) ?_
    refine own_iand K own_d8_19 ?_
    refine own_iload K own_d8_20 rfl ?_
    refine own_irem K own_d8_22 (by decide) ?_
    obtain ⟨kk, e_kk⟩ : ∃ z : Int32, z = ((i1 &&& (2147483647 : Int32)) % (3 : Int32)) := ⟨_, rfl⟩
    have k0 : 0 ≤ kk.toInt ∧ kk.toInt < 3 := by rw [e_kk]; exact own_rem32 (own_mask31 _) (by decide)
    refine own_topI (x' := kk) (e_kk.symm) ?_
    refine own_istore K own_d8_23 (Ls' := #[.val (.int i0), .val (.int i1), .val (.int i2), .val (.int i3), .val (.int (3 : Int32)), .val (.int fa), .val (.int kk), .unset, .unset, .unset, .unset, .unset, .unset]) rfl ?_
    refine own_iload K own_d8_25 rfl ?_
    refine own_iload K own_d8_27 rfl ?_
    refine own_iadd K own_d8_29 ?_
    refine own_istore K own_d8_30 (Ls' := #[.val (.int i0), .val (.int i1), .val (.int i2), .val (.int i3), .val (.int (3 : Int32)), .val (.int fa), .val (.int kk), .val (.int (fa + kk)), .unset, .unset, .unset, .unset, .unset]) rfl ?_
    refine own_iloadN K own_d8_32 rfl ?_
    refine own_iconst K own_d8_33 (v := (1 : Int32)) rfl ?_
    refine own_iand K own_d8_34 ?_
    refine own_topI (x' := (1 : Int32)) (q') ?_
    refine own_i2d K own_d8_35 ?_
    refine own_topD (x' := (4607182418800017408 : UInt64)) (by decide +kernel) ?_
    refine own_dstore K own_d8_36 (Ls' := #[.val (.int i0), .val (.int i1), .val (.int i2), .val (.int i3), .val (.int (3 : Int32)), .val (.int fa), .val (.int kk), .val (.int (fa + kk)), .val (.double (4607182418800017408 : UInt64)), .second, .unset, .unset, .unset]) rfl ?_
    refine own_new K own_d8_38 (own_w2 hw) (own_w3 hw) (own_w4 hw) H (own_MT_F hw) (own_MT_P hw) (by decide) (by decide) ?_
    intro h1 a3 H2
    replace H2 : own_H Z h1 (own_MT a3 (.int (0 : Int32)) .null :: []) ([]) := H2
    refine own_dup K own_d8_41 rfl ?_
    refine own_iload K own_d8_42 rfl ?_
    refine own_iload K own_d8_44 rfl ?_
    refine own_dload K own_d8_46 rfl ?_
    refine own_static K own_d8_48 (own_w5 hw) (own_w6 hw) (own_w7 hw) (own_w8 hw) (argsL := [(.int (3 : Int32)), (.double (4607182418800017408 : UInt64))]) (rest := [(.int fa), (.ref a3), (.ref a3)]) (own_rates3 hw H2) own_pd4 rfl rfl rfl (by decide) (W := 3) (Nat.le_of_eq rfl) (by decide) (by decide) (by decide) (by decide) ?_
    intro v6 h4 q5
    obtain ⟨b7, rfl, H8⟩ := q5
    replace H8 : own_H Z h4 (own_MT a3 (.int (0 : Int32)) .null :: []) ((b7, .double, "[D", [(.double (4602678819172646912 : UInt64)), (.double (4607182418800017408 : UInt64)), (.double (4607182418800017408 : UInt64))]) :: []) := H8
    refine own_special K own_d8_51 rfl (own_w11 hw) (own_w12 hw) (own_w4 hw) (own_w13 hw) (a := a3) (argsL := [(.int fa), (.ref b7)]) (rest := [(.ref a3)]) (own_init3_1 hw h0.1 H8) own_pd5 rfl rfl rfl (by decide) (W := 1) (Nat.le_of_eq rfl) (by decide) (by decide) (by decide) (by decide) ?_
    intro v11 h9 q10
    obtain ⟨rfl, b12, H13⟩ := q10
    replace H13 : own_H Z h9 (own_MT a3 (.int fa) (.ref b12) :: []) ((b12, .double, "[D", [(.double (4602678819172646912 : UInt64)), (.double (4607182418800017408 : UInt64)), (.double (4607182418800017408 : UInt64))]) :: (b7, .double, "[D", [(.double (4602678819172646912 : UInt64)), (.double (4607182418800017408 : UInt64)), (.double (4607182418800017408 : UInt64))]) :: []) := H13
    have eN : ((3 : Int32) : Int32).toInt = 3 := rfl
    have gl := own_last (N := (3 : Int32)) h0.1 (by decide) (by omega)
    have ga : (fa + kk).toInt = fa.toInt + kk.toInt := own_add32 (by omega) (by omega)
    refine own_astore K own_d8_54 rfl (Ls' := #[.val (.int i0), .val (.int i1), .val (.int i2), .val (.int i3), .val (.int (3 : Int32)), .val (.int fa), .val (.int kk), .val (.int (fa + kk)), .val (.double (4607182418800017408 : UInt64)), .second, .val (.ref a3), .unset, .unset]) rfl ?_
    refine own_new K own_d8_56 (own_w30 hw) (own_w31 hw) (own_w32 hw) H13 (own_LF_F hw) (own_LF_P hw) (by decide) (by decide) ?_
    intro h14 a16 H15
    replace H15 : own_H Z h14 (own_LF a16 .null (.int (0 : Int32)) :: own_MT a3 (.int fa) (.ref b12) :: []) ((b12, .double, "[D", [(.double (4602678819172646912 : UInt64)), (.double (4607182418800017408 : UInt64)), (.double (4607182418800017408 : UInt64))]) :: (b7, .double, "[D", [(.double (4602678819172646912 : UInt64)), (.double (4607182418800017408 : UInt64)), (.double (4607182418800017408 : UInt64))]) :: []) := H15
    refine own_dup K own_d8_59 rfl ?_
    refine own_aload K own_d8_60 rfl rfl ?_
    refine own_iload K own_d8_62 rfl ?_
    refine own_specialW K own_d8_64 rfl (own_w33 hw) (own_w34 hw) (own_w32 hw) (own_w35 hw) (a := a16) (argsL := [(.ref a3), (.int (fa + kk))]) (rest := [(.ref a16)]) (own_life hw H15 (N := (3 : Int32)) rfl (by omega) (by omega)) own_pd6 rfl rfl rfl (by decide) (W := 1) (Nat.le_of_eq rfl) (by decide) (by decide) (by decide) (by decide) ?_
    intro v19 h17 q18
    obtain ⟨rfl, H20⟩ := q18
    replace H20 : own_H Z h17 (own_LF a16 (.ref a3) (.int (fa + kk)) :: own_MT a3 (.int fa) (.ref b12) :: []) ((b12, .double, "[D", [(.double (4602678819172646912 : UInt64)), (.double (4607182418800017408 : UInt64)), (.double (4607182418800017408 : UInt64))]) :: (b7, .double, "[D", [(.double (4602678819172646912 : UInt64)), (.double (4607182418800017408 : UInt64)), (.double (4607182418800017408 : UInt64))]) :: []) := H20
    refine own_astore K own_d8_67 rfl (Ls' := #[.val (.int i0), .val (.int i1), .val (.int i2), .val (.int i3), .val (.int (3 : Int32)), .val (.int fa), .val (.int kk), .val (.int (fa + kk)), .val (.double (4607182418800017408 : UInt64)), .second, .val (.ref a3), .val (.ref a16), .unset]) rfl ?_
    refine own_aload K own_d8_69 rfl rfl ?_
    refine own_virtual K own_d8_71 (own_w68 hw) (own_w69 hw) (own_w71 hw) (own_w70 hw) (own_w32 hw) (own_w72 hw) (H20.atO (i := 0) rfl) (a := a16) (argsL := []) (rest := []) (own_years hw H20 (N := (3 : Int32)) rfl) own_pd0 rfl rfl rfl (by decide) (W := 0) (Nat.le_of_eq rfl) (by decide) (by decide) (by decide) (by decide) ?_
    intro v23 h21 q22
    obtain ⟨rfl, rfl⟩ := q22
    refine own_topI (x' := ((2 : Int32) - kk)) (own_yr _ _ _ _ (by decide)) ?_
    refine own_istore K own_d8_74 (Ls' := #[.val (.int i0), .val (.int i1), .val (.int i2), .val (.int i3), .val (.int (3 : Int32)), .val (.int fa), .val (.int kk), .val (.int (fa + kk)), .val (.double (4607182418800017408 : UInt64)), .second, .val (.ref a3), .val (.ref a16), .val (.int ((2 : Int32) - kk))]) rfl ?_
    refine own_iload K own_d8_76 rfl ?_
    refine own_iload K own_d8_78 rfl ?_
    refine own_iconst K own_d8_80 (v := (1 : Int32)) rfl ?_
    refine own_isub K own_d8_81 ?_
    refine own_topI (x' := (2 : Int32)) (by decide) ?_
    refine own_iload K own_d8_82 rfl ?_
    refine own_isub K own_d8_84 ?_
    refine own_icmpne K own_d8_85 (fun q => absurd q (fun z => z rfl)) (fun _ => ?_)
    refine own_iconst K own_d8_88 (v := (1 : Int32)) rfl ?_
    refine own_goto K own_d8_89 ?_
    exact own_retZ K (by first | exact Or.inl rfl | exact Or.inr rfl | decide) own_d8_93 (by decide) (by decide) (rfl)
  · refine own_iloadN K own_d8_0 rfl ?_
    refine own_iconst K own_d8_1 (v := (3 : Int32)) rfl ?_
    refine own_iand K own_d8_2 ?_
    refine own_topI (x' := (3 : Int32)) (q) ?_
    refine own_iconst K own_d8_3 (v := (1 : Int32)) rfl ?_
    refine own_iadd K own_d8_4 ?_
    refine own_topI (x' := (4 : Int32)) (by decide) ?_
    refine own_istore K own_d8_5 (Ls' := #[.val (.int i0), .val (.int i1), .val (.int i2), .val (.int i3), .val (.int (4 : Int32)), .unset, .unset, .unset, .unset, .unset, .unset, .unset, .unset]) rfl ?_
    refine own_iloadN K own_d8_7 rfl ?_
    refine own_ldcI K own_d8_8 (v := (2147483647 : Int32)) (own_w0 hw) ?_
    refine own_iand K own_d8_10 ?_
    refine own_ldcI K own_d8_11 (v := (2147483644 : Int32)) (own_w1 hw) ?_
    refine own_irem K own_d8_13 (by decide) ?_
    obtain ⟨fa, e_fa⟩ : ∃ z : Int32, z = ((i0 &&& (2147483647 : Int32)) % (2147483644 : Int32)) := ⟨_, rfl⟩
    have h0 : 0 ≤ fa.toInt ∧ fa.toInt < 2147483644 := by rw [e_fa]; exact own_rem32 (own_mask31 _) (by decide)
    refine own_topI (x' := fa) (e_fa.symm) ?_
    refine own_istore K own_d8_14 (Ls' := #[.val (.int i0), .val (.int i1), .val (.int i2), .val (.int i3), .val (.int (4 : Int32)), .val (.int fa), .unset, .unset, .unset, .unset, .unset, .unset, .unset]) rfl ?_
    refine own_iloadN K own_d8_16 rfl ?_
    refine own_ldcI K own_d8_17 (v := (2147483647 : Int32)) (own_w0 hw) ?_
    refine own_iand K own_d8_19 ?_
    refine own_iload K own_d8_20 rfl ?_
    refine own_irem K own_d8_22 (by decide) ?_
    obtain ⟨kk, e_kk⟩ : ∃ z : Int32, z = ((i1 &&& (2147483647 : Int32)) % (4 : Int32)) := ⟨_, rfl⟩
    have k0 : 0 ≤ kk.toInt ∧ kk.toInt < 4 := by rw [e_kk]; exact own_rem32 (own_mask31 _) (by decide)
    refine own_topI (x' := kk) (e_kk.symm) ?_
    refine own_istore K own_d8_23 (Ls' := #[.val (.int i0), .val (.int i1), .val (.int i2), .val (.int i3), .val (.int (4 : Int32)), .val (.int fa), .val (.int kk), .unset, .unset, .unset, .unset, .unset, .unset]) rfl ?_
    refine own_iload K own_d8_25 rfl ?_
    refine own_iload K own_d8_27 rfl ?_
    refine own_iadd K own_d8_29 ?_
    refine own_istore K own_d8_30 (Ls' := #[.val (.int i0), .val (.int i1), .val (.int i2), .val (.int i3), .val (.int (4 : Int32)), .val (.int fa), .val (.int kk), .val (.int (fa + kk)), .unset, .unset, .unset, .unset, .unset]) rfl ?_
    refine own_iloadN K own_d8_32 rfl ?_
    refine own_iconst K own_d8_33 (v := (1 : Int32)) rfl ?_
    refine own_iand K own_d8_34 ?_
    refine own_topI (x' := (0 : Int32)) (q') ?_
    refine own_i2d K own_d8_35 ?_
    refine own_topD (x' := (0 : UInt64)) (by decide +kernel) ?_
    refine own_dstore K own_d8_36 (Ls' := #[.val (.int i0), .val (.int i1), .val (.int i2), .val (.int i3), .val (.int (4 : Int32)), .val (.int fa), .val (.int kk), .val (.int (fa + kk)), .val (.double (0 : UInt64)), .second, .unset, .unset, .unset]) rfl ?_
    refine own_new K own_d8_38 (own_w2 hw) (own_w3 hw) (own_w4 hw) H (own_MT_F hw) (own_MT_P hw) (by decide) (by decide) ?_
    intro h1 a3 H2
    replace H2 : own_H Z h1 (own_MT a3 (.int (0 : Int32)) .null :: []) ([]) := H2
    refine own_dup K own_d8_41 rfl ?_
    refine own_iload K own_d8_42 rfl ?_
    refine own_iload K own_d8_44 rfl ?_
    refine own_dload K own_d8_46 rfl ?_
    refine own_static K own_d8_48 (own_w5 hw) (own_w6 hw) (own_w7 hw) (own_w8 hw) (argsL := [(.int (4 : Int32)), (.double (0 : UInt64))]) (rest := [(.int fa), (.ref a3), (.ref a3)]) (own_rates4 hw H2) own_pd4 rfl rfl rfl (by decide) (W := 3) (Nat.le_of_eq rfl) (by decide) (by decide) (by decide) (by decide) ?_
    intro v6 h4 q5
    obtain ⟨b7, rfl, H8⟩ := q5
    replace H8 : own_H Z h4 (own_MT a3 (.int (0 : Int32)) .null :: []) ((b7, .double, "[D", [(.double (0 : UInt64)), (.double (4602678819172646912 : UInt64)), (.double (0 : UInt64)), (.double (4607182418800017408 : UInt64))]) :: []) := H8
    refine own_special K own_d8_51 rfl (own_w11 hw) (own_w12 hw) (own_w4 hw) (own_w13 hw) (a := a3) (argsL := [(.int fa), (.ref b7)]) (rest := [(.ref a3)]) (own_init4_0 hw h0.1 H8) own_pd5 rfl rfl rfl (by decide) (W := 1) (Nat.le_of_eq rfl) (by decide) (by decide) (by decide) (by decide) ?_
    intro v11 h9 q10
    obtain ⟨rfl, b12, H13⟩ := q10
    replace H13 : own_H Z h9 (own_MT a3 (.int fa) (.ref b12) :: []) ((b12, .double, "[D", [(.double (0 : UInt64)), (.double (4602678819172646912 : UInt64)), (.double (0 : UInt64)), (.double (4607182418800017408 : UInt64))]) :: (b7, .double, "[D", [(.double (0 : UInt64)), (.double (4602678819172646912 : UInt64)), (.double (0 : UInt64)), (.double (4607182418800017408 : UInt64))]) :: []) := H13
    have eN : ((4 : Int32) : Int32).toInt = 4 := rfl
    have gl := own_last (N := (4 : Int32)) h0.1 (by decide) (by omega)
    have ga : (fa + kk).toInt = fa.toInt + kk.toInt := own_add32 (by omega) (by omega)
    refine own_astore K own_d8_54 rfl (Ls' := #[.val (.int i0), .val (.int i1), .val (.int i2), .val (.int i3), .val (.int (4 : Int32)), .val (.int fa), .val (.int kk), .val (.int (fa + kk)), .val (.double (0 : UInt64)), .second, .val (.ref a3), .unset, .unset]) rfl ?_
    refine own_new K own_d8_56 (own_w30 hw) (own_w31 hw) (own_w32 hw) H13 (own_LF_F hw) (own_LF_P hw) (by decide) (by decide) ?_
    intro h14 a16 H15
    replace H15 : own_H Z h14 (own_LF a16 .null (.int (0 : Int32)) :: own_MT a3 (.int fa) (.ref b12) :: []) ((b12, .double, "[D", [(.double (0 : UInt64)), (.double (4602678819172646912 : UInt64)), (.double (0 : UInt64)), (.double (4607182418800017408 : UInt64))]) :: (b7, .double, "[D", [(.double (0 : UInt64)), (.double (4602678819172646912 : UInt64)), (.double (0 : UInt64)), (.double (4607182418800017408 : UInt64))]) :: []) := H15
    refine own_dup K own_d8_59 rfl ?_
    refine own_aload K own_d8_60 rfl rfl ?_
    refine own_iload K own_d8_62 rfl ?_
    refine own_specialW K own_d8_64 rfl (own_w33 hw) (own_w34 hw) (own_w32 hw) (own_w35 hw) (a := a16) (argsL := [(.ref a3), (.int (fa + kk))]) (rest := [(.ref a16)]) (own_life hw H15 (N := (4 : Int32)) rfl (by omega) (by omega)) own_pd6 rfl rfl rfl (by decide) (W := 1) (Nat.le_of_eq rfl) (by decide) (by decide) (by decide) (by decide) ?_
    intro v19 h17 q18
    obtain ⟨rfl, H20⟩ := q18
    replace H20 : own_H Z h17 (own_LF a16 (.ref a3) (.int (fa + kk)) :: own_MT a3 (.int fa) (.ref b12) :: []) ((b12, .double, "[D", [(.double (0 : UInt64)), (.double (4602678819172646912 : UInt64)), (.double (0 : UInt64)), (.double (4607182418800017408 : UInt64))]) :: (b7, .double, "[D", [(.double (0 : UInt64)), (.double (4602678819172646912 : UInt64)), (.double (0 : UInt64)), (.double (4607182418800017408 : UInt64))]) :: []) := H20
    refine own_astore K own_d8_67 rfl (Ls' := #[.val (.int i0), .val (.int i1), .val (.int i2), .val (.int i3), .val (.int (4 : Int32)), .val (.int fa), .val (.int kk), .val (.int (fa + kk)), .val (.double (0 : UInt64)), .second, .val (.ref a3), .val (.ref a16), .unset]) rfl ?_
    refine own_aload K own_d8_69 rfl rfl ?_
    refine own_virtual K own_d8_71 (own_w68 hw) (own_w69 hw) (own_w71 hw) (own_w70 hw) (own_w32 hw) (own_w72 hw) (H20.atO (i := 0) rfl) (a := a16) (argsL := []) (rest := []) (own_years hw H20 (N := (4 : Int32)) rfl) own_pd0 rfl rfl rfl (by decide) (W := 0) (Nat.le_of_eq rfl) (by decide) (by decide) (by decide) (by decide) ?_
    intro v23 h21 q22
    obtain ⟨rfl, rfl⟩ := q22
    refine own_topI (x' := ((3 : Int32) - kk)) (own_yr _ _ _ _ (by decide)) ?_
    refine own_istore K own_d8_74 (Ls' := #[.val (.int i0), .val (.int i1), .val (.int i2), .val (.int i3), .val (.int (4 : Int32)), .val (.int fa), .val (.int kk), .val (.int (fa + kk)), .val (.double (0 : UInt64)), .second, .val (.ref a3), .val (.ref a16), .val (.int ((3 : Int32) - kk))]) rfl ?_
    refine own_iload K own_d8_76 rfl ?_
    refine own_iload K own_d8_78 rfl ?_
    refine own_iconst K own_d8_80 (v := (1 : Int32)) rfl ?_
    refine own_isub K own_d8_81 ?_
    refine own_topI (x' := (3 : Int32)) (by decide) ?_
    refine own_iload K own_d8_82 rfl ?_
    refine own_isub K own_d8_84 ?_
    refine own_icmpne K own_d8_85 (fun q => absurd q (fun z => z rfl)) (fun _ => ?_)
    refine own_iconst K own_d8_88 (v := (1 : Int32)) rfl ?_
    refine own_goto K own_d8_89 ?_
    exact own_retZ K (by first | exact Or.inl rfl | exact Or.inr rfl | decide) own_d8_93 (by decide) (by decide) (rfl)
  · refine own_iloadN K own_d8_0 rfl ?_
    refine own_iconst K own_d8_1 (v := (3 : Int32)) rfl ?_
    refine own_iand K own_d8_2 ?_
    refine own_topI (x' := (3 : Int32)) (q) ?_
    refine own_iconst K own_d8_3 (v := (1 : Int32)) rfl ?_
    refine own_iadd K own_d8_4 ?_
    refine own_topI (x' := (4 : Int32)) (by decide) ?_
    refine own_istore K own_d8_5 (Ls' := #[.val (.int i0), .val (.int i1), .val (.int i2), .val (.int i3), .val (.int (4 : Int32)), .unset, .unset, .unset, .unset, .unset, .unset, .unset, .unset]) rfl ?_
    refine own_iloadN K own_d8_7 rfl ?_
    refine own_ldcI K own_d8_8 (v := (2147483647 : Int32)) (own_w0 hw) ?_
    refine own_iand K own_d8_10 ?_
    refine own_ldcI K own_d8_11 (v := (2147483644 : Int32)) (own_w1 hw) ?_
    refine own_irem K own_d8_13 (by decide) ?_
    obtain ⟨fa, e_fa⟩ : ∃ z : Int32, z = ((i0 &&& (2147483647 : Int32)) % (2147483644 : Int32)) := ⟨_, rfl⟩
    have h0 : 0 ≤ fa.toInt ∧ fa.toInt < 2147483644 := by rw [e_fa]; exact own_rem32 (own_mask31 _) (by decide)
    refine own_topI (x' := fa) (e_fa.symm) ?_
    refine own_istore K own_d8_14 (Ls' := #[.val (.int i0), .val (.int i1), .val (.int i2), .val (.int i3), .val (.int (4 : Int32)), .val (.int fa), .unset, .unset, .unset, .unset, .unset, .unset, .unset]) rfl ?_
    refine own_iloadN K own_d8_16 rfl ?_
    refine own_ldcI K own_d8_17 (v := (2147483647 : Int32)) (own_w0 hw) ?_
    refine own_iand K own_d8_19 ?_
    refine own_iload K own_d8_20 rfl ?_
    refine own_irem K own_d8_22 (by decide) ?_
    obtain ⟨kk, e_kk⟩ : ∃ z : Int32, z = ((i1 &&& (2147483647 : Int32)) % (4 : Int32)) := ⟨_, rfl⟩
    have k0 : 0 ≤ kk.toInt ∧ kk.toInt < 4 := by rw [e_kk]; exact own_rem32 (own_mask31 _) (by decide)
    refine own_topI (x' := kk) (e_kk.symm) ?_
    refine own_istore K own_d8_23 (Ls' := #[.val (.int i0), .val (.int i1), .val (.int i2), .val (.int i3), .val (.int (4 : Int32)), .val (.int fa), .val (.int kk), .unset, .unset, .unset, .unset, .unset, .unset]) rfl ?_
    refine own_iload K own_d8_25 rfl ?_
    refine own_iload K own_d8_27 rfl ?_
    refine own_iadd K own_d8_29 ?_
    refine own_istore K own_d8_30 (Ls' := #[.val (.int i0), .val (.int i1), .val (.int i2), .val (.int i3), .val (.int (4 : Int32)), .val (.int fa), .val (.int kk), .val (.int (fa + kk)), .unset, .unset, .unset, .unset, .unset]) rfl ?_
    refine own_iloadN K own_d8_32 rfl ?_
    refine own_iconst K own_d8_33 (v := (1 : Int32)) rfl ?_
    refine own_iand K own_d8_34 ?_
    refine own_topI (x' := (1 : Int32)) (q') ?_
    refine own_i2d K own_d8_35 ?_
    refine own_topD (x' := (4607182418800017408 : UInt64)) (by decide +kernel) ?_
    refine own_dstore K own_d8_36 (Ls' := #[.val (.int i0), .val (.int i1), .val (.int i2), .val (.int i3), .val (.int (4 : Int32)), .val (.int fa), .val (.int kk), .val (.int (fa + kk)), .val (.double (4607182418800017408 : UInt64)), .second, .unset, .unset, .unset]) rfl ?_
    refine own_new K own_d8_38 (own_w2 hw) (own_w3 hw) (own_w4 hw) H (own_MT_F hw) (own_MT_P hw) (by decide) (by decide) ?_
    intro h1 a3 H2
    replace H2 : own_H Z h1 (own_MT a3 (.int (0 : Int32)) .null :: []) ([]) := H2
    refine own_dup K own_d8_41 rfl ?_
    refine own_iload K own_d8_42 rfl ?_
    refine own_iload K own_d8_44 rfl ?_
    refine own_dload K own_d8_46 rfl ?_
    refine own_static K own_d8_48 (own_w5 hw) (own_w6 hw) (own_w7 hw) (own_w8 hw) (argsL := [(.int (4 : Int32)), (.double (4607182418800017408 : UInt64))]) (rest := [(.int fa), (.ref a3), (.ref a3)]) (own_rates4 hw H2) own_pd4 rfl rfl rfl (by decide) (W := 3) (Nat.le_of_eq rfl) (by decide) (by decide) (by decide) (by decide) ?_
    intro v6 h4 q5
    obtain ⟨b7, rfl, H8⟩ := q5
    replace H8 : own_H Z h4 (own_MT a3 (.int (0 : Int32)) .null :: []) ((b7, .double, "[D", [(.double (0 : UInt64)), (.double (4602678819172646912 : UInt64)), (.double (4607182418800017408 : UInt64)), (.double (4607182418800017408 : UInt64))]) :: []) := H8
    refine own_special K own_d8_51 rfl (own_w11 hw) (own_w12 hw) (own_w4 hw) (own_w13 hw) (a := a3) (argsL := [(.int fa), (.ref b7)]) (rest := [(.ref a3)]) (own_init4_1 hw h0.1 H8) own_pd5 rfl rfl rfl (by decide) (W := 1) (Nat.le_of_eq rfl) (by decide) (by decide) (by decide) (by decide) ?_
    intro v11 h9 q10
    obtain ⟨rfl, b12, H13⟩ := q10
    replace H13 : own_H Z h9 (own_MT a3 (.int fa) (.ref b12) :: []) ((b12, .double, "[D", [(.double (0 : UInt64)), (.double (4602678819172646912 : UInt64)), (.double (4607182418800017408 : UInt64)), (.double (4607182418800017408 : UInt64))]) :: (b7, .double, "[D", [(.double (0 : UInt64)), (.double (4602678819172646912 : UInt64)), (.double (4607182418800017408 : UInt64)), (.double (4607182418800017408 : UInt64))]) :: []) := H13
    have eN : ((4 : Int32) : Int32).toInt = 4 := rfl
    have gl := own_last (N := (4 : Int32)) h0.1 (by decide) (by omega)
    have ga : (fa + kk).toInt = fa.toInt + kk.toInt := own_add32 (by omega) (by omega)
    refine own_astore K own_d8_54 rfl (Ls' := #[.val (.int i0), .val (.int i1), .val (.int i2), .val (.int i3), .val (.int (4 : Int32)), .val (.int fa), .val (.int kk), .val (.int (fa + kk)), .val (.double (4607182418800017408 : UInt64)), .second, .val (.ref a3), .unset, .unset]) rfl ?_
    refine own_new K own_d8_56 (own_w30 hw) (own_w31 hw) (own_w32 hw) H13 (own_LF_F hw) (own_LF_P hw) (by decide) (by decide) ?_
    intro h14 a16 H15
    replace H15 : own_H Z h14 (own_LF a16 .null (.int (0 : Int32)) :: own_MT a3 (.int fa) (.ref b12) :: []) ((b12, .double, "[D", [(.double (0 : UInt64)), (.double (4602678819172646912 : UInt64)), (.double (4607182418800017408 : UInt64)), (.double (4607182418800017408 : UInt64))]) :: (b7, .double, "[D", [(.double (0 : UInt64)), (.double (4602678819172646912 : UInt64)), (.double (4607182418800017408 : UInt64)), (.double (4607182418800017408 : UInt64))]) :: []) := H15
    refine own_dup K own_d8_59 rfl ?_
    refine own_aload K own_d8_60 rfl rfl ?_
    refine own_iload K own_d8_62 rfl ?_
    refine own_specialW K own_d8_64 rfl (own_w33 hw) (own_w34 hw) (own_w32 hw) (own_w35 hw) (a := a16) (argsL := [(.ref a3), (.int (fa + kk))]) (rest := [(.ref a16)]) (own_life hw H15 (N := (4 : Int32)) rfl (by omega) (by omega)) own_pd6 rfl rfl rfl (by decide) (W := 1) (Nat.le_of_eq rfl) (by decide) (by decide) (by decide) (by decide) ?_
    intro v19 h17 q18
    obtain ⟨rfl, H20⟩ := q18
    replace H20 : own_H Z h17 (own_LF a16 (.ref a3) (.int (fa + kk)) :: own_MT a3 (.int fa) (.ref b12) :: []) ((b12, .double, "[D", [(.double (0 : UInt64)), (.double (4602678819172646912 : UInt64)), (.double (4607182418800017408 : UInt64)), (.double (4607182418800017408 : UInt64))]) :: (b7, .double, "[D", [(.double (0 : UInt64)), (.double (4602678819172646912 : UInt64)), (.double (4607182418800017408 : UInt64)), (.double (4607182418800017408 : UInt64))]) :: []) := H20
    refine own_astore K own_d8_67 rfl (Ls' := #[.val (.int i0), .val (.int i1), .val (.int i2), .val (.int i3), .val (.int (4 : Int32)), .val (.int fa), .val (.int kk), .val (.int (fa + kk)), .val (.double (4607182418800017408 : UInt64)), .second, .val (.ref a3), .val (.ref a16), .unset]) rfl ?_
    refine own_aload K own_d8_69 rfl rfl ?_
    refine own_virtual K own_d8_71 (own_w68 hw) (own_w69 hw) (own_w71 hw) (own_w70 hw) (own_w32 hw) (own_w72 hw) (H20.atO (i := 0) rfl) (a := a16) (argsL := []) (rest := []) (own_years hw H20 (N := (4 : Int32)) rfl) own_pd0 rfl rfl rfl (by decide) (W := 0) (Nat.le_of_eq rfl) (by decide) (by decide) (by decide) (by decide) ?_
    intro v23 h21 q22
    obtain ⟨rfl, rfl⟩ := q22
    refine own_topI (x' := ((3 : Int32) - kk)) (own_yr _ _ _ _ (by decide)) ?_
    refine own_istore K own_d8_74 (Ls' := #[.val (.int i0), .val (.int i1), .val (.int i2), .val (.int i3), .val (.int (4 : Int32)), .val (.int fa), .val (.int kk), .val (.int (fa + kk)), .val (.double (4607182418800017408 : UInt64)), .second, .val (.ref a3), .val (.ref a16), .val (.int ((3 : Int32) - kk))]) rfl ?_
    refine own_iload K own_d8_76 rfl ?_
    refine own_iload K own_d8_78 rfl ?_
    refine own_iconst K own_d8_80 (v := (1 : Int32)) rfl ?_
    refine own_isub K own_d8_81 ?_
    refine own_topI (x' := (3 : Int32)) (by decide) ?_
    refine own_iload K own_d8_82 rfl ?_
    refine own_isub K own_d8_84 ?_
    refine own_icmpne K own_d8_85 (fun q => absurd q (fun z => z rfl)) (fun _ => ?_)
    refine own_iconst K own_d8_88 (v := (1 : Int32)) rfl ?_
    refine own_goto K own_d8_89 ?_
    exact own_retZ K (by first | exact Or.inl rfl | exact Or.inr rfl | decide) own_d8_93 (by decide) (by decide) (rfl)
set_option maxRecDepth 65536 in
set_option maxHeartbeats 40000000 in
theorem comes_1 {Post : Tables → Env → Array Value → State → Outcome → State → Prop} (hpost : ∀ tb e args s v u, (limb_1_1.after args s (.returned v) u = true ∧ limb_1_2.after args s (.returned v) u = true ∧ True) → ReturnedEndW s (.returned v) u (Jvm.fieldLocs frame_1_writes args s ++ Jvm.arrayLocs frame_1_arrays args s ++ Jvm.staticLocs frame_1_statics s) 24 1152 → Post tb e args s (.returned v) u) :
    ArmFor flags0 classFile x code maxLocals ret World_1 tables_1 room_1 Calls_1 rest_1 Pre_1 Post := by
  intro l hfl _ _ p e ha hc hk s m args below hf hA hF happ hP
  obtain ⟨hcalls, hrest, hpre⟩ := hP
  obtain ⟨-, -, -, hnamed, -, -, -, hat⟩ := (Spec.applies_iff hf).mp happ
  obtain ⟨hg, hn⟩ := and_e (Cond.before_iff.mp (show (Jvm.Cond.and given_1 narrow_1).before args s = true from hpre))
  obtain ⟨h1, hq0⟩ := and_e hg
  obtain ⟨hi0, hq1⟩ := and_e hq0
  obtain ⟨hi1, hq2⟩ := and_e hq1
  obtain ⟨hi2, hq3⟩ := and_e hq2
  have hi3 := hq3
  obtain ⟨w0, w1, w2, w3, rfl⟩ : ∃ w0 w1 w2 w3 : Value, args = #[w0, w1, w2, w3] := by
    have hs : args.size = 4 := by simpa [Cond.value, given_1] using h1
    obtain ⟨L⟩ := args
    match L, hs with
    | [w0, w1, w2, w3], _ => exact ⟨w0, w1, w2, w3, rfl⟩
  have hw : own_Z s #[w0, w1, w2, w3] := fun d (hd : d ∈ tables_1) => atoms_spec (ws := Jvm.Cond.code x code maxLocals ret :: tables_1) hat d (List.mem_cons_of_mem _ hd)
  obtain ⟨i0, e0⟩ := is_v hi0
  obtain rfl : w0 = (.int i0) := Option.some.inj e0
  obtain ⟨i1, e1⟩ := is_v hi1
  obtain rfl : w1 = (.int i1) := Option.some.inj e1
  obtain ⟨i2, e2⟩ := is_v hi2
  obtain rfl : w2 = (.int i2) := Option.some.inj e2
  obtain ⟨i3, e3⟩ := is_v hi3
  obtain rfl : w3 = (.int i3) := Option.some.inj e3
  obtain ⟨n, o, h1, h2, h3, v, L, rfl, ⟨rfl, N, -⟩, hq⟩ := own_law hw p e ha hc hk s m _ below hf ((Spec.applies_iff_loose hf).mp happ).1 ⟨rfl, State.Warmed39.refl s, rfl⟩ trivial
  refine ⟨n, _, h1, h2, h3, hpost _ _ _ _ _ _ ⟨Cond.after_iff.mpr rfl, Cond.after_iff.mpr (eq_i res_at (Term.int_eval (1)) rfl), trivial⟩ ⟨hq.1, hq.2.1, hq.2.2.1, (hq.2.2.2.sift fun y hy => Or.inr (N y hy)).mono (by decide) (by decide)⟩⟩
theorem main_1_1 : Claimed_1_1 := comes_1 fun _ _ _ _ _ _ h hF => ⟨h.1, hF⟩
theorem main_1_2 : Claimed_1_2 := comes_1 fun _ _ _ _ _ _ h hF => ⟨h.2.1, hF⟩
end Jvm.Pilot.@@N@@
namespace Jvm.Pilot.@@N@@
open Jvm Jvm.ClassFile Sem Op Lib Jvm.Free Jvm.Stand Jvm.Pilot.@@N@@.Jvm.D
/-! MADE BY PROGRAM (witnessworld.py) out of the Statement's table words and the real class files: 20 classes; the members and pool entries that the words name. The judged class is class 1, her method 2. -/
namespace start1
open Jvm.ClassFile
def u (s : String) : CpInfo := .utf8 (stringToUtf16 s)
/-- a pool by its gaps: so many unusable entries, then the entry; so many at the end -/
def gap : Nat → List CpInfo → List CpInfo
  | 0, r => r
  | n + 1, r => .unusable :: gap n r
def poolList (es : List (Nat × CpInfo)) (last : Nat) : List CpInfo := es.foldr (fun e r => gap e.1 (e.2 :: r)) (gap last [])
def pool (es : List (Nat × CpInfo)) (last : Nat) : Array CpInfo := ⟨poolList es last⟩
def fileOf (pool : Array CpInfo) (this : Nat) (attrs : Array Attribute := #[]) (ms : Array MethodInfo := #[]) (fl : Nat := 33) (sup : Nat := 0) (ifs : Array Nat := #[]) (fds : Array FieldInfo := #[]) : ClassFile where
  minorVersion := 0
  majorVersion := 65
  constantPool := pool
  accessFlags := fl
  thisClass := this
  superClass := sup
  interfaces := ifs
  fields := fds
  methods := ms
  attributes := attrs
def plain (name : String) (sup : Option ClassId) : Class where
  name := name
  kind := .ordinary
  loader := none
  accessFlags := 33
  super := sup
  interfaces := #[]
  cf := none
  fields := #[]
  methods := #[]
  instanceTypes := #[]
  staticTypes := #[]
  resolved := #[]
  callSites := []
  init := .initialized
  statics := none
  mirror := none

def pool0 : Array CpInfo := pool [(5, u "<init>"), (0, u "()V"), (1, .class_ 10), (1, u "java/lang/Object"), (85, u "clone"), (0, u "()Ljava/lang/Object;")] 26

def k0c0 : Code := { maxStack := 0, maxLocals := 1, code := object_method_1_code, exceptionTable := #[], attributes := #[] }
def k0m0 : Method := { name := "<init>", desc := "()V", sig := { parameters := [], returnType := none }, accessFlags := 1, code := some k0c0 }
def k0m1 : Method := { name := "clone", desc := "()Ljava/lang/Object;", sig := { parameters := [], returnType := some (.object "java/lang/Object") }, accessFlags := 260, code := none }
/-- java/lang/Object -/
def k0 : Class := { plain "java/lang/Object" none with
  accessFlags := 33
  interfaces := #[]
  cf := some (fileOf pool0 8 #[] #[{ accessFlags := 1, nameIndex := 5, descriptorIndex := 6, attributes := #[] }, { accessFlags := 260, nameIndex := 96, descriptorIndex := 97, attributes := #[] }] 33 0 #[] #[])
  fields := #[]
  methods := #[k0m0, k0m1]
  instanceTypes := #[]
  staticTypes := #[]
  resolved := Array.replicate 124 none
  statics := none }

def pool1 : Array CpInfo := pool [(2, .class_ 4), (1, u "java/lang/Object"), (0, u "<init>"), (0, u "()V"), (0, .double 4602678819172646912), (1, .integer 2147483647), (2, .integer 2147483644), (0, .class_ 14), (0, u "com/example/vestline/vestline/actuarial/MortalityTable"), (0, .methodref 16 17), (0, .class_ 18), (0, .nameAndType 19 20), (0, u "com/example/vestline/vestline/actuarial/LifeYearsToEndPinLaw"), (0, u "rates"), (0, u "(ID)[D"), (0, .methodref 13 22), (0, .nameAndType 5 23), (0, u "(I[D)V"), (0, .class_ 25), (0, u "com/example/vestline/vestline/actuarial/Life"), (0, .methodref 24 27), (0, .nameAndType 5 28), (0, u "(Lcom/example/vestline/vestline/actuarial/MortalityTable;I)V"), (0, .methodref 24 30), (0, .nameAndType 31 32), (0, u "yearsToEnd"), (0, u "()I"), (3, u "law"), (0, u "(IIII)Z")] 2

def k1m0 : Method := { name := "<init>", desc := "()V", sig := { parameters := [], returnType := none }, accessFlags := 1, code := none }
def k1c1 : Code := { maxStack := 5, maxLocals := 3, code := method_2_code, exceptionTable := #[], attributes := #[] }
def k1m1 : Method := { name := "rates", desc := "(ID)[D", sig := { parameters := [.int, .double], returnType := some (.array .double) }, accessFlags := 10, code := some k1c1 }
def k1c2 : Code := { maxStack := 6, maxLocals := 13, code := code, exceptionTable := #[], attributes := #[] }
def k1m2 : Method := { name := "law", desc := "(IIII)Z", sig := { parameters := [.int, .int, .int, .int], returnType := some .boolean }, accessFlags := 9, code := some k1c2 }
/-- com/example/vestline/vestline/actuarial/LifeYearsToEndPinLaw -/
def k1 : Class := { plain "com/example/vestline/vestline/actuarial/LifeYearsToEndPinLaw" (some 0) with
  accessFlags := 49
  interfaces := #[]
  cf := some (fileOf pool1 16 #[] #[{ accessFlags := 1, nameIndex := 5, descriptorIndex := 6, attributes := #[] }, { accessFlags := 10, nameIndex := 19, descriptorIndex := 20, attributes := #[] }, { accessFlags := 9, nameIndex := 36, descriptorIndex := 37, attributes := #[] }] 49 2 #[] #[])
  fields := #[]
  methods := #[k1m0, k1m1, k1m2]
  instanceTypes := #[]
  staticTypes := #[]
  resolved := Array.replicate 40 none
  statics := none }

def pool2 : Array CpInfo := pool [(1, .methodref 2 3), (0, .class_ 4), (0, .nameAndType 5 6), (0, u "java/lang/Object"), (0, u "<init>"), (0, u "()V"), (14, .fieldref 22 23), (0, .class_ 24), (0, .nameAndType 25 26), (0, u "com/example/vestline/vestline/actuarial/MortalityTable"), (0, u "firstAge"), (0, u "I"), (0, .methodref 28 29), (0, .class_ 30), (0, .nameAndType 31 32), (0, u "[D"), (0, u "clone"), (0, u "()Ljava/lang/Object;"), (0, .fieldref 22 34), (0, .nameAndType 35 30), (0, u "deathRates"), (8, u "requireAge"), (0, u "(I)V"), (3, .methodref 22 50), (0, .nameAndType 51 52), (0, u "lastAge"), (0, u "()I"), (3, u "(I[D)V")] 33

def k2c0 : Code := { maxStack := 5, maxLocals := 6, code := prog_3_method_1_code, exceptionTable := #[], attributes := #[] }
def k2m0 : Method := { name := "<init>", desc := "(I[D)V", sig := { parameters := [.int, (.array .double)], returnType := none }, accessFlags := 1, code := some k2c0 }
def k2c1 : Code := { maxStack := 2, maxLocals := 1, code := prog_3_method_4_code, exceptionTable := #[], attributes := #[] }
def k2m1 : Method := { name := "lastAge", desc := "()I", sig := { parameters := [], returnType := some .int }, accessFlags := 1, code := some k2c1 }
def k2c2 : Code := { maxStack := 5, maxLocals := 2, code := prog_3_method_7_code, exceptionTable := #[], attributes := #[] }
def k2m2 : Method := { name := "requireAge", desc := "(I)V", sig := { parameters := [.int], returnType := none }, accessFlags := 0, code := some k2c2 }
/-- com/example/vestline/vestline/actuarial/MortalityTable -/
def k2 : Class := { plain "com/example/vestline/vestline/actuarial/MortalityTable" (some 0) with
  accessFlags := 49
  interfaces := #[]
  cf := some (fileOf pool2 22 #[] #[{ accessFlags := 1, nameIndex := 5, descriptorIndex := 56, attributes := #[] }, { accessFlags := 1, nameIndex := 51, descriptorIndex := 52, attributes := #[] }, { accessFlags := 0, nameIndex := 44, descriptorIndex := 45, attributes := #[] }] 49 2 #[] #[{ accessFlags := 18, nameIndex := 25, descriptorIndex := 26, attributes := #[] }, { accessFlags := 18, nameIndex := 35, descriptorIndex := 30, attributes := #[] }])
  fields := #[{ name := "firstAge", type := .int, accessFlags := 18, slot := 0, constantValue := 0 }, { name := "deathRates", type := (.array .double), accessFlags := 18, slot := 1, constantValue := 0 }]
  methods := #[k2m0, k2m1, k2m2]
  instanceTypes := #[.int, (.array .double)]
  staticTypes := #[]
  resolved := Array.replicate 90 none
  statics := none }

def pool3 : Array CpInfo := pool [(1, .class_ 2), (0, u "java/lang/Cloneable"), (0, .class_ 4), (0, u "java/lang/Object")] 2

/-- java/lang/Cloneable -/
def k3 : Class := { plain "java/lang/Cloneable" (some 0) with
  accessFlags := 1537
  interfaces := #[]
  cf := some (fileOf pool3 1 #[] #[] 1537 3 #[] #[])
  fields := #[]
  methods := #[]
  instanceTypes := #[]
  staticTypes := #[]
  resolved := Array.replicate 7 none
  statics := none }

def pool4 : Array CpInfo := pool [(1, .methodref 2 3), (0, .class_ 4), (0, .nameAndType 5 6), (0, u "java/lang/Object"), (0, u "<init>"), (0, u "()V"), (0, .class_ 8), (0, u "java/lang/Record")] 13

def k4c0 : Code := { maxStack := 1, maxLocals := 1, code := jdk_30_method_1_code, exceptionTable := #[], attributes := #[] }
def k4m0 : Method := { name := "<init>", desc := "()V", sig := { parameters := [], returnType := none }, accessFlags := 4, code := some k4c0 }
/-- java/lang/Record -/
def k4 : Class := { plain "java/lang/Record" (some 0) with
  accessFlags := 1057
  interfaces := #[]
  cf := some (fileOf pool4 7 #[] #[{ accessFlags := 4, nameIndex := 5, descriptorIndex := 6, attributes := #[] }] 1057 2 #[] #[])
  fields := #[]
  methods := #[k4m0]
  instanceTypes := #[]
  staticTypes := #[]
  resolved := Array.replicate 22 none
  statics := none }

def pool5 : Array CpInfo := pool [(1, .class_ 2), (0, u "com/example/vestline/vestline/actuarial/Status"), (0, .class_ 4), (0, u "java/lang/Object"), (7, .class_ 13), (0, u "com/example/vestline/vestline/actuarial/Status$LastSurvivor"), (0, .class_ 15), (0, u "com/example/vestline/vestline/actuarial/Status$Joint")] 6

/-- com/example/vestline/vestline/actuarial/Status -/
def k5 : Class := { plain "com/example/vestline/vestline/actuarial/Status" (some 0) with
  accessFlags := 1537
  interfaces := #[]
  cf := some (fileOf pool5 1 #[.nestMembers #[12, 14]] #[] 1537 3 #[] #[])
  fields := #[]
  methods := #[]
  instanceTypes := #[]
  staticTypes := #[]
  resolved := Array.replicate 22 none
  statics := none }

def pool6 : Array CpInfo := pool [(1, .methodref 2 3), (0, .class_ 4), (0, .nameAndType 5 6), (0, u "java/lang/Record"), (0, u "<init>"), (0, u "()V"), (0, .string 8), (0, u "table"), (0, .methodref 10 11), (0, .class_ 12), (0, .nameAndType 13 14), (0, u "java/util/Objects"), (0, u "requireNonNull"), (0, u "(Ljava/lang/Object;Ljava/lang/String;)Ljava/lang/Object;"), (0, .methodref 16 17), (0, .class_ 18), (0, .nameAndType 19 20), (0, u "com/example/vestline/vestline/actuarial/MortalityTable"), (0, u "requireAge"), (0, u "(I)V"), (0, .fieldref 22 23), (0, .class_ 24), (0, .nameAndType 8 25), (0, u "com/example/vestline/vestline/actuarial/Life"), (0, u "Lcom/example/vestline/vestline/actuarial/MortalityTable;"), (0, .fieldref 22 27), (0, .nameAndType 28 29), (0, u "age"), (0, u "I"), (4, .methodref 16 35), (0, .nameAndType 36 37), (0, u "lastAge"), (0, u "()I"), (12, .class_ 51), (0, u "com/example/vestline/vestline/actuarial/Status"), (0, u "(Lcom/example/vestline/vestline/actuarial/MortalityTable;I)V"), (4, u "yearsToEnd")] 24

def k6c0 : Code := { maxStack := 2, maxLocals := 3, code := prog_1_method_1_code, exceptionTable := #[], attributes := #[] }
def k6m0 : Method := { name := "<init>", desc := "(Lcom/example/vestline/vestline/actuarial/MortalityTable;I)V", sig := { parameters := [(.object "com/example/vestline/vestline/actuarial/MortalityTable"), .int], returnType := none }, accessFlags := 1, code := some k6c0 }
def k6c1 : Code := { maxStack := 2, maxLocals := 1, code := prog_1_method_3_code, exceptionTable := #[], attributes := #[] }
def k6m1 : Method := { name := "yearsToEnd", desc := "()I", sig := { parameters := [], returnType := some .int }, accessFlags := 1, code := some k6c1 }
/-- com/example/vestline/vestline/actuarial/Life -/
def k6 : Class := { plain "com/example/vestline/vestline/actuarial/Life" (some 4) with
  accessFlags := 49
  interfaces := #[5]
  cf := some (fileOf pool6 22 #[] #[{ accessFlags := 1, nameIndex := 5, descriptorIndex := 52, attributes := #[] }, { accessFlags := 1, nameIndex := 57, descriptorIndex := 37, attributes := #[] }] 49 2 #[50] #[{ accessFlags := 18, nameIndex := 8, descriptorIndex := 25, attributes := #[] }, { accessFlags := 18, nameIndex := 28, descriptorIndex := 29, attributes := #[] }])
  fields := #[{ name := "table", type := (.object "com/example/vestline/vestline/actuarial/MortalityTable"), accessFlags := 18, slot := 0, constantValue := 0 }, { name := "age", type := .int, accessFlags := 18, slot := 1, constantValue := 0 }]
  methods := #[k6m0, k6m1]
  instanceTypes := #[(.object "com/example/vestline/vestline/actuarial/MortalityTable"), .int]
  staticTypes := #[]
  resolved := Array.replicate 82 none
  statics := none }

def pool7 : Array CpInfo := pool [(1, .class_ 2), (0, u "java/io/Serializable"), (0, .class_ 4), (0, u "java/lang/Object")] 2

/-- java/io/Serializable -/
def k7 : Class := { plain "java/io/Serializable" (some 0) with
  accessFlags := 1537
  interfaces := #[]
  cf := some (fileOf pool7 1 #[] #[] 1537 3 #[] #[])
  fields := #[]
  methods := #[]
  instanceTypes := #[]
  staticTypes := #[]
  resolved := Array.replicate 7 none
  statics := none }

def pool8 : Array CpInfo := pool [(1, .class_ 2), (0, u "java/lang/Comparable"), (0, .class_ 4), (0, u "java/lang/Object")] 7

/-- java/lang/Comparable -/
def k8 : Class := { plain "java/lang/Comparable" (some 0) with
  accessFlags := 1537
  interfaces := #[]
  cf := some (fileOf pool8 1 #[] #[] 1537 3 #[] #[])
  fields := #[]
  methods := #[]
  instanceTypes := #[]
  staticTypes := #[]
  resolved := Array.replicate 12 none
  statics := none }

def pool9 : Array CpInfo := pool [(2, .class_ 4), (1, u "java/lang/CharSequence"), (42, .class_ 48), (0, u "java/lang/CharSequence$1CodePointIterator"), (10, .class_ 60), (0, u "java/lang/CharSequence$1CharIterator"), (5, .class_ 67), (0, u "java/lang/Object")] 63

/-- java/lang/CharSequence -/
def k9 : Class := { plain "java/lang/CharSequence" (some 0) with
  accessFlags := 1537
  interfaces := #[]
  cf := some (fileOf pool9 2 #[.nestMembers #[47, 59]] #[] 1537 66 #[] #[])
  fields := #[]
  methods := #[]
  instanceTypes := #[]
  staticTypes := #[]
  resolved := Array.replicate 131 none
  statics := none }

def pool10 : Array CpInfo := pool [(1, .class_ 2), (0, u "java/lang/constant/Constable"), (0, .class_ 4), (0, u "java/lang/Object")] 6

/-- java/lang/constant/Constable -/
def k10 : Class := { plain "java/lang/constant/Constable" (some 0) with
  accessFlags := 1537
  interfaces := #[]
  cf := some (fileOf pool10 1 #[] #[] 1537 3 #[] #[])
  fields := #[]
  methods := #[]
  instanceTypes := #[]
  staticTypes := #[]
  resolved := Array.replicate 11 none
  statics := none }

def pool11 : Array CpInfo := pool [(1, .class_ 2), (0, u "java/lang/constant/ConstantDesc"), (0, .class_ 4), (0, u "java/lang/Object")] 32

/-- java/lang/constant/ConstantDesc -/
def k11 : Class := { plain "java/lang/constant/ConstantDesc" (some 0) with
  accessFlags := 1537
  interfaces := #[]
  cf := some (fileOf pool11 1 #[] #[] 1537 3 #[] #[])
  fields := #[]
  methods := #[]
  instanceTypes := #[]
  staticTypes := #[]
  resolved := Array.replicate 37 none
  statics := none }

def pool12 : Array CpInfo := pool [(2, .class_ 4), (1, u "java/lang/Object"), (0, u "<init>"), (0, u "()V"), (3, .class_ 12), (1, u "java/lang/String"), (0, u "value"), (0, u "[B"), (2, u "coder"), (0, u "B"), (2, u "hash"), (0, u "I"), (2, u "hashIsZero"), (0, u "Z"), (13, u "COMPACT_STRINGS"), (534, .class_ 576), (0, u "java/lang/CharSequence"), (22, u "CASE_INSENSITIVE_ORDER"), (0, u "Ljava/util/Comparator;"), (500, u "serialPersistentFields"), (0, u "[Ljava/io/ObjectStreamField;"), (0, .class_ 1104), (0, u "java/lang/String$CaseInsensitiveComparator"), (1, .class_ 1107), (0, u "java/io/Serializable"), (0, .class_ 1109), (0, u "java/lang/Comparable"), (0, .class_ 1111), (0, u "java/lang/constant/Constable"), (0, .class_ 1113), (0, u "java/lang/constant/ConstantDesc"), (2, u "serialVersionUID"), (0, u "J"), (3, u "REPL"), (0, u "C"), (2, u "LATIN1"), (1, u "UTF16")] 323

def k12m0 : Method := { name := "<init>", desc := "()V", sig := { parameters := [], returnType := none }, accessFlags := 1, code := none }
/-- java/lang/String -/
def k12 : Class := { plain "java/lang/String" (some 0) with
  accessFlags := 49
  interfaces := #[7, 8, 9, 10, 11]
  cf := some (fileOf pool12 10 #[.nestMembers #[1103]] #[{ accessFlags := 1, nameIndex := 5, descriptorIndex := 6, attributes := #[] }] 49 2 #[1106, 1108, 575, 1110, 1112] #[{ accessFlags := 18, nameIndex := 13, descriptorIndex := 14, attributes := #[] }, { accessFlags := 18, nameIndex := 17, descriptorIndex := 18, attributes := #[] }, { accessFlags := 2, nameIndex := 21, descriptorIndex := 22, attributes := #[] }, { accessFlags := 2, nameIndex := 25, descriptorIndex := 26, attributes := #[] }, { accessFlags := 26, nameIndex := 1116, descriptorIndex := 1117, attributes := #[] }, { accessFlags := 24, nameIndex := 40, descriptorIndex := 26, attributes := #[] }, { accessFlags := 26, nameIndex := 1101, descriptorIndex := 1102, attributes := #[] }, { accessFlags := 26, nameIndex := 1121, descriptorIndex := 1122, attributes := #[] }, { accessFlags := 25, nameIndex := 599, descriptorIndex := 600, attributes := #[] }, { accessFlags := 24, nameIndex := 1125, descriptorIndex := 18, attributes := #[] }, { accessFlags := 24, nameIndex := 1127, descriptorIndex := 18, attributes := #[] }])
  fields := #[{ name := "value", type := (.array .byte), accessFlags := 18, slot := 0, constantValue := 0 }, { name := "coder", type := .byte, accessFlags := 18, slot := 1, constantValue := 0 }, { name := "hash", type := .int, accessFlags := 2, slot := 2, constantValue := 0 }, { name := "hashIsZero", type := .boolean, accessFlags := 2, slot := 3, constantValue := 0 }, { name := "serialVersionUID", type := .long, accessFlags := 26, slot := 0, constantValue := 0 }, { name := "COMPACT_STRINGS", type := .boolean, accessFlags := 24, slot := 1, constantValue := 0 }, { name := "serialPersistentFields", type := (.array (.object "java/io/ObjectStreamField")), accessFlags := 26, slot := 2, constantValue := 0 }, { name := "REPL", type := .char, accessFlags := 26, slot := 3, constantValue := 0 }, { name := "CASE_INSENSITIVE_ORDER", type := (.object "java/util/Comparator"), accessFlags := 25, slot := 4, constantValue := 0 }, { name := "LATIN1", type := .byte, accessFlags := 24, slot := 5, constantValue := 0 }, { name := "UTF16", type := .byte, accessFlags := 24, slot := 6, constantValue := 0 }]
  methods := #[k12m0]
  instanceTypes := #[(.array .byte), .byte, .int, .boolean]
  staticTypes := #[.long, .boolean, (.array (.object "java/io/ObjectStreamField")), .char, (.object "java/util/Comparator"), .byte, .byte]
  resolved := Array.replicate 1451 none
  statics := none }

def pool13 : Array CpInfo := pool [(2, .class_ 4), (1, u "java/lang/Object"), (0, u "<init>"), (0, u "()V"), (35, .class_ 44), (1, u "java/util/Objects"), (0, u "requireNonNull"), (48, u "(Ljava/lang/Object;Ljava/lang/String;)Ljava/lang/Object;")] 89

def k13m0 : Method := { name := "<init>", desc := "()V", sig := { parameters := [], returnType := none }, accessFlags := 2, code := none }
def k13c1 : Code := { maxStack := 3, maxLocals := 2, code := jdk_31_method_11_code, exceptionTable := #[], attributes := #[] }
def k13m1 : Method := { name := "requireNonNull", desc := "(Ljava/lang/Object;Ljava/lang/String;)Ljava/lang/Object;", sig := { parameters := [(.object "java/lang/Object"), (.object "java/lang/String")], returnType := some (.object "java/lang/Object") }, accessFlags := 9, code := some k13c1 }
/-- java/util/Objects -/
def k13 : Class := { plain "java/util/Objects" (some 0) with
  accessFlags := 49
  interfaces := #[]
  cf := some (fileOf pool13 42 #[] #[{ accessFlags := 2, nameIndex := 5, descriptorIndex := 6, attributes := #[] }, { accessFlags := 9, nameIndex := 45, descriptorIndex := 94, attributes := #[] }] 49 2 #[] #[])
  fields := #[]
  methods := #[k13m0, k13m1]
  instanceTypes := #[]
  staticTypes := #[]
  resolved := Array.replicate 184 none
  statics := none }

/-- the primitive byte -/
def k14 : Class := { plain "byte" none with kind := .primitive 'B', accessFlags := 0x411 }
/-- [B -/
def k15 : Class := { plain "[B" (some 0) with kind := .array 14 .byte, interfaces := #[3, 7], accessFlags := 1041 }

/-- the primitive double -/
def k16 : Class := { plain "double" none with kind := .primitive 'D', accessFlags := 0x411 }
/-- [D -/
def k17 : Class := { plain "[D" (some 0) with kind := .array 16 .double, interfaces := #[3, 7], accessFlags := 1041 }

/-- the primitive int -/
def k18 : Class := { plain "int" none with kind := .primitive 'I', accessFlags := 0x411 }
/-- [I -/
def k19 : Class := { plain "[I" (some 0) with kind := .array 18 .int, interfaces := #[3, 7], accessFlags := 1041 }

def heap : Heap := #[]
def classes : Array Class := #[k0, k1, k2, k3, k4, k5, k6, k7, k8, k9, k10, k11, k12, k13, k14, k15, k16, k17, k18, k19]
def interned : List (Array UInt16 × Addr) := []
def slotsUsed : Nat := 0
def theMethod : MethodId := ⟨1, 2⟩
def args0 : Array Value := #[.int 5, .int 7, .int 2, .int 5]
def aboutOver (below : List Frame) : State where
  vm := { classes := classes, interned := interned.toArray }
  heap := heap
  slotsUsed := slotsUsed
  threads := #[{ frames := .invoking theMethod args0 :: below }]
def below0 : List Frame := [.native { method := ⟨0, 0⟩, args := #[] }]
def about1 : State := aboutOver below0
def p0 : Program := .bare "" "" ""
def e0 : Env := launch0.env 0 0 0
theorem w_frames : about1.frames = Frame.invoking theMethod args0 :: below0 := rfl
set_option maxRecDepth 65536 in
theorem w_args : argsFit about1.vm theMethod args0 = true := by decide +kernel
set_option maxRecDepth 65536 in
theorem w_heap : heapFits about1 = true := by decide +kernel
set_option maxRecDepth 65536 in
theorem w_runnable : about1.curStatus? = some .runnable := by decide +kernel
set_option maxRecDepth 65536 in
theorem w_alone : about1.alone = true := by decide +kernel
set_option maxRecDepth 65536 in
theorem w_named : about1.methodNamed? x = some theMethod := by decide +kernel
set_option maxRecDepth 65536 in
theorem w_hears : about1.hears theMethod below0 = true := by decide +kernel
set_option maxRecDepth 65536 in
theorem w_ripe : about1.ripe theMethod args0 below0 = true := by decide +kernel
theorem w_running : about1.status = .running := rfl
set_option maxRecDepth 65536 in
theorem w_room : about1.hasRoom e0.platform room_1 = true :=
  launch0.hasRoom_least _ room_1 (by decide +kernel) (by decide +kernel) (by decide +kernel) (by decide +kernel) (by decide +kernel) (by decide +kernel)
theorem allAtoms_all (ts : List Jvm.Cond) (a : Array Jvm.Value) (st : Jvm.State) : (allAtoms ts).before a st = ts.all (fun c => c.before a st) := by
  induction ts with
  | nil => rfl
  | cons c t ih =>
    show (Jvm.Cond.and c (allAtoms t)).before a st = _
    rw [Jvm.Cond.before_and, ih, List.all_cons]
def words1 : List Jvm.Cond := Jvm.Cond.code x code maxLocals ret :: tables_1
/-- a 'code' word, met by the world's own term for the bytes: nothing is compared byte by byte -/
theorem code_word {y : MethodName} {bytes : ByteArray} {mx : Nat} {rt : Option FieldType} {a : Array Value} {s : State} {m : MethodId} {meth : Method} {c : Code} (h1 : s.methodNamed? y = some m) (h2 : s.vm.method? m = some meth) (h3 : meth.code = some c) (h4 : c.code = bytes)
    (h5 : (c.maxLocals == mx && c.exceptionTable.isEmpty && decide (c.maxStack ≤ mostOperands) && decide (meth.sig.returnType = rt) && !meth.locks && decide (parseMethodDescriptor y.desc = some meth.sig)) = true) : (Jvm.Cond.code y bytes mx rt).before a s = true := by
  simp only [Bool.and_eq_true, beq_iff_eq, Bool.not_eq_true', decide_eq_true_eq] at h5
  obtain ⟨⟨⟨⟨⟨g1, g2⟩, g3⟩, g4⟩, g5⟩, g6⟩ := h5
  simp [Cond.before, Cond.holds, Cond.value, h1, h2, h3, h4, g1, g2, g3, g4, g5, g6]
def isCode : Jvm.Cond → Bool
  | .code _ _ _ _ => true
  | _ => false
theorem all_split {L : List Jvm.Cond} {P : Jvm.Cond → Bool} (h1 : L.all (fun c => isCode c || P c) = true) (h2 : ∀ c ∈ L.filter isCode, P c = true) : L.all P = true := by
  refine List.all_eq_true.mpr fun c hc => ?_
  have h := List.all_eq_true.mp h1 c hc
  rcases Bool.eq_false_or_eq_true (isCode c) with hi | hi
  · exact h2 c (List.mem_filter.mpr ⟨hc, hi⟩)
  · simpa [hi] using h
set_option maxRecDepth 65536 in
theorem w_c0 : (Jvm.Cond.code x code maxLocals ret).before args0 about1 = true := code_word (m := ⟨1, 2⟩) (meth := k1m2) (c := k1c2) (by decide +kernel) rfl rfl rfl (by decide +kernel)
set_option maxRecDepth 65536 in
theorem w_c1 : (Jvm.Cond.code ({ cls := "com/example/vestline/vestline/actuarial/LifeYearsToEndPinLaw", name := "rates", desc := "(ID)[D" } : Jvm.MethodName) method_2_code (3 : Nat) (Option.some (Jvm.ClassFile.FieldType.array Jvm.ClassFile.FieldType.double))).before args0 about1 = true := code_word (m := ⟨1, 1⟩) (meth := k1m1) (c := k1c1) (by decide +kernel) rfl rfl rfl (by decide +kernel)
set_option maxRecDepth 65536 in
theorem w_c2 : (Jvm.Cond.code ({ cls := "com/example/vestline/vestline/actuarial/MortalityTable", name := "<init>", desc := "(I[D)V" } : Jvm.MethodName) prog_3_method_1_code (6 : Nat) (Option.none : Option Jvm.ClassFile.FieldType)).before args0 about1 = true := code_word (m := ⟨2, 0⟩) (meth := k2m0) (c := k2c0) (by decide +kernel) rfl rfl rfl (by decide +kernel)
set_option maxRecDepth 65536 in
theorem w_c3 : (Jvm.Cond.code ({ cls := "java/lang/Object", name := "<init>", desc := "()V" } : Jvm.MethodName) object_method_1_code (1 : Nat) (Option.none : Option Jvm.ClassFile.FieldType)).before args0 about1 = true := code_word (m := ⟨0, 0⟩) (meth := k0m0) (c := k0c0) (by decide +kernel) rfl rfl rfl (by decide +kernel)
set_option maxRecDepth 65536 in
theorem w_c4 : (Jvm.Cond.code ({ cls := "com/example/vestline/vestline/actuarial/Life", name := "<init>", desc := "(Lcom/example/vestline/vestline/actuarial/MortalityTable;I)V" } : Jvm.MethodName) prog_1_method_1_code (3 : Nat) (Option.none : Option Jvm.ClassFile.FieldType)).before args0 about1 = true := code_word (m := ⟨6, 0⟩) (meth := k6m0) (c := k6c0) (by decide +kernel) rfl rfl rfl (by decide +kernel)
set_option maxRecDepth 65536 in
theorem w_c5 : (Jvm.Cond.code ({ cls := "java/lang/Record", name := "<init>", desc := "()V" } : Jvm.MethodName) jdk_30_method_1_code (1 : Nat) (Option.none : Option Jvm.ClassFile.FieldType)).before args0 about1 = true := code_word (m := ⟨4, 0⟩) (meth := k4m0) (c := k4c0) (by decide +kernel) rfl rfl rfl (by decide +kernel)
set_option maxRecDepth 65536 in
theorem w_c6 : (Jvm.Cond.code ({ cls := "java/util/Objects", name := "requireNonNull", desc := "(Ljava/lang/Object;Ljava/lang/String;)Ljava/lang/Object;" } : Jvm.MethodName) jdk_31_method_11_code (2 : Nat) (Option.some (Jvm.ClassFile.FieldType.object "java/lang/Object"))).before args0 about1 = true := code_word (m := ⟨13, 1⟩) (meth := k13m1) (c := k13c1) (by decide +kernel) rfl rfl rfl (by decide +kernel)
set_option maxRecDepth 65536 in
theorem w_c7 : (Jvm.Cond.code ({ cls := "com/example/vestline/vestline/actuarial/MortalityTable", name := "requireAge", desc := "(I)V" } : Jvm.MethodName) prog_3_method_7_code (2 : Nat) (Option.none : Option Jvm.ClassFile.FieldType)).before args0 about1 = true := code_word (m := ⟨2, 2⟩) (meth := k2m2) (c := k2c2) (by decide +kernel) rfl rfl rfl (by decide +kernel)
set_option maxRecDepth 65536 in
theorem w_c8 : (Jvm.Cond.code ({ cls := "com/example/vestline/vestline/actuarial/MortalityTable", name := "lastAge", desc := "()I" } : Jvm.MethodName) prog_3_method_4_code (1 : Nat) (Option.some Jvm.ClassFile.FieldType.int)).before args0 about1 = true := code_word (m := ⟨2, 1⟩) (meth := k2m1) (c := k2c1) (by decide +kernel) rfl rfl rfl (by decide +kernel)
set_option maxRecDepth 65536 in
theorem w_c9 : (Jvm.Cond.code ({ cls := "com/example/vestline/vestline/actuarial/Life", name := "yearsToEnd", desc := "()I" } : Jvm.MethodName) prog_1_method_3_code (1 : Nat) (Option.some Jvm.ClassFile.FieldType.int)).before args0 about1 = true := code_word (m := ⟨6, 1⟩) (meth := k6m1) (c := k6c1) (by decide +kernel) rfl rfl rfl (by decide +kernel)
def codes1 : List Jvm.Cond := [Jvm.Cond.code x code maxLocals ret, Jvm.Cond.code ({ cls := "com/example/vestline/vestline/actuarial/LifeYearsToEndPinLaw", name := "rates", desc := "(ID)[D" } : Jvm.MethodName) method_2_code (3 : Nat) (Option.some (Jvm.ClassFile.FieldType.array Jvm.ClassFile.FieldType.double)), Jvm.Cond.code ({ cls := "com/example/vestline/vestline/actuarial/MortalityTable", name := "<init>", desc := "(I[D)V" } : Jvm.MethodName) prog_3_method_1_code (6 : Nat) (Option.none : Option Jvm.ClassFile.FieldType), Jvm.Cond.code ({ cls := "java/lang/Object", name := "<init>", desc := "()V" } : Jvm.MethodName) object_method_1_code (1 : Nat) (Option.none : Option Jvm.ClassFile.FieldType), Jvm.Cond.code ({ cls := "com/example/vestline/vestline/actuarial/Life", name := "<init>", desc := "(Lcom/example/vestline/vestline/actuarial/MortalityTable;I)V" } : Jvm.MethodName) prog_1_method_1_code (3 : Nat) (Option.none : Option Jvm.ClassFile.FieldType), Jvm.Cond.code ({ cls := "java/lang/Record", name := "<init>", desc := "()V" } : Jvm.MethodName) jdk_30_method_1_code (1 : Nat) (Option.none : Option Jvm.ClassFile.FieldType), Jvm.Cond.code ({ cls := "java/util/Objects", name := "requireNonNull", desc := "(Ljava/lang/Object;Ljava/lang/String;)Ljava/lang/Object;" } : Jvm.MethodName) jdk_31_method_11_code (2 : Nat) (Option.some (Jvm.ClassFile.FieldType.object "java/lang/Object")), Jvm.Cond.code ({ cls := "com/example/vestline/vestline/actuarial/MortalityTable", name := "requireAge", desc := "(I)V" } : Jvm.MethodName) prog_3_method_7_code (2 : Nat) (Option.none : Option Jvm.ClassFile.FieldType), Jvm.Cond.code ({ cls := "com/example/vestline/vestline/actuarial/MortalityTable", name := "lastAge", desc := "()I" } : Jvm.MethodName) prog_3_method_4_code (1 : Nat) (Option.some Jvm.ClassFile.FieldType.int), Jvm.Cond.code ({ cls := "com/example/vestline/vestline/actuarial/Life", name := "yearsToEnd", desc := "()I" } : Jvm.MethodName) prog_1_method_3_code (1 : Nat) (Option.some Jvm.ClassFile.FieldType.int)]
set_option maxRecDepth 65536 in
theorem codes_eq : words1.filter isCode = codes1 := rfl
theorem w_codes : ∀ c ∈ words1.filter isCode, c.before args0 about1 = true := by
  rw [codes_eq]
  intro c hc
  simp only [codes1, List.mem_cons, List.not_mem_nil, or_false] at hc
  rcases hc with rfl | rfl | rfl | rfl | rfl | rfl | rfl | rfl | rfl | rfl
  · exact w_c0
  · exact w_c1
  · exact w_c2
  · exact w_c3
  · exact w_c4
  · exact w_c5
  · exact w_c6
  · exact w_c7
  · exact w_c8
  · exact w_c9
set_option maxRecDepth 65536 in
theorem w_t1 : (words1.take 24).all (fun c => isCode c || c.before args0 about1) = true := by decide +kernel
set_option maxRecDepth 65536 in
theorem w_t2 : ((words1.drop 24).take 24).all (fun c => isCode c || c.before args0 about1) = true := by decide +kernel
set_option maxRecDepth 65536 in
theorem w_t3 : (((words1.drop 24).drop 24).take 24).all (fun c => isCode c || c.before args0 about1) = true := by decide +kernel
set_option maxRecDepth 65536 in
theorem w_t4 : (((words1.drop 24).drop 24).drop 24).all (fun c => isCode c || c.before args0 about1) = true := by decide +kernel
theorem w_tables : (allAtoms (Jvm.Cond.code x code maxLocals ret :: tables_1)).before args0 about1 = true := by
  rw [allAtoms_all]
  show words1.all (fun c => c.before args0 about1) = true
  refine all_split ?_ w_codes
  rw [← List.take_append_drop 24 words1, List.all_append, w_t1, ← List.take_append_drop 24 (words1.drop 24), List.all_append, w_t2, ← List.take_append_drop 24 ((words1.drop 24).drop 24), List.all_append, w_t3, w_t4]
  rfl
set_option maxRecDepth 65536 in
theorem w_case : (Jvm.Cond.and given_1 narrow_1).before args0 about1 = true := by decide +kernel
theorem w_applies : (headSpec (Jvm.Cond.code x code maxLocals ret :: tables_1) room_1).applies x e0.platform about1 = true :=
  (Spec.applies_iff w_frames).mpr ⟨w_running, w_runnable, w_alone, w_named, w_hears, w_ripe, w_room, w_tables⟩
theorem atStart : AtStart classFile x code maxLocals ret World_1 tables_1 room_1 Calls_1 rest_1 Pre_1 launch0 p0 e0 about1 theMethod args0 below0 :=
  ⟨lists_1, trivial, launch0.admits_env _ _ _, launch0.least_env, fairChoices_fair.cas, fairChoices_fair.clock, w_frames, w_args, w_heap, w_applies, trivial, trivial, w_case⟩
end start1
theorem witness_1 : WitnessClaimed_1 := ⟨start1.p0, start1.e0, start1.about1, start1.theMethod, start1.args0, start1.below0, start1.atStart⟩
end Jvm.Pilot.@@N@@
